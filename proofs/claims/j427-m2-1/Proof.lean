import JvmDerived
import JvmDerived.Pilot.@@N@@Statement
import JvmDerived.Pilot.@@N@@Code
set_option linter.unusedVariables false
set_option linter.unusedSimpArgs false
namespace Jvm.RoadKit
open Sem ClassFile Op Lib Jvm.Stand Jvm.Free Jvm.LawKit
section New
variable {p : Program} {l : Launch} {e : Env} {R : Room} {s : State} {m : MethodId} {args : Array Value} {below : List Frame} {meth : Method} {c : Code} {T : State} {locs : List Loc} {cells slots : Nat}
theorem retI (X : Stand p l e R s m args below meth c T locs cells slots) (hx : p.tables.exec = Jvm.exec) {pc : Nat} {Ls : Array Slot} {z : Int32} {rest : List Value} (hret : meth.sig.returnType = some .int) (hd : decode c.code pc = .ok (.ireturn, 1)) {fs : List Frame}
    (hl : ∀ (f : JFrame) (acts : List Action), f.method = m → f.locked = none → f.entered = [] → (doReturn e (T.setTop f) acts (some (.int z))).1 = T.setFrames fs) : Steps p.tables e below (T.setTop (mkF m pc Ls (.int z :: rest))) (T.setFrames fs) := by
  have hm' : T.vm.method? m = some meth := X.method'
  have hn : narrow .int (.int z) = .int z := rfl
  show Steps p.tables e below (T.setTop { method := m, pc := pc, locals := Ls, stack := _ :: rest, locked := none }) _
  jvm_step X.here [X.here.top, hx, hd, hm', hret, hn]
  first | (intro acts; rw [hl _ acts rfl rfl rfl]) | rw [hl _ _ rfl rfl rfl]
  exact Steps.refl _
theorem own_nb {t : FieldType} {c : Prop} [Decidable c] {a b : Int32} (ha : nar t a = a) (hb : nar t b = b) : nar t (if c then a else b) = (if c then a else b) := by
  by_cases h : c
  · rw [if_pos h]; exact ha
  · rw [if_neg h]; exact hb
theorem own_retN (X : Stand p l e R s m args below meth c T locs cells slots) (hx : p.tables.exec = Jvm.exec) {pc : Nat} {Ls : Array Slot} {z : Int32} {t : FieldType} {rest : List Value} (hret : meth.sig.returnType = some t) (ht : t = .boolean ∨ t = .byte ∨ t = .char ∨ t = .short) (hz : nar t z = z)
    (hd : decode c.code pc = .ok (.ireturn, 1)) {fs : List Frame} (hl : ∀ (f : JFrame) (acts : List Action), f.method = m → f.locked = none → f.entered = [] → (doReturn e (T.setTop f) acts (some (.int z))).1 = T.setFrames fs) :
    Steps p.tables e below (T.setTop (mkF m pc Ls (.int z :: rest))) (T.setFrames fs) := retN X hx hret ht hd (by rw [hz]; exact hl)
end New
end Jvm.RoadKit
namespace Jvm.Pilot.@@N@@
open Jvm Jvm.ClassFile Sem Op Lib Jvm.Free Jvm.Stand Jvm.LawKit Jvm.RoadKit Bundle Jvm.Pilot.@@N@@.Jvm.D
/-- from the state A the run comes to some end that P takes -/
def Go (tb : Tables) (e : Env) (below : List Frame) (A : State) (P : State → Outcome → Prop) : Prop := ∃ t o, Steps tb e below A t ∧ P t o
theorem Go.st {tb : Tables} {e : Env} {below : List Frame} {A B : State} {P : State → Outcome → Prop} (h : ∀ t, Steps tb e below A t → Steps tb e below B t) (k : Go tb e below A P) : Go tb e below B P := by
  obtain ⟨t, o, h1, h2⟩ := k; exact ⟨t, o, h t h1, h2⟩
theorem Go.tr {tb : Tables} {e : Env} {below : List Frame} {A B : State} {P : State → Outcome → Prop} (h : Steps tb e below B A) (k : Go tb e below A P) : Go tb e below B P := by
  obtain ⟨t, o, h1, h2⟩ := k; exact ⟨t, o, h.trans h1, h2⟩
theorem Go.start {tb : Tables} {e : Env} {below : List Frame} {A : State} {P0 : State → Outcome → Prop} (h : ∀ P : State → Outcome → Prop, (∀ t o, P0 t o → P t o) → Go tb e below A P) : ∃ t o, Steps tb e below A t ∧ P0 t o := h P0 (fun _ _ q => q)
theorem own_cat {v : Value} (h : v.isRef = true) : v.category = 1 := by rcases ref_cases h with rfl | ⟨_, rfl⟩ <;> rfl
theorem own_cst {tb : Tables} {e : Env} {below : List Frame} {T : State} {m : MethodId} {J : Nat} {Ls : Array Slot} {a b : Int32} {rest : List Value} {t : State} (h : a = b) (k : Steps tb e below (T.setTop (mkF m J Ls (.int a :: rest))) t) : Steps tb e below (T.setTop (mkF m J Ls (.int b :: rest))) t := h ▸ k
theorem own_lt {x y : Int64} (h : x < y) : lcmpW x y < 0 := (lw_lt x y).mpr h
theorem own_nlt {x y : Int64} (h : ¬ x < y) : ¬ lcmpW x y < 0 := fun q => h ((lw_lt x y).mp q)
theorem own_gt {x y : Int64} (h : y < x) : 0 < lcmpW x y := (lw_gt x y).mpr h
theorem own_ngt {x y : Int64} (h : ¬ y < x) : ¬ 0 < lcmpW x y := fun q => h ((lw_gt x y).mp q)
theorem own_eq {x y : Int64} (h : x = y) : lcmpW x y = 0 := (lw_eq x y).mpr h
theorem own_neq {x y : Int64} (h : ¬ x = y) : ¬ lcmpW x y = 0 := fun q => h ((lw_eq x y).mp q)
theorem own_selp {Z s : State} {a0 args : Array Value} {y : MethodName} {k : Nat} (hZ : Z.Warmed39 s.vm) (wi : (Jvm.Cond.instantiable y.cls k).before a0 Z = true) (wp : (Jvm.Cond.privateMethod y).before a0 Z = true) (wm : (Jvm.Cond.instanceMethod y).before a0 Z = true) (hy : y.cls ≠ "java/lang/invoke/MethodHandle" ∧ y.cls ≠ "java/lang/invoke/VarHandle" := by decide) : (Jvm.Cond.selects y.cls y y).before args s = true := by
  have wi' : (Jvm.Cond.instantiable y.cls k).before args s = true := mvT hZ wi
  obtain ⟨c, kc, h1, h2, h3, h4, -⟩ := Cond.instantiable_spec wi'
  exact selects_self_of_private h1 h2 (Bool.or_eq_false_iff.mp h4).1 (Cond.privateMethod_at (mvP hZ wp (args := args))) (mvT hZ wm) hy
theorem d_prog_37_method_16_0 : decode prog_37_method_16_code 0 = .ok (.iload_n 0, 1) := by decide +kernel
theorem d_prog_37_method_16_1 : decode prog_37_method_16_code 1 = .ok (.bipush 31, 2) := by decide +kernel
theorem d_prog_37_method_16_3 : decode prog_37_method_16_code 3 = .ok (.iand, 1) := by decide +kernel
theorem d_prog_37_method_16_4 : decode prog_37_method_16_code 4 = .ok (.iconst 1, 1) := by decide +kernel
theorem d_prog_37_method_16_5 : decode prog_37_method_16_code 5 = .ok (.ishl, 1) := by decide +kernel
theorem d_prog_37_method_16_6 : decode prog_37_method_16_code 6 = .ok (.ireturn, 1) := by decide +kernel
theorem pn_0 : plainName "com/example/hedge/hedge/automaton/PairMarks" = true := by first | (simp [plainName, overriddenIn]; done) | decide +kernel
theorem ef_rmSh (mi : MethodId) (s : Int32) : entryFrame mi #[(.int s)] 1 = mkF mi 0 #[.val (.int s)] [] := by first | (simp [entryFrame, mkF, argsToLocals, Value.category]; done) | rfl
def fSh (s : Int32) : Int32 := ((s &&& (31 : Int32)) <<< ((1 : Int32) &&& 31))
def Q_rmSh (Z : State) (s : Int32) (h0 : Heap) (n0 : Nat) (vv_ : Option Value) (hh_ : Heap) (LL_ : List Loc) : Prop := vv_ = some (.int (fSh s)) ∧ Fr n0 LL_ ∧ hh_ = h0
set_option maxRecDepth 65536 in
set_option maxHeartbeats 40000000 in
theorem rmSh (l : Launch) (Z : State) (a0 : Array Value) (hw : ∀ d ∈ tables_1, d.before a0 Z = true) (ws : List Jvm.Cond) (s : Int32) (h0 : Heap) (n0 : Nat) (Z0 : n0 ≤ h0.size) :
    MetFree l (⟨"com/example/hedge/hedge/automaton/PairMarks", "shift", "(I)I"⟩ : MethodName) (head1 (Jvm.Cond.code (⟨"com/example/hedge/hedge/automaton/PairMarks", "shift", "(I)I"⟩ : MethodName) prog_37_method_16_code 1 (some .int) :: ws) ({ frames := 0, cells := 0, slots := 0, locals := 0 } : Room)) (fun aa_ U => aa_ = #[(.int s)] ∧ Z.Warmed39 U.vm ∧ U.heap = h0) (fun _ _ _ _ _ => True) (fun _ U oo_ UV_ => ∃ vv_ LL_, oo_ = .returned vv_ ∧ Q_rmSh Z s h0 n0 vv_ UV_.heap LL_ ∧ FrameEnd U oo_ UV_ LL_ ({ frames := 0, cells := 0, slots := 0, locals := 0 } : Room).cells ({ frames := 0, cells := 0, slots := 0, locals := 0 } : Room).slots) := by
  refine MetFree.of_bodySF (plainFor_of_name pn_0) hisR ?_
  intro pg ev si mi args below meth ci s₁ Bd hml0 hP0 hK
  obtain ⟨rfl, hZ, hh⟩ := hP0
  have hx := Bd.exec
  have hby := Bd.bytes
  have hml : ci.maxLocals = 1 := hml0
  have hown : si.vm.findClass "com/example/hedge/hedge/automaton/PairMarks" = some mi.cls := findClass_of_methodNamed Bd.named
  have hnm := (name_of_methodNamed Bd.named Bd.method).1
  have X0 : Stand pg l ev ({ frames := 0, cells := 0, slots := 0, locals := 0 } : Room) si mi #[(.int s)] below meth ci s₁ [] 0 0 := Stand.of_body Bd
  have e0 : s₁.heap = h0 := by rw [← hh, Bd.state]; rfl
  have N0 := Fr.nil n0
  refine Go.start (fun P hP => ?_)
  refine Go.st (fun t_ k_ => castTop (ef_rmSh mi s) k_) (A := s₁.setTop (mkF mi 0 #[.val (.int s)] [])) ?_
  show Go pg.tables ev below (s₁.setTop (mkF mi 0 #[.val (.int s)] [])) P
  refine Go.st (fun t_ k_ => XS.iloadN X0.here hx rfl (hb hby d_prog_37_method_16_0) rfl k_) ?_
  show Go pg.tables ev below (s₁.setTop (mkF mi 1 #[.val (.int s)] [(.int s)])) P
  refine Go.st (fun t_ k_ => XS.bipush X0.here hx rfl (hb hby d_prog_37_method_16_1) k_) ?_
  show Go pg.tables ev below (s₁.setTop (mkF mi 3 #[.val (.int s)] [(.int (31 : Int32)), (.int s)])) P
  refine Go.st (fun t_ k_ => XS.iand X0.here hx rfl (hb hby d_prog_37_method_16_3) rfl k_) ?_
  show Go pg.tables ev below (s₁.setTop (mkF mi 4 #[.val (.int s)] [(.int (s &&& (31 : Int32)))])) P
  refine Go.st (fun t_ k_ => XS.iconst X0.here hx rfl (hb hby d_prog_37_method_16_4) k_) ?_
  show Go pg.tables ev below (s₁.setTop (mkF mi 5 #[.val (.int s)] [(.int (1 : Int32)), (.int (s &&& (31 : Int32)))])) P
  refine Go.st (fun t_ k_ => XS.ishl X0.here hx rfl (hb hby d_prog_37_method_16_5) rfl k_) ?_
  show Go pg.tables ev below (s₁.setTop (mkF mi 6 #[.val (.int s)] [(.int ((s &&& (31 : Int32)) <<< ((1 : Int32) &&& 31)))])) P
  obtain ⟨fs, hr, hrun, hended, hW, hsame⟩ := X0.leave (v := some (.int ((s &&& (31 : Int32)) <<< ((1 : Int32) &&& 31)))) (fun h => by rw [Bd.returns] at h; cases h) (BodyLoose.notSynchronized Bd)
  refine ⟨_, _, ?_, hP _ _ ⟨hrun, hended, _, _, rfl, ?_, ⟨_, rfl⟩, hW, hsame.mono (by decide) (by decide)⟩⟩
  · exact retI X0 hx Bd.returns (hb hby d_prog_37_method_16_6) hr
  · show (some (.int ((s &&& (31 : Int32)) <<< ((1 : Int32) &&& 31))) : Option Value) = some (.int (fSh s)) ∧ Fr n0 _ ∧ s₁.heap = h0
    rw [e0]
    exact ⟨by rw [show fSh s = ((s &&& (31 : Int32)) <<< ((1 : Int32) &&& 31)) from rfl], N0, rfl⟩
theorem d_prog_37_method_14_0 : decode prog_37_method_14_code 0 = .ok (.iload_n 0, 1) := by decide +kernel
theorem d_prog_37_method_14_1 : decode prog_37_method_14_code 1 = .ok (.iconst 1, 1) := by decide +kernel
theorem d_prog_37_method_14_2 : decode prog_37_method_14_code 2 = .ok (.iadd, 1) := by decide +kernel
theorem d_prog_37_method_14_3 : decode prog_37_method_14_code 3 = .ok (.iconst 2, 1) := by decide +kernel
theorem d_prog_37_method_14_4 : decode prog_37_method_14_code 4 = .ok (.ishl, 1) := by decide +kernel
theorem d_prog_37_method_14_5 : decode prog_37_method_14_code 5 = .ok (.ireturn, 1) := by decide +kernel
theorem ef_rmKe (mi : MethodId) (s : Int32) : entryFrame mi #[(.int s)] 1 = mkF mi 0 #[.val (.int s)] [] := by first | (simp [entryFrame, mkF, argsToLocals, Value.category]; done) | rfl
def fKe (s : Int32) : Int32 := ((s + (1 : Int32)) <<< ((2 : Int32) &&& 31))
def Q_rmKe (Z : State) (s : Int32) (h0 : Heap) (n0 : Nat) (vv_ : Option Value) (hh_ : Heap) (LL_ : List Loc) : Prop := vv_ = some (.int (fKe s)) ∧ Fr n0 LL_ ∧ hh_ = h0
set_option maxRecDepth 65536 in
set_option maxHeartbeats 40000000 in
theorem rmKe (l : Launch) (Z : State) (a0 : Array Value) (hw : ∀ d ∈ tables_1, d.before a0 Z = true) (ws : List Jvm.Cond) (s : Int32) (h0 : Heap) (n0 : Nat) (Z0 : n0 ≤ h0.size) :
    MetFree l (⟨"com/example/hedge/hedge/automaton/PairMarks", "key", "(I)I"⟩ : MethodName) (head1 (Jvm.Cond.code (⟨"com/example/hedge/hedge/automaton/PairMarks", "key", "(I)I"⟩ : MethodName) prog_37_method_14_code 1 (some .int) :: ws) ({ frames := 0, cells := 0, slots := 0, locals := 0 } : Room)) (fun aa_ U => aa_ = #[(.int s)] ∧ Z.Warmed39 U.vm ∧ U.heap = h0) (fun _ _ _ _ _ => True) (fun _ U oo_ UV_ => ∃ vv_ LL_, oo_ = .returned vv_ ∧ Q_rmKe Z s h0 n0 vv_ UV_.heap LL_ ∧ FrameEnd U oo_ UV_ LL_ ({ frames := 0, cells := 0, slots := 0, locals := 0 } : Room).cells ({ frames := 0, cells := 0, slots := 0, locals := 0 } : Room).slots) := by
  refine MetFree.of_bodySF (plainFor_of_name pn_0) hisR ?_
  intro pg ev si mi args below meth ci s₁ Bd hml0 hP0 hK
  obtain ⟨rfl, hZ, hh⟩ := hP0
  have hx := Bd.exec
  have hby := Bd.bytes
  have hml : ci.maxLocals = 1 := hml0
  have hown : si.vm.findClass "com/example/hedge/hedge/automaton/PairMarks" = some mi.cls := findClass_of_methodNamed Bd.named
  have hnm := (name_of_methodNamed Bd.named Bd.method).1
  have X0 : Stand pg l ev ({ frames := 0, cells := 0, slots := 0, locals := 0 } : Room) si mi #[(.int s)] below meth ci s₁ [] 0 0 := Stand.of_body Bd
  have e0 : s₁.heap = h0 := by rw [← hh, Bd.state]; rfl
  have N0 := Fr.nil n0
  refine Go.start (fun P hP => ?_)
  refine Go.st (fun t_ k_ => castTop (ef_rmKe mi s) k_) (A := s₁.setTop (mkF mi 0 #[.val (.int s)] [])) ?_
  show Go pg.tables ev below (s₁.setTop (mkF mi 0 #[.val (.int s)] [])) P
  refine Go.st (fun t_ k_ => XS.iloadN X0.here hx rfl (hb hby d_prog_37_method_14_0) rfl k_) ?_
  show Go pg.tables ev below (s₁.setTop (mkF mi 1 #[.val (.int s)] [(.int s)])) P
  refine Go.st (fun t_ k_ => XS.iconst X0.here hx rfl (hb hby d_prog_37_method_14_1) k_) ?_
  show Go pg.tables ev below (s₁.setTop (mkF mi 2 #[.val (.int s)] [(.int (1 : Int32)), (.int s)])) P
  refine Go.st (fun t_ k_ => XS.iadd X0.here hx rfl (hb hby d_prog_37_method_14_2) rfl k_) ?_
  show Go pg.tables ev below (s₁.setTop (mkF mi 3 #[.val (.int s)] [(.int (s + (1 : Int32)))])) P
  refine Go.st (fun t_ k_ => XS.iconst X0.here hx rfl (hb hby d_prog_37_method_14_3) k_) ?_
  show Go pg.tables ev below (s₁.setTop (mkF mi 4 #[.val (.int s)] [(.int (2 : Int32)), (.int (s + (1 : Int32)))])) P
  refine Go.st (fun t_ k_ => XS.ishl X0.here hx rfl (hb hby d_prog_37_method_14_4) rfl k_) ?_
  show Go pg.tables ev below (s₁.setTop (mkF mi 5 #[.val (.int s)] [(.int ((s + (1 : Int32)) <<< ((2 : Int32) &&& 31)))])) P
  obtain ⟨fs, hr, hrun, hended, hW, hsame⟩ := X0.leave (v := some (.int ((s + (1 : Int32)) <<< ((2 : Int32) &&& 31)))) (fun h => by rw [Bd.returns] at h; cases h) (BodyLoose.notSynchronized Bd)
  refine ⟨_, _, ?_, hP _ _ ⟨hrun, hended, _, _, rfl, ?_, ⟨_, rfl⟩, hW, hsame.mono (by decide) (by decide)⟩⟩
  · exact retI X0 hx Bd.returns (hb hby d_prog_37_method_14_5) hr
  · show (some (.int ((s + (1 : Int32)) <<< ((2 : Int32) &&& 31))) : Option Value) = some (.int (fKe s)) ∧ Fr n0 _ ∧ s₁.heap = h0
    rw [e0]
    exact ⟨by rw [show fKe s = ((s + (1 : Int32)) <<< ((2 : Int32) &&& 31)) from rfl], N0, rfl⟩
theorem d_prog_37_method_17_0 : decode prog_37_method_17_code 0 = .ok (.iload_n 0, 1) := by decide +kernel
theorem d_prog_37_method_17_1 : decode prog_37_method_17_code 1 = .ok (.ldc 109, 2) := by decide +kernel
theorem d_prog_37_method_17_3 : decode prog_37_method_17_code 3 = .ok (.imul, 1) := by decide +kernel
theorem d_prog_37_method_17_4 : decode prog_37_method_17_code 4 = .ok (.istore_n 2, 1) := by decide +kernel
theorem d_prog_37_method_17_5 : decode prog_37_method_17_code 5 = .ok (.iload_n 2, 1) := by decide +kernel
theorem d_prog_37_method_17_6 : decode prog_37_method_17_code 6 = .ok (.iload_n 2, 1) := by decide +kernel
theorem d_prog_37_method_17_7 : decode prog_37_method_17_code 7 = .ok (.bipush 16, 2) := by decide +kernel
theorem d_prog_37_method_17_9 : decode prog_37_method_17_code 9 = .ok (.iushr, 1) := by decide +kernel
theorem d_prog_37_method_17_10 : decode prog_37_method_17_code 10 = .ok (.ixor, 1) := by decide +kernel
theorem d_prog_37_method_17_11 : decode prog_37_method_17_code 11 = .ok (.iload_n 1, 1) := by decide +kernel
theorem d_prog_37_method_17_12 : decode prog_37_method_17_code 12 = .ok (.iand, 1) := by decide +kernel
theorem d_prog_37_method_17_13 : decode prog_37_method_17_code 13 = .ok (.ireturn, 1) := by decide +kernel
theorem ef_rmSl (mi : MethodId) (s : Int32) (k : Int32) : entryFrame mi #[(.int s), (.int k)] 3 = mkF mi 0 #[.val (.int s), .val (.int k), .unset] [] := by first | (simp [entryFrame, mkF, argsToLocals, Value.category]; done) | rfl
def fSl (s : Int32) (k : Int32) : Int32 := (((s * (-1640531527 : Int32)) ^^^ (((s * (-1640531527 : Int32)).toUInt32 >>> ((16 : Int32) &&& 31).toUInt32).toInt32)) &&& k)
def Q_rmSl (Z : State) (s : Int32) (k : Int32) (h0 : Heap) (n0 : Nat) (vv_ : Option Value) (hh_ : Heap) (LL_ : List Loc) : Prop := vv_ = some (.int (fSl s k)) ∧ Fr n0 LL_ ∧ hh_ = h0
set_option maxRecDepth 65536 in
set_option maxHeartbeats 40000000 in
theorem rmSl (l : Launch) (Z : State) (a0 : Array Value) (hw : ∀ d ∈ tables_1, d.before a0 Z = true) (ws : List Jvm.Cond) (s : Int32) (k : Int32) (h0 : Heap) (n0 : Nat) (Z0 : n0 ≤ h0.size) :
    MetFree l (⟨"com/example/hedge/hedge/automaton/PairMarks", "slot", "(II)I"⟩ : MethodName) (head1 (Jvm.Cond.code (⟨"com/example/hedge/hedge/automaton/PairMarks", "slot", "(II)I"⟩ : MethodName) prog_37_method_17_code 3 (some .int) :: ws) ({ frames := 0, cells := 0, slots := 0, locals := 0 } : Room)) (fun aa_ U => aa_ = #[(.int s), (.int k)] ∧ Z.Warmed39 U.vm ∧ U.heap = h0) (fun _ _ _ _ _ => True) (fun _ U oo_ UV_ => ∃ vv_ LL_, oo_ = .returned vv_ ∧ Q_rmSl Z s k h0 n0 vv_ UV_.heap LL_ ∧ FrameEnd U oo_ UV_ LL_ ({ frames := 0, cells := 0, slots := 0, locals := 0 } : Room).cells ({ frames := 0, cells := 0, slots := 0, locals := 0 } : Room).slots) := by
  refine MetFree.of_bodySF (plainFor_of_name pn_0) hisR ?_
  intro pg ev si mi args below meth ci s₁ Bd hml0 hP0 hK
  obtain ⟨rfl, hZ, hh⟩ := hP0
  have hx := Bd.exec
  have hby := Bd.bytes
  have hml : ci.maxLocals = 3 := hml0
  have hown : si.vm.findClass "com/example/hedge/hedge/automaton/PairMarks" = some mi.cls := findClass_of_methodNamed Bd.named
  have hnm := (name_of_methodNamed Bd.named Bd.method).1
  have X0 : Stand pg l ev ({ frames := 0, cells := 0, slots := 0, locals := 0 } : Room) si mi #[(.int s), (.int k)] below meth ci s₁ [] 0 0 := Stand.of_body Bd
  have e0 : s₁.heap = h0 := by rw [← hh, Bd.state]; rfl
  have N0 := Fr.nil n0
  refine Go.start (fun P hP => ?_)
  refine Go.st (fun t_ k_ => castTop (ef_rmSl mi s k) k_) (A := s₁.setTop (mkF mi 0 #[.val (.int s), .val (.int k), .unset] [])) ?_
  show Go pg.tables ev below (s₁.setTop (mkF mi 0 #[.val (.int s), .val (.int k), .unset] [])) P
  refine Go.st (fun t_ k_ => XS.iloadN X0.here hx rfl (hb hby d_prog_37_method_17_0) rfl k_) ?_
  show Go pg.tables ev below (s₁.setTop (mkF mi 1 #[.val (.int s), .val (.int k), .unset] [(.int s)])) P
  refine Go.st (X0.ldcInt hx hown (mvT hZ (hw _ (List.mem_of_getElem? (i := 75) rfl))) (g := (mkF mi 1 #[.val (.int s), .val (.int k), .unset] [(.int s)])) rfl (hb hby d_prog_37_method_17_1)) ?_
  show Go pg.tables ev below (s₁.setTop (mkF mi 3 #[.val (.int s), .val (.int k), .unset] [(.int (-1640531527 : Int32)), (.int s)])) P
  refine Go.st (fun t_ k_ => XS.imul X0.here hx rfl (hb hby d_prog_37_method_17_3) rfl k_) ?_
  show Go pg.tables ev below (s₁.setTop (mkF mi 4 #[.val (.int s), .val (.int k), .unset] [(.int (s * (-1640531527 : Int32)))])) P
  refine Go.st (fun t_ k_ => XS.istoreN X0.here hx rfl (hb hby d_prog_37_method_17_4) rfl (l' := #[.val (.int s), .val (.int k), .val (.int (s * (-1640531527 : Int32)))]) rfl k_) ?_
  show Go pg.tables ev below (s₁.setTop (mkF mi 5 #[.val (.int s), .val (.int k), .val (.int (s * (-1640531527 : Int32)))] [])) P
  refine Go.st (fun t_ k_ => XS.iloadN X0.here hx rfl (hb hby d_prog_37_method_17_5) rfl k_) ?_
  show Go pg.tables ev below (s₁.setTop (mkF mi 6 #[.val (.int s), .val (.int k), .val (.int (s * (-1640531527 : Int32)))] [(.int (s * (-1640531527 : Int32)))])) P
  refine Go.st (fun t_ k_ => XS.iloadN X0.here hx rfl (hb hby d_prog_37_method_17_6) rfl k_) ?_
  show Go pg.tables ev below (s₁.setTop (mkF mi 7 #[.val (.int s), .val (.int k), .val (.int (s * (-1640531527 : Int32)))] [(.int (s * (-1640531527 : Int32))), (.int (s * (-1640531527 : Int32)))])) P
  refine Go.st (fun t_ k_ => XS.bipush X0.here hx rfl (hb hby d_prog_37_method_17_7) k_) ?_
  show Go pg.tables ev below (s₁.setTop (mkF mi 9 #[.val (.int s), .val (.int k), .val (.int (s * (-1640531527 : Int32)))] [(.int (16 : Int32)), (.int (s * (-1640531527 : Int32))), (.int (s * (-1640531527 : Int32)))])) P
  refine Go.st (fun t_ k_ => XS.iushr X0.here hx rfl (hb hby d_prog_37_method_17_9) rfl k_) ?_
  show Go pg.tables ev below (s₁.setTop (mkF mi 10 #[.val (.int s), .val (.int k), .val (.int (s * (-1640531527 : Int32)))] [(.int (((s * (-1640531527 : Int32)).toUInt32 >>> ((16 : Int32) &&& 31).toUInt32).toInt32)), (.int (s * (-1640531527 : Int32)))])) P
  refine Go.st (fun t_ k_ => XS.ixor X0.here hx rfl (hb hby d_prog_37_method_17_10) rfl k_) ?_
  show Go pg.tables ev below (s₁.setTop (mkF mi 11 #[.val (.int s), .val (.int k), .val (.int (s * (-1640531527 : Int32)))] [(.int ((s * (-1640531527 : Int32)) ^^^ (((s * (-1640531527 : Int32)).toUInt32 >>> ((16 : Int32) &&& 31).toUInt32).toInt32)))])) P
  refine Go.st (fun t_ k_ => XS.iloadN X0.here hx rfl (hb hby d_prog_37_method_17_11) rfl k_) ?_
  show Go pg.tables ev below (s₁.setTop (mkF mi 12 #[.val (.int s), .val (.int k), .val (.int (s * (-1640531527 : Int32)))] [(.int k), (.int ((s * (-1640531527 : Int32)) ^^^ (((s * (-1640531527 : Int32)).toUInt32 >>> ((16 : Int32) &&& 31).toUInt32).toInt32)))])) P
  refine Go.st (fun t_ k_ => XS.iand X0.here hx rfl (hb hby d_prog_37_method_17_12) rfl k_) ?_
  show Go pg.tables ev below (s₁.setTop (mkF mi 13 #[.val (.int s), .val (.int k), .val (.int (s * (-1640531527 : Int32)))] [(.int (((s * (-1640531527 : Int32)) ^^^ (((s * (-1640531527 : Int32)).toUInt32 >>> ((16 : Int32) &&& 31).toUInt32).toInt32)) &&& k))])) P
  obtain ⟨fs, hr, hrun, hended, hW, hsame⟩ := X0.leave (v := some (.int (((s * (-1640531527 : Int32)) ^^^ (((s * (-1640531527 : Int32)).toUInt32 >>> ((16 : Int32) &&& 31).toUInt32).toInt32)) &&& k))) (fun h => by rw [Bd.returns] at h; cases h) (BodyLoose.notSynchronized Bd)
  refine ⟨_, _, ?_, hP _ _ ⟨hrun, hended, _, _, rfl, ?_, ⟨_, rfl⟩, hW, hsame.mono (by decide) (by decide)⟩⟩
  · exact retI X0 hx Bd.returns (hb hby d_prog_37_method_17_13) hr
  · show (some (.int (((s * (-1640531527 : Int32)) ^^^ (((s * (-1640531527 : Int32)).toUInt32 >>> ((16 : Int32) &&& 31).toUInt32).toInt32)) &&& k)) : Option Value) = some (.int (fSl s k)) ∧ Fr n0 _ ∧ s₁.heap = h0
    rw [e0]
    exact ⟨by rw [show fSl s k = (((s * (-1640531527 : Int32)) ^^^ (((s * (-1640531527 : Int32)).toUInt32 >>> ((16 : Int32) &&& 31).toUInt32).toInt32)) &&& k) from rfl], N0, rfl⟩
theorem d_prog_37_method_15_0 : decode prog_37_method_15_code 0 = .ok (.iload_n 0, 1) := by decide +kernel
theorem d_prog_37_method_15_1 : decode prog_37_method_15_code 1 = .ok (.iconst 2, 1) := by decide +kernel
theorem d_prog_37_method_15_2 : decode prog_37_method_15_code 2 = .ok (.iushr, 1) := by decide +kernel
theorem d_prog_37_method_15_3 : decode prog_37_method_15_code 3 = .ok (.iconst 1, 1) := by decide +kernel
theorem d_prog_37_method_15_4 : decode prog_37_method_15_code 4 = .ok (.isub, 1) := by decide +kernel
theorem d_prog_37_method_15_5 : decode prog_37_method_15_code 5 = .ok (.ireturn, 1) := by decide +kernel
theorem ef_rmSe (mi : MethodId) (v : Int32) : entryFrame mi #[(.int v)] 1 = mkF mi 0 #[.val (.int v)] [] := by first | (simp [entryFrame, mkF, argsToLocals, Value.category]; done) | rfl
def fSe (v : Int32) : Int32 := (((v.toUInt32 >>> ((2 : Int32) &&& 31).toUInt32).toInt32) - (1 : Int32))
def Q_rmSe (Z : State) (v : Int32) (h0 : Heap) (n0 : Nat) (vv_ : Option Value) (hh_ : Heap) (LL_ : List Loc) : Prop := vv_ = some (.int (fSe v)) ∧ Fr n0 LL_ ∧ hh_ = h0
set_option maxRecDepth 65536 in
set_option maxHeartbeats 40000000 in
theorem rmSe (l : Launch) (Z : State) (a0 : Array Value) (hw : ∀ d ∈ tables_1, d.before a0 Z = true) (ws : List Jvm.Cond) (v : Int32) (h0 : Heap) (n0 : Nat) (Z0 : n0 ≤ h0.size) :
    MetFree l (⟨"com/example/hedge/hedge/automaton/PairMarks", "secondOf", "(I)I"⟩ : MethodName) (head1 (Jvm.Cond.code (⟨"com/example/hedge/hedge/automaton/PairMarks", "secondOf", "(I)I"⟩ : MethodName) prog_37_method_15_code 1 (some .int) :: ws) ({ frames := 0, cells := 0, slots := 0, locals := 0 } : Room)) (fun aa_ U => aa_ = #[(.int v)] ∧ Z.Warmed39 U.vm ∧ U.heap = h0) (fun _ _ _ _ _ => True) (fun _ U oo_ UV_ => ∃ vv_ LL_, oo_ = .returned vv_ ∧ Q_rmSe Z v h0 n0 vv_ UV_.heap LL_ ∧ FrameEnd U oo_ UV_ LL_ ({ frames := 0, cells := 0, slots := 0, locals := 0 } : Room).cells ({ frames := 0, cells := 0, slots := 0, locals := 0 } : Room).slots) := by
  refine MetFree.of_bodySF (plainFor_of_name pn_0) hisR ?_
  intro pg ev si mi args below meth ci s₁ Bd hml0 hP0 hK
  obtain ⟨rfl, hZ, hh⟩ := hP0
  have hx := Bd.exec
  have hby := Bd.bytes
  have hml : ci.maxLocals = 1 := hml0
  have hown : si.vm.findClass "com/example/hedge/hedge/automaton/PairMarks" = some mi.cls := findClass_of_methodNamed Bd.named
  have hnm := (name_of_methodNamed Bd.named Bd.method).1
  have X0 : Stand pg l ev ({ frames := 0, cells := 0, slots := 0, locals := 0 } : Room) si mi #[(.int v)] below meth ci s₁ [] 0 0 := Stand.of_body Bd
  have e0 : s₁.heap = h0 := by rw [← hh, Bd.state]; rfl
  have N0 := Fr.nil n0
  refine Go.start (fun P hP => ?_)
  refine Go.st (fun t_ k_ => castTop (ef_rmSe mi v) k_) (A := s₁.setTop (mkF mi 0 #[.val (.int v)] [])) ?_
  show Go pg.tables ev below (s₁.setTop (mkF mi 0 #[.val (.int v)] [])) P
  refine Go.st (fun t_ k_ => XS.iloadN X0.here hx rfl (hb hby d_prog_37_method_15_0) rfl k_) ?_
  show Go pg.tables ev below (s₁.setTop (mkF mi 1 #[.val (.int v)] [(.int v)])) P
  refine Go.st (fun t_ k_ => XS.iconst X0.here hx rfl (hb hby d_prog_37_method_15_1) k_) ?_
  show Go pg.tables ev below (s₁.setTop (mkF mi 2 #[.val (.int v)] [(.int (2 : Int32)), (.int v)])) P
  refine Go.st (fun t_ k_ => XS.iushr X0.here hx rfl (hb hby d_prog_37_method_15_2) rfl k_) ?_
  show Go pg.tables ev below (s₁.setTop (mkF mi 3 #[.val (.int v)] [(.int ((v.toUInt32 >>> ((2 : Int32) &&& 31).toUInt32).toInt32))])) P
  refine Go.st (fun t_ k_ => XS.iconst X0.here hx rfl (hb hby d_prog_37_method_15_3) k_) ?_
  show Go pg.tables ev below (s₁.setTop (mkF mi 4 #[.val (.int v)] [(.int (1 : Int32)), (.int ((v.toUInt32 >>> ((2 : Int32) &&& 31).toUInt32).toInt32))])) P
  refine Go.st (fun t_ k_ => XS.isub X0.here hx rfl (hb hby d_prog_37_method_15_4) rfl k_) ?_
  show Go pg.tables ev below (s₁.setTop (mkF mi 5 #[.val (.int v)] [(.int (((v.toUInt32 >>> ((2 : Int32) &&& 31).toUInt32).toInt32) - (1 : Int32)))])) P
  obtain ⟨fs, hr, hrun, hended, hW, hsame⟩ := X0.leave (v := some (.int (((v.toUInt32 >>> ((2 : Int32) &&& 31).toUInt32).toInt32) - (1 : Int32)))) (fun h => by rw [Bd.returns] at h; cases h) (BodyLoose.notSynchronized Bd)
  refine ⟨_, _, ?_, hP _ _ ⟨hrun, hended, _, _, rfl, ?_, ⟨_, rfl⟩, hW, hsame.mono (by decide) (by decide)⟩⟩
  · exact retI X0 hx Bd.returns (hb hby d_prog_37_method_15_5) hr
  · show (some (.int (((v.toUInt32 >>> ((2 : Int32) &&& 31).toUInt32).toInt32) - (1 : Int32))) : Option Value) = some (.int (fSe v)) ∧ Fr n0 _ ∧ s₁.heap = h0
    rw [e0]
    exact ⟨by rw [show fSe v = (((v.toUInt32 >>> ((2 : Int32) &&& 31).toUInt32).toInt32) - (1 : Int32)) from rfl], N0, rfl⟩
def fWd (N : Int32) : Int32 := ((((N + (31 : Int32)).toUInt32) >>> (((5 : Int32)) &&& 31).toUInt32).toInt32)
theorem own_hit {hs : List (Int32 × Value)} {vs : List Value} {d v : Value} {j : Int32} (q : ¬ j < 0) : getH ((j, v) :: hs) vs d j.toNatClampNeg = v := getH_hit q rfl
theorem own_fitL {v : Value} (h : fits .long v = true) : ∃ z, v = .long z := by cases v <;> simp [fits] at h ⊢
theorem own_fitI {v : Value} (h : fits .int v = true) : ∃ z, v = .int z := by cases v <;> simp [fits] at h ⊢
theorem own_n (s N : Int32) (h : N = ((1 : Int32) + (s &&& (255 : Int32)))) : 1 ≤ N.toInt ∧ N.toInt ≤ 256 := by
  have e := c_mask s 255 8 (by decide) (by decide)
  have e2 := c_iadd 1 (s &&& 255)
  have l1 : (1 : Int32).toInt = 1 := rfl
  have b1 := Int32.le_toInt N
  have b2 := Int32.toInt_lt N
  rw [← h] at e2; omega
theorem own_nz {N : Int32} (h : 1 ≤ N.toInt) : N ≠ (0 : Int32) := fun q => by rw [q] at h; exact absurd h (by decide)
theorem own_idx {N A : Int32} (f : Int32) (hN : 1 ≤ N.toInt) (h : A = ((f &&& (2147483647 : Int32)) % N)) : ¬ A < 0 ∧ A < N := by
  have e := c_mask f 2147483647 31 (by decide) (by decide)
  have e2 := (c_iremV (f &&& 2147483647) N).1 (by omega) (by omega)
  have l0 : (0 : Int32).toInt = 0 := rfl
  rw [← h] at e2
  simp only [Int32.lt_iff_toInt_lt]; omega
theorem own_m1 {M : Int32} (m : Int32) (h : M = ((1 : Int32) + ((m &&& (2147483647 : Int32)) % (3 : Int32)))) : 1 ≤ M.toInt ∧ M.toInt ≤ 3 := by
  have e := c_mask m 2147483647 31 (by decide) (by decide)
  have e2 := c_irem (m &&& 2147483647) 3 3 rfl
  have e3 := c_iadd 1 ((m &&& 2147483647) % 3)
  have l1 : (1 : Int32).toInt = 1 := rfl
  have b1 := Int32.le_toInt M
  have b2 := Int32.toInt_lt M
  rw [← h] at e3; omega
theorem own_m2 {M : Int32} (m q : Int32) (k : Nat) (hk : q.toBitVec.toNat % 32 = k) (h0 : 0 < k) (h : M = ((1 : Int32) + (((m.toUInt32 >>> (q &&& 31).toUInt32).toInt32) % (3 : Int32)))) : 1 ≤ M.toInt ∧ M.toInt ≤ 3 := by
  have e := c_iushr m q k hk h0
  have e4 : 0 ≤ (m.toInt % 4294967296) / (2 ^ k : Nat) := Int.ediv_nonneg (by omega) (by exact Int.natCast_nonneg _)
  have e2 := c_irem ((m.toUInt32 >>> (q &&& 31).toUInt32).toInt32) 3 3 rfl
  have e3 := c_iadd 1 (((m.toUInt32 >>> (q &&& 31).toUInt32).toInt32) % 3)
  have l1 : (1 : Int32).toInt = 1 := rfl
  have b1 := Int32.le_toInt M
  have b2 := Int32.toInt_lt M
  rw [← h] at e3; rw [e] at e2; omega
theorem own_ltN {N : Int32} (h : N.toInt ≤ 256) : N < (536870911 : Int32) := by
  have l1 : (536870911 : Int32).toInt = 536870911 := rfl
  rw [Int32.lt_iff_toInt_lt]; omega
theorem own_cap {N : Int32} {k : Nat} (h1 : 1 ≤ N.toInt) (h2 : N.toInt ≤ k) : ¬ N < 0 ∧ N.toNatClampNeg ≤ k := by
  have l0 : (0 : Int32).toInt = 0 := rfl
  refine ⟨by rw [Int32.lt_iff_toInt_lt]; omega, ?_⟩
  simp only [Int32.toNatClampNeg]; omega
theorem own_wd {N : Int32} (h1 : 1 ≤ N.toInt) (h2 : N.toInt ≤ 256) : (fWd N).toInt = (N.toInt + 31) / 32 := by
  unfold fWd
  have e2 := c_iadd N 31
  have e := c_iushr (N + 31) 5 5 (by decide) (by decide)
  have l1 : (31 : Int32).toInt = 31 := rfl
  have b1 := Int32.le_toInt (N + 31)
  have b2 := Int32.toInt_lt (N + 31)
  rw [e]; omega
theorem own_wdr {N wd : Int32} (h1 : 1 ≤ N.toInt) (h2 : N.toInt ≤ 256) (h : wd = fWd N) : 1 ≤ wd.toInt ∧ wd.toInt ≤ 8 := by
  have := own_wd h1 h2; rw [h]; omega
theorem own_bit {N wd s : Int32} (h1 : 1 ≤ N.toInt) (h2 : N.toInt ≤ 256) (h : wd = fWd N) (hs : ¬ s < 0 ∧ s < N) : ¬ ((s.toUInt32 >>> ((5 : Int32) &&& 31).toUInt32).toInt32) < 0 ∧ ((s.toUInt32 >>> ((5 : Int32) &&& 31).toUInt32).toInt32) < wd := by
  have e := c_iushr s 5 5 (by decide) (by decide)
  have w1 := own_wd h1 h2
  have l0 : (0 : Int32).toInt = 0 := rfl
  rw [Int32.lt_iff_toInt_lt, Int32.lt_iff_toInt_lt] at hs
  rw [Int32.lt_iff_toInt_lt, Int32.lt_iff_toInt_lt, e, h, w1]; omega
theorem own_slot (s : Int32) : ¬ (fSl s (3 : Int32)) < 0 ∧ (fSl s (3 : Int32)) < (4 : Int32) := by
  unfold fSl
  have e := c_mask ((s * (-1640531527 : Int32)) ^^^ (((s * (-1640531527 : Int32)).toUInt32 >>> ((16 : Int32) &&& 31).toUInt32).toInt32)) 3 2 (by decide) (by decide)
  have l0 : (0 : Int32).toInt = 0 := rfl
  have l1 : (4 : Int32).toInt = 4 := rfl
  simp only [Int32.lt_iff_toInt_lt]; omega
theorem own_next {s : Int32} (h : ¬ s < 0 ∧ s < (4 : Int32)) : (¬ ((s + (1 : Int32)) &&& (3 : Int32)) < 0 ∧ ((s + (1 : Int32)) &&& (3 : Int32)) < (4 : Int32)) ∧ ¬ ((s + (1 : Int32)) &&& (3 : Int32)) = s := by
  have e := c_mask (s + 1) 3 2 (by decide) (by decide)
  have e2 := c_iadd s 1
  have l0 : (0 : Int32).toInt = 0 := rfl
  have l1 : (1 : Int32).toInt = 1 := rfl
  have l4 : (4 : Int32).toInt = 4 := rfl
  simp only [Int32.lt_iff_toInt_lt, ← Int32.toInt_inj] at *; omega
theorem own_keyv {s m : Int32} (h1 : 0 ≤ s.toInt) (h2 : s.toInt < 256) (m1 : 1 ≤ m.toInt) (m2 : m.toInt ≤ 3) : ((fKe s) ||| m).toInt = (s.toInt + 1) * 4 + m.toInt := by
  unfold fKe
  have e2 := c_iadd s 1
  have e := c_ishl (s + 1) 2 2 (by decide)
  have l1 : (1 : Int32).toInt = 1 := rfl
  have b1 := Int32.le_toInt (s + 1)
  have b2 := Int32.toInt_lt (s + 1)
  have b3 := Int32.le_toInt ((s + 1) <<< ((2 : Int32) &&& 31))
  have b4 := Int32.toInt_lt ((s + 1) <<< ((2 : Int32) &&& 31))
  have e3 := c_or ((s + 1) <<< ((2 : Int32) &&& 31)) m 2 (by decide) 4 rfl (by omega) (by omega) (by omega)
  have b5 := Int32.le_toInt (((s + 1) <<< ((2 : Int32) &&& 31)) ||| m)
  have b6 := Int32.toInt_lt (((s + 1) <<< ((2 : Int32) &&& 31)) ||| m)
  omega
theorem own_key0 {s m : Int32} (h1 : 0 ≤ s.toInt) (h2 : s.toInt < 256) (m1 : 1 ≤ m.toInt) (m2 : m.toInt ≤ 3) : ¬ ((fKe s) ||| m) = (0 : Int32) := by
  have e := own_keyv h1 h2 m1 m2
  have l0 : (0 : Int32).toInt = 0 := rfl
  rw [← Int32.toInt_inj]; omega
theorem own_key1 {s m : Int32} (h1 : 0 ≤ s.toInt) (h2 : s.toInt < 256) (m1 : 1 ≤ m.toInt) (m2 : m.toInt ≤ 3) : fSe ((fKe s) ||| m) = s := by
  have e := own_keyv h1 h2 m1 m2
  unfold fSe
  have e1 := c_iushr ((fKe s) ||| m) 2 2 (by decide) (by decide)
  have e2 := c_isub (((((fKe s) ||| m).toUInt32) >>> ((2 : Int32) &&& 31).toUInt32).toInt32) 1
  have l1 : (1 : Int32).toInt = 1 := rfl
  have b5 := Int32.le_toInt ((((((fKe s) ||| m).toUInt32) >>> ((2 : Int32) &&& 31).toUInt32).toInt32) - 1)
  have b6 := Int32.toInt_lt ((((((fKe s) ||| m).toUInt32) >>> ((2 : Int32) &&& 31).toUInt32).toInt32) - 1)
  apply Int32.toInt_inj.mp; omega
theorem own_key2 {s m : Int32} (h1 : 0 ≤ s.toInt) (h2 : s.toInt < 256) (m1 : 1 ≤ m.toInt) (m2 : m.toInt ≤ 3) : (((fKe s) ||| m) &&& (3 : Int32)) = m := by
  have e := own_keyv h1 h2 m1 m2
  have e1 := c_mask ((fKe s) ||| m) 3 2 (by decide) (by decide)
  apply Int32.toInt_inj.mp; omega
theorem own_not (m : Int32) : (m &&& ((0 : Int32) ^^^ (-1 : Int32))) = m := by
  apply Int32.toBitVec_inj.mp
  rw [Int32.toBitVec_and]
  show m.toBitVec &&& (0#32 ^^^ (-1 : Int32).toBitVec) = _
  rw [show (0#32 ^^^ (-1 : Int32).toBitVec) = BitVec.allOnes 32 by decide, BitVec.and_allOnes]
theorem d_prog_37_method_12_0 : decode prog_37_method_12_code 0 = .ok (.ldc2_w 107, 3) := by decide +kernel
theorem d_prog_37_method_12_3 : decode prog_37_method_12_code 3 = .ok (.aload_n 0, 1) := by decide +kernel
theorem d_prog_37_method_12_4 : decode prog_37_method_12_code 4 = .ok (.getfield 25, 3) := by decide +kernel
theorem d_prog_37_method_12_7 : decode prog_37_method_12_code 7 = .ok (.i2l, 1) := by decide +kernel
theorem d_prog_37_method_12_8 : decode prog_37_method_12_code 8 = .ok (.lmul, 1) := by decide +kernel
theorem d_prog_37_method_12_9 : decode prog_37_method_12_code 9 = .ok (.iload_n 1, 1) := by decide +kernel
theorem d_prog_37_method_12_10 : decode prog_37_method_12_code 10 = .ok (.i2l, 1) := by decide +kernel
theorem d_prog_37_method_12_11 : decode prog_37_method_12_code 11 = .ok (.lcmp, 1) := by decide +kernel
theorem d_prog_37_method_12_12 : decode prog_37_method_12_code 12 = .ok (.ifCond .gt 7, 3) := by decide +kernel
theorem d_prog_37_method_12_19 : decode prog_37_method_12_code 19 = .ok (.iconst 0, 1) := by decide +kernel
theorem d_prog_37_method_12_15 : decode prog_37_method_12_code 15 = .ok (.iconst 1, 1) := by decide +kernel
theorem d_prog_37_method_12_16 : decode prog_37_method_12_code 16 = .ok (.goto 4, 3) := by decide +kernel
theorem d_prog_37_method_12_20 : decode prog_37_method_12_code 20 = .ok (.ireturn, 1) := by decide +kernel
theorem ef_rmWo (mi : MethodId) (o : Addr) (wd : Int32) : entryFrame mi #[(.ref o), (.int (4 : Int32))] 2 = mkF mi 0 #[.val (.ref o), .val (.int (4 : Int32))] [] := by first | (simp [entryFrame, mkF, argsToLocals, Value.category]; done) | rfl
def Q_rmWo (Z : State) (o : Addr) (wd : Int32) (h0 : Heap) (n0 : Nat) (vv_ : Option Value) (hh_ : Heap) (LL_ : List Loc) : Prop := vv_ = some (.int (if (4 : Int64) < ((2 : Int64) * (wd.toInt64)) then (0 : Int32) else (1 : Int32))) ∧ Fr n0 LL_ ∧ hh_ = h0
set_option maxRecDepth 65536 in
set_option maxHeartbeats 40000000 in
theorem rmWo (l : Launch) (Z : State) (a0 : Array Value) (hw : ∀ d ∈ tables_1, d.before a0 Z = true) (ws : List Jvm.Cond) (o : Addr) (wd : Int32) (h0 : Heap) (n0 : Nat) (Z0 : n0 ≤ h0.size) (F1 : Fld Z h0 o "com/example/hedge/hedge/automaton/PairMarks" "words" "I" (.int wd)) :
    MetFree l (⟨"com/example/hedge/hedge/automaton/PairMarks", "isWorthABitmap", "(I)Z"⟩ : MethodName) (head1 (Jvm.Cond.code (⟨"com/example/hedge/hedge/automaton/PairMarks", "isWorthABitmap", "(I)Z"⟩ : MethodName) prog_37_method_12_code 2 (some .boolean) :: ws) ({ frames := 0, cells := 0, slots := 0, locals := 0 } : Room)) (fun aa_ U => aa_ = #[(.ref o), (.int (4 : Int32))] ∧ Z.Warmed39 U.vm ∧ U.heap = h0) (fun _ _ _ _ _ => True) (fun _ U oo_ UV_ => ∃ vv_ LL_, oo_ = .returned vv_ ∧ Q_rmWo Z o wd h0 n0 vv_ UV_.heap LL_ ∧ FrameEnd U oo_ UV_ LL_ ({ frames := 0, cells := 0, slots := 0, locals := 0 } : Room).cells ({ frames := 0, cells := 0, slots := 0, locals := 0 } : Room).slots) := by
  refine MetFree.of_bodySF (plainFor_of_name pn_0) hisR ?_
  intro pg ev si mi args below meth ci s₁ Bd hml0 hP0 hK
  obtain ⟨rfl, hZ, hh⟩ := hP0
  have hx := Bd.exec
  have hby := Bd.bytes
  have hml : ci.maxLocals = 2 := hml0
  have hown : si.vm.findClass "com/example/hedge/hedge/automaton/PairMarks" = some mi.cls := findClass_of_methodNamed Bd.named
  have hnm := (name_of_methodNamed Bd.named Bd.method).1
  have X0 : Stand pg l ev ({ frames := 0, cells := 0, slots := 0, locals := 0 } : Room) si mi #[(.ref o), (.int (4 : Int32))] below meth ci s₁ [] 0 0 := Stand.of_body Bd
  have e0 : s₁.heap = h0 := by rw [← hh, Bd.state]; rfl
  have N0 := Fr.nil n0
  refine Go.start (fun P hP => ?_)
  refine Go.st (fun t_ k_ => castTop (ef_rmWo mi o wd) k_) (A := s₁.setTop (mkF mi 0 #[.val (.ref o), .val (.int (4 : Int32))] [])) ?_
  show Go pg.tables ev below (s₁.setTop (mkF mi 0 #[.val (.ref o), .val (.int (4 : Int32))] [])) P
  refine Go.st (X0.ldc2Long hx hown (mvT hZ (hw _ (List.mem_of_getElem? (i := 41) rfl))) (g := (mkF mi 0 #[.val (.ref o), .val (.int (4 : Int32))] [])) rfl (hb hby d_prog_37_method_12_0)) ?_
  show Go pg.tables ev below (s₁.setTop (mkF mi 3 #[.val (.ref o), .val (.int (4 : Int32))] [(.long (2 : Int64))])) P
  refine Go.st (fun t_ k_ => XS.aloadN X0.here hx rfl (hb hby d_prog_37_method_12_3) rfl rfl k_) ?_
  show Go pg.tables ev below (s₁.setTop (mkF mi 4 #[.val (.ref o), .val (.int (4 : Int32))] [(.ref o), (.long (2 : Int64))])) P
  obtain ⟨T1, X1, e1, st1⟩ := getF X0 hx hZ hown (host := "") (Or.inl (hw _ (List.mem_of_getElem? (i := 14) rfl))) Via.refl e0 F1 (g := (mkF mi 4 #[.val (.ref o), .val (.int (4 : Int32))] [(.ref o), (.long (2 : Int64))])) rfl rfl (hb hby d_prog_37_method_12_4)
  refine Go.st st1 ?_
  show Go pg.tables ev below (T1.setTop (mkF mi 7 #[.val (.ref o), .val (.int (4 : Int32))] [(.int wd), (.long (2 : Int64))])) P
  refine Go.st (fun t_ k_ => XS.i2l X1.here hx rfl (hb hby d_prog_37_method_12_7) rfl k_) ?_
  show Go pg.tables ev below (T1.setTop (mkF mi 8 #[.val (.ref o), .val (.int (4 : Int32))] [(.long (wd.toInt64)), (.long (2 : Int64))])) P
  refine Go.st (fun t_ k_ => XS.lmul X1.here hx rfl (hb hby d_prog_37_method_12_8) rfl k_) ?_
  show Go pg.tables ev below (T1.setTop (mkF mi 9 #[.val (.ref o), .val (.int (4 : Int32))] [(.long ((2 : Int64) * (wd.toInt64)))])) P
  refine Go.st (fun t_ k_ => XS.iloadN X1.here hx rfl (hb hby d_prog_37_method_12_9) rfl k_) ?_
  show Go pg.tables ev below (T1.setTop (mkF mi 10 #[.val (.ref o), .val (.int (4 : Int32))] [(.int (4 : Int32)), (.long ((2 : Int64) * (wd.toInt64)))])) P
  refine Go.st (fun t_ k_ => XS.i2l X1.here hx rfl (hb hby d_prog_37_method_12_10) rfl k_) ?_
  show Go pg.tables ev below (T1.setTop (mkF mi 11 #[.val (.ref o), .val (.int (4 : Int32))] [(.long (4 : Int64)), (.long ((2 : Int64) * (wd.toInt64)))])) P
  refine Go.st (fun t_ k_ => XS.lcmp X1.here hx rfl (hb hby d_prog_37_method_12_11) rfl k_) ?_
  show Go pg.tables ev below (T1.setTop (mkF mi 12 #[.val (.ref o), .val (.int (4 : Int32))] [(.int (lcmpW ((2 : Int64) * (wd.toInt64)) (4 : Int64)))])) P
  have dm2 : ∀ t_, Steps pg.tables ev below (T1.setTop (mkF mi 20 #[.val (.ref o), .val (.int (4 : Int32))] [(.int (if (4 : Int64) < ((2 : Int64) * (wd.toInt64)) then (0 : Int32) else (1 : Int32)))])) t_ → Steps pg.tables ev below (T1.setTop (mkF mi 12 #[.val (.ref o), .val (.int (4 : Int32))] [(.int (lcmpW ((2 : Int64) * (wd.toInt64)) (4 : Int64)))])) t_ := by
    intro t_ k_
    by_cases hd : (4 : Int64) < ((2 : Int64) * (wd.toInt64))
    · refine XS.ifYes X1.here hx rfl (pc0 := 12) (pc' := 19) rfl (hb hby d_prog_37_method_12_12) rfl ((if0 _ _).trans (tlt (own_gt hd)).2.2.1) (by decide) (by decide) ?_
      show Steps pg.tables ev below (T1.setTop (mkF mi 19 #[.val (.ref o), .val (.int (4 : Int32))] [])) t_
      refine XS.iconst X1.here hx rfl (hb hby d_prog_37_method_12_19) ?_
      show Steps pg.tables ev below (T1.setTop (mkF mi 20 #[.val (.ref o), .val (.int (4 : Int32))] [(.int (0 : Int32))])) t_
      exact own_cst (if_pos hd) k_
    · refine XS.ifNo X1.here hx rfl (hb hby d_prog_37_method_12_12) rfl ((if0 _ _).trans (flt (own_ngt hd)).2.2.1) ?_
      show Steps pg.tables ev below (T1.setTop (mkF mi 15 #[.val (.ref o), .val (.int (4 : Int32))] [])) t_
      refine XS.iconst X1.here hx rfl (hb hby d_prog_37_method_12_15) ?_
      show Steps pg.tables ev below (T1.setTop (mkF mi 16 #[.val (.ref o), .val (.int (4 : Int32))] [(.int (1 : Int32))])) t_
      refine XS.goto X1.here hx rfl (pc0 := 16) (pc' := 20) rfl (hb hby d_prog_37_method_12_16) (by decide) (by decide) ?_
      show Steps pg.tables ev below (T1.setTop (mkF mi 20 #[.val (.ref o), .val (.int (4 : Int32))] [(.int (1 : Int32))])) t_
      exact own_cst (if_neg hd) k_
  refine Go.st dm2 ?_
  show Go pg.tables ev below (T1.setTop (mkF mi 20 #[.val (.ref o), .val (.int (4 : Int32))] [(.int (if (4 : Int64) < ((2 : Int64) * (wd.toInt64)) then (0 : Int32) else (1 : Int32)))])) P
  obtain ⟨fs, hr, hrun, hended, hW, hsame⟩ := X1.leave (v := some (.int (if (4 : Int64) < ((2 : Int64) * (wd.toInt64)) then (0 : Int32) else (1 : Int32)))) (fun h => by rw [Bd.returns] at h; cases h) (BodyLoose.notSynchronized Bd)
  refine ⟨_, _, ?_, hP _ _ ⟨hrun, hended, _, _, rfl, ?_, ⟨_, rfl⟩, hW, hsame.mono (by decide) (by decide)⟩⟩
  · exact own_retN X1 hx (t := .boolean) Bd.returns (by simp) (own_nb rfl rfl) (hb hby d_prog_37_method_12_20) hr
  · show (some (.int (if (4 : Int64) < ((2 : Int64) * (wd.toInt64)) then (0 : Int32) else (1 : Int32))) : Option Value) = some (.int (if (4 : Int64) < ((2 : Int64) * (wd.toInt64)) then (0 : Int32) else (1 : Int32))) ∧ Fr n0 _ ∧ T1.heap = h0
    rw [e1]
    exact ⟨rfl, N0, rfl⟩
theorem d_prog_37_method_1_0 : decode prog_37_method_1_code 0 = .ok (.aload_n 0, 1) := by decide +kernel
theorem d_prog_37_method_1_1 : decode prog_37_method_1_code 1 = .ok (.invokespecial 1, 3) := by decide +kernel
theorem d_prog_37_method_1_4 : decode prog_37_method_1_code 4 = .ok (.aload_n 0, 1) := by decide +kernel
theorem d_prog_37_method_1_5 : decode prog_37_method_1_code 5 = .ok (.bipush 16, 2) := by decide +kernel
theorem d_prog_37_method_1_7 : decode prog_37_method_1_code 7 = .ok (.newarray .int, 2) := by decide +kernel
theorem d_prog_37_method_1_9 : decode prog_37_method_1_code 9 = .ok (.putfield 7, 3) := by decide +kernel
theorem d_prog_37_method_1_12 : decode prog_37_method_1_code 12 = .ok (.iload_n 1, 1) := by decide +kernel
theorem d_prog_37_method_1_13 : decode prog_37_method_1_code 13 = .ok (.ldc 15, 2) := by decide +kernel
theorem d_prog_37_method_1_15 : decode prog_37_method_1_code 15 = .ok (.if_icmp .lt 17, 3) := by decide +kernel
theorem d_prog_37_method_1_32 : decode prog_37_method_1_code 32 = .ok (.aload_n 0, 1) := by decide +kernel
theorem d_prog_37_method_1_33 : decode prog_37_method_1_code 33 = .ok (.iload_n 1, 1) := by decide +kernel
theorem d_prog_37_method_1_34 : decode prog_37_method_1_code 34 = .ok (.bipush 31, 2) := by decide +kernel
theorem d_prog_37_method_1_36 : decode prog_37_method_1_code 36 = .ok (.iadd, 1) := by decide +kernel
theorem d_prog_37_method_1_37 : decode prog_37_method_1_code 37 = .ok (.iconst 5, 1) := by decide +kernel
theorem d_prog_37_method_1_38 : decode prog_37_method_1_code 38 = .ok (.iushr, 1) := by decide +kernel
theorem d_prog_37_method_1_39 : decode prog_37_method_1_code 39 = .ok (.putfield 25, 3) := by decide +kernel
theorem d_prog_37_method_1_42 : decode prog_37_method_1_code 42 = .ok (.aload_n 0, 1) := by decide +kernel
theorem d_prog_37_method_1_43 : decode prog_37_method_1_code 43 = .ok (.iload_n 1, 1) := by decide +kernel
theorem d_prog_37_method_1_44 : decode prog_37_method_1_code 44 = .ok (.anewarray 29, 3) := by decide +kernel
theorem d_prog_37_method_1_47 : decode prog_37_method_1_code 47 = .ok (.putfield 30, 3) := by decide +kernel
theorem d_prog_37_method_1_50 : decode prog_37_method_1_code 50 = .ok (.aload_n 0, 1) := by decide +kernel
theorem d_prog_37_method_1_51 : decode prog_37_method_1_code 51 = .ok (.iload_n 1, 1) := by decide +kernel
theorem d_prog_37_method_1_52 : decode prog_37_method_1_code 52 = .ok (.newarray .int, 2) := by decide +kernel
theorem d_prog_37_method_1_54 : decode prog_37_method_1_code 54 = .ok (.putfield 34, 3) := by decide +kernel
theorem d_prog_37_method_1_57 : decode prog_37_method_1_code 57 = .ok (.aload_n 0, 1) := by decide +kernel
theorem d_prog_37_method_1_58 : decode prog_37_method_1_code 58 = .ok (.iload_n 1, 1) := by decide +kernel
theorem d_prog_37_method_1_59 : decode prog_37_method_1_code 59 = .ok (.anewarray 37, 3) := by decide +kernel
theorem d_prog_37_method_1_62 : decode prog_37_method_1_code 62 = .ok (.putfield 39, 3) := by decide +kernel
theorem d_prog_37_method_1_65 : decode prog_37_method_1_code 65 = .ok (.return_, 1) := by decide +kernel
theorem ef_rmI (mi : MethodId) (o : Addr) (N : Int32) : entryFrame mi #[(.ref o), (.int N)] 2 = mkF mi 0 #[.val (.ref o), .val (.int N)] [] := by first | (simp [entryFrame, mkF, argsToLocals, Value.category]; done) | rfl
def Q_rmI (Z : State) (o : Addr) (N : Int32) (h0 : Heap) (n0 : Nat) (vv_ : Option Value) (hh_ : Heap) (LL_ : List Loc) : Prop := vv_ = none ∧ Fr n0 LL_ ∧ Keep h0 hh_ [o] ∧ ∃ (rw tb sz bm : Addr) (kR kT kS kB : ClassId), h0.size ≤ rw ∧ h0.size ≤ tb ∧ h0.size ≤ sz ∧ h0.size ≤ bm ∧ n0 ≤ rw ∧ n0 ≤ tb ∧ n0 ≤ sz ∧ n0 ≤ bm ∧ o ≠ rw ∧ o ≠ tb ∧ o ≠ sz ∧ o ≠ bm ∧ rw ≠ tb ∧ rw ≠ sz ∧ rw ≠ bm ∧ tb ≠ sz ∧ tb ≠ bm ∧ sz ≠ bm ∧ Fld Z hh_ o "com/example/hedge/hedge/automaton/PairMarks" "rows" "[I" (.ref rw) ∧ Fld Z hh_ o "com/example/hedge/hedge/automaton/PairMarks" "tables" "[[I" (.ref tb) ∧ Fld Z hh_ o "com/example/hedge/hedge/automaton/PairMarks" "sizes" "[I" (.ref sz) ∧ Fld Z hh_ o "com/example/hedge/hedge/automaton/PairMarks" "bitmaps" "[[J" (.ref bm) ∧ Fld Z hh_ o "com/example/hedge/hedge/automaton/PairMarks" "words" "I" (.int (fWd N)) ∧ Fld Z hh_ o "com/example/hedge/hedge/automaton/PairMarks" "rowCount" "I" (.int (0 : Int32)) ∧ Arv Z hh_ rw kR .int (16 : Int32) [(.int (0 : Int32)), (.int (0 : Int32)), (.int (0 : Int32)), (.int (0 : Int32)), (.int (0 : Int32)), (.int (0 : Int32)), (.int (0 : Int32)), (.int (0 : Int32)), (.int (0 : Int32)), (.int (0 : Int32)), (.int (0 : Int32)), (.int (0 : Int32)), (.int (0 : Int32)), (.int (0 : Int32)), (.int (0 : Int32)), (.int (0 : Int32))] (.int (0 : Int32)) ∧ Arh Z hh_ tb kT (.array .int) N [] [] .null ∧ Arh Z hh_ sz kS .int N [] [] (.int (0 : Int32)) ∧ Arh Z hh_ bm kB (.array .long) N [] [] .null ∧ OvrA Z kT .int "[I" ∧ OvrA Z kB .long "[J"
set_option maxRecDepth 65536 in
set_option maxHeartbeats 40000000 in
theorem rmI (l : Launch) (Z : State) (a0 : Array Value) (hw : ∀ d ∈ tables_1, d.before a0 Z = true) (ws : List Jvm.Cond) (o : Addr) (N : Int32) (h0 : Heap) (n0 : Nat) (Z0 : n0 ≤ h0.size) (E0 : Exa Z h0 o "com/example/hedge/hedge/automaton/PairMarks") (ge0 : n0 ≤ o) (F0_0 : Fld Z h0 o "com/example/hedge/hedge/automaton/PairMarks" "rows" "[I" .null) (F1_0 : Fld Z h0 o "com/example/hedge/hedge/automaton/PairMarks" "tables" "[[I" .null) (F2_0 : Fld Z h0 o "com/example/hedge/hedge/automaton/PairMarks" "sizes" "[I" .null) (F3_0 : Fld Z h0 o "com/example/hedge/hedge/automaton/PairMarks" "bitmaps" "[[J" .null) (F4_0 : Fld Z h0 o "com/example/hedge/hedge/automaton/PairMarks" "words" "I" (.int (0 : Int32))) (F5_0 : Fld Z h0 o "com/example/hedge/hedge/automaton/PairMarks" "rowCount" "I" (.int (0 : Int32))) (hlt : N < (536870911 : Int32)) (hcap : ¬ N < 0 ∧ N.toNatClampNeg ≤ 256) :
    MetFree l (⟨"com/example/hedge/hedge/automaton/PairMarks", "<init>", "(I)V"⟩ : MethodName) (head1 (Jvm.Cond.code (⟨"com/example/hedge/hedge/automaton/PairMarks", "<init>", "(I)V"⟩ : MethodName) prog_37_method_1_code 2 none :: ws) ({ frames := 1, cells := 4, slots := 784, locals := 12 } : Room)) (fun aa_ U => aa_ = #[(.ref o), (.int N)] ∧ Z.Warmed39 U.vm ∧ U.heap = h0) (fun _ _ _ _ _ => True) (fun _ U oo_ UV_ => ∃ vv_ LL_, oo_ = .returned vv_ ∧ Q_rmI Z o N h0 n0 vv_ UV_.heap LL_ ∧ FrameEnd U oo_ UV_ LL_ ({ frames := 1, cells := 4, slots := 784, locals := 12 } : Room).cells ({ frames := 1, cells := 4, slots := 784, locals := 12 } : Room).slots) := by
  refine MetFree.of_bodySF (plainFor_of_name pn_0) hisR ?_
  intro pg ev si mi args below meth ci s₁ Bd hml0 hP0 hK
  obtain ⟨rfl, hZ, hh⟩ := hP0
  have hx := Bd.exec
  have hby := Bd.bytes
  have hml : ci.maxLocals = 2 := hml0
  have hown : si.vm.findClass "com/example/hedge/hedge/automaton/PairMarks" = some mi.cls := findClass_of_methodNamed Bd.named
  have hnm := (name_of_methodNamed Bd.named Bd.method).1
  have X0 : Stand pg l ev ({ frames := 1, cells := 4, slots := 784, locals := 12 } : Room) si mi #[(.ref o), (.int N)] below meth ci s₁ [] 0 0 := Stand.of_body Bd
  have e0 : s₁.heap = h0 := by rw [← hh, Bd.state]; rfl
  have N0 := Fr.nil n0
  refine Go.start (fun P hP => ?_)
  refine Go.st (fun t_ k_ => castTop (ef_rmI mi o N) k_) (A := s₁.setTop (mkF mi 0 #[.val (.ref o), .val (.int N)] [])) ?_
  show Go pg.tables ev below (s₁.setTop (mkF mi 0 #[.val (.ref o), .val (.int N)] [])) P
  refine Go.st (fun t_ k_ => XS.aloadN X0.here hx rfl (hb hby d_prog_37_method_1_0) rfl rfl k_) ?_
  show Go pg.tables ev below (s₁.setTop (mkF mi 1 #[.val (.ref o), .val (.int N)] [(.ref o)])) P
  obtain ⟨T1, X1, e1, st1⟩ := initO X0 hx hZ hown (hw _ (List.mem_of_getElem? (i := 7) rfl)) (hw _ (List.mem_of_getElem? (i := 8) rfl)) (hw _ (List.mem_of_getElem? (i := 9) rfl)) e0 (g := (mkF mi 1 #[.val (.ref o), .val (.int N)] [(.ref o)])) rfl (by rw [hml]; rfl) rfl (hb hby d_prog_37_method_1_1) (by decide) (W := 0) (by show 2 * 0 + _ ≤ _; exact Nat.le_of_eq rfl) (by decide)
  refine Go.st st1 ?_
  show Go pg.tables ev below (T1.setTop (mkF mi 4 #[.val (.ref o), .val (.int N)] [])) P
  refine Go.st (fun t_ k_ => XS.aloadN X1.here hx rfl (hb hby d_prog_37_method_1_4) rfl rfl k_) ?_
  show Go pg.tables ev below (T1.setTop (mkF mi 5 #[.val (.ref o), .val (.int N)] [(.ref o)])) P
  refine Go.st (fun t_ k_ => XS.bipush X1.here hx rfl (hb hby d_prog_37_method_1_5) k_) ?_
  show Go pg.tables ev below (T1.setTop (mkF mi 7 #[.val (.ref o), .val (.int N)] [(.int (16 : Int32)), (.ref o)])) P
  obtain ⟨T2, h2, k2, X2, e2, E2, A2, st2⟩ := newP X1 hx hZ (hw _ (List.mem_of_getElem? (i := 10) rfl)) e1 (g := (mkF mi 7 #[.val (.ref o), .val (.int N)] [(.int (16 : Int32)), (.ref o)])) rfl (hb hby d_prog_37_method_1_7) rfl (by decide) (cap := 16) (by decide) (by decide) (by decide) (by decide)
  obtain ⟨b2, g2⟩ : ∃ z, z = h0.size := ⟨_, rfl⟩
  rw [← g2] at A2 st2
  have Zs3 : n0 ≤ h2.size := Nat.le_trans Z0 E2.1
  have KC3 : Keep h0 h2 [o] := (Keep.refl h0 [o]).ext E2
  have g_b2 : n0 ≤ b2 := Nat.le_trans Z0 (Nat.le_of_eq g2.symm)
  have sz_b2 : h0.size ≤ b2 := Nat.le_trans (Keep.refl h0 [o]).1 (Nat.le_of_eq g2.symm)
  have ne_o_b2 : o ≠ b2 := Nat.ne_of_lt (Nat.lt_of_lt_of_le E0.lt (Nat.le_of_eq g2.symm))
  have V2 : Arv Z h2 b2 k2 .int (16 : Int32) [(.int (0 : Int32)), (.int (0 : Int32)), (.int (0 : Int32)), (.int (0 : Int32)), (.int (0 : Int32)), (.int (0 : Int32)), (.int (0 : Int32)), (.int (0 : Int32)), (.int (0 : Int32)), (.int (0 : Int32)), (.int (0 : Int32)), (.int (0 : Int32)), (.int (0 : Int32)), (.int (0 : Int32)), (.int (0 : Int32)), (.int (0 : Int32))] (.int (0 : Int32)) := (Arv.new A2 (by decide)).pad (pad_rep [] (.int (0 : Int32)) 16)
  refine Go.st st2 ?_
  show Go pg.tables ev below (T2.setTop (mkF mi 9 #[.val (.ref o), .val (.int N)] [(.ref b2), (.ref o)])) P
  have f4 := (F0_0.ext E2)
  have f5 := (E0.ext E2)
  obtain ⟨T6, h6, X6, e6, W6, st6⟩ := putF X2 hx hZ hown (host := "") (Or.inl (hw _ (List.mem_of_getElem? (i := 11) rfl))) Via.refl e2 f4 f5 (Or.inl (hw _ (List.mem_of_getElem? (i := 12) rfl))) (hw _ (List.mem_of_getElem? (i := 2) rfl)) (ty := (.array .int)) (by decide) rfl rfl (g := (mkF mi 9 #[.val (.ref o), .val (.int N)] [(.ref b2), (.ref o)])) rfl rfl (hb hby d_prog_37_method_1_9)
  have Zs7 : n0 ≤ h6.size := Nat.le_trans Zs3 (Keep.of_wr W6).1
  have KC7 : Keep h0 h6 [o] := KC3.wr W6 (Or.inl (List.mem_of_getElem? (i := 0) rfl))
  have N7 := Fr.snoc X6 N0 ge0
  have F6 : Fld Z h6 o "com/example/hedge/hedge/automaton/PairMarks" "rows" "[I" (.ref b2) := f4.same W6
  refine Go.st st6 ?_
  show Go pg.tables ev below (T6.setTop (mkF mi 12 #[.val (.ref o), .val (.int N)] [])) P
  refine Go.st (fun t_ k_ => XS.iloadN X6.here hx rfl (hb hby d_prog_37_method_1_12) rfl k_) ?_
  show Go pg.tables ev below (T6.setTop (mkF mi 13 #[.val (.ref o), .val (.int N)] [(.int N)])) P
  refine Go.st (X6.ldcInt hx hown (mvT hZ (hw _ (List.mem_of_getElem? (i := 13) rfl))) (g := (mkF mi 13 #[.val (.ref o), .val (.int N)] [(.int N)])) rfl (hb hby d_prog_37_method_1_13)) ?_
  show Go pg.tables ev below (T6.setTop (mkF mi 15 #[.val (.ref o), .val (.int N)] [(.int (536870911 : Int32)), (.int N)])) P
  refine Go.st (fun t_ k_ => XS.icmpYes X6.here hx rfl (pc0 := 15) (pc' := 32) rfl (hb hby d_prog_37_method_1_15) rfl (tlt hlt).1 (by decide) (by decide) k_) ?_
  show Go pg.tables ev below (T6.setTop (mkF mi 32 #[.val (.ref o), .val (.int N)] [])) P
  refine Go.st (fun t_ k_ => XS.aloadN X6.here hx rfl (hb hby d_prog_37_method_1_32) rfl rfl k_) ?_
  show Go pg.tables ev below (T6.setTop (mkF mi 33 #[.val (.ref o), .val (.int N)] [(.ref o)])) P
  refine Go.st (fun t_ k_ => XS.iloadN X6.here hx rfl (hb hby d_prog_37_method_1_33) rfl k_) ?_
  show Go pg.tables ev below (T6.setTop (mkF mi 34 #[.val (.ref o), .val (.int N)] [(.int N), (.ref o)])) P
  refine Go.st (fun t_ k_ => XS.bipush X6.here hx rfl (hb hby d_prog_37_method_1_34) k_) ?_
  show Go pg.tables ev below (T6.setTop (mkF mi 36 #[.val (.ref o), .val (.int N)] [(.int (31 : Int32)), (.int N), (.ref o)])) P
  refine Go.st (fun t_ k_ => XS.iadd X6.here hx rfl (hb hby d_prog_37_method_1_36) rfl k_) ?_
  show Go pg.tables ev below (T6.setTop (mkF mi 37 #[.val (.ref o), .val (.int N)] [(.int (N + (31 : Int32))), (.ref o)])) P
  refine Go.st (fun t_ k_ => XS.iconst X6.here hx rfl (hb hby d_prog_37_method_1_37) k_) ?_
  show Go pg.tables ev below (T6.setTop (mkF mi 38 #[.val (.ref o), .val (.int N)] [(.int (5 : Int32)), (.int (N + (31 : Int32))), (.ref o)])) P
  refine Go.st (fun t_ k_ => XS.iushr X6.here hx rfl (hb hby d_prog_37_method_1_38) rfl k_) ?_
  show Go pg.tables ev below (T6.setTop (mkF mi 39 #[.val (.ref o), .val (.int N)] [(.int (((N + (31 : Int32)).toUInt32 >>> ((5 : Int32) &&& 31).toUInt32).toInt32)), (.ref o)])) P
  have f8 := ((F4_0.ext E2).other W6 (Or.inr (slot_ne (Or.inr (hw _ (List.mem_of_getElem? (i := 15) rfl))) (Or.inl (hw _ (List.mem_of_getElem? (i := 12) rfl))) (by decide) (t := .int) (t' := (.array .int)) (by decide) (by decide))))
  have f9 := (f5.wr W6)
  obtain ⟨T10, h10, X10, e10, W10, st10⟩ := putF X6 hx hZ hown (host := "") (Or.inl (hw _ (List.mem_of_getElem? (i := 14) rfl))) Via.refl e6 f8 f9 (Or.inr ⟨(hw _ (List.mem_of_getElem? (i := 15) rfl)), rfl, hnm⟩) (hw _ (List.mem_of_getElem? (i := 2) rfl)) (ty := .int) (by decide) rfl rfl (g := (mkF mi 39 #[.val (.ref o), .val (.int N)] [(.int (((N + (31 : Int32)).toUInt32 >>> ((5 : Int32) &&& 31).toUInt32).toInt32)), (.ref o)])) rfl rfl (hb hby d_prog_37_method_1_39)
  have Zs11 : n0 ≤ h10.size := Nat.le_trans Zs7 (Keep.of_wr W10).1
  have KC11 : Keep h0 h10 [o] := KC7.wr W10 (Or.inl (List.mem_of_getElem? (i := 0) rfl))
  have N11 := Fr.snoc X10 N7 ge0
  have F10 : Fld Z h10 o "com/example/hedge/hedge/automaton/PairMarks" "words" "I" (.int (((N + (31 : Int32)).toUInt32 >>> ((5 : Int32) &&& 31).toUInt32).toInt32)) := f8.same W10
  refine Go.st st10 ?_
  show Go pg.tables ev below (T10.setTop (mkF mi 42 #[.val (.ref o), .val (.int N)] [])) P
  refine Go.st (fun t_ k_ => XS.aloadN X10.here hx rfl (hb hby d_prog_37_method_1_42) rfl rfl k_) ?_
  show Go pg.tables ev below (T10.setTop (mkF mi 43 #[.val (.ref o), .val (.int N)] [(.ref o)])) P
  refine Go.st (fun t_ k_ => XS.iloadN X10.here hx rfl (hb hby d_prog_37_method_1_43) rfl k_) ?_
  show Go pg.tables ev below (T10.setTop (mkF mi 44 #[.val (.ref o), .val (.int N)] [(.int N), (.ref o)])) P
  have f12 := (f9.wr W10)
  have f13 := ((V2.other W6 (Ne.symm ne_o_b2)).other W10 (Ne.symm ne_o_b2))
  obtain ⟨T14, h14, k14, X14, e14, E14, A14, EX14, O14, st14⟩ := newRA X10 hx hZ hown (C := "[I") (ty := .int) (by decide) (hw _ (List.mem_of_getElem? (i := 16) rfl)) (hw _ (List.mem_of_getElem? (i := 17) rfl)) e10 (g := (mkF mi 44 #[.val (.ref o), .val (.int N)] [(.int N), (.ref o)])) rfl (hb hby d_prog_37_method_1_44) rfl hcap.1 (cap := 256) hcap.2 (by decide) (by decide) (by decide) (ad := "[[I") (by decide)
  obtain ⟨b14, g14⟩ : ∃ z, z = h10.size := ⟨_, rfl⟩
  rw [← g14] at A14 EX14 st14
  have Zs15 : n0 ≤ h14.size := Nat.le_trans Zs11 E14.1
  have KC15 : Keep h0 h14 [o] := KC11.ext E14
  have g_b14 : n0 ≤ b14 := Nat.le_trans Zs11 (Nat.le_of_eq g14.symm)
  have sz_b14 : h0.size ≤ b14 := Nat.le_trans KC11.1 (Nat.le_of_eq g14.symm)
  have ne_o_b14 : o ≠ b14 := Nat.ne_of_lt (Nat.lt_of_lt_of_le f12.lt (Nat.le_of_eq g14.symm))
  have ne_b2_b14 : b2 ≠ b14 := Nat.ne_of_lt (Nat.lt_of_lt_of_le f13.lt (Nat.le_of_eq g14.symm))
  have V14 : Arh Z h14 b14 k14 (.array .int) N [] [] .null := (Arv.new A14 hcap.1).arh
  refine Go.st st14 ?_
  show Go pg.tables ev below (T14.setTop (mkF mi 47 #[.val (.ref o), .val (.int N)] [(.ref b14), (.ref o)])) P
  have f16 := ((((F1_0.ext E2).other W6 (Or.inr (slot_ne (Or.inr (hw _ (List.mem_of_getElem? (i := 19) rfl))) (Or.inl (hw _ (List.mem_of_getElem? (i := 12) rfl))) (by decide) (t := (.array (.array .int))) (t' := (.array .int)) (by decide) (by decide)))).other W10 (Or.inr (slot_ne (Or.inr (hw _ (List.mem_of_getElem? (i := 19) rfl))) (Or.inr (hw _ (List.mem_of_getElem? (i := 15) rfl))) (by decide) (t := (.array (.array .int))) (t' := .int) (by decide) (by decide)))).ext E14)
  have f17 := (f12.ext E14)
  obtain ⟨T18, h18, X18, e18, W18, st18⟩ := putF X14 hx hZ hown (host := "") (Or.inl (hw _ (List.mem_of_getElem? (i := 18) rfl))) Via.refl e14 f16 f17 (Or.inr ⟨(hw _ (List.mem_of_getElem? (i := 19) rfl)), rfl, hnm⟩) (hw _ (List.mem_of_getElem? (i := 2) rfl)) (ty := (.array (.array .int))) (by decide) rfl rfl (g := (mkF mi 47 #[.val (.ref o), .val (.int N)] [(.ref b14), (.ref o)])) rfl rfl (hb hby d_prog_37_method_1_47)
  have Zs19 : n0 ≤ h18.size := Nat.le_trans Zs15 (Keep.of_wr W18).1
  have KC19 : Keep h0 h18 [o] := KC15.wr W18 (Or.inl (List.mem_of_getElem? (i := 0) rfl))
  have N19 := Fr.snoc X18 N11 ge0
  have F18 : Fld Z h18 o "com/example/hedge/hedge/automaton/PairMarks" "tables" "[[I" (.ref b14) := f16.same W18
  refine Go.st st18 ?_
  show Go pg.tables ev below (T18.setTop (mkF mi 50 #[.val (.ref o), .val (.int N)] [])) P
  refine Go.st (fun t_ k_ => XS.aloadN X18.here hx rfl (hb hby d_prog_37_method_1_50) rfl rfl k_) ?_
  show Go pg.tables ev below (T18.setTop (mkF mi 51 #[.val (.ref o), .val (.int N)] [(.ref o)])) P
  refine Go.st (fun t_ k_ => XS.iloadN X18.here hx rfl (hb hby d_prog_37_method_1_51) rfl k_) ?_
  show Go pg.tables ev below (T18.setTop (mkF mi 52 #[.val (.ref o), .val (.int N)] [(.int N), (.ref o)])) P
  have f20 := (f17.wr W18)
  have f21 := ((f13.ext E14).other W18 (Ne.symm ne_o_b2))
  have f22 := (V14.other W18 (Ne.symm ne_o_b14))
  obtain ⟨T23, h23, k23, X23, e23, E23, A23, st23⟩ := newP X18 hx hZ (hw _ (List.mem_of_getElem? (i := 10) rfl)) e18 (g := (mkF mi 52 #[.val (.ref o), .val (.int N)] [(.int N), (.ref o)])) rfl (hb hby d_prog_37_method_1_52) rfl hcap.1 (cap := 256) hcap.2 (by decide) (by decide) (by decide)
  obtain ⟨b23, g23⟩ : ∃ z, z = h18.size := ⟨_, rfl⟩
  rw [← g23] at A23 st23
  have Zs24 : n0 ≤ h23.size := Nat.le_trans Zs19 E23.1
  have KC24 : Keep h0 h23 [o] := KC19.ext E23
  have g_b23 : n0 ≤ b23 := Nat.le_trans Zs19 (Nat.le_of_eq g23.symm)
  have sz_b23 : h0.size ≤ b23 := Nat.le_trans KC19.1 (Nat.le_of_eq g23.symm)
  have ne_o_b23 : o ≠ b23 := Nat.ne_of_lt (Nat.lt_of_lt_of_le f20.lt (Nat.le_of_eq g23.symm))
  have ne_b2_b23 : b2 ≠ b23 := Nat.ne_of_lt (Nat.lt_of_lt_of_le f21.lt (Nat.le_of_eq g23.symm))
  have ne_b14_b23 : b14 ≠ b23 := Nat.ne_of_lt (Nat.lt_of_lt_of_le f22.lt (Nat.le_of_eq g23.symm))
  have V23 : Arh Z h23 b23 k23 .int N [] [] (.int (0 : Int32)) := (Arv.new A23 hcap.1).arh
  refine Go.st st23 ?_
  show Go pg.tables ev below (T23.setTop (mkF mi 54 #[.val (.ref o), .val (.int N)] [(.ref b23), (.ref o)])) P
  have f25 := ((((((F2_0.ext E2).other W6 (Or.inr (slot_ne (Or.inr (hw _ (List.mem_of_getElem? (i := 21) rfl))) (Or.inl (hw _ (List.mem_of_getElem? (i := 12) rfl))) (by decide) (t := (.array .int)) (t' := (.array .int)) (by decide) (by decide)))).other W10 (Or.inr (slot_ne (Or.inr (hw _ (List.mem_of_getElem? (i := 21) rfl))) (Or.inr (hw _ (List.mem_of_getElem? (i := 15) rfl))) (by decide) (t := (.array .int)) (t' := .int) (by decide) (by decide)))).ext E14).other W18 (Or.inr (slot_ne (Or.inr (hw _ (List.mem_of_getElem? (i := 21) rfl))) (Or.inr (hw _ (List.mem_of_getElem? (i := 19) rfl))) (by decide) (t := (.array .int)) (t' := (.array (.array .int))) (by decide) (by decide)))).ext E23)
  have f26 := (f20.ext E23)
  obtain ⟨T27, h27, X27, e27, W27, st27⟩ := putF X23 hx hZ hown (host := "") (Or.inl (hw _ (List.mem_of_getElem? (i := 20) rfl))) Via.refl e23 f25 f26 (Or.inr ⟨(hw _ (List.mem_of_getElem? (i := 21) rfl)), rfl, hnm⟩) (hw _ (List.mem_of_getElem? (i := 2) rfl)) (ty := (.array .int)) (by decide) rfl rfl (g := (mkF mi 54 #[.val (.ref o), .val (.int N)] [(.ref b23), (.ref o)])) rfl rfl (hb hby d_prog_37_method_1_54)
  have Zs28 : n0 ≤ h27.size := Nat.le_trans Zs24 (Keep.of_wr W27).1
  have KC28 : Keep h0 h27 [o] := KC24.wr W27 (Or.inl (List.mem_of_getElem? (i := 0) rfl))
  have N28 := Fr.snoc X27 N19 ge0
  have F27 : Fld Z h27 o "com/example/hedge/hedge/automaton/PairMarks" "sizes" "[I" (.ref b23) := f25.same W27
  refine Go.st st27 ?_
  show Go pg.tables ev below (T27.setTop (mkF mi 57 #[.val (.ref o), .val (.int N)] [])) P
  refine Go.st (fun t_ k_ => XS.aloadN X27.here hx rfl (hb hby d_prog_37_method_1_57) rfl rfl k_) ?_
  show Go pg.tables ev below (T27.setTop (mkF mi 58 #[.val (.ref o), .val (.int N)] [(.ref o)])) P
  refine Go.st (fun t_ k_ => XS.iloadN X27.here hx rfl (hb hby d_prog_37_method_1_58) rfl k_) ?_
  show Go pg.tables ev below (T27.setTop (mkF mi 59 #[.val (.ref o), .val (.int N)] [(.int N), (.ref o)])) P
  have f29 := (f26.wr W27)
  have f30 := ((f21.ext E23).other W27 (Ne.symm ne_o_b2))
  have f31 := ((f22.ext E23).other W27 (Ne.symm ne_o_b14))
  have f32 := (V23.other W27 (Ne.symm ne_o_b23))
  obtain ⟨T33, h33, k33, X33, e33, E33, A33, EX33, O33, st33⟩ := newRA X27 hx hZ hown (C := "[J") (ty := .long) (by decide) (hw _ (List.mem_of_getElem? (i := 22) rfl)) (hw _ (List.mem_of_getElem? (i := 23) rfl)) e27 (g := (mkF mi 59 #[.val (.ref o), .val (.int N)] [(.int N), (.ref o)])) rfl (hb hby d_prog_37_method_1_59) rfl hcap.1 (cap := 256) hcap.2 (by decide) (by decide) (by decide) (ad := "[[J") (by decide)
  obtain ⟨b33, g33⟩ : ∃ z, z = h27.size := ⟨_, rfl⟩
  rw [← g33] at A33 EX33 st33
  have Zs34 : n0 ≤ h33.size := Nat.le_trans Zs28 E33.1
  have KC34 : Keep h0 h33 [o] := KC28.ext E33
  have g_b33 : n0 ≤ b33 := Nat.le_trans Zs28 (Nat.le_of_eq g33.symm)
  have sz_b33 : h0.size ≤ b33 := Nat.le_trans KC28.1 (Nat.le_of_eq g33.symm)
  have ne_o_b33 : o ≠ b33 := Nat.ne_of_lt (Nat.lt_of_lt_of_le f29.lt (Nat.le_of_eq g33.symm))
  have ne_b2_b33 : b2 ≠ b33 := Nat.ne_of_lt (Nat.lt_of_lt_of_le f30.lt (Nat.le_of_eq g33.symm))
  have ne_b14_b33 : b14 ≠ b33 := Nat.ne_of_lt (Nat.lt_of_lt_of_le f31.lt (Nat.le_of_eq g33.symm))
  have ne_b23_b33 : b23 ≠ b33 := Nat.ne_of_lt (Nat.lt_of_lt_of_le f32.lt (Nat.le_of_eq g33.symm))
  have V33 : Arh Z h33 b33 k33 (.array .long) N [] [] .null := (Arv.new A33 hcap.1).arh
  refine Go.st st33 ?_
  show Go pg.tables ev below (T33.setTop (mkF mi 62 #[.val (.ref o), .val (.int N)] [(.ref b33), (.ref o)])) P
  have f35 := ((((((((F3_0.ext E2).other W6 (Or.inr (slot_ne (Or.inr (hw _ (List.mem_of_getElem? (i := 25) rfl))) (Or.inl (hw _ (List.mem_of_getElem? (i := 12) rfl))) (by decide) (t := (.array (.array .long))) (t' := (.array .int)) (by decide) (by decide)))).other W10 (Or.inr (slot_ne (Or.inr (hw _ (List.mem_of_getElem? (i := 25) rfl))) (Or.inr (hw _ (List.mem_of_getElem? (i := 15) rfl))) (by decide) (t := (.array (.array .long))) (t' := .int) (by decide) (by decide)))).ext E14).other W18 (Or.inr (slot_ne (Or.inr (hw _ (List.mem_of_getElem? (i := 25) rfl))) (Or.inr (hw _ (List.mem_of_getElem? (i := 19) rfl))) (by decide) (t := (.array (.array .long))) (t' := (.array (.array .int))) (by decide) (by decide)))).ext E23).other W27 (Or.inr (slot_ne (Or.inr (hw _ (List.mem_of_getElem? (i := 25) rfl))) (Or.inr (hw _ (List.mem_of_getElem? (i := 21) rfl))) (by decide) (t := (.array (.array .long))) (t' := (.array .int)) (by decide) (by decide)))).ext E33)
  have f36 := (f29.ext E33)
  obtain ⟨T37, h37, X37, e37, W37, st37⟩ := putF X33 hx hZ hown (host := "") (Or.inl (hw _ (List.mem_of_getElem? (i := 24) rfl))) Via.refl e33 f35 f36 (Or.inr ⟨(hw _ (List.mem_of_getElem? (i := 25) rfl)), rfl, hnm⟩) (hw _ (List.mem_of_getElem? (i := 2) rfl)) (ty := (.array (.array .long))) (by decide) rfl rfl (g := (mkF mi 62 #[.val (.ref o), .val (.int N)] [(.ref b33), (.ref o)])) rfl rfl (hb hby d_prog_37_method_1_62)
  have Zs38 : n0 ≤ h37.size := Nat.le_trans Zs34 (Keep.of_wr W37).1
  have KC38 : Keep h0 h37 [o] := KC34.wr W37 (Or.inl (List.mem_of_getElem? (i := 0) rfl))
  have N38 := Fr.snoc X37 N28 ge0
  have F37 : Fld Z h37 o "com/example/hedge/hedge/automaton/PairMarks" "bitmaps" "[[J" (.ref b33) := f35.same W37
  refine Go.st st37 ?_
  show Go pg.tables ev below (T37.setTop (mkF mi 65 #[.val (.ref o), .val (.int N)] [])) P
  obtain ⟨fs, hr, hrun, hended, hW, hsame⟩ := X37.leave (v := none) (fun _ => rfl) (BodyLoose.notSynchronized Bd)
  have f39 := (((((((F6.other W10 (Or.inr (slot_ne (Or.inl (hw _ (List.mem_of_getElem? (i := 12) rfl))) (Or.inr (hw _ (List.mem_of_getElem? (i := 15) rfl))) (by decide) (t := (.array .int)) (t' := .int) (by decide) (by decide)))).ext E14).other W18 (Or.inr (slot_ne (Or.inl (hw _ (List.mem_of_getElem? (i := 12) rfl))) (Or.inr (hw _ (List.mem_of_getElem? (i := 19) rfl))) (by decide) (t := (.array .int)) (t' := (.array (.array .int))) (by decide) (by decide)))).ext E23).other W27 (Or.inr (slot_ne (Or.inl (hw _ (List.mem_of_getElem? (i := 12) rfl))) (Or.inr (hw _ (List.mem_of_getElem? (i := 21) rfl))) (by decide) (t := (.array .int)) (t' := (.array .int)) (by decide) (by decide)))).ext E33).other W37 (Or.inr (slot_ne (Or.inl (hw _ (List.mem_of_getElem? (i := 12) rfl))) (Or.inr (hw _ (List.mem_of_getElem? (i := 25) rfl))) (by decide) (t := (.array .int)) (t' := (.array (.array .long))) (by decide) (by decide))))
  have f40 := ((((F18.ext E23).other W27 (Or.inr (slot_ne (Or.inr (hw _ (List.mem_of_getElem? (i := 19) rfl))) (Or.inr (hw _ (List.mem_of_getElem? (i := 21) rfl))) (by decide) (t := (.array (.array .int))) (t' := (.array .int)) (by decide) (by decide)))).ext E33).other W37 (Or.inr (slot_ne (Or.inr (hw _ (List.mem_of_getElem? (i := 19) rfl))) (Or.inr (hw _ (List.mem_of_getElem? (i := 25) rfl))) (by decide) (t := (.array (.array .int))) (t' := (.array (.array .long))) (by decide) (by decide))))
  have f41 := ((F27.ext E33).other W37 (Or.inr (slot_ne (Or.inr (hw _ (List.mem_of_getElem? (i := 21) rfl))) (Or.inr (hw _ (List.mem_of_getElem? (i := 25) rfl))) (by decide) (t := (.array .int)) (t' := (.array (.array .long))) (by decide) (by decide))))
  have f42 := ((((((F10.ext E14).other W18 (Or.inr (slot_ne (Or.inr (hw _ (List.mem_of_getElem? (i := 15) rfl))) (Or.inr (hw _ (List.mem_of_getElem? (i := 19) rfl))) (by decide) (t := .int) (t' := (.array (.array .int))) (by decide) (by decide)))).ext E23).other W27 (Or.inr (slot_ne (Or.inr (hw _ (List.mem_of_getElem? (i := 15) rfl))) (Or.inr (hw _ (List.mem_of_getElem? (i := 21) rfl))) (by decide) (t := .int) (t' := (.array .int)) (by decide) (by decide)))).ext E33).other W37 (Or.inr (slot_ne (Or.inr (hw _ (List.mem_of_getElem? (i := 15) rfl))) (Or.inr (hw _ (List.mem_of_getElem? (i := 25) rfl))) (by decide) (t := .int) (t' := (.array (.array .long))) (by decide) (by decide))))
  have f43 := (((((((((F5_0.ext E2).other W6 (Or.inr (slot_ne (Or.inl (hw _ (List.mem_of_getElem? (i := 36) rfl))) (Or.inl (hw _ (List.mem_of_getElem? (i := 12) rfl))) (by decide) (t := .int) (t' := (.array .int)) (by decide) (by decide)))).other W10 (Or.inr (slot_ne (Or.inl (hw _ (List.mem_of_getElem? (i := 36) rfl))) (Or.inr (hw _ (List.mem_of_getElem? (i := 15) rfl))) (by decide) (t := .int) (t' := .int) (by decide) (by decide)))).ext E14).other W18 (Or.inr (slot_ne (Or.inl (hw _ (List.mem_of_getElem? (i := 36) rfl))) (Or.inr (hw _ (List.mem_of_getElem? (i := 19) rfl))) (by decide) (t := .int) (t' := (.array (.array .int))) (by decide) (by decide)))).ext E23).other W27 (Or.inr (slot_ne (Or.inl (hw _ (List.mem_of_getElem? (i := 36) rfl))) (Or.inr (hw _ (List.mem_of_getElem? (i := 21) rfl))) (by decide) (t := .int) (t' := (.array .int)) (by decide) (by decide)))).ext E33).other W37 (Or.inr (slot_ne (Or.inl (hw _ (List.mem_of_getElem? (i := 36) rfl))) (Or.inr (hw _ (List.mem_of_getElem? (i := 25) rfl))) (by decide) (t := .int) (t' := (.array (.array .long))) (by decide) (by decide))))
  have f44 := ((f30.ext E33).other W37 (Ne.symm ne_o_b2))
  have f45 := ((f31.ext E33).other W37 (Ne.symm ne_o_b14))
  have f46 := ((f32.ext E33).other W37 (Ne.symm ne_o_b23))
  have f47 := (V33.other W37 (Ne.symm ne_o_b33))
  refine ⟨_, _, ?_, hP _ _ ⟨hrun, hended, _, _, rfl, ?_, ⟨_, rfl⟩, hW, hsame.mono (by decide) (by decide)⟩⟩
  · exact X37.returnOut hx Bd.returns (hb hby d_prog_37_method_1_65) hr
  · show (none : Option Value) = none ∧ Fr n0 _ ∧ Keep h0 T37.heap [o] ∧ ∃ (rw tb sz bm : Addr) (kR kT kS kB : ClassId), h0.size ≤ rw ∧ h0.size ≤ tb ∧ h0.size ≤ sz ∧ h0.size ≤ bm ∧ n0 ≤ rw ∧ n0 ≤ tb ∧ n0 ≤ sz ∧ n0 ≤ bm ∧ o ≠ rw ∧ o ≠ tb ∧ o ≠ sz ∧ o ≠ bm ∧ rw ≠ tb ∧ rw ≠ sz ∧ rw ≠ bm ∧ tb ≠ sz ∧ tb ≠ bm ∧ sz ≠ bm ∧ Fld Z T37.heap o "com/example/hedge/hedge/automaton/PairMarks" "rows" "[I" (.ref rw) ∧ Fld Z T37.heap o "com/example/hedge/hedge/automaton/PairMarks" "tables" "[[I" (.ref tb) ∧ Fld Z T37.heap o "com/example/hedge/hedge/automaton/PairMarks" "sizes" "[I" (.ref sz) ∧ Fld Z T37.heap o "com/example/hedge/hedge/automaton/PairMarks" "bitmaps" "[[J" (.ref bm) ∧ Fld Z T37.heap o "com/example/hedge/hedge/automaton/PairMarks" "words" "I" (.int (fWd N)) ∧ Fld Z T37.heap o "com/example/hedge/hedge/automaton/PairMarks" "rowCount" "I" (.int (0 : Int32)) ∧ Arv Z T37.heap rw kR .int (16 : Int32) [(.int (0 : Int32)), (.int (0 : Int32)), (.int (0 : Int32)), (.int (0 : Int32)), (.int (0 : Int32)), (.int (0 : Int32)), (.int (0 : Int32)), (.int (0 : Int32)), (.int (0 : Int32)), (.int (0 : Int32)), (.int (0 : Int32)), (.int (0 : Int32)), (.int (0 : Int32)), (.int (0 : Int32)), (.int (0 : Int32)), (.int (0 : Int32))] (.int (0 : Int32)) ∧ Arh Z T37.heap tb kT (.array .int) N [] [] .null ∧ Arh Z T37.heap sz kS .int N [] [] (.int (0 : Int32)) ∧ Arh Z T37.heap bm kB (.array .long) N [] [] .null ∧ OvrA Z kT .int "[I" ∧ OvrA Z kB .long "[J"
    rw [e37]
    exact ⟨rfl, N38, KC38, b2, b14, b23, b33, k2, k14, k23, k33, sz_b2, sz_b14, sz_b23, sz_b33, g_b2, g_b14, g_b23, g_b33, ne_o_b2, ne_o_b14, ne_o_b23, ne_o_b33, ne_b2_b14, ne_b2_b23, ne_b2_b33, ne_b14_b23, ne_b14_b33, ne_b23_b33, f39, f40, f41, F37, f42, f43, f44, f45, f46, f47, O14, O33⟩
theorem d_prog_37_method_10_0 : decode prog_37_method_10_code 0 = .ok (.aload_n 0, 1) := by decide +kernel
theorem d_prog_37_method_10_1 : decode prog_37_method_10_code 1 = .ok (.getfield 91, 3) := by decide +kernel
theorem d_prog_37_method_10_4 : decode prog_37_method_10_code 4 = .ok (.aload_n 0, 1) := by decide +kernel
theorem d_prog_37_method_10_5 : decode prog_37_method_10_code 5 = .ok (.getfield 7, 3) := by decide +kernel
theorem d_prog_37_method_10_8 : decode prog_37_method_10_code 8 = .ok (.arraylength, 1) := by decide +kernel
theorem d_prog_37_method_10_9 : decode prog_37_method_10_code 9 = .ok (.if_icmp .ne 20, 3) := by decide +kernel
theorem d_prog_37_method_10_29 : decode prog_37_method_10_code 29 = .ok (.aload_n 0, 1) := by decide +kernel
theorem d_prog_37_method_10_30 : decode prog_37_method_10_code 30 = .ok (.getfield 7, 3) := by decide +kernel
theorem d_prog_37_method_10_33 : decode prog_37_method_10_code 33 = .ok (.aload_n 0, 1) := by decide +kernel
theorem d_prog_37_method_10_34 : decode prog_37_method_10_code 34 = .ok (.dup, 1) := by decide +kernel
theorem d_prog_37_method_10_35 : decode prog_37_method_10_code 35 = .ok (.getfield 91, 3) := by decide +kernel
theorem d_prog_37_method_10_38 : decode prog_37_method_10_code 38 = .ok (.dup_x1, 1) := by decide +kernel
theorem d_prog_37_method_10_39 : decode prog_37_method_10_code 39 = .ok (.iconst 1, 1) := by decide +kernel
theorem d_prog_37_method_10_40 : decode prog_37_method_10_code 40 = .ok (.iadd, 1) := by decide +kernel
theorem d_prog_37_method_10_41 : decode prog_37_method_10_code 41 = .ok (.putfield 91, 3) := by decide +kernel
theorem d_prog_37_method_10_44 : decode prog_37_method_10_code 44 = .ok (.iload_n 1, 1) := by decide +kernel
theorem d_prog_37_method_10_45 : decode prog_37_method_10_code 45 = .ok (.iastore, 1) := by decide +kernel
theorem d_prog_37_method_10_46 : decode prog_37_method_10_code 46 = .ok (.aload_n 0, 1) := by decide +kernel
theorem d_prog_37_method_10_47 : decode prog_37_method_10_code 47 = .ok (.iconst 4, 1) := by decide +kernel
theorem d_prog_37_method_10_48 : decode prog_37_method_10_code 48 = .ok (.invokevirtual 100, 3) := by decide +kernel
theorem pd_0 : parseMethodDescriptor "(I)Z" = some ⟨[.int], some .boolean⟩ := by decide +kernel
theorem d_prog_37_method_10_51 : decode prog_37_method_10_code 51 = .ok (.ifCond .eq 18, 3) := by decide +kernel
theorem d_prog_37_method_10_54 : decode prog_37_method_10_code 54 = .ok (.aload_n 0, 1) := by decide +kernel
theorem d_prog_37_method_10_55 : decode prog_37_method_10_code 55 = .ok (.getfield 39, 3) := by decide +kernel
theorem d_prog_37_method_10_58 : decode prog_37_method_10_code 58 = .ok (.iload_n 1, 1) := by decide +kernel
theorem d_prog_37_method_10_59 : decode prog_37_method_10_code 59 = .ok (.aload_n 0, 1) := by decide +kernel
theorem d_prog_37_method_10_60 : decode prog_37_method_10_code 60 = .ok (.getfield 25, 3) := by decide +kernel
theorem d_prog_37_method_10_63 : decode prog_37_method_10_code 63 = .ok (.newarray .long, 2) := by decide +kernel
theorem d_prog_37_method_10_65 : decode prog_37_method_10_code 65 = .ok (.aastore, 1) := by decide +kernel
theorem d_prog_37_method_10_66 : decode prog_37_method_10_code 66 = .ok (.goto 12, 3) := by decide +kernel
theorem d_prog_37_method_10_78 : decode prog_37_method_10_code 78 = .ok (.return_, 1) := by decide +kernel
theorem ef_rmBe0B (mi : MethodId) (o : Addr) (f : Int32) (rw : Addr) (tb : Addr) (sz : Addr) (bm : Addr) (kR : ClassId) (kT : ClassId) (kS : ClassId) (kB : ClassId) (N : Int32) (wd : Int32) (hT : List (Int32 × Value)) (hS : List (Int32 × Value)) (hB : List (Int32 × Value)) (vR : List Value) : entryFrame mi #[(.ref o), (.int f)] 2 = mkF mi 0 #[.val (.ref o), .val (.int f)] [] := by first | (simp [entryFrame, mkF, argsToLocals, Value.category]; done) | rfl
def Q_rmBe0B (Z : State) (o : Addr) (f : Int32) (rw : Addr) (tb : Addr) (sz : Addr) (bm : Addr) (kR : ClassId) (kT : ClassId) (kS : ClassId) (kB : ClassId) (N : Int32) (wd : Int32) (hT : List (Int32 × Value)) (hS : List (Int32 × Value)) (hB : List (Int32 × Value)) (vR : List Value) (h0 : Heap) (n0 : Nat) (vv_ : Option Value) (hh_ : Heap) (LL_ : List Loc) : Prop := vv_ = none ∧ Fr n0 LL_ ∧ Keep h0 hh_ [o, rw, bm] ∧ ∃ (x : Addr) (kx : ClassId), h0.size ≤ x ∧ n0 ≤ x ∧ Fld Z hh_ o "com/example/hedge/hedge/automaton/PairMarks" "rows" "[I" (.ref rw) ∧ Fld Z hh_ o "com/example/hedge/hedge/automaton/PairMarks" "tables" "[[I" (.ref tb) ∧ Fld Z hh_ o "com/example/hedge/hedge/automaton/PairMarks" "sizes" "[I" (.ref sz) ∧ Fld Z hh_ o "com/example/hedge/hedge/automaton/PairMarks" "bitmaps" "[[J" (.ref bm) ∧ Fld Z hh_ o "com/example/hedge/hedge/automaton/PairMarks" "words" "I" (.int wd) ∧ Fld Z hh_ o "com/example/hedge/hedge/automaton/PairMarks" "rowCount" "I" (.int (1 : Int32)) ∧ Arv Z hh_ rw kR .int (16 : Int32) (vR.set 0 (.int f)) (.int (0 : Int32)) ∧ Arh Z hh_ bm kB (.array .long) N ((f, .ref x) :: hB) [] .null ∧ Arh Z hh_ x kx .long wd [] [] (.long (0 : Int64))
set_option maxRecDepth 65536 in
set_option maxHeartbeats 40000000 in
theorem rmBe0B (l : Launch) (Z : State) (a0 : Array Value) (hw : ∀ d ∈ tables_1, d.before a0 Z = true) (ws : List Jvm.Cond) (o : Addr) (f : Int32) (rw : Addr) (tb : Addr) (sz : Addr) (bm : Addr) (kR : ClassId) (kT : ClassId) (kS : ClassId) (kB : ClassId) (N : Int32) (wd : Int32) (hT : List (Int32 × Value)) (hS : List (Int32 × Value)) (hB : List (Int32 × Value)) (vR : List Value) (h0 : Heap) (n0 : Nat) (Z0 : n0 ≤ h0.size) (E0 : Exa Z h0 o "com/example/hedge/hedge/automaton/PairMarks") (ge0 : n0 ≤ o) (g_rw : n0 ≤ rw) (g_tb : n0 ≤ tb) (g_sz : n0 ≤ sz) (g_bm : n0 ≤ bm) (ne_o_rw : o ≠ rw) (ne_o_tb : o ≠ tb) (ne_o_sz : o ≠ sz) (ne_o_bm : o ≠ bm) (ne_rw_tb : rw ≠ tb) (ne_rw_sz : rw ≠ sz) (ne_rw_bm : rw ≠ bm) (ne_tb_sz : tb ≠ sz) (ne_tb_bm : tb ≠ bm) (ne_sz_bm : sz ≠ bm) (F0 : Fld Z h0 o "com/example/hedge/hedge/automaton/PairMarks" "rows" "[I" (.ref rw)) (F1 : Fld Z h0 o "com/example/hedge/hedge/automaton/PairMarks" "tables" "[[I" (.ref tb)) (F2 : Fld Z h0 o "com/example/hedge/hedge/automaton/PairMarks" "sizes" "[I" (.ref sz)) (F3 : Fld Z h0 o "com/example/hedge/hedge/automaton/PairMarks" "bitmaps" "[[J" (.ref bm)) (F4 : Fld Z h0 o "com/example/hedge/hedge/automaton/PairMarks" "words" "I" (.int wd)) (F5 : Fld Z h0 o "com/example/hedge/hedge/automaton/PairMarks" "rowCount" "I" (.int (0 : Int32))) (A_rw : Arv Z h0 rw kR .int (16 : Int32) vR (.int (0 : Int32))) (l_rw : vR.length = 16) (A_tb : Arh Z h0 tb kT (.array .int) N hT [] .null) (A_sz : Arh Z h0 sz kS .int N hS [] (.int (0 : Int32))) (A_bm : Arh Z h0 bm kB (.array .long) N hB [] .null) (O_tb : OvrA Z kT .int "[I") (O_bm : OvrA Z kB .long "[J") (hf1 : ¬ f < 0) (hf2 : f < N) (hwo : ¬ ((4 : Int64) < ((2 : Int64) * (wd.toInt64)))) (hwd1 : 1 ≤ wd.toInt) (hwd2 : wd.toInt ≤ 8) :
    MetFree l (⟨"com/example/hedge/hedge/automaton/PairMarks", "begin", "(I)V"⟩ : MethodName) (head1 (Jvm.Cond.code (⟨"com/example/hedge/hedge/automaton/PairMarks", "begin", "(I)V"⟩ : MethodName) prog_37_method_10_code 2 none :: ws) ({ frames := 1, cells := 1, slots := 8, locals := 13 } : Room)) (fun aa_ U => aa_ = #[(.ref o), (.int f)] ∧ Z.Warmed39 U.vm ∧ U.heap = h0) (fun _ _ _ _ _ => True) (fun _ U oo_ UV_ => ∃ vv_ LL_, oo_ = .returned vv_ ∧ Q_rmBe0B Z o f rw tb sz bm kR kT kS kB N wd hT hS hB vR h0 n0 vv_ UV_.heap LL_ ∧ FrameEnd U oo_ UV_ LL_ ({ frames := 1, cells := 1, slots := 8, locals := 13 } : Room).cells ({ frames := 1, cells := 1, slots := 8, locals := 13 } : Room).slots) := by
  refine MetFree.of_bodySF (plainFor_of_name pn_0) hisR ?_
  intro pg ev si mi args below meth ci s₁ Bd hml0 hP0 hK
  obtain ⟨rfl, hZ, hh⟩ := hP0
  have hx := Bd.exec
  have hby := Bd.bytes
  have hml : ci.maxLocals = 2 := hml0
  have hown : si.vm.findClass "com/example/hedge/hedge/automaton/PairMarks" = some mi.cls := findClass_of_methodNamed Bd.named
  have hnm := (name_of_methodNamed Bd.named Bd.method).1
  have X0 : Stand pg l ev ({ frames := 1, cells := 1, slots := 8, locals := 13 } : Room) si mi #[(.ref o), (.int f)] below meth ci s₁ [] 0 0 := Stand.of_body Bd
  have e0 : s₁.heap = h0 := by rw [← hh, Bd.state]; rfl
  have N0 := Fr.nil n0
  refine Go.start (fun P hP => ?_)
  refine Go.st (fun t_ k_ => castTop (ef_rmBe0B mi o f rw tb sz bm kR kT kS kB N wd hT hS hB vR) k_) (A := s₁.setTop (mkF mi 0 #[.val (.ref o), .val (.int f)] [])) ?_
  show Go pg.tables ev below (s₁.setTop (mkF mi 0 #[.val (.ref o), .val (.int f)] [])) P
  refine Go.st (fun t_ k_ => XS.aloadN X0.here hx rfl (hb hby d_prog_37_method_10_0) rfl rfl k_) ?_
  show Go pg.tables ev below (s₁.setTop (mkF mi 1 #[.val (.ref o), .val (.int f)] [(.ref o)])) P
  obtain ⟨T1, X1, e1, st1⟩ := getF X0 hx hZ hown (host := "") (Or.inl (hw _ (List.mem_of_getElem? (i := 35) rfl))) Via.refl e0 F5 (g := (mkF mi 1 #[.val (.ref o), .val (.int f)] [(.ref o)])) rfl rfl (hb hby d_prog_37_method_10_1)
  refine Go.st st1 ?_
  show Go pg.tables ev below (T1.setTop (mkF mi 4 #[.val (.ref o), .val (.int f)] [(.int (0 : Int32))])) P
  refine Go.st (fun t_ k_ => XS.aloadN X1.here hx rfl (hb hby d_prog_37_method_10_4) rfl rfl k_) ?_
  show Go pg.tables ev below (T1.setTop (mkF mi 5 #[.val (.ref o), .val (.int f)] [(.ref o), (.int (0 : Int32))])) P
  obtain ⟨T2, X2, e2, st2⟩ := getF X1 hx hZ hown (host := "") (Or.inl (hw _ (List.mem_of_getElem? (i := 11) rfl))) Via.refl e1 F0 (g := (mkF mi 5 #[.val (.ref o), .val (.int f)] [(.ref o), (.int (0 : Int32))])) rfl rfl (hb hby d_prog_37_method_10_5)
  refine Go.st st2 ?_
  show Go pg.tables ev below (T2.setTop (mkF mi 8 #[.val (.ref o), .val (.int f)] [(.ref rw), (.int (0 : Int32))])) P
  have ov3 := A_rw
  obtain ⟨cl3, Ar3, q3, S3, M3, H3, G3⟩ := ov3
  refine Go.st (X2.arraylength hx (by rw [e2]; exact Ar3.1) (State.isArrayOf_alike hZ.alike Ar3.2.1) (g := (mkF mi 8 #[.val (.ref o), .val (.int f)] [(.ref rw), (.int (0 : Int32))])) rfl rfl (hb hby d_prog_37_method_10_8)) ?_
  rw [len_of S3 M3]
  show Go pg.tables ev below (T2.setTop (mkF mi 9 #[.val (.ref o), .val (.int f)] [(.int (16 : Int32)), (.int (0 : Int32))])) P
  refine Go.st (fun t_ k_ => XS.icmpYes X2.here hx rfl (pc0 := 9) (pc' := 29) rfl (hb hby d_prog_37_method_10_9) rfl (feq (by decide)).2 (by decide) (by decide) k_) ?_
  show Go pg.tables ev below (T2.setTop (mkF mi 29 #[.val (.ref o), .val (.int f)] [])) P
  refine Go.st (fun t_ k_ => XS.aloadN X2.here hx rfl (hb hby d_prog_37_method_10_29) rfl rfl k_) ?_
  show Go pg.tables ev below (T2.setTop (mkF mi 30 #[.val (.ref o), .val (.int f)] [(.ref o)])) P
  obtain ⟨T4, X4, e4, st4⟩ := getF X2 hx hZ hown (host := "") (Or.inl (hw _ (List.mem_of_getElem? (i := 11) rfl))) Via.refl e2 F0 (g := (mkF mi 30 #[.val (.ref o), .val (.int f)] [(.ref o)])) rfl rfl (hb hby d_prog_37_method_10_30)
  refine Go.st st4 ?_
  show Go pg.tables ev below (T4.setTop (mkF mi 33 #[.val (.ref o), .val (.int f)] [(.ref rw)])) P
  refine Go.st (fun t_ k_ => XS.aloadN X4.here hx rfl (hb hby d_prog_37_method_10_33) rfl rfl k_) ?_
  show Go pg.tables ev below (T4.setTop (mkF mi 34 #[.val (.ref o), .val (.int f)] [(.ref o), (.ref rw)])) P
  refine Go.st (fun t_ k_ => XS.dup X4.here hx rfl (hb hby d_prog_37_method_10_34) rfl rfl k_) ?_
  show Go pg.tables ev below (T4.setTop (mkF mi 35 #[.val (.ref o), .val (.int f)] [(.ref o), (.ref o), (.ref rw)])) P
  obtain ⟨T5, X5, e5, st5⟩ := getF X4 hx hZ hown (host := "") (Or.inl (hw _ (List.mem_of_getElem? (i := 35) rfl))) Via.refl e4 F5 (g := (mkF mi 35 #[.val (.ref o), .val (.int f)] [(.ref o), (.ref o), (.ref rw)])) rfl rfl (hb hby d_prog_37_method_10_35)
  refine Go.st st5 ?_
  show Go pg.tables ev below (T5.setTop (mkF mi 38 #[.val (.ref o), .val (.int f)] [(.int (0 : Int32)), (.ref o), (.ref rw)])) P
  refine Go.st (fun t_ k_ => XS.dupX1 X5.here hx rfl (hb hby d_prog_37_method_10_38) rfl rfl rfl k_) ?_
  show Go pg.tables ev below (T5.setTop (mkF mi 39 #[.val (.ref o), .val (.int f)] [(.int (0 : Int32)), (.ref o), (.int (0 : Int32)), (.ref rw)])) P
  refine Go.st (fun t_ k_ => XS.iconst X5.here hx rfl (hb hby d_prog_37_method_10_39) k_) ?_
  show Go pg.tables ev below (T5.setTop (mkF mi 40 #[.val (.ref o), .val (.int f)] [(.int (1 : Int32)), (.int (0 : Int32)), (.ref o), (.int (0 : Int32)), (.ref rw)])) P
  refine Go.st (fun t_ k_ => XS.iadd X5.here hx rfl (hb hby d_prog_37_method_10_40) rfl k_) ?_
  show Go pg.tables ev below (T5.setTop (mkF mi 41 #[.val (.ref o), .val (.int f)] [(.int (1 : Int32)), (.ref o), (.int (0 : Int32)), (.ref rw)])) P
  obtain ⟨T6, h6, X6, e6, W6, st6⟩ := putF X5 hx hZ hown (host := "") (Or.inl (hw _ (List.mem_of_getElem? (i := 35) rfl))) Via.refl e5 F5 E0 (Or.inl (hw _ (List.mem_of_getElem? (i := 36) rfl))) (hw _ (List.mem_of_getElem? (i := 2) rfl)) (ty := .int) (by decide) rfl rfl (g := (mkF mi 41 #[.val (.ref o), .val (.int f)] [(.int (1 : Int32)), (.ref o), (.int (0 : Int32)), (.ref rw)])) rfl rfl (hb hby d_prog_37_method_10_41)
  have Zs7 : n0 ≤ h6.size := Nat.le_trans Z0 (Keep.of_wr W6).1
  have KC7 : Keep h0 h6 [o, rw, bm] := (Keep.refl h0 [o, rw, bm]).wr W6 (Or.inl (List.mem_of_getElem? (i := 0) rfl))
  have N7 := Fr.snoc X6 N0 ge0
  have F6 : Fld Z h6 o "com/example/hedge/hedge/automaton/PairMarks" "rowCount" "I" (.int (1 : Int32)) := F5.same W6
  refine Go.st st6 ?_
  show Go pg.tables ev below (T6.setTop (mkF mi 44 #[.val (.ref o), .val (.int f)] [(.int (0 : Int32)), (.ref rw)])) P
  refine Go.st (fun t_ k_ => XS.iloadN X6.here hx rfl (hb hby d_prog_37_method_10_44) rfl k_) ?_
  show Go pg.tables ev below (T6.setTop (mkF mi 45 #[.val (.ref o), .val (.int f)] [(.int f), (.int (0 : Int32)), (.ref rw)])) P
  have f8 := (A_rw.other W6 (Ne.symm ne_o_rw))
  have ov9 := f8
  obtain ⟨cl9, Ar9, q9, S9, M9, H9, G9⟩ := ov9
  have hin9 : ¬ ((0 : Int32) < 0 ∨ cl9.slots.size ≤ ((0 : Int32)).toNatClampNeg) := inb_of S9 ⟨by decide, by decide⟩
  obtain ⟨T10, h10, X10, e10, W10, st10⟩ := stI X6 hx hZ e6 Ar9 (j := (0 : Int32)) hin9 (g := (mkF mi 45 #[.val (.ref o), .val (.int f)] [(.int f), (.int (0 : Int32)), (.ref rw)])) rfl rfl (hb hby d_prog_37_method_10_45)
  have Zs11 : n0 ≤ h10.size := Nat.le_trans Zs7 (Keep.of_wr W10).1
  have KC11 : Keep h0 h10 [o, rw, bm] := KC7.wr W10 (Or.inl (List.mem_of_getElem? (i := 1) rfl))
  have N11 := Fr.snoc X10 N7 g_rw
  have vl10 : (vR.set 0 (.int f)).length = 16 := List.length_set.trans l_rw
  have V10 : Arv Z h10 rw kR .int (16 : Int32) (vR.set 0 (.int f)) (.int (0 : Int32)) := Arv.set Ar9 q9 S9 M9 H9 G9 rfl W10 0 rfl (by rw [l_rw]; decide)
  refine Go.st st10 ?_
  show Go pg.tables ev below (T10.setTop (mkF mi 46 #[.val (.ref o), .val (.int f)] [])) P
  refine Go.st (fun t_ k_ => XS.aloadN X10.here hx rfl (hb hby d_prog_37_method_10_46) rfl rfl k_) ?_
  show Go pg.tables ev below (T10.setTop (mkF mi 47 #[.val (.ref o), .val (.int f)] [(.ref o)])) P
  refine Go.st (fun t_ k_ => XS.iconst X10.here hx rfl (hb hby d_prog_37_method_10_47) k_) ?_
  show Go pg.tables ev below (T10.setTop (mkF mi 48 #[.val (.ref o), .val (.int f)] [(.int (4 : Int32)), (.ref o)])) P
  have f13 := ((E0.wr W6).wr W10)
  have f14 := ((F4.other W6 (Or.inr (slot_ne (Or.inr (hw _ (List.mem_of_getElem? (i := 15) rfl))) (Or.inl (hw _ (List.mem_of_getElem? (i := 36) rfl))) (by decide) (t := .int) (t' := .int) (by decide) (by decide)))).other W10 (Or.inl ne_o_rw))
  obtain ⟨cq12, q12, q12'⟩ := f13.cell
  obtain ⟨_, _, ⟨T12, L12, k12, n12⟩, -, X12, ⟨Lc12, hQ12, l12, y12, z12⟩, st12⟩ := X10.privateBack hx (y := (⟨"com/example/hedge/hedge/automaton/PairMarks", "isWorthABitmap", "(I)Z"⟩ : MethodName)) hown (mvT hZ (hw _ (List.mem_of_getElem? (i := 37) rfl))) (mvT hZ (hw _ (List.mem_of_getElem? (i := 38) rfl))) (own_selp hZ (hw _ (List.mem_of_getElem? (i := 2) rfl)) (hw _ (List.mem_of_getElem? (i := 39) rfl)) (hw _ (List.mem_of_getElem? (i := 38) rfl))) (Cond.privateMethod_at (mvP hZ (hw _ (List.mem_of_getElem? (i := 39) rfl)) (args := #[]))) (mvT hZ (hw _ (List.mem_of_getElem? (i := 40) rfl))) (by decide) (backOf (W := 0) (rmWo l Z a0 hw [] o wd h10 n0 Zs11 f14) hZ (hw _ (List.mem_of_getElem? (i := 40) rfl)) (hw _ (List.mem_of_getElem? (i := 3) rfl)) (by decide) (by decide)) (g := (mkF mi 48 #[.val (.ref o), .val (.int f)] [(.int (4 : Int32)), (.ref o)])) rfl (by rw [hml]; rfl) (Steps.refl _) (a := o) (by rw [e10]; exact q12) q12' (argsL := [(.int (4 : Int32))]) (rest := []) (lenOf pd_0 rfl) rfl (by show 2 * 0 + _ ≤ _; exact Nat.le_of_eq rfl) (hb hby d_prog_37_method_10_48) (fun _ _ => ⟨rfl, e10, (by decide : 0 + 0 ≤ _), (by decide : 0 + 0 ≤ _)⟩)
  dsimp only [Pt.U, Pt.locs, Pt.cells, Pt.slots] at X12 l12 y12 z12 st12 hQ12
  subst l12 y12 z12
  obtain ⟨rfl, N12q, e12⟩ := hQ12
  have N12 := Fr.app N11 N12q
  refine Go.tr st12 ?_
  show Go pg.tables ev below (T12.setTop (mkF mi 51 #[.val (.ref o), .val (.int f)] [(.int (if (4 : Int64) < ((2 : Int64) * (wd.toInt64)) then (0 : Int32) else (1 : Int32)))])) P
  refine Go.st (fun t_ k_ => XS.ifNo X12.here hx rfl (hb hby d_prog_37_method_10_51) rfl ((if0 _ _).trans (feq (show ¬ ((if (4 : Int64) < ((2 : Int64) * (wd.toInt64)) then (0 : Int32) else (1 : Int32)) = (0 : Int32)) from (by rw [if_neg hwo] <;> decide))).1) k_) ?_
  show Go pg.tables ev below (T12.setTop (mkF mi 54 #[.val (.ref o), .val (.int f)] [])) P
  refine Go.st (fun t_ k_ => XS.aloadN X12.here hx rfl (hb hby d_prog_37_method_10_54) rfl rfl k_) ?_
  show Go pg.tables ev below (T12.setTop (mkF mi 55 #[.val (.ref o), .val (.int f)] [(.ref o)])) P
  have f15 := ((F3.other W6 (Or.inr (slot_ne (Or.inr (hw _ (List.mem_of_getElem? (i := 25) rfl))) (Or.inl (hw _ (List.mem_of_getElem? (i := 36) rfl))) (by decide) (t := (.array (.array .long))) (t' := .int) (by decide) (by decide)))).other W10 (Or.inl ne_o_rw))
  obtain ⟨T16, X16, e16, st16⟩ := getF X12 hx hZ hown (host := "") (Or.inl (hw _ (List.mem_of_getElem? (i := 24) rfl))) Via.refl e12 f15 (g := (mkF mi 55 #[.val (.ref o), .val (.int f)] [(.ref o)])) rfl rfl (hb hby d_prog_37_method_10_55)
  refine Go.st st16 ?_
  show Go pg.tables ev below (T16.setTop (mkF mi 58 #[.val (.ref o), .val (.int f)] [(.ref bm)])) P
  refine Go.st (fun t_ k_ => XS.iloadN X16.here hx rfl (hb hby d_prog_37_method_10_58) rfl k_) ?_
  show Go pg.tables ev below (T16.setTop (mkF mi 59 #[.val (.ref o), .val (.int f)] [(.int f), (.ref bm)])) P
  refine Go.st (fun t_ k_ => XS.aloadN X16.here hx rfl (hb hby d_prog_37_method_10_59) rfl rfl k_) ?_
  show Go pg.tables ev below (T16.setTop (mkF mi 60 #[.val (.ref o), .val (.int f)] [(.ref o), (.int f), (.ref bm)])) P
  obtain ⟨T17, X17, e17, st17⟩ := getF X16 hx hZ hown (host := "") (Or.inl (hw _ (List.mem_of_getElem? (i := 14) rfl))) Via.refl e16 f14 (g := (mkF mi 60 #[.val (.ref o), .val (.int f)] [(.ref o), (.int f), (.ref bm)])) rfl rfl (hb hby d_prog_37_method_10_60)
  refine Go.st st17 ?_
  show Go pg.tables ev below (T17.setTop (mkF mi 63 #[.val (.ref o), .val (.int f)] [(.int wd), (.int f), (.ref bm)])) P
  have f18 := ((A_tb.other W6 (Ne.symm ne_o_tb)).other W10 (Ne.symm ne_rw_tb))
  have f19 := ((A_sz.other W6 (Ne.symm ne_o_sz)).other W10 (Ne.symm ne_rw_sz))
  have f20 := ((A_bm.other W6 (Ne.symm ne_o_bm)).other W10 (Ne.symm ne_rw_bm))
  obtain ⟨T21, h21, k21, X21, e21, E21, A21, EX21, st21⟩ := newPE X17 hx hZ (hw _ (List.mem_of_getElem? (i := 42) rfl)) e17 (g := (mkF mi 63 #[.val (.ref o), .val (.int f)] [(.int wd), (.int f), (.ref bm)])) rfl (hb hby d_prog_37_method_10_63) rfl (own_cap (k := 8) hwd1 hwd2).1 (cap := 8) (own_cap (k := 8) hwd1 hwd2).2 (by decide) (by decide) (by decide) (ad := "[J") (by decide)
  obtain ⟨b21, g21⟩ : ∃ z, z = h10.size := ⟨_, rfl⟩
  rw [← g21] at A21 EX21 st21
  have Zs22 : n0 ≤ h21.size := Nat.le_trans Zs11 E21.1
  have KC22 : Keep h0 h21 [o, rw, bm] := KC11.ext E21
  have g_b21 : n0 ≤ b21 := Nat.le_trans Zs11 (Nat.le_of_eq g21.symm)
  have sz_b21 : h0.size ≤ b21 := Nat.le_trans KC11.1 (Nat.le_of_eq g21.symm)
  have ne_o_b21 : o ≠ b21 := Nat.ne_of_lt (Nat.lt_of_lt_of_le f13.lt (Nat.le_of_eq g21.symm))
  have ne_rw_b21 : rw ≠ b21 := Nat.ne_of_lt (Nat.lt_of_lt_of_le V10.lt (Nat.le_of_eq g21.symm))
  have ne_tb_b21 : tb ≠ b21 := Nat.ne_of_lt (Nat.lt_of_lt_of_le f18.lt (Nat.le_of_eq g21.symm))
  have ne_sz_b21 : sz ≠ b21 := Nat.ne_of_lt (Nat.lt_of_lt_of_le f19.lt (Nat.le_of_eq g21.symm))
  have ne_bm_b21 : bm ≠ b21 := Nat.ne_of_lt (Nat.lt_of_lt_of_le f20.lt (Nat.le_of_eq g21.symm))
  have V21 : Arh Z h21 b21 k21 .long wd [] [] (.long (0 : Int64)) := (Arv.new A21 (own_cap (k := 8) hwd1 hwd2).1).arh
  refine Go.st st21 ?_
  show Go pg.tables ev below (T21.setTop (mkF mi 65 #[.val (.ref o), .val (.int f)] [(.ref b21), (.int f), (.ref bm)])) P
  have f23 := (f20.ext E21)
  have ov24 := f23
  obtain ⟨cl24, Ar24, q24, S24, M24, H24, G24⟩ := ov24
  have hin24 : ¬ (f < 0 ∨ cl24.slots.size ≤ (f).toNatClampNeg) := inb_of S24 ⟨hf1, hf2⟩
  obtain ⟨T25, h25, X25, e25, W25, st25⟩ := stR X21 hx hZ e21 Ar24 (j := f) hin24 rfl (Sto.ofVA Ar24 q24 O_bm (Ins.self EX21)) (g := (mkF mi 65 #[.val (.ref o), .val (.int f)] [(.ref b21), (.int f), (.ref bm)])) rfl rfl (hb hby d_prog_37_method_10_65)
  have Zs26 : n0 ≤ h25.size := Nat.le_trans Zs22 (Keep.of_wr W25).1
  have KC26 : Keep h0 h25 [o, rw, bm] := KC22.wr W25 (Or.inl (List.mem_of_getElem? (i := 2) rfl))
  have N26 := Fr.snoc X25 N12 g_bm
  have V25 : Arh Z h25 bm kB (.array .long) N ((f, (.ref b21)) :: hB) [] .null := Arh.push Ar24 q24 S24 M24 H24 G24 rfl W25 hin24
  refine Go.st st25 ?_
  show Go pg.tables ev below (T25.setTop (mkF mi 66 #[.val (.ref o), .val (.int f)] [])) P
  refine Go.st (fun t_ k_ => XS.goto X25.here hx rfl (pc0 := 66) (pc' := 78) rfl (hb hby d_prog_37_method_10_66) (by decide) (by decide) k_) ?_
  show Go pg.tables ev below (T25.setTop (mkF mi 78 #[.val (.ref o), .val (.int f)] [])) P
  obtain ⟨fs, hr, hrun, hended, hW, hsame⟩ := X25.leave (v := none) (fun _ => rfl) (BodyLoose.notSynchronized Bd)
  have f27 := ((((F0.other W6 (Or.inr (slot_ne (Or.inl (hw _ (List.mem_of_getElem? (i := 12) rfl))) (Or.inl (hw _ (List.mem_of_getElem? (i := 36) rfl))) (by decide) (t := (.array .int)) (t' := .int) (by decide) (by decide)))).other W10 (Or.inl ne_o_rw)).ext E21).other W25 (Or.inl ne_o_bm))
  have f28 := ((((F1.other W6 (Or.inr (slot_ne (Or.inr (hw _ (List.mem_of_getElem? (i := 19) rfl))) (Or.inl (hw _ (List.mem_of_getElem? (i := 36) rfl))) (by decide) (t := (.array (.array .int))) (t' := .int) (by decide) (by decide)))).other W10 (Or.inl ne_o_rw)).ext E21).other W25 (Or.inl ne_o_bm))
  have f29 := ((((F2.other W6 (Or.inr (slot_ne (Or.inr (hw _ (List.mem_of_getElem? (i := 21) rfl))) (Or.inl (hw _ (List.mem_of_getElem? (i := 36) rfl))) (by decide) (t := (.array .int)) (t' := .int) (by decide) (by decide)))).other W10 (Or.inl ne_o_rw)).ext E21).other W25 (Or.inl ne_o_bm))
  have f30 := ((f15.ext E21).other W25 (Or.inl ne_o_bm))
  have f31 := ((f14.ext E21).other W25 (Or.inl ne_o_bm))
  have f32 := (((F6.other W10 (Or.inl ne_o_rw)).ext E21).other W25 (Or.inl ne_o_bm))
  have f33 := ((V10.ext E21).other W25 ne_rw_bm)
  have f34 := (V21.other W25 (Ne.symm ne_bm_b21))
  refine ⟨_, _, ?_, hP _ _ ⟨hrun, hended, _, _, rfl, ?_, ⟨_, rfl⟩, hW, hsame.mono (by decide) (by decide)⟩⟩
  · exact X25.returnOut hx Bd.returns (hb hby d_prog_37_method_10_78) hr
  · show (none : Option Value) = none ∧ Fr n0 _ ∧ Keep h0 T25.heap [o, rw, bm] ∧ ∃ (x : Addr) (kx : ClassId), h0.size ≤ x ∧ n0 ≤ x ∧ Fld Z T25.heap o "com/example/hedge/hedge/automaton/PairMarks" "rows" "[I" (.ref rw) ∧ Fld Z T25.heap o "com/example/hedge/hedge/automaton/PairMarks" "tables" "[[I" (.ref tb) ∧ Fld Z T25.heap o "com/example/hedge/hedge/automaton/PairMarks" "sizes" "[I" (.ref sz) ∧ Fld Z T25.heap o "com/example/hedge/hedge/automaton/PairMarks" "bitmaps" "[[J" (.ref bm) ∧ Fld Z T25.heap o "com/example/hedge/hedge/automaton/PairMarks" "words" "I" (.int wd) ∧ Fld Z T25.heap o "com/example/hedge/hedge/automaton/PairMarks" "rowCount" "I" (.int (1 : Int32)) ∧ Arv Z T25.heap rw kR .int (16 : Int32) (vR.set 0 (.int f)) (.int (0 : Int32)) ∧ Arh Z T25.heap bm kB (.array .long) N ((f, .ref x) :: hB) [] .null ∧ Arh Z T25.heap x kx .long wd [] [] (.long (0 : Int64))
    rw [e25]
    exact ⟨rfl, N26, KC26, b21, _, sz_b21, g_b21, f27, f28, f29, f30, f31, f32, f33, V25, f34⟩
theorem d_prog_37_method_10_69 : decode prog_37_method_10_code 69 = .ok (.aload_n 0, 1) := by decide +kernel
theorem d_prog_37_method_10_70 : decode prog_37_method_10_code 70 = .ok (.getfield 30, 3) := by decide +kernel
theorem d_prog_37_method_10_73 : decode prog_37_method_10_code 73 = .ok (.iload_n 1, 1) := by decide +kernel
theorem d_prog_37_method_10_74 : decode prog_37_method_10_code 74 = .ok (.iconst 4, 1) := by decide +kernel
theorem d_prog_37_method_10_75 : decode prog_37_method_10_code 75 = .ok (.newarray .int, 2) := by decide +kernel
theorem d_prog_37_method_10_77 : decode prog_37_method_10_code 77 = .ok (.aastore, 1) := by decide +kernel
theorem ef_rmBe0T (mi : MethodId) (o : Addr) (f : Int32) (rw : Addr) (tb : Addr) (sz : Addr) (bm : Addr) (kR : ClassId) (kT : ClassId) (kS : ClassId) (kB : ClassId) (N : Int32) (wd : Int32) (hT : List (Int32 × Value)) (hS : List (Int32 × Value)) (hB : List (Int32 × Value)) (vR : List Value) : entryFrame mi #[(.ref o), (.int f)] 2 = mkF mi 0 #[.val (.ref o), .val (.int f)] [] := by first | (simp [entryFrame, mkF, argsToLocals, Value.category]; done) | rfl
def Q_rmBe0T (Z : State) (o : Addr) (f : Int32) (rw : Addr) (tb : Addr) (sz : Addr) (bm : Addr) (kR : ClassId) (kT : ClassId) (kS : ClassId) (kB : ClassId) (N : Int32) (wd : Int32) (hT : List (Int32 × Value)) (hS : List (Int32 × Value)) (hB : List (Int32 × Value)) (vR : List Value) (h0 : Heap) (n0 : Nat) (vv_ : Option Value) (hh_ : Heap) (LL_ : List Loc) : Prop := vv_ = none ∧ Fr n0 LL_ ∧ Keep h0 hh_ [o, rw, tb] ∧ ∃ (x : Addr) (kx : ClassId), h0.size ≤ x ∧ n0 ≤ x ∧ Fld Z hh_ o "com/example/hedge/hedge/automaton/PairMarks" "rows" "[I" (.ref rw) ∧ Fld Z hh_ o "com/example/hedge/hedge/automaton/PairMarks" "tables" "[[I" (.ref tb) ∧ Fld Z hh_ o "com/example/hedge/hedge/automaton/PairMarks" "sizes" "[I" (.ref sz) ∧ Fld Z hh_ o "com/example/hedge/hedge/automaton/PairMarks" "bitmaps" "[[J" (.ref bm) ∧ Fld Z hh_ o "com/example/hedge/hedge/automaton/PairMarks" "words" "I" (.int wd) ∧ Fld Z hh_ o "com/example/hedge/hedge/automaton/PairMarks" "rowCount" "I" (.int (1 : Int32)) ∧ Arv Z hh_ rw kR .int (16 : Int32) (vR.set 0 (.int f)) (.int (0 : Int32)) ∧ Arh Z hh_ tb kT (.array .int) N ((f, .ref x) :: hT) [] .null ∧ Arh Z hh_ x kx .int (4 : Int32) [] [] (.int (0 : Int32))
set_option maxRecDepth 65536 in
set_option maxHeartbeats 40000000 in
theorem rmBe0T (l : Launch) (Z : State) (a0 : Array Value) (hw : ∀ d ∈ tables_1, d.before a0 Z = true) (ws : List Jvm.Cond) (o : Addr) (f : Int32) (rw : Addr) (tb : Addr) (sz : Addr) (bm : Addr) (kR : ClassId) (kT : ClassId) (kS : ClassId) (kB : ClassId) (N : Int32) (wd : Int32) (hT : List (Int32 × Value)) (hS : List (Int32 × Value)) (hB : List (Int32 × Value)) (vR : List Value) (h0 : Heap) (n0 : Nat) (Z0 : n0 ≤ h0.size) (E0 : Exa Z h0 o "com/example/hedge/hedge/automaton/PairMarks") (ge0 : n0 ≤ o) (g_rw : n0 ≤ rw) (g_tb : n0 ≤ tb) (g_sz : n0 ≤ sz) (g_bm : n0 ≤ bm) (ne_o_rw : o ≠ rw) (ne_o_tb : o ≠ tb) (ne_o_sz : o ≠ sz) (ne_o_bm : o ≠ bm) (ne_rw_tb : rw ≠ tb) (ne_rw_sz : rw ≠ sz) (ne_rw_bm : rw ≠ bm) (ne_tb_sz : tb ≠ sz) (ne_tb_bm : tb ≠ bm) (ne_sz_bm : sz ≠ bm) (F0 : Fld Z h0 o "com/example/hedge/hedge/automaton/PairMarks" "rows" "[I" (.ref rw)) (F1 : Fld Z h0 o "com/example/hedge/hedge/automaton/PairMarks" "tables" "[[I" (.ref tb)) (F2 : Fld Z h0 o "com/example/hedge/hedge/automaton/PairMarks" "sizes" "[I" (.ref sz)) (F3 : Fld Z h0 o "com/example/hedge/hedge/automaton/PairMarks" "bitmaps" "[[J" (.ref bm)) (F4 : Fld Z h0 o "com/example/hedge/hedge/automaton/PairMarks" "words" "I" (.int wd)) (F5 : Fld Z h0 o "com/example/hedge/hedge/automaton/PairMarks" "rowCount" "I" (.int (0 : Int32))) (A_rw : Arv Z h0 rw kR .int (16 : Int32) vR (.int (0 : Int32))) (l_rw : vR.length = 16) (A_tb : Arh Z h0 tb kT (.array .int) N hT [] .null) (A_sz : Arh Z h0 sz kS .int N hS [] (.int (0 : Int32))) (A_bm : Arh Z h0 bm kB (.array .long) N hB [] .null) (O_tb : OvrA Z kT .int "[I") (O_bm : OvrA Z kB .long "[J") (hf1 : ¬ f < 0) (hf2 : f < N) (hwo : (4 : Int64) < ((2 : Int64) * (wd.toInt64))) (hwd1 : 1 ≤ wd.toInt) (hwd2 : wd.toInt ≤ 8) :
    MetFree l (⟨"com/example/hedge/hedge/automaton/PairMarks", "begin", "(I)V"⟩ : MethodName) (head1 (Jvm.Cond.code (⟨"com/example/hedge/hedge/automaton/PairMarks", "begin", "(I)V"⟩ : MethodName) prog_37_method_10_code 2 none :: ws) ({ frames := 1, cells := 1, slots := 4, locals := 13 } : Room)) (fun aa_ U => aa_ = #[(.ref o), (.int f)] ∧ Z.Warmed39 U.vm ∧ U.heap = h0) (fun _ _ _ _ _ => True) (fun _ U oo_ UV_ => ∃ vv_ LL_, oo_ = .returned vv_ ∧ Q_rmBe0T Z o f rw tb sz bm kR kT kS kB N wd hT hS hB vR h0 n0 vv_ UV_.heap LL_ ∧ FrameEnd U oo_ UV_ LL_ ({ frames := 1, cells := 1, slots := 4, locals := 13 } : Room).cells ({ frames := 1, cells := 1, slots := 4, locals := 13 } : Room).slots) := by
  refine MetFree.of_bodySF (plainFor_of_name pn_0) hisR ?_
  intro pg ev si mi args below meth ci s₁ Bd hml0 hP0 hK
  obtain ⟨rfl, hZ, hh⟩ := hP0
  have hx := Bd.exec
  have hby := Bd.bytes
  have hml : ci.maxLocals = 2 := hml0
  have hown : si.vm.findClass "com/example/hedge/hedge/automaton/PairMarks" = some mi.cls := findClass_of_methodNamed Bd.named
  have hnm := (name_of_methodNamed Bd.named Bd.method).1
  have X0 : Stand pg l ev ({ frames := 1, cells := 1, slots := 4, locals := 13 } : Room) si mi #[(.ref o), (.int f)] below meth ci s₁ [] 0 0 := Stand.of_body Bd
  have e0 : s₁.heap = h0 := by rw [← hh, Bd.state]; rfl
  have N0 := Fr.nil n0
  refine Go.start (fun P hP => ?_)
  refine Go.st (fun t_ k_ => castTop (ef_rmBe0T mi o f rw tb sz bm kR kT kS kB N wd hT hS hB vR) k_) (A := s₁.setTop (mkF mi 0 #[.val (.ref o), .val (.int f)] [])) ?_
  show Go pg.tables ev below (s₁.setTop (mkF mi 0 #[.val (.ref o), .val (.int f)] [])) P
  refine Go.st (fun t_ k_ => XS.aloadN X0.here hx rfl (hb hby d_prog_37_method_10_0) rfl rfl k_) ?_
  show Go pg.tables ev below (s₁.setTop (mkF mi 1 #[.val (.ref o), .val (.int f)] [(.ref o)])) P
  obtain ⟨T1, X1, e1, st1⟩ := getF X0 hx hZ hown (host := "") (Or.inl (hw _ (List.mem_of_getElem? (i := 35) rfl))) Via.refl e0 F5 (g := (mkF mi 1 #[.val (.ref o), .val (.int f)] [(.ref o)])) rfl rfl (hb hby d_prog_37_method_10_1)
  refine Go.st st1 ?_
  show Go pg.tables ev below (T1.setTop (mkF mi 4 #[.val (.ref o), .val (.int f)] [(.int (0 : Int32))])) P
  refine Go.st (fun t_ k_ => XS.aloadN X1.here hx rfl (hb hby d_prog_37_method_10_4) rfl rfl k_) ?_
  show Go pg.tables ev below (T1.setTop (mkF mi 5 #[.val (.ref o), .val (.int f)] [(.ref o), (.int (0 : Int32))])) P
  obtain ⟨T2, X2, e2, st2⟩ := getF X1 hx hZ hown (host := "") (Or.inl (hw _ (List.mem_of_getElem? (i := 11) rfl))) Via.refl e1 F0 (g := (mkF mi 5 #[.val (.ref o), .val (.int f)] [(.ref o), (.int (0 : Int32))])) rfl rfl (hb hby d_prog_37_method_10_5)
  refine Go.st st2 ?_
  show Go pg.tables ev below (T2.setTop (mkF mi 8 #[.val (.ref o), .val (.int f)] [(.ref rw), (.int (0 : Int32))])) P
  have ov3 := A_rw
  obtain ⟨cl3, Ar3, q3, S3, M3, H3, G3⟩ := ov3
  refine Go.st (X2.arraylength hx (by rw [e2]; exact Ar3.1) (State.isArrayOf_alike hZ.alike Ar3.2.1) (g := (mkF mi 8 #[.val (.ref o), .val (.int f)] [(.ref rw), (.int (0 : Int32))])) rfl rfl (hb hby d_prog_37_method_10_8)) ?_
  rw [len_of S3 M3]
  show Go pg.tables ev below (T2.setTop (mkF mi 9 #[.val (.ref o), .val (.int f)] [(.int (16 : Int32)), (.int (0 : Int32))])) P
  refine Go.st (fun t_ k_ => XS.icmpYes X2.here hx rfl (pc0 := 9) (pc' := 29) rfl (hb hby d_prog_37_method_10_9) rfl (feq (by decide)).2 (by decide) (by decide) k_) ?_
  show Go pg.tables ev below (T2.setTop (mkF mi 29 #[.val (.ref o), .val (.int f)] [])) P
  refine Go.st (fun t_ k_ => XS.aloadN X2.here hx rfl (hb hby d_prog_37_method_10_29) rfl rfl k_) ?_
  show Go pg.tables ev below (T2.setTop (mkF mi 30 #[.val (.ref o), .val (.int f)] [(.ref o)])) P
  obtain ⟨T4, X4, e4, st4⟩ := getF X2 hx hZ hown (host := "") (Or.inl (hw _ (List.mem_of_getElem? (i := 11) rfl))) Via.refl e2 F0 (g := (mkF mi 30 #[.val (.ref o), .val (.int f)] [(.ref o)])) rfl rfl (hb hby d_prog_37_method_10_30)
  refine Go.st st4 ?_
  show Go pg.tables ev below (T4.setTop (mkF mi 33 #[.val (.ref o), .val (.int f)] [(.ref rw)])) P
  refine Go.st (fun t_ k_ => XS.aloadN X4.here hx rfl (hb hby d_prog_37_method_10_33) rfl rfl k_) ?_
  show Go pg.tables ev below (T4.setTop (mkF mi 34 #[.val (.ref o), .val (.int f)] [(.ref o), (.ref rw)])) P
  refine Go.st (fun t_ k_ => XS.dup X4.here hx rfl (hb hby d_prog_37_method_10_34) rfl rfl k_) ?_
  show Go pg.tables ev below (T4.setTop (mkF mi 35 #[.val (.ref o), .val (.int f)] [(.ref o), (.ref o), (.ref rw)])) P
  obtain ⟨T5, X5, e5, st5⟩ := getF X4 hx hZ hown (host := "") (Or.inl (hw _ (List.mem_of_getElem? (i := 35) rfl))) Via.refl e4 F5 (g := (mkF mi 35 #[.val (.ref o), .val (.int f)] [(.ref o), (.ref o), (.ref rw)])) rfl rfl (hb hby d_prog_37_method_10_35)
  refine Go.st st5 ?_
  show Go pg.tables ev below (T5.setTop (mkF mi 38 #[.val (.ref o), .val (.int f)] [(.int (0 : Int32)), (.ref o), (.ref rw)])) P
  refine Go.st (fun t_ k_ => XS.dupX1 X5.here hx rfl (hb hby d_prog_37_method_10_38) rfl rfl rfl k_) ?_
  show Go pg.tables ev below (T5.setTop (mkF mi 39 #[.val (.ref o), .val (.int f)] [(.int (0 : Int32)), (.ref o), (.int (0 : Int32)), (.ref rw)])) P
  refine Go.st (fun t_ k_ => XS.iconst X5.here hx rfl (hb hby d_prog_37_method_10_39) k_) ?_
  show Go pg.tables ev below (T5.setTop (mkF mi 40 #[.val (.ref o), .val (.int f)] [(.int (1 : Int32)), (.int (0 : Int32)), (.ref o), (.int (0 : Int32)), (.ref rw)])) P
  refine Go.st (fun t_ k_ => XS.iadd X5.here hx rfl (hb hby d_prog_37_method_10_40) rfl k_) ?_
  show Go pg.tables ev below (T5.setTop (mkF mi 41 #[.val (.ref o), .val (.int f)] [(.int (1 : Int32)), (.ref o), (.int (0 : Int32)), (.ref rw)])) P
  obtain ⟨T6, h6, X6, e6, W6, st6⟩ := putF X5 hx hZ hown (host := "") (Or.inl (hw _ (List.mem_of_getElem? (i := 35) rfl))) Via.refl e5 F5 E0 (Or.inl (hw _ (List.mem_of_getElem? (i := 36) rfl))) (hw _ (List.mem_of_getElem? (i := 2) rfl)) (ty := .int) (by decide) rfl rfl (g := (mkF mi 41 #[.val (.ref o), .val (.int f)] [(.int (1 : Int32)), (.ref o), (.int (0 : Int32)), (.ref rw)])) rfl rfl (hb hby d_prog_37_method_10_41)
  have Zs7 : n0 ≤ h6.size := Nat.le_trans Z0 (Keep.of_wr W6).1
  have KC7 : Keep h0 h6 [o, rw, tb] := (Keep.refl h0 [o, rw, tb]).wr W6 (Or.inl (List.mem_of_getElem? (i := 0) rfl))
  have N7 := Fr.snoc X6 N0 ge0
  have F6 : Fld Z h6 o "com/example/hedge/hedge/automaton/PairMarks" "rowCount" "I" (.int (1 : Int32)) := F5.same W6
  refine Go.st st6 ?_
  show Go pg.tables ev below (T6.setTop (mkF mi 44 #[.val (.ref o), .val (.int f)] [(.int (0 : Int32)), (.ref rw)])) P
  refine Go.st (fun t_ k_ => XS.iloadN X6.here hx rfl (hb hby d_prog_37_method_10_44) rfl k_) ?_
  show Go pg.tables ev below (T6.setTop (mkF mi 45 #[.val (.ref o), .val (.int f)] [(.int f), (.int (0 : Int32)), (.ref rw)])) P
  have f8 := (A_rw.other W6 (Ne.symm ne_o_rw))
  have ov9 := f8
  obtain ⟨cl9, Ar9, q9, S9, M9, H9, G9⟩ := ov9
  have hin9 : ¬ ((0 : Int32) < 0 ∨ cl9.slots.size ≤ ((0 : Int32)).toNatClampNeg) := inb_of S9 ⟨by decide, by decide⟩
  obtain ⟨T10, h10, X10, e10, W10, st10⟩ := stI X6 hx hZ e6 Ar9 (j := (0 : Int32)) hin9 (g := (mkF mi 45 #[.val (.ref o), .val (.int f)] [(.int f), (.int (0 : Int32)), (.ref rw)])) rfl rfl (hb hby d_prog_37_method_10_45)
  have Zs11 : n0 ≤ h10.size := Nat.le_trans Zs7 (Keep.of_wr W10).1
  have KC11 : Keep h0 h10 [o, rw, tb] := KC7.wr W10 (Or.inl (List.mem_of_getElem? (i := 1) rfl))
  have N11 := Fr.snoc X10 N7 g_rw
  have vl10 : (vR.set 0 (.int f)).length = 16 := List.length_set.trans l_rw
  have V10 : Arv Z h10 rw kR .int (16 : Int32) (vR.set 0 (.int f)) (.int (0 : Int32)) := Arv.set Ar9 q9 S9 M9 H9 G9 rfl W10 0 rfl (by rw [l_rw]; decide)
  refine Go.st st10 ?_
  show Go pg.tables ev below (T10.setTop (mkF mi 46 #[.val (.ref o), .val (.int f)] [])) P
  refine Go.st (fun t_ k_ => XS.aloadN X10.here hx rfl (hb hby d_prog_37_method_10_46) rfl rfl k_) ?_
  show Go pg.tables ev below (T10.setTop (mkF mi 47 #[.val (.ref o), .val (.int f)] [(.ref o)])) P
  refine Go.st (fun t_ k_ => XS.iconst X10.here hx rfl (hb hby d_prog_37_method_10_47) k_) ?_
  show Go pg.tables ev below (T10.setTop (mkF mi 48 #[.val (.ref o), .val (.int f)] [(.int (4 : Int32)), (.ref o)])) P
  have f13 := ((E0.wr W6).wr W10)
  have f14 := ((F4.other W6 (Or.inr (slot_ne (Or.inr (hw _ (List.mem_of_getElem? (i := 15) rfl))) (Or.inl (hw _ (List.mem_of_getElem? (i := 36) rfl))) (by decide) (t := .int) (t' := .int) (by decide) (by decide)))).other W10 (Or.inl ne_o_rw))
  obtain ⟨cq12, q12, q12'⟩ := f13.cell
  obtain ⟨_, _, ⟨T12, L12, k12, n12⟩, -, X12, ⟨Lc12, hQ12, l12, y12, z12⟩, st12⟩ := X10.privateBack hx (y := (⟨"com/example/hedge/hedge/automaton/PairMarks", "isWorthABitmap", "(I)Z"⟩ : MethodName)) hown (mvT hZ (hw _ (List.mem_of_getElem? (i := 37) rfl))) (mvT hZ (hw _ (List.mem_of_getElem? (i := 38) rfl))) (own_selp hZ (hw _ (List.mem_of_getElem? (i := 2) rfl)) (hw _ (List.mem_of_getElem? (i := 39) rfl)) (hw _ (List.mem_of_getElem? (i := 38) rfl))) (Cond.privateMethod_at (mvP hZ (hw _ (List.mem_of_getElem? (i := 39) rfl)) (args := #[]))) (mvT hZ (hw _ (List.mem_of_getElem? (i := 40) rfl))) (by decide) (backOf (W := 0) (rmWo l Z a0 hw [] o wd h10 n0 Zs11 f14) hZ (hw _ (List.mem_of_getElem? (i := 40) rfl)) (hw _ (List.mem_of_getElem? (i := 3) rfl)) (by decide) (by decide)) (g := (mkF mi 48 #[.val (.ref o), .val (.int f)] [(.int (4 : Int32)), (.ref o)])) rfl (by rw [hml]; rfl) (Steps.refl _) (a := o) (by rw [e10]; exact q12) q12' (argsL := [(.int (4 : Int32))]) (rest := []) (lenOf pd_0 rfl) rfl (by show 2 * 0 + _ ≤ _; exact Nat.le_of_eq rfl) (hb hby d_prog_37_method_10_48) (fun _ _ => ⟨rfl, e10, (by decide : 0 + 0 ≤ _), (by decide : 0 + 0 ≤ _)⟩)
  dsimp only [Pt.U, Pt.locs, Pt.cells, Pt.slots] at X12 l12 y12 z12 st12 hQ12
  subst l12 y12 z12
  obtain ⟨rfl, N12q, e12⟩ := hQ12
  have N12 := Fr.app N11 N12q
  refine Go.tr st12 ?_
  show Go pg.tables ev below (T12.setTop (mkF mi 51 #[.val (.ref o), .val (.int f)] [(.int (if (4 : Int64) < ((2 : Int64) * (wd.toInt64)) then (0 : Int32) else (1 : Int32)))])) P
  refine Go.st (fun t_ k_ => XS.ifYes X12.here hx rfl (pc0 := 51) (pc' := 69) rfl (hb hby d_prog_37_method_10_51) rfl ((if0 _ _).trans (teq (show (if (4 : Int64) < ((2 : Int64) * (wd.toInt64)) then (0 : Int32) else (1 : Int32)) = (0 : Int32) from (by rw [if_pos hwo] <;> decide))).1) (by decide) (by decide) k_) ?_
  show Go pg.tables ev below (T12.setTop (mkF mi 69 #[.val (.ref o), .val (.int f)] [])) P
  refine Go.st (fun t_ k_ => XS.aloadN X12.here hx rfl (hb hby d_prog_37_method_10_69) rfl rfl k_) ?_
  show Go pg.tables ev below (T12.setTop (mkF mi 70 #[.val (.ref o), .val (.int f)] [(.ref o)])) P
  have f15 := ((F1.other W6 (Or.inr (slot_ne (Or.inr (hw _ (List.mem_of_getElem? (i := 19) rfl))) (Or.inl (hw _ (List.mem_of_getElem? (i := 36) rfl))) (by decide) (t := (.array (.array .int))) (t' := .int) (by decide) (by decide)))).other W10 (Or.inl ne_o_rw))
  obtain ⟨T16, X16, e16, st16⟩ := getF X12 hx hZ hown (host := "") (Or.inl (hw _ (List.mem_of_getElem? (i := 18) rfl))) Via.refl e12 f15 (g := (mkF mi 70 #[.val (.ref o), .val (.int f)] [(.ref o)])) rfl rfl (hb hby d_prog_37_method_10_70)
  refine Go.st st16 ?_
  show Go pg.tables ev below (T16.setTop (mkF mi 73 #[.val (.ref o), .val (.int f)] [(.ref tb)])) P
  refine Go.st (fun t_ k_ => XS.iloadN X16.here hx rfl (hb hby d_prog_37_method_10_73) rfl k_) ?_
  show Go pg.tables ev below (T16.setTop (mkF mi 74 #[.val (.ref o), .val (.int f)] [(.int f), (.ref tb)])) P
  refine Go.st (fun t_ k_ => XS.iconst X16.here hx rfl (hb hby d_prog_37_method_10_74) k_) ?_
  show Go pg.tables ev below (T16.setTop (mkF mi 75 #[.val (.ref o), .val (.int f)] [(.int (4 : Int32)), (.int f), (.ref tb)])) P
  have f17 := ((A_tb.other W6 (Ne.symm ne_o_tb)).other W10 (Ne.symm ne_rw_tb))
  have f18 := ((A_sz.other W6 (Ne.symm ne_o_sz)).other W10 (Ne.symm ne_rw_sz))
  have f19 := ((A_bm.other W6 (Ne.symm ne_o_bm)).other W10 (Ne.symm ne_rw_bm))
  obtain ⟨T20, h20, k20, X20, e20, E20, A20, EX20, st20⟩ := newPE X16 hx hZ (hw _ (List.mem_of_getElem? (i := 10) rfl)) e16 (g := (mkF mi 75 #[.val (.ref o), .val (.int f)] [(.int (4 : Int32)), (.int f), (.ref tb)])) rfl (hb hby d_prog_37_method_10_75) rfl (by decide) (cap := 4) (by decide) (by decide) (by decide) (by decide) (ad := "[I") (by decide)
  obtain ⟨b20, g20⟩ : ∃ z, z = h10.size := ⟨_, rfl⟩
  rw [← g20] at A20 EX20 st20
  have Zs21 : n0 ≤ h20.size := Nat.le_trans Zs11 E20.1
  have KC21 : Keep h0 h20 [o, rw, tb] := KC11.ext E20
  have g_b20 : n0 ≤ b20 := Nat.le_trans Zs11 (Nat.le_of_eq g20.symm)
  have sz_b20 : h0.size ≤ b20 := Nat.le_trans KC11.1 (Nat.le_of_eq g20.symm)
  have ne_o_b20 : o ≠ b20 := Nat.ne_of_lt (Nat.lt_of_lt_of_le f13.lt (Nat.le_of_eq g20.symm))
  have ne_rw_b20 : rw ≠ b20 := Nat.ne_of_lt (Nat.lt_of_lt_of_le V10.lt (Nat.le_of_eq g20.symm))
  have ne_tb_b20 : tb ≠ b20 := Nat.ne_of_lt (Nat.lt_of_lt_of_le f17.lt (Nat.le_of_eq g20.symm))
  have ne_sz_b20 : sz ≠ b20 := Nat.ne_of_lt (Nat.lt_of_lt_of_le f18.lt (Nat.le_of_eq g20.symm))
  have ne_bm_b20 : bm ≠ b20 := Nat.ne_of_lt (Nat.lt_of_lt_of_le f19.lt (Nat.le_of_eq g20.symm))
  have V20 : Arh Z h20 b20 k20 .int (4 : Int32) [] [] (.int (0 : Int32)) := (Arv.new A20 (by decide)).arh
  refine Go.st st20 ?_
  show Go pg.tables ev below (T20.setTop (mkF mi 77 #[.val (.ref o), .val (.int f)] [(.ref b20), (.int f), (.ref tb)])) P
  have f22 := (f17.ext E20)
  have ov23 := f22
  obtain ⟨cl23, Ar23, q23, S23, M23, H23, G23⟩ := ov23
  have hin23 : ¬ (f < 0 ∨ cl23.slots.size ≤ (f).toNatClampNeg) := inb_of S23 ⟨hf1, hf2⟩
  obtain ⟨T24, h24, X24, e24, W24, st24⟩ := stR X20 hx hZ e20 Ar23 (j := f) hin23 rfl (Sto.ofVA Ar23 q23 O_tb (Ins.self EX20)) (g := (mkF mi 77 #[.val (.ref o), .val (.int f)] [(.ref b20), (.int f), (.ref tb)])) rfl rfl (hb hby d_prog_37_method_10_77)
  have Zs25 : n0 ≤ h24.size := Nat.le_trans Zs21 (Keep.of_wr W24).1
  have KC25 : Keep h0 h24 [o, rw, tb] := KC21.wr W24 (Or.inl (List.mem_of_getElem? (i := 2) rfl))
  have N25 := Fr.snoc X24 N12 g_tb
  have V24 : Arh Z h24 tb kT (.array .int) N ((f, (.ref b20)) :: hT) [] .null := Arh.push Ar23 q23 S23 M23 H23 G23 rfl W24 hin23
  refine Go.st st24 ?_
  show Go pg.tables ev below (T24.setTop (mkF mi 78 #[.val (.ref o), .val (.int f)] [])) P
  obtain ⟨fs, hr, hrun, hended, hW, hsame⟩ := X24.leave (v := none) (fun _ => rfl) (BodyLoose.notSynchronized Bd)
  have f26 := ((((F0.other W6 (Or.inr (slot_ne (Or.inl (hw _ (List.mem_of_getElem? (i := 12) rfl))) (Or.inl (hw _ (List.mem_of_getElem? (i := 36) rfl))) (by decide) (t := (.array .int)) (t' := .int) (by decide) (by decide)))).other W10 (Or.inl ne_o_rw)).ext E20).other W24 (Or.inl ne_o_tb))
  have f27 := ((f15.ext E20).other W24 (Or.inl ne_o_tb))
  have f28 := ((((F2.other W6 (Or.inr (slot_ne (Or.inr (hw _ (List.mem_of_getElem? (i := 21) rfl))) (Or.inl (hw _ (List.mem_of_getElem? (i := 36) rfl))) (by decide) (t := (.array .int)) (t' := .int) (by decide) (by decide)))).other W10 (Or.inl ne_o_rw)).ext E20).other W24 (Or.inl ne_o_tb))
  have f29 := ((((F3.other W6 (Or.inr (slot_ne (Or.inr (hw _ (List.mem_of_getElem? (i := 25) rfl))) (Or.inl (hw _ (List.mem_of_getElem? (i := 36) rfl))) (by decide) (t := (.array (.array .long))) (t' := .int) (by decide) (by decide)))).other W10 (Or.inl ne_o_rw)).ext E20).other W24 (Or.inl ne_o_tb))
  have f30 := ((f14.ext E20).other W24 (Or.inl ne_o_tb))
  have f31 := (((F6.other W10 (Or.inl ne_o_rw)).ext E20).other W24 (Or.inl ne_o_tb))
  have f32 := ((V10.ext E20).other W24 ne_rw_tb)
  have f33 := (V20.other W24 (Ne.symm ne_tb_b20))
  refine ⟨_, _, ?_, hP _ _ ⟨hrun, hended, _, _, rfl, ?_, ⟨_, rfl⟩, hW, hsame.mono (by decide) (by decide)⟩⟩
  · exact X24.returnOut hx Bd.returns (hb hby d_prog_37_method_10_78) hr
  · show (none : Option Value) = none ∧ Fr n0 _ ∧ Keep h0 T24.heap [o, rw, tb] ∧ ∃ (x : Addr) (kx : ClassId), h0.size ≤ x ∧ n0 ≤ x ∧ Fld Z T24.heap o "com/example/hedge/hedge/automaton/PairMarks" "rows" "[I" (.ref rw) ∧ Fld Z T24.heap o "com/example/hedge/hedge/automaton/PairMarks" "tables" "[[I" (.ref tb) ∧ Fld Z T24.heap o "com/example/hedge/hedge/automaton/PairMarks" "sizes" "[I" (.ref sz) ∧ Fld Z T24.heap o "com/example/hedge/hedge/automaton/PairMarks" "bitmaps" "[[J" (.ref bm) ∧ Fld Z T24.heap o "com/example/hedge/hedge/automaton/PairMarks" "words" "I" (.int wd) ∧ Fld Z T24.heap o "com/example/hedge/hedge/automaton/PairMarks" "rowCount" "I" (.int (1 : Int32)) ∧ Arv Z T24.heap rw kR .int (16 : Int32) (vR.set 0 (.int f)) (.int (0 : Int32)) ∧ Arh Z T24.heap tb kT (.array .int) N ((f, .ref x) :: hT) [] .null ∧ Arh Z T24.heap x kx .int (4 : Int32) [] [] (.int (0 : Int32))
    rw [e24]
    exact ⟨rfl, N25, KC25, b20, _, sz_b20, g_b20, f26, f27, f28, f29, f30, f31, f32, V24, f33⟩
theorem ef_rmBe1B (mi : MethodId) (o : Addr) (f : Int32) (rw : Addr) (tb : Addr) (sz : Addr) (bm : Addr) (kR : ClassId) (kT : ClassId) (kS : ClassId) (kB : ClassId) (N : Int32) (wd : Int32) (hT : List (Int32 × Value)) (hS : List (Int32 × Value)) (hB : List (Int32 × Value)) (vR : List Value) : entryFrame mi #[(.ref o), (.int f)] 2 = mkF mi 0 #[.val (.ref o), .val (.int f)] [] := by first | (simp [entryFrame, mkF, argsToLocals, Value.category]; done) | rfl
def Q_rmBe1B (Z : State) (o : Addr) (f : Int32) (rw : Addr) (tb : Addr) (sz : Addr) (bm : Addr) (kR : ClassId) (kT : ClassId) (kS : ClassId) (kB : ClassId) (N : Int32) (wd : Int32) (hT : List (Int32 × Value)) (hS : List (Int32 × Value)) (hB : List (Int32 × Value)) (vR : List Value) (h0 : Heap) (n0 : Nat) (vv_ : Option Value) (hh_ : Heap) (LL_ : List Loc) : Prop := vv_ = none ∧ Fr n0 LL_ ∧ Keep h0 hh_ [o, rw, bm] ∧ ∃ (x : Addr) (kx : ClassId), h0.size ≤ x ∧ n0 ≤ x ∧ Fld Z hh_ o "com/example/hedge/hedge/automaton/PairMarks" "rows" "[I" (.ref rw) ∧ Fld Z hh_ o "com/example/hedge/hedge/automaton/PairMarks" "tables" "[[I" (.ref tb) ∧ Fld Z hh_ o "com/example/hedge/hedge/automaton/PairMarks" "sizes" "[I" (.ref sz) ∧ Fld Z hh_ o "com/example/hedge/hedge/automaton/PairMarks" "bitmaps" "[[J" (.ref bm) ∧ Fld Z hh_ o "com/example/hedge/hedge/automaton/PairMarks" "words" "I" (.int wd) ∧ Fld Z hh_ o "com/example/hedge/hedge/automaton/PairMarks" "rowCount" "I" (.int (2 : Int32)) ∧ Arv Z hh_ rw kR .int (16 : Int32) (vR.set 1 (.int f)) (.int (0 : Int32)) ∧ Arh Z hh_ bm kB (.array .long) N ((f, .ref x) :: hB) [] .null ∧ Arh Z hh_ x kx .long wd [] [] (.long (0 : Int64))
set_option maxRecDepth 65536 in
set_option maxHeartbeats 40000000 in
theorem rmBe1B (l : Launch) (Z : State) (a0 : Array Value) (hw : ∀ d ∈ tables_1, d.before a0 Z = true) (ws : List Jvm.Cond) (o : Addr) (f : Int32) (rw : Addr) (tb : Addr) (sz : Addr) (bm : Addr) (kR : ClassId) (kT : ClassId) (kS : ClassId) (kB : ClassId) (N : Int32) (wd : Int32) (hT : List (Int32 × Value)) (hS : List (Int32 × Value)) (hB : List (Int32 × Value)) (vR : List Value) (h0 : Heap) (n0 : Nat) (Z0 : n0 ≤ h0.size) (E0 : Exa Z h0 o "com/example/hedge/hedge/automaton/PairMarks") (ge0 : n0 ≤ o) (g_rw : n0 ≤ rw) (g_tb : n0 ≤ tb) (g_sz : n0 ≤ sz) (g_bm : n0 ≤ bm) (ne_o_rw : o ≠ rw) (ne_o_tb : o ≠ tb) (ne_o_sz : o ≠ sz) (ne_o_bm : o ≠ bm) (ne_rw_tb : rw ≠ tb) (ne_rw_sz : rw ≠ sz) (ne_rw_bm : rw ≠ bm) (ne_tb_sz : tb ≠ sz) (ne_tb_bm : tb ≠ bm) (ne_sz_bm : sz ≠ bm) (F0 : Fld Z h0 o "com/example/hedge/hedge/automaton/PairMarks" "rows" "[I" (.ref rw)) (F1 : Fld Z h0 o "com/example/hedge/hedge/automaton/PairMarks" "tables" "[[I" (.ref tb)) (F2 : Fld Z h0 o "com/example/hedge/hedge/automaton/PairMarks" "sizes" "[I" (.ref sz)) (F3 : Fld Z h0 o "com/example/hedge/hedge/automaton/PairMarks" "bitmaps" "[[J" (.ref bm)) (F4 : Fld Z h0 o "com/example/hedge/hedge/automaton/PairMarks" "words" "I" (.int wd)) (F5 : Fld Z h0 o "com/example/hedge/hedge/automaton/PairMarks" "rowCount" "I" (.int (1 : Int32))) (A_rw : Arv Z h0 rw kR .int (16 : Int32) vR (.int (0 : Int32))) (l_rw : vR.length = 16) (A_tb : Arh Z h0 tb kT (.array .int) N hT [] .null) (A_sz : Arh Z h0 sz kS .int N hS [] (.int (0 : Int32))) (A_bm : Arh Z h0 bm kB (.array .long) N hB [] .null) (O_tb : OvrA Z kT .int "[I") (O_bm : OvrA Z kB .long "[J") (hf1 : ¬ f < 0) (hf2 : f < N) (hwo : ¬ ((4 : Int64) < ((2 : Int64) * (wd.toInt64)))) (hwd1 : 1 ≤ wd.toInt) (hwd2 : wd.toInt ≤ 8) :
    MetFree l (⟨"com/example/hedge/hedge/automaton/PairMarks", "begin", "(I)V"⟩ : MethodName) (head1 (Jvm.Cond.code (⟨"com/example/hedge/hedge/automaton/PairMarks", "begin", "(I)V"⟩ : MethodName) prog_37_method_10_code 2 none :: ws) ({ frames := 1, cells := 1, slots := 8, locals := 13 } : Room)) (fun aa_ U => aa_ = #[(.ref o), (.int f)] ∧ Z.Warmed39 U.vm ∧ U.heap = h0) (fun _ _ _ _ _ => True) (fun _ U oo_ UV_ => ∃ vv_ LL_, oo_ = .returned vv_ ∧ Q_rmBe1B Z o f rw tb sz bm kR kT kS kB N wd hT hS hB vR h0 n0 vv_ UV_.heap LL_ ∧ FrameEnd U oo_ UV_ LL_ ({ frames := 1, cells := 1, slots := 8, locals := 13 } : Room).cells ({ frames := 1, cells := 1, slots := 8, locals := 13 } : Room).slots) := by
  refine MetFree.of_bodySF (plainFor_of_name pn_0) hisR ?_
  intro pg ev si mi args below meth ci s₁ Bd hml0 hP0 hK
  obtain ⟨rfl, hZ, hh⟩ := hP0
  have hx := Bd.exec
  have hby := Bd.bytes
  have hml : ci.maxLocals = 2 := hml0
  have hown : si.vm.findClass "com/example/hedge/hedge/automaton/PairMarks" = some mi.cls := findClass_of_methodNamed Bd.named
  have hnm := (name_of_methodNamed Bd.named Bd.method).1
  have X0 : Stand pg l ev ({ frames := 1, cells := 1, slots := 8, locals := 13 } : Room) si mi #[(.ref o), (.int f)] below meth ci s₁ [] 0 0 := Stand.of_body Bd
  have e0 : s₁.heap = h0 := by rw [← hh, Bd.state]; rfl
  have N0 := Fr.nil n0
  refine Go.start (fun P hP => ?_)
  refine Go.st (fun t_ k_ => castTop (ef_rmBe1B mi o f rw tb sz bm kR kT kS kB N wd hT hS hB vR) k_) (A := s₁.setTop (mkF mi 0 #[.val (.ref o), .val (.int f)] [])) ?_
  show Go pg.tables ev below (s₁.setTop (mkF mi 0 #[.val (.ref o), .val (.int f)] [])) P
  refine Go.st (fun t_ k_ => XS.aloadN X0.here hx rfl (hb hby d_prog_37_method_10_0) rfl rfl k_) ?_
  show Go pg.tables ev below (s₁.setTop (mkF mi 1 #[.val (.ref o), .val (.int f)] [(.ref o)])) P
  obtain ⟨T1, X1, e1, st1⟩ := getF X0 hx hZ hown (host := "") (Or.inl (hw _ (List.mem_of_getElem? (i := 35) rfl))) Via.refl e0 F5 (g := (mkF mi 1 #[.val (.ref o), .val (.int f)] [(.ref o)])) rfl rfl (hb hby d_prog_37_method_10_1)
  refine Go.st st1 ?_
  show Go pg.tables ev below (T1.setTop (mkF mi 4 #[.val (.ref o), .val (.int f)] [(.int (1 : Int32))])) P
  refine Go.st (fun t_ k_ => XS.aloadN X1.here hx rfl (hb hby d_prog_37_method_10_4) rfl rfl k_) ?_
  show Go pg.tables ev below (T1.setTop (mkF mi 5 #[.val (.ref o), .val (.int f)] [(.ref o), (.int (1 : Int32))])) P
  obtain ⟨T2, X2, e2, st2⟩ := getF X1 hx hZ hown (host := "") (Or.inl (hw _ (List.mem_of_getElem? (i := 11) rfl))) Via.refl e1 F0 (g := (mkF mi 5 #[.val (.ref o), .val (.int f)] [(.ref o), (.int (1 : Int32))])) rfl rfl (hb hby d_prog_37_method_10_5)
  refine Go.st st2 ?_
  show Go pg.tables ev below (T2.setTop (mkF mi 8 #[.val (.ref o), .val (.int f)] [(.ref rw), (.int (1 : Int32))])) P
  have ov3 := A_rw
  obtain ⟨cl3, Ar3, q3, S3, M3, H3, G3⟩ := ov3
  refine Go.st (X2.arraylength hx (by rw [e2]; exact Ar3.1) (State.isArrayOf_alike hZ.alike Ar3.2.1) (g := (mkF mi 8 #[.val (.ref o), .val (.int f)] [(.ref rw), (.int (1 : Int32))])) rfl rfl (hb hby d_prog_37_method_10_8)) ?_
  rw [len_of S3 M3]
  show Go pg.tables ev below (T2.setTop (mkF mi 9 #[.val (.ref o), .val (.int f)] [(.int (16 : Int32)), (.int (1 : Int32))])) P
  refine Go.st (fun t_ k_ => XS.icmpYes X2.here hx rfl (pc0 := 9) (pc' := 29) rfl (hb hby d_prog_37_method_10_9) rfl (feq (by decide)).2 (by decide) (by decide) k_) ?_
  show Go pg.tables ev below (T2.setTop (mkF mi 29 #[.val (.ref o), .val (.int f)] [])) P
  refine Go.st (fun t_ k_ => XS.aloadN X2.here hx rfl (hb hby d_prog_37_method_10_29) rfl rfl k_) ?_
  show Go pg.tables ev below (T2.setTop (mkF mi 30 #[.val (.ref o), .val (.int f)] [(.ref o)])) P
  obtain ⟨T4, X4, e4, st4⟩ := getF X2 hx hZ hown (host := "") (Or.inl (hw _ (List.mem_of_getElem? (i := 11) rfl))) Via.refl e2 F0 (g := (mkF mi 30 #[.val (.ref o), .val (.int f)] [(.ref o)])) rfl rfl (hb hby d_prog_37_method_10_30)
  refine Go.st st4 ?_
  show Go pg.tables ev below (T4.setTop (mkF mi 33 #[.val (.ref o), .val (.int f)] [(.ref rw)])) P
  refine Go.st (fun t_ k_ => XS.aloadN X4.here hx rfl (hb hby d_prog_37_method_10_33) rfl rfl k_) ?_
  show Go pg.tables ev below (T4.setTop (mkF mi 34 #[.val (.ref o), .val (.int f)] [(.ref o), (.ref rw)])) P
  refine Go.st (fun t_ k_ => XS.dup X4.here hx rfl (hb hby d_prog_37_method_10_34) rfl rfl k_) ?_
  show Go pg.tables ev below (T4.setTop (mkF mi 35 #[.val (.ref o), .val (.int f)] [(.ref o), (.ref o), (.ref rw)])) P
  obtain ⟨T5, X5, e5, st5⟩ := getF X4 hx hZ hown (host := "") (Or.inl (hw _ (List.mem_of_getElem? (i := 35) rfl))) Via.refl e4 F5 (g := (mkF mi 35 #[.val (.ref o), .val (.int f)] [(.ref o), (.ref o), (.ref rw)])) rfl rfl (hb hby d_prog_37_method_10_35)
  refine Go.st st5 ?_
  show Go pg.tables ev below (T5.setTop (mkF mi 38 #[.val (.ref o), .val (.int f)] [(.int (1 : Int32)), (.ref o), (.ref rw)])) P
  refine Go.st (fun t_ k_ => XS.dupX1 X5.here hx rfl (hb hby d_prog_37_method_10_38) rfl rfl rfl k_) ?_
  show Go pg.tables ev below (T5.setTop (mkF mi 39 #[.val (.ref o), .val (.int f)] [(.int (1 : Int32)), (.ref o), (.int (1 : Int32)), (.ref rw)])) P
  refine Go.st (fun t_ k_ => XS.iconst X5.here hx rfl (hb hby d_prog_37_method_10_39) k_) ?_
  show Go pg.tables ev below (T5.setTop (mkF mi 40 #[.val (.ref o), .val (.int f)] [(.int (1 : Int32)), (.int (1 : Int32)), (.ref o), (.int (1 : Int32)), (.ref rw)])) P
  refine Go.st (fun t_ k_ => XS.iadd X5.here hx rfl (hb hby d_prog_37_method_10_40) rfl k_) ?_
  show Go pg.tables ev below (T5.setTop (mkF mi 41 #[.val (.ref o), .val (.int f)] [(.int (2 : Int32)), (.ref o), (.int (1 : Int32)), (.ref rw)])) P
  obtain ⟨T6, h6, X6, e6, W6, st6⟩ := putF X5 hx hZ hown (host := "") (Or.inl (hw _ (List.mem_of_getElem? (i := 35) rfl))) Via.refl e5 F5 E0 (Or.inl (hw _ (List.mem_of_getElem? (i := 36) rfl))) (hw _ (List.mem_of_getElem? (i := 2) rfl)) (ty := .int) (by decide) rfl rfl (g := (mkF mi 41 #[.val (.ref o), .val (.int f)] [(.int (2 : Int32)), (.ref o), (.int (1 : Int32)), (.ref rw)])) rfl rfl (hb hby d_prog_37_method_10_41)
  have Zs7 : n0 ≤ h6.size := Nat.le_trans Z0 (Keep.of_wr W6).1
  have KC7 : Keep h0 h6 [o, rw, bm] := (Keep.refl h0 [o, rw, bm]).wr W6 (Or.inl (List.mem_of_getElem? (i := 0) rfl))
  have N7 := Fr.snoc X6 N0 ge0
  have F6 : Fld Z h6 o "com/example/hedge/hedge/automaton/PairMarks" "rowCount" "I" (.int (2 : Int32)) := F5.same W6
  refine Go.st st6 ?_
  show Go pg.tables ev below (T6.setTop (mkF mi 44 #[.val (.ref o), .val (.int f)] [(.int (1 : Int32)), (.ref rw)])) P
  refine Go.st (fun t_ k_ => XS.iloadN X6.here hx rfl (hb hby d_prog_37_method_10_44) rfl k_) ?_
  show Go pg.tables ev below (T6.setTop (mkF mi 45 #[.val (.ref o), .val (.int f)] [(.int f), (.int (1 : Int32)), (.ref rw)])) P
  have f8 := (A_rw.other W6 (Ne.symm ne_o_rw))
  have ov9 := f8
  obtain ⟨cl9, Ar9, q9, S9, M9, H9, G9⟩ := ov9
  have hin9 : ¬ ((1 : Int32) < 0 ∨ cl9.slots.size ≤ ((1 : Int32)).toNatClampNeg) := inb_of S9 ⟨by decide, by decide⟩
  obtain ⟨T10, h10, X10, e10, W10, st10⟩ := stI X6 hx hZ e6 Ar9 (j := (1 : Int32)) hin9 (g := (mkF mi 45 #[.val (.ref o), .val (.int f)] [(.int f), (.int (1 : Int32)), (.ref rw)])) rfl rfl (hb hby d_prog_37_method_10_45)
  have Zs11 : n0 ≤ h10.size := Nat.le_trans Zs7 (Keep.of_wr W10).1
  have KC11 : Keep h0 h10 [o, rw, bm] := KC7.wr W10 (Or.inl (List.mem_of_getElem? (i := 1) rfl))
  have N11 := Fr.snoc X10 N7 g_rw
  have vl10 : (vR.set 1 (.int f)).length = 16 := List.length_set.trans l_rw
  have V10 : Arv Z h10 rw kR .int (16 : Int32) (vR.set 1 (.int f)) (.int (0 : Int32)) := Arv.set Ar9 q9 S9 M9 H9 G9 rfl W10 1 rfl (by rw [l_rw]; decide)
  refine Go.st st10 ?_
  show Go pg.tables ev below (T10.setTop (mkF mi 46 #[.val (.ref o), .val (.int f)] [])) P
  refine Go.st (fun t_ k_ => XS.aloadN X10.here hx rfl (hb hby d_prog_37_method_10_46) rfl rfl k_) ?_
  show Go pg.tables ev below (T10.setTop (mkF mi 47 #[.val (.ref o), .val (.int f)] [(.ref o)])) P
  refine Go.st (fun t_ k_ => XS.iconst X10.here hx rfl (hb hby d_prog_37_method_10_47) k_) ?_
  show Go pg.tables ev below (T10.setTop (mkF mi 48 #[.val (.ref o), .val (.int f)] [(.int (4 : Int32)), (.ref o)])) P
  have f13 := ((E0.wr W6).wr W10)
  have f14 := ((F4.other W6 (Or.inr (slot_ne (Or.inr (hw _ (List.mem_of_getElem? (i := 15) rfl))) (Or.inl (hw _ (List.mem_of_getElem? (i := 36) rfl))) (by decide) (t := .int) (t' := .int) (by decide) (by decide)))).other W10 (Or.inl ne_o_rw))
  obtain ⟨cq12, q12, q12'⟩ := f13.cell
  obtain ⟨_, _, ⟨T12, L12, k12, n12⟩, -, X12, ⟨Lc12, hQ12, l12, y12, z12⟩, st12⟩ := X10.privateBack hx (y := (⟨"com/example/hedge/hedge/automaton/PairMarks", "isWorthABitmap", "(I)Z"⟩ : MethodName)) hown (mvT hZ (hw _ (List.mem_of_getElem? (i := 37) rfl))) (mvT hZ (hw _ (List.mem_of_getElem? (i := 38) rfl))) (own_selp hZ (hw _ (List.mem_of_getElem? (i := 2) rfl)) (hw _ (List.mem_of_getElem? (i := 39) rfl)) (hw _ (List.mem_of_getElem? (i := 38) rfl))) (Cond.privateMethod_at (mvP hZ (hw _ (List.mem_of_getElem? (i := 39) rfl)) (args := #[]))) (mvT hZ (hw _ (List.mem_of_getElem? (i := 40) rfl))) (by decide) (backOf (W := 0) (rmWo l Z a0 hw [] o wd h10 n0 Zs11 f14) hZ (hw _ (List.mem_of_getElem? (i := 40) rfl)) (hw _ (List.mem_of_getElem? (i := 3) rfl)) (by decide) (by decide)) (g := (mkF mi 48 #[.val (.ref o), .val (.int f)] [(.int (4 : Int32)), (.ref o)])) rfl (by rw [hml]; rfl) (Steps.refl _) (a := o) (by rw [e10]; exact q12) q12' (argsL := [(.int (4 : Int32))]) (rest := []) (lenOf pd_0 rfl) rfl (by show 2 * 0 + _ ≤ _; exact Nat.le_of_eq rfl) (hb hby d_prog_37_method_10_48) (fun _ _ => ⟨rfl, e10, (by decide : 0 + 0 ≤ _), (by decide : 0 + 0 ≤ _)⟩)
  dsimp only [Pt.U, Pt.locs, Pt.cells, Pt.slots] at X12 l12 y12 z12 st12 hQ12
  subst l12 y12 z12
  obtain ⟨rfl, N12q, e12⟩ := hQ12
  have N12 := Fr.app N11 N12q
  refine Go.tr st12 ?_
  show Go pg.tables ev below (T12.setTop (mkF mi 51 #[.val (.ref o), .val (.int f)] [(.int (if (4 : Int64) < ((2 : Int64) * (wd.toInt64)) then (0 : Int32) else (1 : Int32)))])) P
  refine Go.st (fun t_ k_ => XS.ifNo X12.here hx rfl (hb hby d_prog_37_method_10_51) rfl ((if0 _ _).trans (feq (show ¬ ((if (4 : Int64) < ((2 : Int64) * (wd.toInt64)) then (0 : Int32) else (1 : Int32)) = (0 : Int32)) from (by rw [if_neg hwo] <;> decide))).1) k_) ?_
  show Go pg.tables ev below (T12.setTop (mkF mi 54 #[.val (.ref o), .val (.int f)] [])) P
  refine Go.st (fun t_ k_ => XS.aloadN X12.here hx rfl (hb hby d_prog_37_method_10_54) rfl rfl k_) ?_
  show Go pg.tables ev below (T12.setTop (mkF mi 55 #[.val (.ref o), .val (.int f)] [(.ref o)])) P
  have f15 := ((F3.other W6 (Or.inr (slot_ne (Or.inr (hw _ (List.mem_of_getElem? (i := 25) rfl))) (Or.inl (hw _ (List.mem_of_getElem? (i := 36) rfl))) (by decide) (t := (.array (.array .long))) (t' := .int) (by decide) (by decide)))).other W10 (Or.inl ne_o_rw))
  obtain ⟨T16, X16, e16, st16⟩ := getF X12 hx hZ hown (host := "") (Or.inl (hw _ (List.mem_of_getElem? (i := 24) rfl))) Via.refl e12 f15 (g := (mkF mi 55 #[.val (.ref o), .val (.int f)] [(.ref o)])) rfl rfl (hb hby d_prog_37_method_10_55)
  refine Go.st st16 ?_
  show Go pg.tables ev below (T16.setTop (mkF mi 58 #[.val (.ref o), .val (.int f)] [(.ref bm)])) P
  refine Go.st (fun t_ k_ => XS.iloadN X16.here hx rfl (hb hby d_prog_37_method_10_58) rfl k_) ?_
  show Go pg.tables ev below (T16.setTop (mkF mi 59 #[.val (.ref o), .val (.int f)] [(.int f), (.ref bm)])) P
  refine Go.st (fun t_ k_ => XS.aloadN X16.here hx rfl (hb hby d_prog_37_method_10_59) rfl rfl k_) ?_
  show Go pg.tables ev below (T16.setTop (mkF mi 60 #[.val (.ref o), .val (.int f)] [(.ref o), (.int f), (.ref bm)])) P
  obtain ⟨T17, X17, e17, st17⟩ := getF X16 hx hZ hown (host := "") (Or.inl (hw _ (List.mem_of_getElem? (i := 14) rfl))) Via.refl e16 f14 (g := (mkF mi 60 #[.val (.ref o), .val (.int f)] [(.ref o), (.int f), (.ref bm)])) rfl rfl (hb hby d_prog_37_method_10_60)
  refine Go.st st17 ?_
  show Go pg.tables ev below (T17.setTop (mkF mi 63 #[.val (.ref o), .val (.int f)] [(.int wd), (.int f), (.ref bm)])) P
  have f18 := ((A_tb.other W6 (Ne.symm ne_o_tb)).other W10 (Ne.symm ne_rw_tb))
  have f19 := ((A_sz.other W6 (Ne.symm ne_o_sz)).other W10 (Ne.symm ne_rw_sz))
  have f20 := ((A_bm.other W6 (Ne.symm ne_o_bm)).other W10 (Ne.symm ne_rw_bm))
  obtain ⟨T21, h21, k21, X21, e21, E21, A21, EX21, st21⟩ := newPE X17 hx hZ (hw _ (List.mem_of_getElem? (i := 42) rfl)) e17 (g := (mkF mi 63 #[.val (.ref o), .val (.int f)] [(.int wd), (.int f), (.ref bm)])) rfl (hb hby d_prog_37_method_10_63) rfl (own_cap (k := 8) hwd1 hwd2).1 (cap := 8) (own_cap (k := 8) hwd1 hwd2).2 (by decide) (by decide) (by decide) (ad := "[J") (by decide)
  obtain ⟨b21, g21⟩ : ∃ z, z = h10.size := ⟨_, rfl⟩
  rw [← g21] at A21 EX21 st21
  have Zs22 : n0 ≤ h21.size := Nat.le_trans Zs11 E21.1
  have KC22 : Keep h0 h21 [o, rw, bm] := KC11.ext E21
  have g_b21 : n0 ≤ b21 := Nat.le_trans Zs11 (Nat.le_of_eq g21.symm)
  have sz_b21 : h0.size ≤ b21 := Nat.le_trans KC11.1 (Nat.le_of_eq g21.symm)
  have ne_o_b21 : o ≠ b21 := Nat.ne_of_lt (Nat.lt_of_lt_of_le f13.lt (Nat.le_of_eq g21.symm))
  have ne_rw_b21 : rw ≠ b21 := Nat.ne_of_lt (Nat.lt_of_lt_of_le V10.lt (Nat.le_of_eq g21.symm))
  have ne_tb_b21 : tb ≠ b21 := Nat.ne_of_lt (Nat.lt_of_lt_of_le f18.lt (Nat.le_of_eq g21.symm))
  have ne_sz_b21 : sz ≠ b21 := Nat.ne_of_lt (Nat.lt_of_lt_of_le f19.lt (Nat.le_of_eq g21.symm))
  have ne_bm_b21 : bm ≠ b21 := Nat.ne_of_lt (Nat.lt_of_lt_of_le f20.lt (Nat.le_of_eq g21.symm))
  have V21 : Arh Z h21 b21 k21 .long wd [] [] (.long (0 : Int64)) := (Arv.new A21 (own_cap (k := 8) hwd1 hwd2).1).arh
  refine Go.st st21 ?_
  show Go pg.tables ev below (T21.setTop (mkF mi 65 #[.val (.ref o), .val (.int f)] [(.ref b21), (.int f), (.ref bm)])) P
  have f23 := (f20.ext E21)
  have ov24 := f23
  obtain ⟨cl24, Ar24, q24, S24, M24, H24, G24⟩ := ov24
  have hin24 : ¬ (f < 0 ∨ cl24.slots.size ≤ (f).toNatClampNeg) := inb_of S24 ⟨hf1, hf2⟩
  obtain ⟨T25, h25, X25, e25, W25, st25⟩ := stR X21 hx hZ e21 Ar24 (j := f) hin24 rfl (Sto.ofVA Ar24 q24 O_bm (Ins.self EX21)) (g := (mkF mi 65 #[.val (.ref o), .val (.int f)] [(.ref b21), (.int f), (.ref bm)])) rfl rfl (hb hby d_prog_37_method_10_65)
  have Zs26 : n0 ≤ h25.size := Nat.le_trans Zs22 (Keep.of_wr W25).1
  have KC26 : Keep h0 h25 [o, rw, bm] := KC22.wr W25 (Or.inl (List.mem_of_getElem? (i := 2) rfl))
  have N26 := Fr.snoc X25 N12 g_bm
  have V25 : Arh Z h25 bm kB (.array .long) N ((f, (.ref b21)) :: hB) [] .null := Arh.push Ar24 q24 S24 M24 H24 G24 rfl W25 hin24
  refine Go.st st25 ?_
  show Go pg.tables ev below (T25.setTop (mkF mi 66 #[.val (.ref o), .val (.int f)] [])) P
  refine Go.st (fun t_ k_ => XS.goto X25.here hx rfl (pc0 := 66) (pc' := 78) rfl (hb hby d_prog_37_method_10_66) (by decide) (by decide) k_) ?_
  show Go pg.tables ev below (T25.setTop (mkF mi 78 #[.val (.ref o), .val (.int f)] [])) P
  obtain ⟨fs, hr, hrun, hended, hW, hsame⟩ := X25.leave (v := none) (fun _ => rfl) (BodyLoose.notSynchronized Bd)
  have f27 := ((((F0.other W6 (Or.inr (slot_ne (Or.inl (hw _ (List.mem_of_getElem? (i := 12) rfl))) (Or.inl (hw _ (List.mem_of_getElem? (i := 36) rfl))) (by decide) (t := (.array .int)) (t' := .int) (by decide) (by decide)))).other W10 (Or.inl ne_o_rw)).ext E21).other W25 (Or.inl ne_o_bm))
  have f28 := ((((F1.other W6 (Or.inr (slot_ne (Or.inr (hw _ (List.mem_of_getElem? (i := 19) rfl))) (Or.inl (hw _ (List.mem_of_getElem? (i := 36) rfl))) (by decide) (t := (.array (.array .int))) (t' := .int) (by decide) (by decide)))).other W10 (Or.inl ne_o_rw)).ext E21).other W25 (Or.inl ne_o_bm))
  have f29 := ((((F2.other W6 (Or.inr (slot_ne (Or.inr (hw _ (List.mem_of_getElem? (i := 21) rfl))) (Or.inl (hw _ (List.mem_of_getElem? (i := 36) rfl))) (by decide) (t := (.array .int)) (t' := .int) (by decide) (by decide)))).other W10 (Or.inl ne_o_rw)).ext E21).other W25 (Or.inl ne_o_bm))
  have f30 := ((f15.ext E21).other W25 (Or.inl ne_o_bm))
  have f31 := ((f14.ext E21).other W25 (Or.inl ne_o_bm))
  have f32 := (((F6.other W10 (Or.inl ne_o_rw)).ext E21).other W25 (Or.inl ne_o_bm))
  have f33 := ((V10.ext E21).other W25 ne_rw_bm)
  have f34 := (V21.other W25 (Ne.symm ne_bm_b21))
  refine ⟨_, _, ?_, hP _ _ ⟨hrun, hended, _, _, rfl, ?_, ⟨_, rfl⟩, hW, hsame.mono (by decide) (by decide)⟩⟩
  · exact X25.returnOut hx Bd.returns (hb hby d_prog_37_method_10_78) hr
  · show (none : Option Value) = none ∧ Fr n0 _ ∧ Keep h0 T25.heap [o, rw, bm] ∧ ∃ (x : Addr) (kx : ClassId), h0.size ≤ x ∧ n0 ≤ x ∧ Fld Z T25.heap o "com/example/hedge/hedge/automaton/PairMarks" "rows" "[I" (.ref rw) ∧ Fld Z T25.heap o "com/example/hedge/hedge/automaton/PairMarks" "tables" "[[I" (.ref tb) ∧ Fld Z T25.heap o "com/example/hedge/hedge/automaton/PairMarks" "sizes" "[I" (.ref sz) ∧ Fld Z T25.heap o "com/example/hedge/hedge/automaton/PairMarks" "bitmaps" "[[J" (.ref bm) ∧ Fld Z T25.heap o "com/example/hedge/hedge/automaton/PairMarks" "words" "I" (.int wd) ∧ Fld Z T25.heap o "com/example/hedge/hedge/automaton/PairMarks" "rowCount" "I" (.int (2 : Int32)) ∧ Arv Z T25.heap rw kR .int (16 : Int32) (vR.set 1 (.int f)) (.int (0 : Int32)) ∧ Arh Z T25.heap bm kB (.array .long) N ((f, .ref x) :: hB) [] .null ∧ Arh Z T25.heap x kx .long wd [] [] (.long (0 : Int64))
    rw [e25]
    exact ⟨rfl, N26, KC26, b21, _, sz_b21, g_b21, f27, f28, f29, f30, f31, f32, f33, V25, f34⟩
theorem ef_rmBe1T (mi : MethodId) (o : Addr) (f : Int32) (rw : Addr) (tb : Addr) (sz : Addr) (bm : Addr) (kR : ClassId) (kT : ClassId) (kS : ClassId) (kB : ClassId) (N : Int32) (wd : Int32) (hT : List (Int32 × Value)) (hS : List (Int32 × Value)) (hB : List (Int32 × Value)) (vR : List Value) : entryFrame mi #[(.ref o), (.int f)] 2 = mkF mi 0 #[.val (.ref o), .val (.int f)] [] := by first | (simp [entryFrame, mkF, argsToLocals, Value.category]; done) | rfl
def Q_rmBe1T (Z : State) (o : Addr) (f : Int32) (rw : Addr) (tb : Addr) (sz : Addr) (bm : Addr) (kR : ClassId) (kT : ClassId) (kS : ClassId) (kB : ClassId) (N : Int32) (wd : Int32) (hT : List (Int32 × Value)) (hS : List (Int32 × Value)) (hB : List (Int32 × Value)) (vR : List Value) (h0 : Heap) (n0 : Nat) (vv_ : Option Value) (hh_ : Heap) (LL_ : List Loc) : Prop := vv_ = none ∧ Fr n0 LL_ ∧ Keep h0 hh_ [o, rw, tb] ∧ ∃ (x : Addr) (kx : ClassId), h0.size ≤ x ∧ n0 ≤ x ∧ Fld Z hh_ o "com/example/hedge/hedge/automaton/PairMarks" "rows" "[I" (.ref rw) ∧ Fld Z hh_ o "com/example/hedge/hedge/automaton/PairMarks" "tables" "[[I" (.ref tb) ∧ Fld Z hh_ o "com/example/hedge/hedge/automaton/PairMarks" "sizes" "[I" (.ref sz) ∧ Fld Z hh_ o "com/example/hedge/hedge/automaton/PairMarks" "bitmaps" "[[J" (.ref bm) ∧ Fld Z hh_ o "com/example/hedge/hedge/automaton/PairMarks" "words" "I" (.int wd) ∧ Fld Z hh_ o "com/example/hedge/hedge/automaton/PairMarks" "rowCount" "I" (.int (2 : Int32)) ∧ Arv Z hh_ rw kR .int (16 : Int32) (vR.set 1 (.int f)) (.int (0 : Int32)) ∧ Arh Z hh_ tb kT (.array .int) N ((f, .ref x) :: hT) [] .null ∧ Arh Z hh_ x kx .int (4 : Int32) [] [] (.int (0 : Int32))
set_option maxRecDepth 65536 in
set_option maxHeartbeats 40000000 in
theorem rmBe1T (l : Launch) (Z : State) (a0 : Array Value) (hw : ∀ d ∈ tables_1, d.before a0 Z = true) (ws : List Jvm.Cond) (o : Addr) (f : Int32) (rw : Addr) (tb : Addr) (sz : Addr) (bm : Addr) (kR : ClassId) (kT : ClassId) (kS : ClassId) (kB : ClassId) (N : Int32) (wd : Int32) (hT : List (Int32 × Value)) (hS : List (Int32 × Value)) (hB : List (Int32 × Value)) (vR : List Value) (h0 : Heap) (n0 : Nat) (Z0 : n0 ≤ h0.size) (E0 : Exa Z h0 o "com/example/hedge/hedge/automaton/PairMarks") (ge0 : n0 ≤ o) (g_rw : n0 ≤ rw) (g_tb : n0 ≤ tb) (g_sz : n0 ≤ sz) (g_bm : n0 ≤ bm) (ne_o_rw : o ≠ rw) (ne_o_tb : o ≠ tb) (ne_o_sz : o ≠ sz) (ne_o_bm : o ≠ bm) (ne_rw_tb : rw ≠ tb) (ne_rw_sz : rw ≠ sz) (ne_rw_bm : rw ≠ bm) (ne_tb_sz : tb ≠ sz) (ne_tb_bm : tb ≠ bm) (ne_sz_bm : sz ≠ bm) (F0 : Fld Z h0 o "com/example/hedge/hedge/automaton/PairMarks" "rows" "[I" (.ref rw)) (F1 : Fld Z h0 o "com/example/hedge/hedge/automaton/PairMarks" "tables" "[[I" (.ref tb)) (F2 : Fld Z h0 o "com/example/hedge/hedge/automaton/PairMarks" "sizes" "[I" (.ref sz)) (F3 : Fld Z h0 o "com/example/hedge/hedge/automaton/PairMarks" "bitmaps" "[[J" (.ref bm)) (F4 : Fld Z h0 o "com/example/hedge/hedge/automaton/PairMarks" "words" "I" (.int wd)) (F5 : Fld Z h0 o "com/example/hedge/hedge/automaton/PairMarks" "rowCount" "I" (.int (1 : Int32))) (A_rw : Arv Z h0 rw kR .int (16 : Int32) vR (.int (0 : Int32))) (l_rw : vR.length = 16) (A_tb : Arh Z h0 tb kT (.array .int) N hT [] .null) (A_sz : Arh Z h0 sz kS .int N hS [] (.int (0 : Int32))) (A_bm : Arh Z h0 bm kB (.array .long) N hB [] .null) (O_tb : OvrA Z kT .int "[I") (O_bm : OvrA Z kB .long "[J") (hf1 : ¬ f < 0) (hf2 : f < N) (hwo : (4 : Int64) < ((2 : Int64) * (wd.toInt64))) (hwd1 : 1 ≤ wd.toInt) (hwd2 : wd.toInt ≤ 8) :
    MetFree l (⟨"com/example/hedge/hedge/automaton/PairMarks", "begin", "(I)V"⟩ : MethodName) (head1 (Jvm.Cond.code (⟨"com/example/hedge/hedge/automaton/PairMarks", "begin", "(I)V"⟩ : MethodName) prog_37_method_10_code 2 none :: ws) ({ frames := 1, cells := 1, slots := 4, locals := 13 } : Room)) (fun aa_ U => aa_ = #[(.ref o), (.int f)] ∧ Z.Warmed39 U.vm ∧ U.heap = h0) (fun _ _ _ _ _ => True) (fun _ U oo_ UV_ => ∃ vv_ LL_, oo_ = .returned vv_ ∧ Q_rmBe1T Z o f rw tb sz bm kR kT kS kB N wd hT hS hB vR h0 n0 vv_ UV_.heap LL_ ∧ FrameEnd U oo_ UV_ LL_ ({ frames := 1, cells := 1, slots := 4, locals := 13 } : Room).cells ({ frames := 1, cells := 1, slots := 4, locals := 13 } : Room).slots) := by
  refine MetFree.of_bodySF (plainFor_of_name pn_0) hisR ?_
  intro pg ev si mi args below meth ci s₁ Bd hml0 hP0 hK
  obtain ⟨rfl, hZ, hh⟩ := hP0
  have hx := Bd.exec
  have hby := Bd.bytes
  have hml : ci.maxLocals = 2 := hml0
  have hown : si.vm.findClass "com/example/hedge/hedge/automaton/PairMarks" = some mi.cls := findClass_of_methodNamed Bd.named
  have hnm := (name_of_methodNamed Bd.named Bd.method).1
  have X0 : Stand pg l ev ({ frames := 1, cells := 1, slots := 4, locals := 13 } : Room) si mi #[(.ref o), (.int f)] below meth ci s₁ [] 0 0 := Stand.of_body Bd
  have e0 : s₁.heap = h0 := by rw [← hh, Bd.state]; rfl
  have N0 := Fr.nil n0
  refine Go.start (fun P hP => ?_)
  refine Go.st (fun t_ k_ => castTop (ef_rmBe1T mi o f rw tb sz bm kR kT kS kB N wd hT hS hB vR) k_) (A := s₁.setTop (mkF mi 0 #[.val (.ref o), .val (.int f)] [])) ?_
  show Go pg.tables ev below (s₁.setTop (mkF mi 0 #[.val (.ref o), .val (.int f)] [])) P
  refine Go.st (fun t_ k_ => XS.aloadN X0.here hx rfl (hb hby d_prog_37_method_10_0) rfl rfl k_) ?_
  show Go pg.tables ev below (s₁.setTop (mkF mi 1 #[.val (.ref o), .val (.int f)] [(.ref o)])) P
  obtain ⟨T1, X1, e1, st1⟩ := getF X0 hx hZ hown (host := "") (Or.inl (hw _ (List.mem_of_getElem? (i := 35) rfl))) Via.refl e0 F5 (g := (mkF mi 1 #[.val (.ref o), .val (.int f)] [(.ref o)])) rfl rfl (hb hby d_prog_37_method_10_1)
  refine Go.st st1 ?_
  show Go pg.tables ev below (T1.setTop (mkF mi 4 #[.val (.ref o), .val (.int f)] [(.int (1 : Int32))])) P
  refine Go.st (fun t_ k_ => XS.aloadN X1.here hx rfl (hb hby d_prog_37_method_10_4) rfl rfl k_) ?_
  show Go pg.tables ev below (T1.setTop (mkF mi 5 #[.val (.ref o), .val (.int f)] [(.ref o), (.int (1 : Int32))])) P
  obtain ⟨T2, X2, e2, st2⟩ := getF X1 hx hZ hown (host := "") (Or.inl (hw _ (List.mem_of_getElem? (i := 11) rfl))) Via.refl e1 F0 (g := (mkF mi 5 #[.val (.ref o), .val (.int f)] [(.ref o), (.int (1 : Int32))])) rfl rfl (hb hby d_prog_37_method_10_5)
  refine Go.st st2 ?_
  show Go pg.tables ev below (T2.setTop (mkF mi 8 #[.val (.ref o), .val (.int f)] [(.ref rw), (.int (1 : Int32))])) P
  have ov3 := A_rw
  obtain ⟨cl3, Ar3, q3, S3, M3, H3, G3⟩ := ov3
  refine Go.st (X2.arraylength hx (by rw [e2]; exact Ar3.1) (State.isArrayOf_alike hZ.alike Ar3.2.1) (g := (mkF mi 8 #[.val (.ref o), .val (.int f)] [(.ref rw), (.int (1 : Int32))])) rfl rfl (hb hby d_prog_37_method_10_8)) ?_
  rw [len_of S3 M3]
  show Go pg.tables ev below (T2.setTop (mkF mi 9 #[.val (.ref o), .val (.int f)] [(.int (16 : Int32)), (.int (1 : Int32))])) P
  refine Go.st (fun t_ k_ => XS.icmpYes X2.here hx rfl (pc0 := 9) (pc' := 29) rfl (hb hby d_prog_37_method_10_9) rfl (feq (by decide)).2 (by decide) (by decide) k_) ?_
  show Go pg.tables ev below (T2.setTop (mkF mi 29 #[.val (.ref o), .val (.int f)] [])) P
  refine Go.st (fun t_ k_ => XS.aloadN X2.here hx rfl (hb hby d_prog_37_method_10_29) rfl rfl k_) ?_
  show Go pg.tables ev below (T2.setTop (mkF mi 30 #[.val (.ref o), .val (.int f)] [(.ref o)])) P
  obtain ⟨T4, X4, e4, st4⟩ := getF X2 hx hZ hown (host := "") (Or.inl (hw _ (List.mem_of_getElem? (i := 11) rfl))) Via.refl e2 F0 (g := (mkF mi 30 #[.val (.ref o), .val (.int f)] [(.ref o)])) rfl rfl (hb hby d_prog_37_method_10_30)
  refine Go.st st4 ?_
  show Go pg.tables ev below (T4.setTop (mkF mi 33 #[.val (.ref o), .val (.int f)] [(.ref rw)])) P
  refine Go.st (fun t_ k_ => XS.aloadN X4.here hx rfl (hb hby d_prog_37_method_10_33) rfl rfl k_) ?_
  show Go pg.tables ev below (T4.setTop (mkF mi 34 #[.val (.ref o), .val (.int f)] [(.ref o), (.ref rw)])) P
  refine Go.st (fun t_ k_ => XS.dup X4.here hx rfl (hb hby d_prog_37_method_10_34) rfl rfl k_) ?_
  show Go pg.tables ev below (T4.setTop (mkF mi 35 #[.val (.ref o), .val (.int f)] [(.ref o), (.ref o), (.ref rw)])) P
  obtain ⟨T5, X5, e5, st5⟩ := getF X4 hx hZ hown (host := "") (Or.inl (hw _ (List.mem_of_getElem? (i := 35) rfl))) Via.refl e4 F5 (g := (mkF mi 35 #[.val (.ref o), .val (.int f)] [(.ref o), (.ref o), (.ref rw)])) rfl rfl (hb hby d_prog_37_method_10_35)
  refine Go.st st5 ?_
  show Go pg.tables ev below (T5.setTop (mkF mi 38 #[.val (.ref o), .val (.int f)] [(.int (1 : Int32)), (.ref o), (.ref rw)])) P
  refine Go.st (fun t_ k_ => XS.dupX1 X5.here hx rfl (hb hby d_prog_37_method_10_38) rfl rfl rfl k_) ?_
  show Go pg.tables ev below (T5.setTop (mkF mi 39 #[.val (.ref o), .val (.int f)] [(.int (1 : Int32)), (.ref o), (.int (1 : Int32)), (.ref rw)])) P
  refine Go.st (fun t_ k_ => XS.iconst X5.here hx rfl (hb hby d_prog_37_method_10_39) k_) ?_
  show Go pg.tables ev below (T5.setTop (mkF mi 40 #[.val (.ref o), .val (.int f)] [(.int (1 : Int32)), (.int (1 : Int32)), (.ref o), (.int (1 : Int32)), (.ref rw)])) P
  refine Go.st (fun t_ k_ => XS.iadd X5.here hx rfl (hb hby d_prog_37_method_10_40) rfl k_) ?_
  show Go pg.tables ev below (T5.setTop (mkF mi 41 #[.val (.ref o), .val (.int f)] [(.int (2 : Int32)), (.ref o), (.int (1 : Int32)), (.ref rw)])) P
  obtain ⟨T6, h6, X6, e6, W6, st6⟩ := putF X5 hx hZ hown (host := "") (Or.inl (hw _ (List.mem_of_getElem? (i := 35) rfl))) Via.refl e5 F5 E0 (Or.inl (hw _ (List.mem_of_getElem? (i := 36) rfl))) (hw _ (List.mem_of_getElem? (i := 2) rfl)) (ty := .int) (by decide) rfl rfl (g := (mkF mi 41 #[.val (.ref o), .val (.int f)] [(.int (2 : Int32)), (.ref o), (.int (1 : Int32)), (.ref rw)])) rfl rfl (hb hby d_prog_37_method_10_41)
  have Zs7 : n0 ≤ h6.size := Nat.le_trans Z0 (Keep.of_wr W6).1
  have KC7 : Keep h0 h6 [o, rw, tb] := (Keep.refl h0 [o, rw, tb]).wr W6 (Or.inl (List.mem_of_getElem? (i := 0) rfl))
  have N7 := Fr.snoc X6 N0 ge0
  have F6 : Fld Z h6 o "com/example/hedge/hedge/automaton/PairMarks" "rowCount" "I" (.int (2 : Int32)) := F5.same W6
  refine Go.st st6 ?_
  show Go pg.tables ev below (T6.setTop (mkF mi 44 #[.val (.ref o), .val (.int f)] [(.int (1 : Int32)), (.ref rw)])) P
  refine Go.st (fun t_ k_ => XS.iloadN X6.here hx rfl (hb hby d_prog_37_method_10_44) rfl k_) ?_
  show Go pg.tables ev below (T6.setTop (mkF mi 45 #[.val (.ref o), .val (.int f)] [(.int f), (.int (1 : Int32)), (.ref rw)])) P
  have f8 := (A_rw.other W6 (Ne.symm ne_o_rw))
  have ov9 := f8
  obtain ⟨cl9, Ar9, q9, S9, M9, H9, G9⟩ := ov9
  have hin9 : ¬ ((1 : Int32) < 0 ∨ cl9.slots.size ≤ ((1 : Int32)).toNatClampNeg) := inb_of S9 ⟨by decide, by decide⟩
  obtain ⟨T10, h10, X10, e10, W10, st10⟩ := stI X6 hx hZ e6 Ar9 (j := (1 : Int32)) hin9 (g := (mkF mi 45 #[.val (.ref o), .val (.int f)] [(.int f), (.int (1 : Int32)), (.ref rw)])) rfl rfl (hb hby d_prog_37_method_10_45)
  have Zs11 : n0 ≤ h10.size := Nat.le_trans Zs7 (Keep.of_wr W10).1
  have KC11 : Keep h0 h10 [o, rw, tb] := KC7.wr W10 (Or.inl (List.mem_of_getElem? (i := 1) rfl))
  have N11 := Fr.snoc X10 N7 g_rw
  have vl10 : (vR.set 1 (.int f)).length = 16 := List.length_set.trans l_rw
  have V10 : Arv Z h10 rw kR .int (16 : Int32) (vR.set 1 (.int f)) (.int (0 : Int32)) := Arv.set Ar9 q9 S9 M9 H9 G9 rfl W10 1 rfl (by rw [l_rw]; decide)
  refine Go.st st10 ?_
  show Go pg.tables ev below (T10.setTop (mkF mi 46 #[.val (.ref o), .val (.int f)] [])) P
  refine Go.st (fun t_ k_ => XS.aloadN X10.here hx rfl (hb hby d_prog_37_method_10_46) rfl rfl k_) ?_
  show Go pg.tables ev below (T10.setTop (mkF mi 47 #[.val (.ref o), .val (.int f)] [(.ref o)])) P
  refine Go.st (fun t_ k_ => XS.iconst X10.here hx rfl (hb hby d_prog_37_method_10_47) k_) ?_
  show Go pg.tables ev below (T10.setTop (mkF mi 48 #[.val (.ref o), .val (.int f)] [(.int (4 : Int32)), (.ref o)])) P
  have f13 := ((E0.wr W6).wr W10)
  have f14 := ((F4.other W6 (Or.inr (slot_ne (Or.inr (hw _ (List.mem_of_getElem? (i := 15) rfl))) (Or.inl (hw _ (List.mem_of_getElem? (i := 36) rfl))) (by decide) (t := .int) (t' := .int) (by decide) (by decide)))).other W10 (Or.inl ne_o_rw))
  obtain ⟨cq12, q12, q12'⟩ := f13.cell
  obtain ⟨_, _, ⟨T12, L12, k12, n12⟩, -, X12, ⟨Lc12, hQ12, l12, y12, z12⟩, st12⟩ := X10.privateBack hx (y := (⟨"com/example/hedge/hedge/automaton/PairMarks", "isWorthABitmap", "(I)Z"⟩ : MethodName)) hown (mvT hZ (hw _ (List.mem_of_getElem? (i := 37) rfl))) (mvT hZ (hw _ (List.mem_of_getElem? (i := 38) rfl))) (own_selp hZ (hw _ (List.mem_of_getElem? (i := 2) rfl)) (hw _ (List.mem_of_getElem? (i := 39) rfl)) (hw _ (List.mem_of_getElem? (i := 38) rfl))) (Cond.privateMethod_at (mvP hZ (hw _ (List.mem_of_getElem? (i := 39) rfl)) (args := #[]))) (mvT hZ (hw _ (List.mem_of_getElem? (i := 40) rfl))) (by decide) (backOf (W := 0) (rmWo l Z a0 hw [] o wd h10 n0 Zs11 f14) hZ (hw _ (List.mem_of_getElem? (i := 40) rfl)) (hw _ (List.mem_of_getElem? (i := 3) rfl)) (by decide) (by decide)) (g := (mkF mi 48 #[.val (.ref o), .val (.int f)] [(.int (4 : Int32)), (.ref o)])) rfl (by rw [hml]; rfl) (Steps.refl _) (a := o) (by rw [e10]; exact q12) q12' (argsL := [(.int (4 : Int32))]) (rest := []) (lenOf pd_0 rfl) rfl (by show 2 * 0 + _ ≤ _; exact Nat.le_of_eq rfl) (hb hby d_prog_37_method_10_48) (fun _ _ => ⟨rfl, e10, (by decide : 0 + 0 ≤ _), (by decide : 0 + 0 ≤ _)⟩)
  dsimp only [Pt.U, Pt.locs, Pt.cells, Pt.slots] at X12 l12 y12 z12 st12 hQ12
  subst l12 y12 z12
  obtain ⟨rfl, N12q, e12⟩ := hQ12
  have N12 := Fr.app N11 N12q
  refine Go.tr st12 ?_
  show Go pg.tables ev below (T12.setTop (mkF mi 51 #[.val (.ref o), .val (.int f)] [(.int (if (4 : Int64) < ((2 : Int64) * (wd.toInt64)) then (0 : Int32) else (1 : Int32)))])) P
  refine Go.st (fun t_ k_ => XS.ifYes X12.here hx rfl (pc0 := 51) (pc' := 69) rfl (hb hby d_prog_37_method_10_51) rfl ((if0 _ _).trans (teq (show (if (4 : Int64) < ((2 : Int64) * (wd.toInt64)) then (0 : Int32) else (1 : Int32)) = (0 : Int32) from (by rw [if_pos hwo] <;> decide))).1) (by decide) (by decide) k_) ?_
  show Go pg.tables ev below (T12.setTop (mkF mi 69 #[.val (.ref o), .val (.int f)] [])) P
  refine Go.st (fun t_ k_ => XS.aloadN X12.here hx rfl (hb hby d_prog_37_method_10_69) rfl rfl k_) ?_
  show Go pg.tables ev below (T12.setTop (mkF mi 70 #[.val (.ref o), .val (.int f)] [(.ref o)])) P
  have f15 := ((F1.other W6 (Or.inr (slot_ne (Or.inr (hw _ (List.mem_of_getElem? (i := 19) rfl))) (Or.inl (hw _ (List.mem_of_getElem? (i := 36) rfl))) (by decide) (t := (.array (.array .int))) (t' := .int) (by decide) (by decide)))).other W10 (Or.inl ne_o_rw))
  obtain ⟨T16, X16, e16, st16⟩ := getF X12 hx hZ hown (host := "") (Or.inl (hw _ (List.mem_of_getElem? (i := 18) rfl))) Via.refl e12 f15 (g := (mkF mi 70 #[.val (.ref o), .val (.int f)] [(.ref o)])) rfl rfl (hb hby d_prog_37_method_10_70)
  refine Go.st st16 ?_
  show Go pg.tables ev below (T16.setTop (mkF mi 73 #[.val (.ref o), .val (.int f)] [(.ref tb)])) P
  refine Go.st (fun t_ k_ => XS.iloadN X16.here hx rfl (hb hby d_prog_37_method_10_73) rfl k_) ?_
  show Go pg.tables ev below (T16.setTop (mkF mi 74 #[.val (.ref o), .val (.int f)] [(.int f), (.ref tb)])) P
  refine Go.st (fun t_ k_ => XS.iconst X16.here hx rfl (hb hby d_prog_37_method_10_74) k_) ?_
  show Go pg.tables ev below (T16.setTop (mkF mi 75 #[.val (.ref o), .val (.int f)] [(.int (4 : Int32)), (.int f), (.ref tb)])) P
  have f17 := ((A_tb.other W6 (Ne.symm ne_o_tb)).other W10 (Ne.symm ne_rw_tb))
  have f18 := ((A_sz.other W6 (Ne.symm ne_o_sz)).other W10 (Ne.symm ne_rw_sz))
  have f19 := ((A_bm.other W6 (Ne.symm ne_o_bm)).other W10 (Ne.symm ne_rw_bm))
  obtain ⟨T20, h20, k20, X20, e20, E20, A20, EX20, st20⟩ := newPE X16 hx hZ (hw _ (List.mem_of_getElem? (i := 10) rfl)) e16 (g := (mkF mi 75 #[.val (.ref o), .val (.int f)] [(.int (4 : Int32)), (.int f), (.ref tb)])) rfl (hb hby d_prog_37_method_10_75) rfl (by decide) (cap := 4) (by decide) (by decide) (by decide) (by decide) (ad := "[I") (by decide)
  obtain ⟨b20, g20⟩ : ∃ z, z = h10.size := ⟨_, rfl⟩
  rw [← g20] at A20 EX20 st20
  have Zs21 : n0 ≤ h20.size := Nat.le_trans Zs11 E20.1
  have KC21 : Keep h0 h20 [o, rw, tb] := KC11.ext E20
  have g_b20 : n0 ≤ b20 := Nat.le_trans Zs11 (Nat.le_of_eq g20.symm)
  have sz_b20 : h0.size ≤ b20 := Nat.le_trans KC11.1 (Nat.le_of_eq g20.symm)
  have ne_o_b20 : o ≠ b20 := Nat.ne_of_lt (Nat.lt_of_lt_of_le f13.lt (Nat.le_of_eq g20.symm))
  have ne_rw_b20 : rw ≠ b20 := Nat.ne_of_lt (Nat.lt_of_lt_of_le V10.lt (Nat.le_of_eq g20.symm))
  have ne_tb_b20 : tb ≠ b20 := Nat.ne_of_lt (Nat.lt_of_lt_of_le f17.lt (Nat.le_of_eq g20.symm))
  have ne_sz_b20 : sz ≠ b20 := Nat.ne_of_lt (Nat.lt_of_lt_of_le f18.lt (Nat.le_of_eq g20.symm))
  have ne_bm_b20 : bm ≠ b20 := Nat.ne_of_lt (Nat.lt_of_lt_of_le f19.lt (Nat.le_of_eq g20.symm))
  have V20 : Arh Z h20 b20 k20 .int (4 : Int32) [] [] (.int (0 : Int32)) := (Arv.new A20 (by decide)).arh
  refine Go.st st20 ?_
  show Go pg.tables ev below (T20.setTop (mkF mi 77 #[.val (.ref o), .val (.int f)] [(.ref b20), (.int f), (.ref tb)])) P
  have f22 := (f17.ext E20)
  have ov23 := f22
  obtain ⟨cl23, Ar23, q23, S23, M23, H23, G23⟩ := ov23
  have hin23 : ¬ (f < 0 ∨ cl23.slots.size ≤ (f).toNatClampNeg) := inb_of S23 ⟨hf1, hf2⟩
  obtain ⟨T24, h24, X24, e24, W24, st24⟩ := stR X20 hx hZ e20 Ar23 (j := f) hin23 rfl (Sto.ofVA Ar23 q23 O_tb (Ins.self EX20)) (g := (mkF mi 77 #[.val (.ref o), .val (.int f)] [(.ref b20), (.int f), (.ref tb)])) rfl rfl (hb hby d_prog_37_method_10_77)
  have Zs25 : n0 ≤ h24.size := Nat.le_trans Zs21 (Keep.of_wr W24).1
  have KC25 : Keep h0 h24 [o, rw, tb] := KC21.wr W24 (Or.inl (List.mem_of_getElem? (i := 2) rfl))
  have N25 := Fr.snoc X24 N12 g_tb
  have V24 : Arh Z h24 tb kT (.array .int) N ((f, (.ref b20)) :: hT) [] .null := Arh.push Ar23 q23 S23 M23 H23 G23 rfl W24 hin23
  refine Go.st st24 ?_
  show Go pg.tables ev below (T24.setTop (mkF mi 78 #[.val (.ref o), .val (.int f)] [])) P
  obtain ⟨fs, hr, hrun, hended, hW, hsame⟩ := X24.leave (v := none) (fun _ => rfl) (BodyLoose.notSynchronized Bd)
  have f26 := ((((F0.other W6 (Or.inr (slot_ne (Or.inl (hw _ (List.mem_of_getElem? (i := 12) rfl))) (Or.inl (hw _ (List.mem_of_getElem? (i := 36) rfl))) (by decide) (t := (.array .int)) (t' := .int) (by decide) (by decide)))).other W10 (Or.inl ne_o_rw)).ext E20).other W24 (Or.inl ne_o_tb))
  have f27 := ((f15.ext E20).other W24 (Or.inl ne_o_tb))
  have f28 := ((((F2.other W6 (Or.inr (slot_ne (Or.inr (hw _ (List.mem_of_getElem? (i := 21) rfl))) (Or.inl (hw _ (List.mem_of_getElem? (i := 36) rfl))) (by decide) (t := (.array .int)) (t' := .int) (by decide) (by decide)))).other W10 (Or.inl ne_o_rw)).ext E20).other W24 (Or.inl ne_o_tb))
  have f29 := ((((F3.other W6 (Or.inr (slot_ne (Or.inr (hw _ (List.mem_of_getElem? (i := 25) rfl))) (Or.inl (hw _ (List.mem_of_getElem? (i := 36) rfl))) (by decide) (t := (.array (.array .long))) (t' := .int) (by decide) (by decide)))).other W10 (Or.inl ne_o_rw)).ext E20).other W24 (Or.inl ne_o_tb))
  have f30 := ((f14.ext E20).other W24 (Or.inl ne_o_tb))
  have f31 := (((F6.other W10 (Or.inl ne_o_rw)).ext E20).other W24 (Or.inl ne_o_tb))
  have f32 := ((V10.ext E20).other W24 ne_rw_tb)
  have f33 := (V20.other W24 (Ne.symm ne_tb_b20))
  refine ⟨_, _, ?_, hP _ _ ⟨hrun, hended, _, _, rfl, ?_, ⟨_, rfl⟩, hW, hsame.mono (by decide) (by decide)⟩⟩
  · exact X24.returnOut hx Bd.returns (hb hby d_prog_37_method_10_78) hr
  · show (none : Option Value) = none ∧ Fr n0 _ ∧ Keep h0 T24.heap [o, rw, tb] ∧ ∃ (x : Addr) (kx : ClassId), h0.size ≤ x ∧ n0 ≤ x ∧ Fld Z T24.heap o "com/example/hedge/hedge/automaton/PairMarks" "rows" "[I" (.ref rw) ∧ Fld Z T24.heap o "com/example/hedge/hedge/automaton/PairMarks" "tables" "[[I" (.ref tb) ∧ Fld Z T24.heap o "com/example/hedge/hedge/automaton/PairMarks" "sizes" "[I" (.ref sz) ∧ Fld Z T24.heap o "com/example/hedge/hedge/automaton/PairMarks" "bitmaps" "[[J" (.ref bm) ∧ Fld Z T24.heap o "com/example/hedge/hedge/automaton/PairMarks" "words" "I" (.int wd) ∧ Fld Z T24.heap o "com/example/hedge/hedge/automaton/PairMarks" "rowCount" "I" (.int (2 : Int32)) ∧ Arv Z T24.heap rw kR .int (16 : Int32) (vR.set 1 (.int f)) (.int (0 : Int32)) ∧ Arh Z T24.heap tb kT (.array .int) N ((f, .ref x) :: hT) [] .null ∧ Arh Z T24.heap x kx .int (4 : Int32) [] [] (.int (0 : Int32))
    rw [e24]
    exact ⟨rfl, N25, KC25, b20, _, sz_b20, g_b20, f26, f27, f28, f29, f30, f31, f32, V24, f33⟩
theorem d_prog_37_method_13_0 : decode prog_37_method_13_code 0 = .ok (.aload_n 0, 1) := by decide +kernel
theorem d_prog_37_method_13_1 : decode prog_37_method_13_code 1 = .ok (.arraylength, 1) := by decide +kernel
theorem d_prog_37_method_13_2 : decode prog_37_method_13_code 2 = .ok (.iconst 1, 1) := by decide +kernel
theorem d_prog_37_method_13_3 : decode prog_37_method_13_code 3 = .ok (.isub, 1) := by decide +kernel
theorem d_prog_37_method_13_4 : decode prog_37_method_13_code 4 = .ok (.istore_n 2, 1) := by decide +kernel
theorem d_prog_37_method_13_5 : decode prog_37_method_13_code 5 = .ok (.iload_n 1, 1) := by decide +kernel
theorem d_prog_37_method_13_6 : decode prog_37_method_13_code 6 = .ok (.iload_n 2, 1) := by decide +kernel
theorem d_prog_37_method_13_7 : decode prog_37_method_13_code 7 = .ok (.invokestatic 104, 3) := by decide +kernel
theorem pd_1 : parseMethodDescriptor "(II)I" = some ⟨[.int, .int], some .int⟩ := by decide +kernel
theorem d_prog_37_method_13_10 : decode prog_37_method_13_code 10 = .ok (.istore_n 3, 1) := by decide +kernel
theorem d_prog_37_method_13_11 : decode prog_37_method_13_code 11 = .ok (.aload_n 0, 1) := by decide +kernel
theorem d_prog_37_method_13_12 : decode prog_37_method_13_code 12 = .ok (.iload_n 3, 1) := by decide +kernel
theorem d_prog_37_method_13_13 : decode prog_37_method_13_code 13 = .ok (.iaload, 1) := by decide +kernel
theorem d_prog_37_method_13_14 : decode prog_37_method_13_code 14 = .ok (.ifCond .eq 22, 3) := by decide +kernel
theorem d_prog_37_method_13_36 : decode prog_37_method_13_code 36 = .ok (.iload_n 3, 1) := by decide +kernel
theorem d_prog_37_method_13_37 : decode prog_37_method_13_code 37 = .ok (.ireturn, 1) := by decide +kernel
theorem ef_rmFi1 (mi : MethodId) (x : Addr) (s : Int32) (kx : ClassId) (hsx : List (Int32 × Value)) : entryFrame mi #[(.ref x), (.int s)] 4 = mkF mi 0 #[.val (.ref x), .val (.int s), .unset, .unset] [] := by first | (simp [entryFrame, mkF, argsToLocals, Value.category]; done) | rfl
def Q_rmFi1 (Z : State) (x : Addr) (s : Int32) (kx : ClassId) (hsx : List (Int32 × Value)) (h0 : Heap) (n0 : Nat) (vv_ : Option Value) (hh_ : Heap) (LL_ : List Loc) : Prop := vv_ = some (.int (fSl s (3 : Int32))) ∧ Fr n0 LL_ ∧ hh_ = h0
set_option maxRecDepth 65536 in
set_option maxHeartbeats 40000000 in
theorem rmFi1 (l : Launch) (Z : State) (a0 : Array Value) (hw : ∀ d ∈ tables_1, d.before a0 Z = true) (ws : List Jvm.Cond) (x : Addr) (s : Int32) (kx : ClassId) (hsx : List (Int32 × Value)) (h0 : Heap) (n0 : Nat) (Z0 : n0 ≤ h0.size) (A_x : Arh Z h0 x kx .int (4 : Int32) hsx [] (.int (0 : Int32))) (uX : getH hsx [] (.int (0 : Int32)) (fSl s (3 : Int32)).toNatClampNeg = .int (0 : Int32)) :
    MetFree l (⟨"com/example/hedge/hedge/automaton/PairMarks", "find", "([II)I"⟩ : MethodName) (head1 (Jvm.Cond.code (⟨"com/example/hedge/hedge/automaton/PairMarks", "find", "([II)I"⟩ : MethodName) prog_37_method_13_code 4 (some .int) :: ws) ({ frames := 1, cells := 0, slots := 0, locals := 14 } : Room)) (fun aa_ U => aa_ = #[(.ref x), (.int s)] ∧ Z.Warmed39 U.vm ∧ U.heap = h0) (fun _ _ _ _ _ => True) (fun _ U oo_ UV_ => ∃ vv_ LL_, oo_ = .returned vv_ ∧ Q_rmFi1 Z x s kx hsx h0 n0 vv_ UV_.heap LL_ ∧ FrameEnd U oo_ UV_ LL_ ({ frames := 1, cells := 0, slots := 0, locals := 14 } : Room).cells ({ frames := 1, cells := 0, slots := 0, locals := 14 } : Room).slots) := by
  refine MetFree.of_bodySF (plainFor_of_name pn_0) hisR ?_
  intro pg ev si mi args below meth ci s₁ Bd hml0 hP0 hK
  obtain ⟨rfl, hZ, hh⟩ := hP0
  have hx := Bd.exec
  have hby := Bd.bytes
  have hml : ci.maxLocals = 4 := hml0
  have hown : si.vm.findClass "com/example/hedge/hedge/automaton/PairMarks" = some mi.cls := findClass_of_methodNamed Bd.named
  have hnm := (name_of_methodNamed Bd.named Bd.method).1
  have X0 : Stand pg l ev ({ frames := 1, cells := 0, slots := 0, locals := 14 } : Room) si mi #[(.ref x), (.int s)] below meth ci s₁ [] 0 0 := Stand.of_body Bd
  have e0 : s₁.heap = h0 := by rw [← hh, Bd.state]; rfl
  have N0 := Fr.nil n0
  refine Go.start (fun P hP => ?_)
  refine Go.st (fun t_ k_ => castTop (ef_rmFi1 mi x s kx hsx) k_) (A := s₁.setTop (mkF mi 0 #[.val (.ref x), .val (.int s), .unset, .unset] [])) ?_
  show Go pg.tables ev below (s₁.setTop (mkF mi 0 #[.val (.ref x), .val (.int s), .unset, .unset] [])) P
  refine Go.st (fun t_ k_ => XS.aloadN X0.here hx rfl (hb hby d_prog_37_method_13_0) rfl rfl k_) ?_
  show Go pg.tables ev below (s₁.setTop (mkF mi 1 #[.val (.ref x), .val (.int s), .unset, .unset] [(.ref x)])) P
  have ov1 := A_x
  obtain ⟨cl1, Ar1, q1, S1, M1, H1, G1⟩ := ov1
  refine Go.st (X0.arraylength hx (by rw [e0]; exact Ar1.1) (State.isArrayOf_alike hZ.alike Ar1.2.1) (g := (mkF mi 1 #[.val (.ref x), .val (.int s), .unset, .unset] [(.ref x)])) rfl rfl (hb hby d_prog_37_method_13_1)) ?_
  rw [len_of S1 M1]
  show Go pg.tables ev below (s₁.setTop (mkF mi 2 #[.val (.ref x), .val (.int s), .unset, .unset] [(.int (4 : Int32))])) P
  refine Go.st (fun t_ k_ => XS.iconst X0.here hx rfl (hb hby d_prog_37_method_13_2) k_) ?_
  show Go pg.tables ev below (s₁.setTop (mkF mi 3 #[.val (.ref x), .val (.int s), .unset, .unset] [(.int (1 : Int32)), (.int (4 : Int32))])) P
  refine Go.st (fun t_ k_ => XS.isub X0.here hx rfl (hb hby d_prog_37_method_13_3) rfl k_) ?_
  show Go pg.tables ev below (s₁.setTop (mkF mi 4 #[.val (.ref x), .val (.int s), .unset, .unset] [(.int (3 : Int32))])) P
  refine Go.st (fun t_ k_ => XS.istoreN X0.here hx rfl (hb hby d_prog_37_method_13_4) rfl (l' := #[.val (.ref x), .val (.int s), .val (.int (3 : Int32)), .unset]) rfl k_) ?_
  show Go pg.tables ev below (s₁.setTop (mkF mi 5 #[.val (.ref x), .val (.int s), .val (.int (3 : Int32)), .unset] [])) P
  refine Go.st (fun t_ k_ => XS.iloadN X0.here hx rfl (hb hby d_prog_37_method_13_5) rfl k_) ?_
  show Go pg.tables ev below (s₁.setTop (mkF mi 6 #[.val (.ref x), .val (.int s), .val (.int (3 : Int32)), .unset] [(.int s)])) P
  refine Go.st (fun t_ k_ => XS.iloadN X0.here hx rfl (hb hby d_prog_37_method_13_6) rfl k_) ?_
  show Go pg.tables ev below (s₁.setTop (mkF mi 7 #[.val (.ref x), .val (.int s), .val (.int (3 : Int32)), .unset] [(.int (3 : Int32)), (.int s)])) P
  obtain ⟨_, _, ⟨T2, L2, k2, n2⟩, -, X2, ⟨Lc2, hQ2, l2, y2, z2⟩, st2⟩ := Jvm.LawKit.callS X0 hx (y := (⟨"com/example/hedge/hedge/automaton/PairMarks", "slot", "(II)I"⟩ : MethodName)) hown (mvT hZ (hw _ (List.mem_of_getElem? (i := 72) rfl))) (mvT hZ (hw _ (List.mem_of_getElem? (i := 73) rfl))) (mvT hZ (hw _ (List.mem_of_getElem? (i := 3) rfl))) (mvT hZ (hw _ (List.mem_of_getElem? (i := 74) rfl))) (by decide) (backOf (W := 0) (rmSl l Z a0 hw [] s (3 : Int32) h0 n0 Z0) hZ (hw _ (List.mem_of_getElem? (i := 74) rfl)) (hw _ (List.mem_of_getElem? (i := 3) rfl)) (by decide) (by decide)) (g := (mkF mi 7 #[.val (.ref x), .val (.int s), .val (.int (3 : Int32)), .unset] [(.int (3 : Int32)), (.int s)])) rfl (by rw [hml]; rfl) (argsL := [(.int s), (.int (3 : Int32))]) (rest := []) (lenOf pd_1 rfl) rfl (by show 2 * 0 + _ ≤ _; exact Nat.le_of_eq rfl) (hb hby d_prog_37_method_13_7) (fun _ _ => ⟨rfl, e0, (by decide : 0 + 0 ≤ _), (by decide : 0 + 0 ≤ _)⟩)
  dsimp only [Pt.U, Pt.locs, Pt.cells, Pt.slots] at X2 l2 y2 z2 st2 hQ2
  subst l2 y2 z2
  obtain ⟨rfl, N2q, e2⟩ := hQ2
  have N2 := Fr.app N0 N2q
  refine Go.st st2 ?_
  show Go pg.tables ev below (T2.setTop (mkF mi 10 #[.val (.ref x), .val (.int s), .val (.int (3 : Int32)), .unset] [(.int (fSl s (3 : Int32)))])) P
  refine Go.st (fun t_ k_ => XS.istoreN X2.here hx rfl (hb hby d_prog_37_method_13_10) rfl (l' := #[.val (.ref x), .val (.int s), .val (.int (3 : Int32)), .val (.int (fSl s (3 : Int32)))]) rfl k_) ?_
  show Go pg.tables ev below (T2.setTop (mkF mi 11 #[.val (.ref x), .val (.int s), .val (.int (3 : Int32)), .val (.int (fSl s (3 : Int32)))] [])) P
  refine Go.st (fun t_ k_ => XS.aloadN X2.here hx rfl (hb hby d_prog_37_method_13_11) rfl rfl k_) ?_
  show Go pg.tables ev below (T2.setTop (mkF mi 12 #[.val (.ref x), .val (.int s), .val (.int (3 : Int32)), .val (.int (fSl s (3 : Int32)))] [(.ref x)])) P
  refine Go.st (fun t_ k_ => XS.iloadN X2.here hx rfl (hb hby d_prog_37_method_13_12) rfl k_) ?_
  show Go pg.tables ev below (T2.setTop (mkF mi 13 #[.val (.ref x), .val (.int s), .val (.int (3 : Int32)), .val (.int (fSl s (3 : Int32)))] [(.int (fSl s (3 : Int32))), (.ref x)])) P
  have ov3 := A_x
  obtain ⟨cl3, Ar3, q3, S3, M3, H3, G3⟩ := ov3
  have hin3 : ¬ ((fSl s (3 : Int32)) < 0 ∨ cl3.slots.size ≤ ((fSl s (3 : Int32))).toNatClampNeg) := inb_of S3 (own_slot s)
  have hat3 : cl3.slots[((fSl s (3 : Int32))).toNatClampNeg]? = some (.int (0 : Int32)) := atH H3 hin3 uX
  refine Go.st (X2.iaload hx (j := (fSl s (3 : Int32))) (v := (.int (0 : Int32))) (by rw [e2]; exact Ar3.1) (State.isArrayOf_alike hZ.alike Ar3.2.1) Ar3.2.2 hin3 hat3 (g := (mkF mi 13 #[.val (.ref x), .val (.int s), .val (.int (3 : Int32)), .val (.int (fSl s (3 : Int32)))] [(.int (fSl s (3 : Int32))), (.ref x)])) rfl rfl (hb hby d_prog_37_method_13_13)) ?_
  show Go pg.tables ev below (T2.setTop (mkF mi 14 #[.val (.ref x), .val (.int s), .val (.int (3 : Int32)), .val (.int (fSl s (3 : Int32)))] [(.int (0 : Int32))])) P
  refine Go.st (fun t_ k_ => XS.ifYes X2.here hx rfl (pc0 := 14) (pc' := 36) rfl (hb hby d_prog_37_method_13_14) rfl ((if0 _ _).trans (teq rfl).1) (by decide) (by decide) k_) ?_
  show Go pg.tables ev below (T2.setTop (mkF mi 36 #[.val (.ref x), .val (.int s), .val (.int (3 : Int32)), .val (.int (fSl s (3 : Int32)))] [])) P
  refine Go.st (fun t_ k_ => XS.iloadN X2.here hx rfl (hb hby d_prog_37_method_13_36) rfl k_) ?_
  show Go pg.tables ev below (T2.setTop (mkF mi 37 #[.val (.ref x), .val (.int s), .val (.int (3 : Int32)), .val (.int (fSl s (3 : Int32)))] [(.int (fSl s (3 : Int32)))])) P
  obtain ⟨fs, hr, hrun, hended, hW, hsame⟩ := X2.leave (v := some (.int (fSl s (3 : Int32)))) (fun h => by rw [Bd.returns] at h; cases h) (BodyLoose.notSynchronized Bd)
  refine ⟨_, _, ?_, hP _ _ ⟨hrun, hended, _, _, rfl, ?_, ⟨_, rfl⟩, hW, hsame.mono (by decide) (by decide)⟩⟩
  · exact retI X2 hx Bd.returns (hb hby d_prog_37_method_13_37) hr
  · show (some (.int (fSl s (3 : Int32))) : Option Value) = some (.int (fSl s (3 : Int32))) ∧ Fr n0 _ ∧ T2.heap = h0
    rw [e2]
    exact ⟨rfl, N2, rfl⟩
theorem d_prog_37_method_13_17 : decode prog_37_method_13_code 17 = .ok (.aload_n 0, 1) := by decide +kernel
theorem d_prog_37_method_13_18 : decode prog_37_method_13_code 18 = .ok (.iload_n 3, 1) := by decide +kernel
theorem d_prog_37_method_13_19 : decode prog_37_method_13_code 19 = .ok (.iaload, 1) := by decide +kernel
theorem d_prog_37_method_13_20 : decode prog_37_method_13_code 20 = .ok (.invokestatic 88, 3) := by decide +kernel
theorem pd_2 : parseMethodDescriptor "(I)I" = some ⟨[.int], some .int⟩ := by decide +kernel
theorem d_prog_37_method_13_23 : decode prog_37_method_13_code 23 = .ok (.iload_n 1, 1) := by decide +kernel
theorem d_prog_37_method_13_24 : decode prog_37_method_13_code 24 = .ok (.if_icmp .eq 12, 3) := by decide +kernel
theorem ef_rmFi2 (mi : MethodId) (x : Addr) (s : Int32) (kx : ClassId) (hsx : List (Int32 × Value)) (kv : Int32) : entryFrame mi #[(.ref x), (.int s)] 4 = mkF mi 0 #[.val (.ref x), .val (.int s), .unset, .unset] [] := by first | (simp [entryFrame, mkF, argsToLocals, Value.category]; done) | rfl
def Q_rmFi2 (Z : State) (x : Addr) (s : Int32) (kx : ClassId) (hsx : List (Int32 × Value)) (kv : Int32) (h0 : Heap) (n0 : Nat) (vv_ : Option Value) (hh_ : Heap) (LL_ : List Loc) : Prop := vv_ = some (.int (fSl s (3 : Int32))) ∧ Fr n0 LL_ ∧ hh_ = h0
set_option maxRecDepth 65536 in
set_option maxHeartbeats 40000000 in
theorem rmFi2 (l : Launch) (Z : State) (a0 : Array Value) (hw : ∀ d ∈ tables_1, d.before a0 Z = true) (ws : List Jvm.Cond) (x : Addr) (s : Int32) (kx : ClassId) (hsx : List (Int32 × Value)) (kv : Int32) (h0 : Heap) (n0 : Nat) (Z0 : n0 ≤ h0.size) (A_x : Arh Z h0 x kx .int (4 : Int32) hsx [] (.int (0 : Int32))) (uX : getH hsx [] (.int (0 : Int32)) (fSl s (3 : Int32)).toNatClampNeg = .int kv) (hk0 : ¬ (kv = (0 : Int32))) (hk1 : (fSe kv) = s) :
    MetFree l (⟨"com/example/hedge/hedge/automaton/PairMarks", "find", "([II)I"⟩ : MethodName) (head1 (Jvm.Cond.code (⟨"com/example/hedge/hedge/automaton/PairMarks", "find", "([II)I"⟩ : MethodName) prog_37_method_13_code 4 (some .int) :: ws) ({ frames := 1, cells := 0, slots := 0, locals := 14 } : Room)) (fun aa_ U => aa_ = #[(.ref x), (.int s)] ∧ Z.Warmed39 U.vm ∧ U.heap = h0) (fun _ _ _ _ _ => True) (fun _ U oo_ UV_ => ∃ vv_ LL_, oo_ = .returned vv_ ∧ Q_rmFi2 Z x s kx hsx kv h0 n0 vv_ UV_.heap LL_ ∧ FrameEnd U oo_ UV_ LL_ ({ frames := 1, cells := 0, slots := 0, locals := 14 } : Room).cells ({ frames := 1, cells := 0, slots := 0, locals := 14 } : Room).slots) := by
  refine MetFree.of_bodySF (plainFor_of_name pn_0) hisR ?_
  intro pg ev si mi args below meth ci s₁ Bd hml0 hP0 hK
  obtain ⟨rfl, hZ, hh⟩ := hP0
  have hx := Bd.exec
  have hby := Bd.bytes
  have hml : ci.maxLocals = 4 := hml0
  have hown : si.vm.findClass "com/example/hedge/hedge/automaton/PairMarks" = some mi.cls := findClass_of_methodNamed Bd.named
  have hnm := (name_of_methodNamed Bd.named Bd.method).1
  have X0 : Stand pg l ev ({ frames := 1, cells := 0, slots := 0, locals := 14 } : Room) si mi #[(.ref x), (.int s)] below meth ci s₁ [] 0 0 := Stand.of_body Bd
  have e0 : s₁.heap = h0 := by rw [← hh, Bd.state]; rfl
  have N0 := Fr.nil n0
  refine Go.start (fun P hP => ?_)
  refine Go.st (fun t_ k_ => castTop (ef_rmFi2 mi x s kx hsx kv) k_) (A := s₁.setTop (mkF mi 0 #[.val (.ref x), .val (.int s), .unset, .unset] [])) ?_
  show Go pg.tables ev below (s₁.setTop (mkF mi 0 #[.val (.ref x), .val (.int s), .unset, .unset] [])) P
  refine Go.st (fun t_ k_ => XS.aloadN X0.here hx rfl (hb hby d_prog_37_method_13_0) rfl rfl k_) ?_
  show Go pg.tables ev below (s₁.setTop (mkF mi 1 #[.val (.ref x), .val (.int s), .unset, .unset] [(.ref x)])) P
  have ov1 := A_x
  obtain ⟨cl1, Ar1, q1, S1, M1, H1, G1⟩ := ov1
  refine Go.st (X0.arraylength hx (by rw [e0]; exact Ar1.1) (State.isArrayOf_alike hZ.alike Ar1.2.1) (g := (mkF mi 1 #[.val (.ref x), .val (.int s), .unset, .unset] [(.ref x)])) rfl rfl (hb hby d_prog_37_method_13_1)) ?_
  rw [len_of S1 M1]
  show Go pg.tables ev below (s₁.setTop (mkF mi 2 #[.val (.ref x), .val (.int s), .unset, .unset] [(.int (4 : Int32))])) P
  refine Go.st (fun t_ k_ => XS.iconst X0.here hx rfl (hb hby d_prog_37_method_13_2) k_) ?_
  show Go pg.tables ev below (s₁.setTop (mkF mi 3 #[.val (.ref x), .val (.int s), .unset, .unset] [(.int (1 : Int32)), (.int (4 : Int32))])) P
  refine Go.st (fun t_ k_ => XS.isub X0.here hx rfl (hb hby d_prog_37_method_13_3) rfl k_) ?_
  show Go pg.tables ev below (s₁.setTop (mkF mi 4 #[.val (.ref x), .val (.int s), .unset, .unset] [(.int (3 : Int32))])) P
  refine Go.st (fun t_ k_ => XS.istoreN X0.here hx rfl (hb hby d_prog_37_method_13_4) rfl (l' := #[.val (.ref x), .val (.int s), .val (.int (3 : Int32)), .unset]) rfl k_) ?_
  show Go pg.tables ev below (s₁.setTop (mkF mi 5 #[.val (.ref x), .val (.int s), .val (.int (3 : Int32)), .unset] [])) P
  refine Go.st (fun t_ k_ => XS.iloadN X0.here hx rfl (hb hby d_prog_37_method_13_5) rfl k_) ?_
  show Go pg.tables ev below (s₁.setTop (mkF mi 6 #[.val (.ref x), .val (.int s), .val (.int (3 : Int32)), .unset] [(.int s)])) P
  refine Go.st (fun t_ k_ => XS.iloadN X0.here hx rfl (hb hby d_prog_37_method_13_6) rfl k_) ?_
  show Go pg.tables ev below (s₁.setTop (mkF mi 7 #[.val (.ref x), .val (.int s), .val (.int (3 : Int32)), .unset] [(.int (3 : Int32)), (.int s)])) P
  obtain ⟨_, _, ⟨T2, L2, k2, n2⟩, -, X2, ⟨Lc2, hQ2, l2, y2, z2⟩, st2⟩ := Jvm.LawKit.callS X0 hx (y := (⟨"com/example/hedge/hedge/automaton/PairMarks", "slot", "(II)I"⟩ : MethodName)) hown (mvT hZ (hw _ (List.mem_of_getElem? (i := 72) rfl))) (mvT hZ (hw _ (List.mem_of_getElem? (i := 73) rfl))) (mvT hZ (hw _ (List.mem_of_getElem? (i := 3) rfl))) (mvT hZ (hw _ (List.mem_of_getElem? (i := 74) rfl))) (by decide) (backOf (W := 0) (rmSl l Z a0 hw [] s (3 : Int32) h0 n0 Z0) hZ (hw _ (List.mem_of_getElem? (i := 74) rfl)) (hw _ (List.mem_of_getElem? (i := 3) rfl)) (by decide) (by decide)) (g := (mkF mi 7 #[.val (.ref x), .val (.int s), .val (.int (3 : Int32)), .unset] [(.int (3 : Int32)), (.int s)])) rfl (by rw [hml]; rfl) (argsL := [(.int s), (.int (3 : Int32))]) (rest := []) (lenOf pd_1 rfl) rfl (by show 2 * 0 + _ ≤ _; exact Nat.le_of_eq rfl) (hb hby d_prog_37_method_13_7) (fun _ _ => ⟨rfl, e0, (by decide : 0 + 0 ≤ _), (by decide : 0 + 0 ≤ _)⟩)
  dsimp only [Pt.U, Pt.locs, Pt.cells, Pt.slots] at X2 l2 y2 z2 st2 hQ2
  subst l2 y2 z2
  obtain ⟨rfl, N2q, e2⟩ := hQ2
  have N2 := Fr.app N0 N2q
  refine Go.st st2 ?_
  show Go pg.tables ev below (T2.setTop (mkF mi 10 #[.val (.ref x), .val (.int s), .val (.int (3 : Int32)), .unset] [(.int (fSl s (3 : Int32)))])) P
  refine Go.st (fun t_ k_ => XS.istoreN X2.here hx rfl (hb hby d_prog_37_method_13_10) rfl (l' := #[.val (.ref x), .val (.int s), .val (.int (3 : Int32)), .val (.int (fSl s (3 : Int32)))]) rfl k_) ?_
  show Go pg.tables ev below (T2.setTop (mkF mi 11 #[.val (.ref x), .val (.int s), .val (.int (3 : Int32)), .val (.int (fSl s (3 : Int32)))] [])) P
  refine Go.st (fun t_ k_ => XS.aloadN X2.here hx rfl (hb hby d_prog_37_method_13_11) rfl rfl k_) ?_
  show Go pg.tables ev below (T2.setTop (mkF mi 12 #[.val (.ref x), .val (.int s), .val (.int (3 : Int32)), .val (.int (fSl s (3 : Int32)))] [(.ref x)])) P
  refine Go.st (fun t_ k_ => XS.iloadN X2.here hx rfl (hb hby d_prog_37_method_13_12) rfl k_) ?_
  show Go pg.tables ev below (T2.setTop (mkF mi 13 #[.val (.ref x), .val (.int s), .val (.int (3 : Int32)), .val (.int (fSl s (3 : Int32)))] [(.int (fSl s (3 : Int32))), (.ref x)])) P
  have ov3 := A_x
  obtain ⟨cl3, Ar3, q3, S3, M3, H3, G3⟩ := ov3
  have hin3 : ¬ ((fSl s (3 : Int32)) < 0 ∨ cl3.slots.size ≤ ((fSl s (3 : Int32))).toNatClampNeg) := inb_of S3 (own_slot s)
  have hat3 : cl3.slots[((fSl s (3 : Int32))).toNatClampNeg]? = some (.int kv) := atH H3 hin3 uX
  refine Go.st (X2.iaload hx (j := (fSl s (3 : Int32))) (v := (.int kv)) (by rw [e2]; exact Ar3.1) (State.isArrayOf_alike hZ.alike Ar3.2.1) Ar3.2.2 hin3 hat3 (g := (mkF mi 13 #[.val (.ref x), .val (.int s), .val (.int (3 : Int32)), .val (.int (fSl s (3 : Int32)))] [(.int (fSl s (3 : Int32))), (.ref x)])) rfl rfl (hb hby d_prog_37_method_13_13)) ?_
  show Go pg.tables ev below (T2.setTop (mkF mi 14 #[.val (.ref x), .val (.int s), .val (.int (3 : Int32)), .val (.int (fSl s (3 : Int32)))] [(.int kv)])) P
  refine Go.st (fun t_ k_ => XS.ifNo X2.here hx rfl (hb hby d_prog_37_method_13_14) rfl ((if0 _ _).trans (feq hk0).1) k_) ?_
  show Go pg.tables ev below (T2.setTop (mkF mi 17 #[.val (.ref x), .val (.int s), .val (.int (3 : Int32)), .val (.int (fSl s (3 : Int32)))] [])) P
  refine Go.st (fun t_ k_ => XS.aloadN X2.here hx rfl (hb hby d_prog_37_method_13_17) rfl rfl k_) ?_
  show Go pg.tables ev below (T2.setTop (mkF mi 18 #[.val (.ref x), .val (.int s), .val (.int (3 : Int32)), .val (.int (fSl s (3 : Int32)))] [(.ref x)])) P
  refine Go.st (fun t_ k_ => XS.iloadN X2.here hx rfl (hb hby d_prog_37_method_13_18) rfl k_) ?_
  show Go pg.tables ev below (T2.setTop (mkF mi 19 #[.val (.ref x), .val (.int s), .val (.int (3 : Int32)), .val (.int (fSl s (3 : Int32)))] [(.int (fSl s (3 : Int32))), (.ref x)])) P
  have ov4 := A_x
  obtain ⟨cl4, Ar4, q4, S4, M4, H4, G4⟩ := ov4
  have hin4 : ¬ ((fSl s (3 : Int32)) < 0 ∨ cl4.slots.size ≤ ((fSl s (3 : Int32))).toNatClampNeg) := inb_of S4 (own_slot s)
  have hat4 : cl4.slots[((fSl s (3 : Int32))).toNatClampNeg]? = some (.int kv) := atH H4 hin4 uX
  refine Go.st (X2.iaload hx (j := (fSl s (3 : Int32))) (v := (.int kv)) (by rw [e2]; exact Ar4.1) (State.isArrayOf_alike hZ.alike Ar4.2.1) Ar4.2.2 hin4 hat4 (g := (mkF mi 19 #[.val (.ref x), .val (.int s), .val (.int (3 : Int32)), .val (.int (fSl s (3 : Int32)))] [(.int (fSl s (3 : Int32))), (.ref x)])) rfl rfl (hb hby d_prog_37_method_13_19)) ?_
  show Go pg.tables ev below (T2.setTop (mkF mi 20 #[.val (.ref x), .val (.int s), .val (.int (3 : Int32)), .val (.int (fSl s (3 : Int32)))] [(.int kv)])) P
  obtain ⟨_, _, ⟨T5, L5, k5, n5⟩, -, X5, ⟨Lc5, hQ5, l5, y5, z5⟩, st5⟩ := Jvm.LawKit.callS X2 hx (y := (⟨"com/example/hedge/hedge/automaton/PairMarks", "secondOf", "(I)I"⟩ : MethodName)) hown (mvT hZ (hw _ (List.mem_of_getElem? (i := 79) rfl))) (mvT hZ (hw _ (List.mem_of_getElem? (i := 80) rfl))) (mvT hZ (hw _ (List.mem_of_getElem? (i := 3) rfl))) (mvT hZ (hw _ (List.mem_of_getElem? (i := 81) rfl))) (by decide) (backOf (W := 0) (rmSe l Z a0 hw [] kv h0 n0 Z0) hZ (hw _ (List.mem_of_getElem? (i := 81) rfl)) (hw _ (List.mem_of_getElem? (i := 3) rfl)) (by decide) (by decide)) (g := (mkF mi 20 #[.val (.ref x), .val (.int s), .val (.int (3 : Int32)), .val (.int (fSl s (3 : Int32)))] [(.int kv)])) rfl (by rw [hml]; rfl) (argsL := [(.int kv)]) (rest := []) (lenOf pd_2 rfl) rfl (by show 2 * 0 + _ ≤ _; exact Nat.le_of_eq rfl) (hb hby d_prog_37_method_13_20) (fun _ _ => ⟨rfl, e2, (by decide : 0 + 0 ≤ _), (by decide : 0 + 0 ≤ _)⟩)
  dsimp only [Pt.U, Pt.locs, Pt.cells, Pt.slots] at X5 l5 y5 z5 st5 hQ5
  subst l5 y5 z5
  obtain ⟨rfl, N5q, e5⟩ := hQ5
  have N5 := Fr.app N2 N5q
  refine Go.st st5 ?_
  show Go pg.tables ev below (T5.setTop (mkF mi 23 #[.val (.ref x), .val (.int s), .val (.int (3 : Int32)), .val (.int (fSl s (3 : Int32)))] [(.int (fSe kv))])) P
  refine Go.st (fun t_ k_ => XS.iloadN X5.here hx rfl (hb hby d_prog_37_method_13_23) rfl k_) ?_
  show Go pg.tables ev below (T5.setTop (mkF mi 24 #[.val (.ref x), .val (.int s), .val (.int (3 : Int32)), .val (.int (fSl s (3 : Int32)))] [(.int s), (.int (fSe kv))])) P
  refine Go.st (fun t_ k_ => XS.icmpYes X5.here hx rfl (pc0 := 24) (pc' := 36) rfl (hb hby d_prog_37_method_13_24) rfl (teq hk1).1 (by decide) (by decide) k_) ?_
  show Go pg.tables ev below (T5.setTop (mkF mi 36 #[.val (.ref x), .val (.int s), .val (.int (3 : Int32)), .val (.int (fSl s (3 : Int32)))] [])) P
  refine Go.st (fun t_ k_ => XS.iloadN X5.here hx rfl (hb hby d_prog_37_method_13_36) rfl k_) ?_
  show Go pg.tables ev below (T5.setTop (mkF mi 37 #[.val (.ref x), .val (.int s), .val (.int (3 : Int32)), .val (.int (fSl s (3 : Int32)))] [(.int (fSl s (3 : Int32)))])) P
  obtain ⟨fs, hr, hrun, hended, hW, hsame⟩ := X5.leave (v := some (.int (fSl s (3 : Int32)))) (fun h => by rw [Bd.returns] at h; cases h) (BodyLoose.notSynchronized Bd)
  refine ⟨_, _, ?_, hP _ _ ⟨hrun, hended, _, _, rfl, ?_, ⟨_, rfl⟩, hW, hsame.mono (by decide) (by decide)⟩⟩
  · exact retI X5 hx Bd.returns (hb hby d_prog_37_method_13_37) hr
  · show (some (.int (fSl s (3 : Int32))) : Option Value) = some (.int (fSl s (3 : Int32))) ∧ Fr n0 _ ∧ T5.heap = h0
    rw [e5]
    exact ⟨rfl, N5, rfl⟩
theorem d_prog_37_method_13_27 : decode prog_37_method_13_code 27 = .ok (.iload_n 3, 1) := by decide +kernel
theorem d_prog_37_method_13_28 : decode prog_37_method_13_code 28 = .ok (.iconst 1, 1) := by decide +kernel
theorem d_prog_37_method_13_29 : decode prog_37_method_13_code 29 = .ok (.iadd, 1) := by decide +kernel
theorem d_prog_37_method_13_30 : decode prog_37_method_13_code 30 = .ok (.iload_n 2, 1) := by decide +kernel
theorem d_prog_37_method_13_31 : decode prog_37_method_13_code 31 = .ok (.iand, 1) := by decide +kernel
theorem d_prog_37_method_13_32 : decode prog_37_method_13_code 32 = .ok (.istore_n 3, 1) := by decide +kernel
theorem d_prog_37_method_13_33 : decode prog_37_method_13_code 33 = .ok (.goto (-22), 3) := by decide +kernel
theorem ef_rmFi3 (mi : MethodId) (x : Addr) (s : Int32) (kx : ClassId) (hsx : List (Int32 × Value)) (kv : Int32) : entryFrame mi #[(.ref x), (.int s)] 4 = mkF mi 0 #[.val (.ref x), .val (.int s), .unset, .unset] [] := by first | (simp [entryFrame, mkF, argsToLocals, Value.category]; done) | rfl
def Q_rmFi3 (Z : State) (x : Addr) (s : Int32) (kx : ClassId) (hsx : List (Int32 × Value)) (kv : Int32) (h0 : Heap) (n0 : Nat) (vv_ : Option Value) (hh_ : Heap) (LL_ : List Loc) : Prop := vv_ = some (.int (((fSl s (3 : Int32)) + (1 : Int32)) &&& (3 : Int32))) ∧ Fr n0 LL_ ∧ hh_ = h0
set_option maxRecDepth 65536 in
set_option maxHeartbeats 40000000 in
theorem rmFi3 (l : Launch) (Z : State) (a0 : Array Value) (hw : ∀ d ∈ tables_1, d.before a0 Z = true) (ws : List Jvm.Cond) (x : Addr) (s : Int32) (kx : ClassId) (hsx : List (Int32 × Value)) (kv : Int32) (h0 : Heap) (n0 : Nat) (Z0 : n0 ≤ h0.size) (A_x : Arh Z h0 x kx .int (4 : Int32) hsx [] (.int (0 : Int32))) (uX : getH hsx [] (.int (0 : Int32)) (fSl s (3 : Int32)).toNatClampNeg = .int kv) (hk0 : ¬ (kv = (0 : Int32))) (hk1 : ¬ ((fSe kv) = s)) (uX2 : getH hsx [] (.int (0 : Int32)) (((fSl s (3 : Int32)) + (1 : Int32)) &&& (3 : Int32)).toNatClampNeg = .int (0 : Int32)) :
    MetFree l (⟨"com/example/hedge/hedge/automaton/PairMarks", "find", "([II)I"⟩ : MethodName) (head1 (Jvm.Cond.code (⟨"com/example/hedge/hedge/automaton/PairMarks", "find", "([II)I"⟩ : MethodName) prog_37_method_13_code 4 (some .int) :: ws) ({ frames := 1, cells := 0, slots := 0, locals := 14 } : Room)) (fun aa_ U => aa_ = #[(.ref x), (.int s)] ∧ Z.Warmed39 U.vm ∧ U.heap = h0) (fun _ _ _ _ _ => True) (fun _ U oo_ UV_ => ∃ vv_ LL_, oo_ = .returned vv_ ∧ Q_rmFi3 Z x s kx hsx kv h0 n0 vv_ UV_.heap LL_ ∧ FrameEnd U oo_ UV_ LL_ ({ frames := 1, cells := 0, slots := 0, locals := 14 } : Room).cells ({ frames := 1, cells := 0, slots := 0, locals := 14 } : Room).slots) := by
  refine MetFree.of_bodySF (plainFor_of_name pn_0) hisR ?_
  intro pg ev si mi args below meth ci s₁ Bd hml0 hP0 hK
  obtain ⟨rfl, hZ, hh⟩ := hP0
  have hx := Bd.exec
  have hby := Bd.bytes
  have hml : ci.maxLocals = 4 := hml0
  have hown : si.vm.findClass "com/example/hedge/hedge/automaton/PairMarks" = some mi.cls := findClass_of_methodNamed Bd.named
  have hnm := (name_of_methodNamed Bd.named Bd.method).1
  have X0 : Stand pg l ev ({ frames := 1, cells := 0, slots := 0, locals := 14 } : Room) si mi #[(.ref x), (.int s)] below meth ci s₁ [] 0 0 := Stand.of_body Bd
  have e0 : s₁.heap = h0 := by rw [← hh, Bd.state]; rfl
  have N0 := Fr.nil n0
  refine Go.start (fun P hP => ?_)
  refine Go.st (fun t_ k_ => castTop (ef_rmFi3 mi x s kx hsx kv) k_) (A := s₁.setTop (mkF mi 0 #[.val (.ref x), .val (.int s), .unset, .unset] [])) ?_
  show Go pg.tables ev below (s₁.setTop (mkF mi 0 #[.val (.ref x), .val (.int s), .unset, .unset] [])) P
  refine Go.st (fun t_ k_ => XS.aloadN X0.here hx rfl (hb hby d_prog_37_method_13_0) rfl rfl k_) ?_
  show Go pg.tables ev below (s₁.setTop (mkF mi 1 #[.val (.ref x), .val (.int s), .unset, .unset] [(.ref x)])) P
  have ov1 := A_x
  obtain ⟨cl1, Ar1, q1, S1, M1, H1, G1⟩ := ov1
  refine Go.st (X0.arraylength hx (by rw [e0]; exact Ar1.1) (State.isArrayOf_alike hZ.alike Ar1.2.1) (g := (mkF mi 1 #[.val (.ref x), .val (.int s), .unset, .unset] [(.ref x)])) rfl rfl (hb hby d_prog_37_method_13_1)) ?_
  rw [len_of S1 M1]
  show Go pg.tables ev below (s₁.setTop (mkF mi 2 #[.val (.ref x), .val (.int s), .unset, .unset] [(.int (4 : Int32))])) P
  refine Go.st (fun t_ k_ => XS.iconst X0.here hx rfl (hb hby d_prog_37_method_13_2) k_) ?_
  show Go pg.tables ev below (s₁.setTop (mkF mi 3 #[.val (.ref x), .val (.int s), .unset, .unset] [(.int (1 : Int32)), (.int (4 : Int32))])) P
  refine Go.st (fun t_ k_ => XS.isub X0.here hx rfl (hb hby d_prog_37_method_13_3) rfl k_) ?_
  show Go pg.tables ev below (s₁.setTop (mkF mi 4 #[.val (.ref x), .val (.int s), .unset, .unset] [(.int (3 : Int32))])) P
  refine Go.st (fun t_ k_ => XS.istoreN X0.here hx rfl (hb hby d_prog_37_method_13_4) rfl (l' := #[.val (.ref x), .val (.int s), .val (.int (3 : Int32)), .unset]) rfl k_) ?_
  show Go pg.tables ev below (s₁.setTop (mkF mi 5 #[.val (.ref x), .val (.int s), .val (.int (3 : Int32)), .unset] [])) P
  refine Go.st (fun t_ k_ => XS.iloadN X0.here hx rfl (hb hby d_prog_37_method_13_5) rfl k_) ?_
  show Go pg.tables ev below (s₁.setTop (mkF mi 6 #[.val (.ref x), .val (.int s), .val (.int (3 : Int32)), .unset] [(.int s)])) P
  refine Go.st (fun t_ k_ => XS.iloadN X0.here hx rfl (hb hby d_prog_37_method_13_6) rfl k_) ?_
  show Go pg.tables ev below (s₁.setTop (mkF mi 7 #[.val (.ref x), .val (.int s), .val (.int (3 : Int32)), .unset] [(.int (3 : Int32)), (.int s)])) P
  obtain ⟨_, _, ⟨T2, L2, k2, n2⟩, -, X2, ⟨Lc2, hQ2, l2, y2, z2⟩, st2⟩ := Jvm.LawKit.callS X0 hx (y := (⟨"com/example/hedge/hedge/automaton/PairMarks", "slot", "(II)I"⟩ : MethodName)) hown (mvT hZ (hw _ (List.mem_of_getElem? (i := 72) rfl))) (mvT hZ (hw _ (List.mem_of_getElem? (i := 73) rfl))) (mvT hZ (hw _ (List.mem_of_getElem? (i := 3) rfl))) (mvT hZ (hw _ (List.mem_of_getElem? (i := 74) rfl))) (by decide) (backOf (W := 0) (rmSl l Z a0 hw [] s (3 : Int32) h0 n0 Z0) hZ (hw _ (List.mem_of_getElem? (i := 74) rfl)) (hw _ (List.mem_of_getElem? (i := 3) rfl)) (by decide) (by decide)) (g := (mkF mi 7 #[.val (.ref x), .val (.int s), .val (.int (3 : Int32)), .unset] [(.int (3 : Int32)), (.int s)])) rfl (by rw [hml]; rfl) (argsL := [(.int s), (.int (3 : Int32))]) (rest := []) (lenOf pd_1 rfl) rfl (by show 2 * 0 + _ ≤ _; exact Nat.le_of_eq rfl) (hb hby d_prog_37_method_13_7) (fun _ _ => ⟨rfl, e0, (by decide : 0 + 0 ≤ _), (by decide : 0 + 0 ≤ _)⟩)
  dsimp only [Pt.U, Pt.locs, Pt.cells, Pt.slots] at X2 l2 y2 z2 st2 hQ2
  subst l2 y2 z2
  obtain ⟨rfl, N2q, e2⟩ := hQ2
  have N2 := Fr.app N0 N2q
  refine Go.st st2 ?_
  show Go pg.tables ev below (T2.setTop (mkF mi 10 #[.val (.ref x), .val (.int s), .val (.int (3 : Int32)), .unset] [(.int (fSl s (3 : Int32)))])) P
  refine Go.st (fun t_ k_ => XS.istoreN X2.here hx rfl (hb hby d_prog_37_method_13_10) rfl (l' := #[.val (.ref x), .val (.int s), .val (.int (3 : Int32)), .val (.int (fSl s (3 : Int32)))]) rfl k_) ?_
  show Go pg.tables ev below (T2.setTop (mkF mi 11 #[.val (.ref x), .val (.int s), .val (.int (3 : Int32)), .val (.int (fSl s (3 : Int32)))] [])) P
  refine Go.st (fun t_ k_ => XS.aloadN X2.here hx rfl (hb hby d_prog_37_method_13_11) rfl rfl k_) ?_
  show Go pg.tables ev below (T2.setTop (mkF mi 12 #[.val (.ref x), .val (.int s), .val (.int (3 : Int32)), .val (.int (fSl s (3 : Int32)))] [(.ref x)])) P
  refine Go.st (fun t_ k_ => XS.iloadN X2.here hx rfl (hb hby d_prog_37_method_13_12) rfl k_) ?_
  show Go pg.tables ev below (T2.setTop (mkF mi 13 #[.val (.ref x), .val (.int s), .val (.int (3 : Int32)), .val (.int (fSl s (3 : Int32)))] [(.int (fSl s (3 : Int32))), (.ref x)])) P
  have ov3 := A_x
  obtain ⟨cl3, Ar3, q3, S3, M3, H3, G3⟩ := ov3
  have hin3 : ¬ ((fSl s (3 : Int32)) < 0 ∨ cl3.slots.size ≤ ((fSl s (3 : Int32))).toNatClampNeg) := inb_of S3 (own_slot s)
  have hat3 : cl3.slots[((fSl s (3 : Int32))).toNatClampNeg]? = some (.int kv) := atH H3 hin3 uX
  refine Go.st (X2.iaload hx (j := (fSl s (3 : Int32))) (v := (.int kv)) (by rw [e2]; exact Ar3.1) (State.isArrayOf_alike hZ.alike Ar3.2.1) Ar3.2.2 hin3 hat3 (g := (mkF mi 13 #[.val (.ref x), .val (.int s), .val (.int (3 : Int32)), .val (.int (fSl s (3 : Int32)))] [(.int (fSl s (3 : Int32))), (.ref x)])) rfl rfl (hb hby d_prog_37_method_13_13)) ?_
  show Go pg.tables ev below (T2.setTop (mkF mi 14 #[.val (.ref x), .val (.int s), .val (.int (3 : Int32)), .val (.int (fSl s (3 : Int32)))] [(.int kv)])) P
  refine Go.st (fun t_ k_ => XS.ifNo X2.here hx rfl (hb hby d_prog_37_method_13_14) rfl ((if0 _ _).trans (feq hk0).1) k_) ?_
  show Go pg.tables ev below (T2.setTop (mkF mi 17 #[.val (.ref x), .val (.int s), .val (.int (3 : Int32)), .val (.int (fSl s (3 : Int32)))] [])) P
  refine Go.st (fun t_ k_ => XS.aloadN X2.here hx rfl (hb hby d_prog_37_method_13_17) rfl rfl k_) ?_
  show Go pg.tables ev below (T2.setTop (mkF mi 18 #[.val (.ref x), .val (.int s), .val (.int (3 : Int32)), .val (.int (fSl s (3 : Int32)))] [(.ref x)])) P
  refine Go.st (fun t_ k_ => XS.iloadN X2.here hx rfl (hb hby d_prog_37_method_13_18) rfl k_) ?_
  show Go pg.tables ev below (T2.setTop (mkF mi 19 #[.val (.ref x), .val (.int s), .val (.int (3 : Int32)), .val (.int (fSl s (3 : Int32)))] [(.int (fSl s (3 : Int32))), (.ref x)])) P
  have ov4 := A_x
  obtain ⟨cl4, Ar4, q4, S4, M4, H4, G4⟩ := ov4
  have hin4 : ¬ ((fSl s (3 : Int32)) < 0 ∨ cl4.slots.size ≤ ((fSl s (3 : Int32))).toNatClampNeg) := inb_of S4 (own_slot s)
  have hat4 : cl4.slots[((fSl s (3 : Int32))).toNatClampNeg]? = some (.int kv) := atH H4 hin4 uX
  refine Go.st (X2.iaload hx (j := (fSl s (3 : Int32))) (v := (.int kv)) (by rw [e2]; exact Ar4.1) (State.isArrayOf_alike hZ.alike Ar4.2.1) Ar4.2.2 hin4 hat4 (g := (mkF mi 19 #[.val (.ref x), .val (.int s), .val (.int (3 : Int32)), .val (.int (fSl s (3 : Int32)))] [(.int (fSl s (3 : Int32))), (.ref x)])) rfl rfl (hb hby d_prog_37_method_13_19)) ?_
  show Go pg.tables ev below (T2.setTop (mkF mi 20 #[.val (.ref x), .val (.int s), .val (.int (3 : Int32)), .val (.int (fSl s (3 : Int32)))] [(.int kv)])) P
  obtain ⟨_, _, ⟨T5, L5, k5, n5⟩, -, X5, ⟨Lc5, hQ5, l5, y5, z5⟩, st5⟩ := Jvm.LawKit.callS X2 hx (y := (⟨"com/example/hedge/hedge/automaton/PairMarks", "secondOf", "(I)I"⟩ : MethodName)) hown (mvT hZ (hw _ (List.mem_of_getElem? (i := 79) rfl))) (mvT hZ (hw _ (List.mem_of_getElem? (i := 80) rfl))) (mvT hZ (hw _ (List.mem_of_getElem? (i := 3) rfl))) (mvT hZ (hw _ (List.mem_of_getElem? (i := 81) rfl))) (by decide) (backOf (W := 0) (rmSe l Z a0 hw [] kv h0 n0 Z0) hZ (hw _ (List.mem_of_getElem? (i := 81) rfl)) (hw _ (List.mem_of_getElem? (i := 3) rfl)) (by decide) (by decide)) (g := (mkF mi 20 #[.val (.ref x), .val (.int s), .val (.int (3 : Int32)), .val (.int (fSl s (3 : Int32)))] [(.int kv)])) rfl (by rw [hml]; rfl) (argsL := [(.int kv)]) (rest := []) (lenOf pd_2 rfl) rfl (by show 2 * 0 + _ ≤ _; exact Nat.le_of_eq rfl) (hb hby d_prog_37_method_13_20) (fun _ _ => ⟨rfl, e2, (by decide : 0 + 0 ≤ _), (by decide : 0 + 0 ≤ _)⟩)
  dsimp only [Pt.U, Pt.locs, Pt.cells, Pt.slots] at X5 l5 y5 z5 st5 hQ5
  subst l5 y5 z5
  obtain ⟨rfl, N5q, e5⟩ := hQ5
  have N5 := Fr.app N2 N5q
  refine Go.st st5 ?_
  show Go pg.tables ev below (T5.setTop (mkF mi 23 #[.val (.ref x), .val (.int s), .val (.int (3 : Int32)), .val (.int (fSl s (3 : Int32)))] [(.int (fSe kv))])) P
  refine Go.st (fun t_ k_ => XS.iloadN X5.here hx rfl (hb hby d_prog_37_method_13_23) rfl k_) ?_
  show Go pg.tables ev below (T5.setTop (mkF mi 24 #[.val (.ref x), .val (.int s), .val (.int (3 : Int32)), .val (.int (fSl s (3 : Int32)))] [(.int s), (.int (fSe kv))])) P
  refine Go.st (fun t_ k_ => XS.icmpNo X5.here hx rfl (hb hby d_prog_37_method_13_24) rfl (feq hk1).1 k_) ?_
  show Go pg.tables ev below (T5.setTop (mkF mi 27 #[.val (.ref x), .val (.int s), .val (.int (3 : Int32)), .val (.int (fSl s (3 : Int32)))] [])) P
  refine Go.st (fun t_ k_ => XS.iloadN X5.here hx rfl (hb hby d_prog_37_method_13_27) rfl k_) ?_
  show Go pg.tables ev below (T5.setTop (mkF mi 28 #[.val (.ref x), .val (.int s), .val (.int (3 : Int32)), .val (.int (fSl s (3 : Int32)))] [(.int (fSl s (3 : Int32)))])) P
  refine Go.st (fun t_ k_ => XS.iconst X5.here hx rfl (hb hby d_prog_37_method_13_28) k_) ?_
  show Go pg.tables ev below (T5.setTop (mkF mi 29 #[.val (.ref x), .val (.int s), .val (.int (3 : Int32)), .val (.int (fSl s (3 : Int32)))] [(.int (1 : Int32)), (.int (fSl s (3 : Int32)))])) P
  refine Go.st (fun t_ k_ => XS.iadd X5.here hx rfl (hb hby d_prog_37_method_13_29) rfl k_) ?_
  show Go pg.tables ev below (T5.setTop (mkF mi 30 #[.val (.ref x), .val (.int s), .val (.int (3 : Int32)), .val (.int (fSl s (3 : Int32)))] [(.int ((fSl s (3 : Int32)) + (1 : Int32)))])) P
  refine Go.st (fun t_ k_ => XS.iloadN X5.here hx rfl (hb hby d_prog_37_method_13_30) rfl k_) ?_
  show Go pg.tables ev below (T5.setTop (mkF mi 31 #[.val (.ref x), .val (.int s), .val (.int (3 : Int32)), .val (.int (fSl s (3 : Int32)))] [(.int (3 : Int32)), (.int ((fSl s (3 : Int32)) + (1 : Int32)))])) P
  refine Go.st (fun t_ k_ => XS.iand X5.here hx rfl (hb hby d_prog_37_method_13_31) rfl k_) ?_
  show Go pg.tables ev below (T5.setTop (mkF mi 32 #[.val (.ref x), .val (.int s), .val (.int (3 : Int32)), .val (.int (fSl s (3 : Int32)))] [(.int (((fSl s (3 : Int32)) + (1 : Int32)) &&& (3 : Int32)))])) P
  refine Go.st (fun t_ k_ => XS.istoreN X5.here hx rfl (hb hby d_prog_37_method_13_32) rfl (l' := #[.val (.ref x), .val (.int s), .val (.int (3 : Int32)), .val (.int (((fSl s (3 : Int32)) + (1 : Int32)) &&& (3 : Int32)))]) rfl k_) ?_
  show Go pg.tables ev below (T5.setTop (mkF mi 33 #[.val (.ref x), .val (.int s), .val (.int (3 : Int32)), .val (.int (((fSl s (3 : Int32)) + (1 : Int32)) &&& (3 : Int32)))] [])) P
  refine Go.st (fun t_ k_ => XS.goto X5.here hx rfl (pc0 := 33) (pc' := 11) rfl (hb hby d_prog_37_method_13_33) (by decide) (by decide) k_) ?_
  show Go pg.tables ev below (T5.setTop (mkF mi 11 #[.val (.ref x), .val (.int s), .val (.int (3 : Int32)), .val (.int (((fSl s (3 : Int32)) + (1 : Int32)) &&& (3 : Int32)))] [])) P
  refine Go.st (fun t_ k_ => XS.aloadN X5.here hx rfl (hb hby d_prog_37_method_13_11) rfl rfl k_) ?_
  show Go pg.tables ev below (T5.setTop (mkF mi 12 #[.val (.ref x), .val (.int s), .val (.int (3 : Int32)), .val (.int (((fSl s (3 : Int32)) + (1 : Int32)) &&& (3 : Int32)))] [(.ref x)])) P
  refine Go.st (fun t_ k_ => XS.iloadN X5.here hx rfl (hb hby d_prog_37_method_13_12) rfl k_) ?_
  show Go pg.tables ev below (T5.setTop (mkF mi 13 #[.val (.ref x), .val (.int s), .val (.int (3 : Int32)), .val (.int (((fSl s (3 : Int32)) + (1 : Int32)) &&& (3 : Int32)))] [(.int (((fSl s (3 : Int32)) + (1 : Int32)) &&& (3 : Int32))), (.ref x)])) P
  have ov6 := A_x
  obtain ⟨cl6, Ar6, q6, S6, M6, H6, G6⟩ := ov6
  have hin6 : ¬ ((((fSl s (3 : Int32)) + (1 : Int32)) &&& (3 : Int32)) < 0 ∨ cl6.slots.size ≤ ((((fSl s (3 : Int32)) + (1 : Int32)) &&& (3 : Int32))).toNatClampNeg) := inb_of S6 (own_next (own_slot s)).1
  have hat6 : cl6.slots[((((fSl s (3 : Int32)) + (1 : Int32)) &&& (3 : Int32))).toNatClampNeg]? = some (.int (0 : Int32)) := atH H6 hin6 uX2
  refine Go.st (X5.iaload hx (j := (((fSl s (3 : Int32)) + (1 : Int32)) &&& (3 : Int32))) (v := (.int (0 : Int32))) (by rw [e5]; exact Ar6.1) (State.isArrayOf_alike hZ.alike Ar6.2.1) Ar6.2.2 hin6 hat6 (g := (mkF mi 13 #[.val (.ref x), .val (.int s), .val (.int (3 : Int32)), .val (.int (((fSl s (3 : Int32)) + (1 : Int32)) &&& (3 : Int32)))] [(.int (((fSl s (3 : Int32)) + (1 : Int32)) &&& (3 : Int32))), (.ref x)])) rfl rfl (hb hby d_prog_37_method_13_13)) ?_
  show Go pg.tables ev below (T5.setTop (mkF mi 14 #[.val (.ref x), .val (.int s), .val (.int (3 : Int32)), .val (.int (((fSl s (3 : Int32)) + (1 : Int32)) &&& (3 : Int32)))] [(.int (0 : Int32))])) P
  refine Go.st (fun t_ k_ => XS.ifYes X5.here hx rfl (pc0 := 14) (pc' := 36) rfl (hb hby d_prog_37_method_13_14) rfl ((if0 _ _).trans (teq rfl).1) (by decide) (by decide) k_) ?_
  show Go pg.tables ev below (T5.setTop (mkF mi 36 #[.val (.ref x), .val (.int s), .val (.int (3 : Int32)), .val (.int (((fSl s (3 : Int32)) + (1 : Int32)) &&& (3 : Int32)))] [])) P
  refine Go.st (fun t_ k_ => XS.iloadN X5.here hx rfl (hb hby d_prog_37_method_13_36) rfl k_) ?_
  show Go pg.tables ev below (T5.setTop (mkF mi 37 #[.val (.ref x), .val (.int s), .val (.int (3 : Int32)), .val (.int (((fSl s (3 : Int32)) + (1 : Int32)) &&& (3 : Int32)))] [(.int (((fSl s (3 : Int32)) + (1 : Int32)) &&& (3 : Int32)))])) P
  obtain ⟨fs, hr, hrun, hended, hW, hsame⟩ := X5.leave (v := some (.int (((fSl s (3 : Int32)) + (1 : Int32)) &&& (3 : Int32)))) (fun h => by rw [Bd.returns] at h; cases h) (BodyLoose.notSynchronized Bd)
  refine ⟨_, _, ?_, hP _ _ ⟨hrun, hended, _, _, rfl, ?_, ⟨_, rfl⟩, hW, hsame.mono (by decide) (by decide)⟩⟩
  · exact retI X5 hx Bd.returns (hb hby d_prog_37_method_13_37) hr
  · show (some (.int (((fSl s (3 : Int32)) + (1 : Int32)) &&& (3 : Int32))) : Option Value) = some (.int (((fSl s (3 : Int32)) + (1 : Int32)) &&& (3 : Int32))) ∧ Fr n0 _ ∧ T5.heap = h0
    rw [e5]
    exact ⟨rfl, N5, rfl⟩
theorem d_prog_37_method_2_0 : decode prog_37_method_2_code 0 = .ok (.aload_n 0, 1) := by decide +kernel
theorem d_prog_37_method_2_1 : decode prog_37_method_2_code 1 = .ok (.getfield 39, 3) := by decide +kernel
theorem d_prog_37_method_2_4 : decode prog_37_method_2_code 4 = .ok (.iload_n 1, 1) := by decide +kernel
theorem d_prog_37_method_2_5 : decode prog_37_method_2_code 5 = .ok (.aaload, 1) := by decide +kernel
theorem d_prog_37_method_2_6 : decode prog_37_method_2_code 6 = .ok (.astore_n 3, 1) := by decide +kernel
theorem d_prog_37_method_2_7 : decode prog_37_method_2_code 7 = .ok (.aload_n 3, 1) := by decide +kernel
theorem d_prog_37_method_2_8 : decode prog_37_method_2_code 8 = .ok (.ifnull 17, 3) := by decide +kernel
theorem d_prog_37_method_2_25 : decode prog_37_method_2_code 25 = .ok (.aload_n 0, 1) := by decide +kernel
theorem d_prog_37_method_2_26 : decode prog_37_method_2_code 26 = .ok (.getfield 30, 3) := by decide +kernel
theorem d_prog_37_method_2_29 : decode prog_37_method_2_code 29 = .ok (.iload_n 1, 1) := by decide +kernel
theorem d_prog_37_method_2_30 : decode prog_37_method_2_code 30 = .ok (.aaload, 1) := by decide +kernel
theorem d_prog_37_method_2_31 : decode prog_37_method_2_code 31 = .ok (.astore 4, 2) := by decide +kernel
theorem d_prog_37_method_2_33 : decode prog_37_method_2_code 33 = .ok (.aload 4, 2) := by decide +kernel
theorem d_prog_37_method_2_35 : decode prog_37_method_2_code 35 = .ok (.ifnonnull 5, 3) := by decide +kernel
theorem d_prog_37_method_2_38 : decode prog_37_method_2_code 38 = .ok (.iconst 0, 1) := by decide +kernel
theorem d_prog_37_method_2_39 : decode prog_37_method_2_code 39 = .ok (.ireturn, 1) := by decide +kernel
theorem ef_rmG0 (mi : MethodId) (o : Addr) (f : Int32) (s : Int32) (tb : Addr) (bm : Addr) (kT : ClassId) (kB : ClassId) (N : Int32) (hT : List (Int32 × Value)) (hB : List (Int32 × Value)) : entryFrame mi #[(.ref o), (.int f), (.int s)] 6 = mkF mi 0 #[.val (.ref o), .val (.int f), .val (.int s), .unset, .unset, .unset] [] := by first | (simp [entryFrame, mkF, argsToLocals, Value.category]; done) | rfl
def Q_rmG0 (Z : State) (o : Addr) (f : Int32) (s : Int32) (tb : Addr) (bm : Addr) (kT : ClassId) (kB : ClassId) (N : Int32) (hT : List (Int32 × Value)) (hB : List (Int32 × Value)) (h0 : Heap) (n0 : Nat) (vv_ : Option Value) (hh_ : Heap) (LL_ : List Loc) : Prop := vv_ = some (.int (0 : Int32)) ∧ Fr n0 LL_ ∧ hh_ = h0
set_option maxRecDepth 65536 in
set_option maxHeartbeats 40000000 in
theorem rmG0 (l : Launch) (Z : State) (a0 : Array Value) (hw : ∀ d ∈ tables_1, d.before a0 Z = true) (ws : List Jvm.Cond) (o : Addr) (f : Int32) (s : Int32) (tb : Addr) (bm : Addr) (kT : ClassId) (kB : ClassId) (N : Int32) (hT : List (Int32 × Value)) (hB : List (Int32 × Value)) (h0 : Heap) (n0 : Nat) (Z0 : n0 ≤ h0.size) (F1 : Fld Z h0 o "com/example/hedge/hedge/automaton/PairMarks" "tables" "[[I" (.ref tb)) (F3 : Fld Z h0 o "com/example/hedge/hedge/automaton/PairMarks" "bitmaps" "[[J" (.ref bm)) (A_tb : Arh Z h0 tb kT (.array .int) N hT [] .null) (A_bm : Arh Z h0 bm kB (.array .long) N hB [] .null) (hf1 : ¬ f < 0) (hf2 : f < N) (uB : getH hB [] .null f.toNatClampNeg = .null) (uT : getH hT [] .null f.toNatClampNeg = .null) :
    MetFree l (⟨"com/example/hedge/hedge/automaton/PairMarks", "get", "(II)I"⟩ : MethodName) (head1 (Jvm.Cond.code (⟨"com/example/hedge/hedge/automaton/PairMarks", "get", "(II)I"⟩ : MethodName) prog_37_method_2_code 6 (some .int) :: ws) ({ frames := 0, cells := 0, slots := 0, locals := 0 } : Room)) (fun aa_ U => aa_ = #[(.ref o), (.int f), (.int s)] ∧ Z.Warmed39 U.vm ∧ U.heap = h0) (fun _ _ _ _ _ => True) (fun _ U oo_ UV_ => ∃ vv_ LL_, oo_ = .returned vv_ ∧ Q_rmG0 Z o f s tb bm kT kB N hT hB h0 n0 vv_ UV_.heap LL_ ∧ FrameEnd U oo_ UV_ LL_ ({ frames := 0, cells := 0, slots := 0, locals := 0 } : Room).cells ({ frames := 0, cells := 0, slots := 0, locals := 0 } : Room).slots) := by
  refine MetFree.of_bodySF (plainFor_of_name pn_0) hisR ?_
  intro pg ev si mi args below meth ci s₁ Bd hml0 hP0 hK
  obtain ⟨rfl, hZ, hh⟩ := hP0
  have hx := Bd.exec
  have hby := Bd.bytes
  have hml : ci.maxLocals = 6 := hml0
  have hown : si.vm.findClass "com/example/hedge/hedge/automaton/PairMarks" = some mi.cls := findClass_of_methodNamed Bd.named
  have hnm := (name_of_methodNamed Bd.named Bd.method).1
  have X0 : Stand pg l ev ({ frames := 0, cells := 0, slots := 0, locals := 0 } : Room) si mi #[(.ref o), (.int f), (.int s)] below meth ci s₁ [] 0 0 := Stand.of_body Bd
  have e0 : s₁.heap = h0 := by rw [← hh, Bd.state]; rfl
  have N0 := Fr.nil n0
  refine Go.start (fun P hP => ?_)
  refine Go.st (fun t_ k_ => castTop (ef_rmG0 mi o f s tb bm kT kB N hT hB) k_) (A := s₁.setTop (mkF mi 0 #[.val (.ref o), .val (.int f), .val (.int s), .unset, .unset, .unset] [])) ?_
  show Go pg.tables ev below (s₁.setTop (mkF mi 0 #[.val (.ref o), .val (.int f), .val (.int s), .unset, .unset, .unset] [])) P
  refine Go.st (fun t_ k_ => XS.aloadN X0.here hx rfl (hb hby d_prog_37_method_2_0) rfl rfl k_) ?_
  show Go pg.tables ev below (s₁.setTop (mkF mi 1 #[.val (.ref o), .val (.int f), .val (.int s), .unset, .unset, .unset] [(.ref o)])) P
  obtain ⟨T1, X1, e1, st1⟩ := getF X0 hx hZ hown (host := "") (Or.inl (hw _ (List.mem_of_getElem? (i := 24) rfl))) Via.refl e0 F3 (g := (mkF mi 1 #[.val (.ref o), .val (.int f), .val (.int s), .unset, .unset, .unset] [(.ref o)])) rfl rfl (hb hby d_prog_37_method_2_1)
  refine Go.st st1 ?_
  show Go pg.tables ev below (T1.setTop (mkF mi 4 #[.val (.ref o), .val (.int f), .val (.int s), .unset, .unset, .unset] [(.ref bm)])) P
  refine Go.st (fun t_ k_ => XS.iloadN X1.here hx rfl (hb hby d_prog_37_method_2_4) rfl k_) ?_
  show Go pg.tables ev below (T1.setTop (mkF mi 5 #[.val (.ref o), .val (.int f), .val (.int s), .unset, .unset, .unset] [(.int f), (.ref bm)])) P
  have ov2 := A_bm
  obtain ⟨cl2, Ar2, q2, S2, M2, H2, G2⟩ := ov2
  have hin2 : ¬ (f < 0 ∨ cl2.slots.size ≤ (f).toNatClampNeg) := inb_of S2 ⟨hf1, hf2⟩
  have hat2 : cl2.slots[(f).toNatClampNeg]? = some .null := atH H2 hin2 uB
  refine Go.st (X1.aaload hx (j := f) (v := .null) (by rw [e1]; exact Ar2.1) (State.isArrayOf_alike hZ.alike Ar2.2.1) rfl Ar2.2.2 hin2 hat2 (g := (mkF mi 5 #[.val (.ref o), .val (.int f), .val (.int s), .unset, .unset, .unset] [(.int f), (.ref bm)])) rfl rfl (hb hby d_prog_37_method_2_5)) ?_
  show Go pg.tables ev below (T1.setTop (mkF mi 6 #[.val (.ref o), .val (.int f), .val (.int s), .unset, .unset, .unset] [.null])) P
  refine Go.st (fun t_ k_ => XS.astoreN X1.here hx rfl (hb hby d_prog_37_method_2_6) rfl rfl (l' := #[.val (.ref o), .val (.int f), .val (.int s), .val .null, .unset, .unset]) rfl k_) ?_
  show Go pg.tables ev below (T1.setTop (mkF mi 7 #[.val (.ref o), .val (.int f), .val (.int s), .val .null, .unset, .unset] [])) P
  refine Go.st (fun t_ k_ => XS.aloadN X1.here hx rfl (hb hby d_prog_37_method_2_7) rfl rfl k_) ?_
  show Go pg.tables ev below (T1.setTop (mkF mi 8 #[.val (.ref o), .val (.int f), .val (.int s), .val .null, .unset, .unset] [.null])) P
  refine Go.st (fun t_ k_ => XS.ifnullYes X1.here hx rfl (pc0 := 8) (pc' := 25) rfl (hb hby d_prog_37_method_2_8) rfl (by decide) (by decide) k_) ?_
  show Go pg.tables ev below (T1.setTop (mkF mi 25 #[.val (.ref o), .val (.int f), .val (.int s), .val .null, .unset, .unset] [])) P
  refine Go.st (fun t_ k_ => XS.aloadN X1.here hx rfl (hb hby d_prog_37_method_2_25) rfl rfl k_) ?_
  show Go pg.tables ev below (T1.setTop (mkF mi 26 #[.val (.ref o), .val (.int f), .val (.int s), .val .null, .unset, .unset] [(.ref o)])) P
  obtain ⟨T3, X3, e3, st3⟩ := getF X1 hx hZ hown (host := "") (Or.inl (hw _ (List.mem_of_getElem? (i := 18) rfl))) Via.refl e1 F1 (g := (mkF mi 26 #[.val (.ref o), .val (.int f), .val (.int s), .val .null, .unset, .unset] [(.ref o)])) rfl rfl (hb hby d_prog_37_method_2_26)
  refine Go.st st3 ?_
  show Go pg.tables ev below (T3.setTop (mkF mi 29 #[.val (.ref o), .val (.int f), .val (.int s), .val .null, .unset, .unset] [(.ref tb)])) P
  refine Go.st (fun t_ k_ => XS.iloadN X3.here hx rfl (hb hby d_prog_37_method_2_29) rfl k_) ?_
  show Go pg.tables ev below (T3.setTop (mkF mi 30 #[.val (.ref o), .val (.int f), .val (.int s), .val .null, .unset, .unset] [(.int f), (.ref tb)])) P
  have ov4 := A_tb
  obtain ⟨cl4, Ar4, q4, S4, M4, H4, G4⟩ := ov4
  have hin4 : ¬ (f < 0 ∨ cl4.slots.size ≤ (f).toNatClampNeg) := inb_of S4 ⟨hf1, hf2⟩
  have hat4 : cl4.slots[(f).toNatClampNeg]? = some .null := atH H4 hin4 uT
  refine Go.st (X3.aaload hx (j := f) (v := .null) (by rw [e3]; exact Ar4.1) (State.isArrayOf_alike hZ.alike Ar4.2.1) rfl Ar4.2.2 hin4 hat4 (g := (mkF mi 30 #[.val (.ref o), .val (.int f), .val (.int s), .val .null, .unset, .unset] [(.int f), (.ref tb)])) rfl rfl (hb hby d_prog_37_method_2_30)) ?_
  show Go pg.tables ev below (T3.setTop (mkF mi 31 #[.val (.ref o), .val (.int f), .val (.int s), .val .null, .unset, .unset] [.null])) P
  refine Go.st (fun t_ k_ => XS.astore X3.here hx rfl (hb hby d_prog_37_method_2_31) rfl rfl (l' := #[.val (.ref o), .val (.int f), .val (.int s), .val .null, .val .null, .unset]) rfl k_) ?_
  show Go pg.tables ev below (T3.setTop (mkF mi 33 #[.val (.ref o), .val (.int f), .val (.int s), .val .null, .val .null, .unset] [])) P
  refine Go.st (fun t_ k_ => XS.aload X3.here hx rfl (hb hby d_prog_37_method_2_33) rfl rfl k_) ?_
  show Go pg.tables ev below (T3.setTop (mkF mi 35 #[.val (.ref o), .val (.int f), .val (.int s), .val .null, .val .null, .unset] [.null])) P
  refine Go.st (fun t_ k_ => XS.ifnonnullNo X3.here hx rfl (hb hby d_prog_37_method_2_35) rfl k_) ?_
  show Go pg.tables ev below (T3.setTop (mkF mi 38 #[.val (.ref o), .val (.int f), .val (.int s), .val .null, .val .null, .unset] [])) P
  refine Go.st (fun t_ k_ => XS.iconst X3.here hx rfl (hb hby d_prog_37_method_2_38) k_) ?_
  show Go pg.tables ev below (T3.setTop (mkF mi 39 #[.val (.ref o), .val (.int f), .val (.int s), .val .null, .val .null, .unset] [(.int (0 : Int32))])) P
  obtain ⟨fs, hr, hrun, hended, hW, hsame⟩ := X3.leave (v := some (.int (0 : Int32))) (fun h => by rw [Bd.returns] at h; cases h) (BodyLoose.notSynchronized Bd)
  refine ⟨_, _, ?_, hP _ _ ⟨hrun, hended, _, _, rfl, ?_, ⟨_, rfl⟩, hW, hsame.mono (by decide) (by decide)⟩⟩
  · exact retI X3 hx Bd.returns (hb hby d_prog_37_method_2_39) hr
  · show (some (.int (0 : Int32)) : Option Value) = some (.int (0 : Int32)) ∧ Fr n0 _ ∧ T3.heap = h0
    rw [e3]
    exact ⟨rfl, N0, rfl⟩
theorem d_prog_37_method_2_11 : decode prog_37_method_2_code 11 = .ok (.aload_n 3, 1) := by decide +kernel
theorem d_prog_37_method_2_12 : decode prog_37_method_2_code 12 = .ok (.iload_n 2, 1) := by decide +kernel
theorem d_prog_37_method_2_13 : decode prog_37_method_2_code 13 = .ok (.iconst 5, 1) := by decide +kernel
theorem d_prog_37_method_2_14 : decode prog_37_method_2_code 14 = .ok (.iushr, 1) := by decide +kernel
theorem d_prog_37_method_2_15 : decode prog_37_method_2_code 15 = .ok (.laload, 1) := by decide +kernel
theorem d_prog_37_method_2_16 : decode prog_37_method_2_code 16 = .ok (.iload_n 2, 1) := by decide +kernel
theorem d_prog_37_method_2_17 : decode prog_37_method_2_code 17 = .ok (.invokestatic 43, 3) := by decide +kernel
theorem d_prog_37_method_2_20 : decode prog_37_method_2_code 20 = .ok (.lushr, 1) := by decide +kernel
theorem d_prog_37_method_2_21 : decode prog_37_method_2_code 21 = .ok (.l2i, 1) := by decide +kernel
theorem d_prog_37_method_2_22 : decode prog_37_method_2_code 22 = .ok (.iconst 3, 1) := by decide +kernel
theorem d_prog_37_method_2_23 : decode prog_37_method_2_code 23 = .ok (.iand, 1) := by decide +kernel
theorem d_prog_37_method_2_24 : decode prog_37_method_2_code 24 = .ok (.ireturn, 1) := by decide +kernel
theorem ef_rmGB (mi : MethodId) (o : Addr) (f : Int32) (s : Int32) (tb : Addr) (bm : Addr) (kT : ClassId) (kB : ClassId) (N : Int32) (hT : List (Int32 × Value)) (hB : List (Int32 × Value)) (x : Addr) (kx : ClassId) (wd : Int32) (hsx : List (Int32 × Value)) (lv : Int64) : entryFrame mi #[(.ref o), (.int f), (.int s)] 6 = mkF mi 0 #[.val (.ref o), .val (.int f), .val (.int s), .unset, .unset, .unset] [] := by first | (simp [entryFrame, mkF, argsToLocals, Value.category]; done) | rfl
def fGt (lv : Int64) (s : Int32) : Int32 := ((((lv.toUInt64 >>> ((fSh s) &&& 0x3f).toInt64.toUInt64).toInt64).toInt32) &&& (3 : Int32))
def Q_rmGB (Z : State) (o : Addr) (f : Int32) (s : Int32) (tb : Addr) (bm : Addr) (kT : ClassId) (kB : ClassId) (N : Int32) (hT : List (Int32 × Value)) (hB : List (Int32 × Value)) (x : Addr) (kx : ClassId) (wd : Int32) (hsx : List (Int32 × Value)) (lv : Int64) (h0 : Heap) (n0 : Nat) (vv_ : Option Value) (hh_ : Heap) (LL_ : List Loc) : Prop := vv_ = some (.int (fGt lv s)) ∧ Fr n0 LL_ ∧ hh_ = h0
set_option maxRecDepth 65536 in
set_option maxHeartbeats 40000000 in
theorem rmGB (l : Launch) (Z : State) (a0 : Array Value) (hw : ∀ d ∈ tables_1, d.before a0 Z = true) (ws : List Jvm.Cond) (o : Addr) (f : Int32) (s : Int32) (tb : Addr) (bm : Addr) (kT : ClassId) (kB : ClassId) (N : Int32) (hT : List (Int32 × Value)) (hB : List (Int32 × Value)) (x : Addr) (kx : ClassId) (wd : Int32) (hsx : List (Int32 × Value)) (lv : Int64) (h0 : Heap) (n0 : Nat) (Z0 : n0 ≤ h0.size) (F1 : Fld Z h0 o "com/example/hedge/hedge/automaton/PairMarks" "tables" "[[I" (.ref tb)) (F3 : Fld Z h0 o "com/example/hedge/hedge/automaton/PairMarks" "bitmaps" "[[J" (.ref bm)) (A_tb : Arh Z h0 tb kT (.array .int) N hT [] .null) (A_bm : Arh Z h0 bm kB (.array .long) N hB [] .null) (hf1 : ¬ f < 0) (hf2 : f < N) (uB : getH hB [] .null f.toNatClampNeg = .ref x) (A_x : Arh Z h0 x kx .long wd hsx [] (.long (0 : Int64))) (hi : ¬ ((s.toUInt32 >>> ((5 : Int32) &&& 31).toUInt32).toInt32) < 0 ∧ ((s.toUInt32 >>> ((5 : Int32) &&& 31).toUInt32).toInt32) < wd) (uX : getH hsx [] (.long (0 : Int64)) ((s.toUInt32 >>> ((5 : Int32) &&& 31).toUInt32).toInt32).toNatClampNeg = .long lv) :
    MetFree l (⟨"com/example/hedge/hedge/automaton/PairMarks", "get", "(II)I"⟩ : MethodName) (head1 (Jvm.Cond.code (⟨"com/example/hedge/hedge/automaton/PairMarks", "get", "(II)I"⟩ : MethodName) prog_37_method_2_code 6 (some .int) :: ws) ({ frames := 1, cells := 0, slots := 0, locals := 14 } : Room)) (fun aa_ U => aa_ = #[(.ref o), (.int f), (.int s)] ∧ Z.Warmed39 U.vm ∧ U.heap = h0) (fun _ _ _ _ _ => True) (fun _ U oo_ UV_ => ∃ vv_ LL_, oo_ = .returned vv_ ∧ Q_rmGB Z o f s tb bm kT kB N hT hB x kx wd hsx lv h0 n0 vv_ UV_.heap LL_ ∧ FrameEnd U oo_ UV_ LL_ ({ frames := 1, cells := 0, slots := 0, locals := 14 } : Room).cells ({ frames := 1, cells := 0, slots := 0, locals := 14 } : Room).slots) := by
  refine MetFree.of_bodySF (plainFor_of_name pn_0) hisR ?_
  intro pg ev si mi args below meth ci s₁ Bd hml0 hP0 hK
  obtain ⟨rfl, hZ, hh⟩ := hP0
  have hx := Bd.exec
  have hby := Bd.bytes
  have hml : ci.maxLocals = 6 := hml0
  have hown : si.vm.findClass "com/example/hedge/hedge/automaton/PairMarks" = some mi.cls := findClass_of_methodNamed Bd.named
  have hnm := (name_of_methodNamed Bd.named Bd.method).1
  have X0 : Stand pg l ev ({ frames := 1, cells := 0, slots := 0, locals := 14 } : Room) si mi #[(.ref o), (.int f), (.int s)] below meth ci s₁ [] 0 0 := Stand.of_body Bd
  have e0 : s₁.heap = h0 := by rw [← hh, Bd.state]; rfl
  have N0 := Fr.nil n0
  refine Go.start (fun P hP => ?_)
  refine Go.st (fun t_ k_ => castTop (ef_rmGB mi o f s tb bm kT kB N hT hB x kx wd hsx lv) k_) (A := s₁.setTop (mkF mi 0 #[.val (.ref o), .val (.int f), .val (.int s), .unset, .unset, .unset] [])) ?_
  show Go pg.tables ev below (s₁.setTop (mkF mi 0 #[.val (.ref o), .val (.int f), .val (.int s), .unset, .unset, .unset] [])) P
  refine Go.st (fun t_ k_ => XS.aloadN X0.here hx rfl (hb hby d_prog_37_method_2_0) rfl rfl k_) ?_
  show Go pg.tables ev below (s₁.setTop (mkF mi 1 #[.val (.ref o), .val (.int f), .val (.int s), .unset, .unset, .unset] [(.ref o)])) P
  obtain ⟨T1, X1, e1, st1⟩ := getF X0 hx hZ hown (host := "") (Or.inl (hw _ (List.mem_of_getElem? (i := 24) rfl))) Via.refl e0 F3 (g := (mkF mi 1 #[.val (.ref o), .val (.int f), .val (.int s), .unset, .unset, .unset] [(.ref o)])) rfl rfl (hb hby d_prog_37_method_2_1)
  refine Go.st st1 ?_
  show Go pg.tables ev below (T1.setTop (mkF mi 4 #[.val (.ref o), .val (.int f), .val (.int s), .unset, .unset, .unset] [(.ref bm)])) P
  refine Go.st (fun t_ k_ => XS.iloadN X1.here hx rfl (hb hby d_prog_37_method_2_4) rfl k_) ?_
  show Go pg.tables ev below (T1.setTop (mkF mi 5 #[.val (.ref o), .val (.int f), .val (.int s), .unset, .unset, .unset] [(.int f), (.ref bm)])) P
  have ov2 := A_bm
  obtain ⟨cl2, Ar2, q2, S2, M2, H2, G2⟩ := ov2
  have hin2 : ¬ (f < 0 ∨ cl2.slots.size ≤ (f).toNatClampNeg) := inb_of S2 ⟨hf1, hf2⟩
  have hat2 : cl2.slots[(f).toNatClampNeg]? = some (.ref x) := atH H2 hin2 uB
  refine Go.st (X1.aaload hx (j := f) (v := (.ref x)) (by rw [e1]; exact Ar2.1) (State.isArrayOf_alike hZ.alike Ar2.2.1) rfl Ar2.2.2 hin2 hat2 (g := (mkF mi 5 #[.val (.ref o), .val (.int f), .val (.int s), .unset, .unset, .unset] [(.int f), (.ref bm)])) rfl rfl (hb hby d_prog_37_method_2_5)) ?_
  show Go pg.tables ev below (T1.setTop (mkF mi 6 #[.val (.ref o), .val (.int f), .val (.int s), .unset, .unset, .unset] [(.ref x)])) P
  refine Go.st (fun t_ k_ => XS.astoreN X1.here hx rfl (hb hby d_prog_37_method_2_6) rfl rfl (l' := #[.val (.ref o), .val (.int f), .val (.int s), .val (.ref x), .unset, .unset]) rfl k_) ?_
  show Go pg.tables ev below (T1.setTop (mkF mi 7 #[.val (.ref o), .val (.int f), .val (.int s), .val (.ref x), .unset, .unset] [])) P
  refine Go.st (fun t_ k_ => XS.aloadN X1.here hx rfl (hb hby d_prog_37_method_2_7) rfl rfl k_) ?_
  show Go pg.tables ev below (T1.setTop (mkF mi 8 #[.val (.ref o), .val (.int f), .val (.int s), .val (.ref x), .unset, .unset] [(.ref x)])) P
  refine Go.st (fun t_ k_ => XS.ifnullNo X1.here hx rfl (hb hby d_prog_37_method_2_8) rfl k_) ?_
  show Go pg.tables ev below (T1.setTop (mkF mi 11 #[.val (.ref o), .val (.int f), .val (.int s), .val (.ref x), .unset, .unset] [])) P
  refine Go.st (fun t_ k_ => XS.aloadN X1.here hx rfl (hb hby d_prog_37_method_2_11) rfl rfl k_) ?_
  show Go pg.tables ev below (T1.setTop (mkF mi 12 #[.val (.ref o), .val (.int f), .val (.int s), .val (.ref x), .unset, .unset] [(.ref x)])) P
  refine Go.st (fun t_ k_ => XS.iloadN X1.here hx rfl (hb hby d_prog_37_method_2_12) rfl k_) ?_
  show Go pg.tables ev below (T1.setTop (mkF mi 13 #[.val (.ref o), .val (.int f), .val (.int s), .val (.ref x), .unset, .unset] [(.int s), (.ref x)])) P
  refine Go.st (fun t_ k_ => XS.iconst X1.here hx rfl (hb hby d_prog_37_method_2_13) k_) ?_
  show Go pg.tables ev below (T1.setTop (mkF mi 14 #[.val (.ref o), .val (.int f), .val (.int s), .val (.ref x), .unset, .unset] [(.int (5 : Int32)), (.int s), (.ref x)])) P
  refine Go.st (fun t_ k_ => XS.iushr X1.here hx rfl (hb hby d_prog_37_method_2_14) rfl k_) ?_
  show Go pg.tables ev below (T1.setTop (mkF mi 15 #[.val (.ref o), .val (.int f), .val (.int s), .val (.ref x), .unset, .unset] [(.int ((s.toUInt32 >>> ((5 : Int32) &&& 31).toUInt32).toInt32)), (.ref x)])) P
  have ov3 := A_x
  obtain ⟨cl3, Ar3, q3, S3, M3, H3, G3⟩ := ov3
  have hin3 : ¬ (((s.toUInt32 >>> ((5 : Int32) &&& 31).toUInt32).toInt32) < 0 ∨ cl3.slots.size ≤ (((s.toUInt32 >>> ((5 : Int32) &&& 31).toUInt32).toInt32)).toNatClampNeg) := inb_of S3 hi
  have hat3 : cl3.slots[(((s.toUInt32 >>> ((5 : Int32) &&& 31).toUInt32).toInt32)).toNatClampNeg]? = some (.long lv) := atH H3 hin3 uX
  refine Go.st (X1.laload hx (j := ((s.toUInt32 >>> ((5 : Int32) &&& 31).toUInt32).toInt32)) (v := (.long lv)) (by rw [e1]; exact Ar3.1) (State.isArrayOf_alike hZ.alike Ar3.2.1) Ar3.2.2 hin3 hat3 (g := (mkF mi 15 #[.val (.ref o), .val (.int f), .val (.int s), .val (.ref x), .unset, .unset] [(.int ((s.toUInt32 >>> ((5 : Int32) &&& 31).toUInt32).toInt32)), (.ref x)])) rfl rfl (hb hby d_prog_37_method_2_15)) ?_
  show Go pg.tables ev below (T1.setTop (mkF mi 16 #[.val (.ref o), .val (.int f), .val (.int s), .val (.ref x), .unset, .unset] [(.long lv)])) P
  refine Go.st (fun t_ k_ => XS.iloadN X1.here hx rfl (hb hby d_prog_37_method_2_16) rfl k_) ?_
  show Go pg.tables ev below (T1.setTop (mkF mi 17 #[.val (.ref o), .val (.int f), .val (.int s), .val (.ref x), .unset, .unset] [(.int s), (.long lv)])) P
  obtain ⟨_, _, ⟨T4, L4, k4, n4⟩, -, X4, ⟨Lc4, hQ4, l4, y4, z4⟩, st4⟩ := Jvm.LawKit.callS X1 hx (y := (⟨"com/example/hedge/hedge/automaton/PairMarks", "shift", "(I)I"⟩ : MethodName)) hown (mvT hZ (hw _ (List.mem_of_getElem? (i := 49) rfl))) (mvT hZ (hw _ (List.mem_of_getElem? (i := 50) rfl))) (mvT hZ (hw _ (List.mem_of_getElem? (i := 3) rfl))) (mvT hZ (hw _ (List.mem_of_getElem? (i := 51) rfl))) (by decide) (backOf (W := 2) (rmSh l Z a0 hw [] s h0 n0 Z0) hZ (hw _ (List.mem_of_getElem? (i := 51) rfl)) (hw _ (List.mem_of_getElem? (i := 3) rfl)) (by decide) (by decide)) (g := (mkF mi 17 #[.val (.ref o), .val (.int f), .val (.int s), .val (.ref x), .unset, .unset] [(.int s), (.long lv)])) rfl (by rw [hml]; rfl) (argsL := [(.int s)]) (rest := [(.long lv)]) (lenOf pd_2 rfl) rfl (by show 2 * 0 + _ ≤ _; exact Nat.le_of_eq rfl) (hb hby d_prog_37_method_2_17) (fun _ _ => ⟨rfl, e1, (by decide : 0 + 0 ≤ _), (by decide : 0 + 0 ≤ _)⟩)
  dsimp only [Pt.U, Pt.locs, Pt.cells, Pt.slots] at X4 l4 y4 z4 st4 hQ4
  subst l4 y4 z4
  obtain ⟨rfl, N4q, e4⟩ := hQ4
  have N4 := Fr.app N0 N4q
  refine Go.st st4 ?_
  show Go pg.tables ev below (T4.setTop (mkF mi 20 #[.val (.ref o), .val (.int f), .val (.int s), .val (.ref x), .unset, .unset] [(.int (fSh s)), (.long lv)])) P
  refine Go.st (fun t_ k_ => XS.lushr X4.here hx rfl (hb hby d_prog_37_method_2_20) rfl k_) ?_
  show Go pg.tables ev below (T4.setTop (mkF mi 21 #[.val (.ref o), .val (.int f), .val (.int s), .val (.ref x), .unset, .unset] [(.long ((lv.toUInt64 >>> ((fSh s) &&& 0x3f).toInt64.toUInt64).toInt64))])) P
  refine Go.st (fun t_ k_ => XS.l2i X4.here hx rfl (hb hby d_prog_37_method_2_21) rfl k_) ?_
  show Go pg.tables ev below (T4.setTop (mkF mi 22 #[.val (.ref o), .val (.int f), .val (.int s), .val (.ref x), .unset, .unset] [(.int (((lv.toUInt64 >>> ((fSh s) &&& 0x3f).toInt64.toUInt64).toInt64).toInt32))])) P
  refine Go.st (fun t_ k_ => XS.iconst X4.here hx rfl (hb hby d_prog_37_method_2_22) k_) ?_
  show Go pg.tables ev below (T4.setTop (mkF mi 23 #[.val (.ref o), .val (.int f), .val (.int s), .val (.ref x), .unset, .unset] [(.int (3 : Int32)), (.int (((lv.toUInt64 >>> ((fSh s) &&& 0x3f).toInt64.toUInt64).toInt64).toInt32))])) P
  refine Go.st (fun t_ k_ => XS.iand X4.here hx rfl (hb hby d_prog_37_method_2_23) rfl k_) ?_
  show Go pg.tables ev below (T4.setTop (mkF mi 24 #[.val (.ref o), .val (.int f), .val (.int s), .val (.ref x), .unset, .unset] [(.int ((((lv.toUInt64 >>> ((fSh s) &&& 0x3f).toInt64.toUInt64).toInt64).toInt32) &&& (3 : Int32)))])) P
  obtain ⟨fs, hr, hrun, hended, hW, hsame⟩ := X4.leave (v := some (.int ((((lv.toUInt64 >>> ((fSh s) &&& 0x3f).toInt64.toUInt64).toInt64).toInt32) &&& (3 : Int32)))) (fun h => by rw [Bd.returns] at h; cases h) (BodyLoose.notSynchronized Bd)
  refine ⟨_, _, ?_, hP _ _ ⟨hrun, hended, _, _, rfl, ?_, ⟨_, rfl⟩, hW, hsame.mono (by decide) (by decide)⟩⟩
  · exact retI X4 hx Bd.returns (hb hby d_prog_37_method_2_24) hr
  · show (some (.int ((((lv.toUInt64 >>> ((fSh s) &&& 0x3f).toInt64.toUInt64).toInt64).toInt32) &&& (3 : Int32))) : Option Value) = some (.int (fGt lv s)) ∧ Fr n0 _ ∧ T4.heap = h0
    rw [e4]
    exact ⟨rfl, N4, rfl⟩
theorem d_prog_37_method_2_40 : decode prog_37_method_2_code 40 = .ok (.aload 4, 2) := by decide +kernel
theorem d_prog_37_method_2_42 : decode prog_37_method_2_code 42 = .ok (.iload_n 2, 1) := by decide +kernel
theorem d_prog_37_method_2_43 : decode prog_37_method_2_code 43 = .ok (.invokestatic 47, 3) := by decide +kernel
theorem pd_3 : parseMethodDescriptor "([II)I" = some ⟨[(.array .int), .int], some .int⟩ := by decide +kernel
theorem d_prog_37_method_2_46 : decode prog_37_method_2_code 46 = .ok (.istore 5, 2) := by decide +kernel
theorem d_prog_37_method_2_48 : decode prog_37_method_2_code 48 = .ok (.aload 4, 2) := by decide +kernel
theorem d_prog_37_method_2_50 : decode prog_37_method_2_code 50 = .ok (.iload 5, 2) := by decide +kernel
theorem d_prog_37_method_2_52 : decode prog_37_method_2_code 52 = .ok (.iaload, 1) := by decide +kernel
theorem d_prog_37_method_2_53 : decode prog_37_method_2_code 53 = .ok (.iconst 3, 1) := by decide +kernel
theorem d_prog_37_method_2_54 : decode prog_37_method_2_code 54 = .ok (.iand, 1) := by decide +kernel
theorem d_prog_37_method_2_55 : decode prog_37_method_2_code 55 = .ok (.ireturn, 1) := by decide +kernel
theorem ef_rmGT (mi : MethodId) (o : Addr) (f : Int32) (s : Int32) (tb : Addr) (bm : Addr) (kT : ClassId) (kB : ClassId) (N : Int32) (hT : List (Int32 × Value)) (hB : List (Int32 × Value)) (x : Addr) (kx : ClassId) (hsx : List (Int32 × Value)) (kv : Int32) : entryFrame mi #[(.ref o), (.int f), (.int s)] 6 = mkF mi 0 #[.val (.ref o), .val (.int f), .val (.int s), .unset, .unset, .unset] [] := by first | (simp [entryFrame, mkF, argsToLocals, Value.category]; done) | rfl
def Q_rmGT (Z : State) (o : Addr) (f : Int32) (s : Int32) (tb : Addr) (bm : Addr) (kT : ClassId) (kB : ClassId) (N : Int32) (hT : List (Int32 × Value)) (hB : List (Int32 × Value)) (x : Addr) (kx : ClassId) (hsx : List (Int32 × Value)) (kv : Int32) (h0 : Heap) (n0 : Nat) (vv_ : Option Value) (hh_ : Heap) (LL_ : List Loc) : Prop := vv_ = some (.int (kv &&& (3 : Int32))) ∧ Fr n0 LL_ ∧ hh_ = h0
set_option maxRecDepth 65536 in
set_option maxHeartbeats 40000000 in
theorem rmGT (l : Launch) (Z : State) (a0 : Array Value) (hw : ∀ d ∈ tables_1, d.before a0 Z = true) (ws : List Jvm.Cond) (o : Addr) (f : Int32) (s : Int32) (tb : Addr) (bm : Addr) (kT : ClassId) (kB : ClassId) (N : Int32) (hT : List (Int32 × Value)) (hB : List (Int32 × Value)) (x : Addr) (kx : ClassId) (hsx : List (Int32 × Value)) (kv : Int32) (h0 : Heap) (n0 : Nat) (Z0 : n0 ≤ h0.size) (F1 : Fld Z h0 o "com/example/hedge/hedge/automaton/PairMarks" "tables" "[[I" (.ref tb)) (F3 : Fld Z h0 o "com/example/hedge/hedge/automaton/PairMarks" "bitmaps" "[[J" (.ref bm)) (A_tb : Arh Z h0 tb kT (.array .int) N hT [] .null) (A_bm : Arh Z h0 bm kB (.array .long) N hB [] .null) (hf1 : ¬ f < 0) (hf2 : f < N) (uB : getH hB [] .null f.toNatClampNeg = .null) (uT : getH hT [] .null f.toNatClampNeg = .ref x) (A_x : Arh Z h0 x kx .int (4 : Int32) hsx [] (.int (0 : Int32))) (uX : getH hsx [] (.int (0 : Int32)) (fSl s (3 : Int32)).toNatClampNeg = .int kv) (hk0 : ¬ (kv = (0 : Int32))) (hk1 : (fSe kv) = s) :
    MetFree l (⟨"com/example/hedge/hedge/automaton/PairMarks", "get", "(II)I"⟩ : MethodName) (head1 (Jvm.Cond.code (⟨"com/example/hedge/hedge/automaton/PairMarks", "get", "(II)I"⟩ : MethodName) prog_37_method_2_code 6 (some .int) :: ws) ({ frames := 2, cells := 0, slots := 0, locals := 29 } : Room)) (fun aa_ U => aa_ = #[(.ref o), (.int f), (.int s)] ∧ Z.Warmed39 U.vm ∧ U.heap = h0) (fun _ _ _ _ _ => True) (fun _ U oo_ UV_ => ∃ vv_ LL_, oo_ = .returned vv_ ∧ Q_rmGT Z o f s tb bm kT kB N hT hB x kx hsx kv h0 n0 vv_ UV_.heap LL_ ∧ FrameEnd U oo_ UV_ LL_ ({ frames := 2, cells := 0, slots := 0, locals := 29 } : Room).cells ({ frames := 2, cells := 0, slots := 0, locals := 29 } : Room).slots) := by
  refine MetFree.of_bodySF (plainFor_of_name pn_0) hisR ?_
  intro pg ev si mi args below meth ci s₁ Bd hml0 hP0 hK
  obtain ⟨rfl, hZ, hh⟩ := hP0
  have hx := Bd.exec
  have hby := Bd.bytes
  have hml : ci.maxLocals = 6 := hml0
  have hown : si.vm.findClass "com/example/hedge/hedge/automaton/PairMarks" = some mi.cls := findClass_of_methodNamed Bd.named
  have hnm := (name_of_methodNamed Bd.named Bd.method).1
  have X0 : Stand pg l ev ({ frames := 2, cells := 0, slots := 0, locals := 29 } : Room) si mi #[(.ref o), (.int f), (.int s)] below meth ci s₁ [] 0 0 := Stand.of_body Bd
  have e0 : s₁.heap = h0 := by rw [← hh, Bd.state]; rfl
  have N0 := Fr.nil n0
  refine Go.start (fun P hP => ?_)
  refine Go.st (fun t_ k_ => castTop (ef_rmGT mi o f s tb bm kT kB N hT hB x kx hsx kv) k_) (A := s₁.setTop (mkF mi 0 #[.val (.ref o), .val (.int f), .val (.int s), .unset, .unset, .unset] [])) ?_
  show Go pg.tables ev below (s₁.setTop (mkF mi 0 #[.val (.ref o), .val (.int f), .val (.int s), .unset, .unset, .unset] [])) P
  refine Go.st (fun t_ k_ => XS.aloadN X0.here hx rfl (hb hby d_prog_37_method_2_0) rfl rfl k_) ?_
  show Go pg.tables ev below (s₁.setTop (mkF mi 1 #[.val (.ref o), .val (.int f), .val (.int s), .unset, .unset, .unset] [(.ref o)])) P
  obtain ⟨T1, X1, e1, st1⟩ := getF X0 hx hZ hown (host := "") (Or.inl (hw _ (List.mem_of_getElem? (i := 24) rfl))) Via.refl e0 F3 (g := (mkF mi 1 #[.val (.ref o), .val (.int f), .val (.int s), .unset, .unset, .unset] [(.ref o)])) rfl rfl (hb hby d_prog_37_method_2_1)
  refine Go.st st1 ?_
  show Go pg.tables ev below (T1.setTop (mkF mi 4 #[.val (.ref o), .val (.int f), .val (.int s), .unset, .unset, .unset] [(.ref bm)])) P
  refine Go.st (fun t_ k_ => XS.iloadN X1.here hx rfl (hb hby d_prog_37_method_2_4) rfl k_) ?_
  show Go pg.tables ev below (T1.setTop (mkF mi 5 #[.val (.ref o), .val (.int f), .val (.int s), .unset, .unset, .unset] [(.int f), (.ref bm)])) P
  have ov2 := A_bm
  obtain ⟨cl2, Ar2, q2, S2, M2, H2, G2⟩ := ov2
  have hin2 : ¬ (f < 0 ∨ cl2.slots.size ≤ (f).toNatClampNeg) := inb_of S2 ⟨hf1, hf2⟩
  have hat2 : cl2.slots[(f).toNatClampNeg]? = some .null := atH H2 hin2 uB
  refine Go.st (X1.aaload hx (j := f) (v := .null) (by rw [e1]; exact Ar2.1) (State.isArrayOf_alike hZ.alike Ar2.2.1) rfl Ar2.2.2 hin2 hat2 (g := (mkF mi 5 #[.val (.ref o), .val (.int f), .val (.int s), .unset, .unset, .unset] [(.int f), (.ref bm)])) rfl rfl (hb hby d_prog_37_method_2_5)) ?_
  show Go pg.tables ev below (T1.setTop (mkF mi 6 #[.val (.ref o), .val (.int f), .val (.int s), .unset, .unset, .unset] [.null])) P
  refine Go.st (fun t_ k_ => XS.astoreN X1.here hx rfl (hb hby d_prog_37_method_2_6) rfl rfl (l' := #[.val (.ref o), .val (.int f), .val (.int s), .val .null, .unset, .unset]) rfl k_) ?_
  show Go pg.tables ev below (T1.setTop (mkF mi 7 #[.val (.ref o), .val (.int f), .val (.int s), .val .null, .unset, .unset] [])) P
  refine Go.st (fun t_ k_ => XS.aloadN X1.here hx rfl (hb hby d_prog_37_method_2_7) rfl rfl k_) ?_
  show Go pg.tables ev below (T1.setTop (mkF mi 8 #[.val (.ref o), .val (.int f), .val (.int s), .val .null, .unset, .unset] [.null])) P
  refine Go.st (fun t_ k_ => XS.ifnullYes X1.here hx rfl (pc0 := 8) (pc' := 25) rfl (hb hby d_prog_37_method_2_8) rfl (by decide) (by decide) k_) ?_
  show Go pg.tables ev below (T1.setTop (mkF mi 25 #[.val (.ref o), .val (.int f), .val (.int s), .val .null, .unset, .unset] [])) P
  refine Go.st (fun t_ k_ => XS.aloadN X1.here hx rfl (hb hby d_prog_37_method_2_25) rfl rfl k_) ?_
  show Go pg.tables ev below (T1.setTop (mkF mi 26 #[.val (.ref o), .val (.int f), .val (.int s), .val .null, .unset, .unset] [(.ref o)])) P
  obtain ⟨T3, X3, e3, st3⟩ := getF X1 hx hZ hown (host := "") (Or.inl (hw _ (List.mem_of_getElem? (i := 18) rfl))) Via.refl e1 F1 (g := (mkF mi 26 #[.val (.ref o), .val (.int f), .val (.int s), .val .null, .unset, .unset] [(.ref o)])) rfl rfl (hb hby d_prog_37_method_2_26)
  refine Go.st st3 ?_
  show Go pg.tables ev below (T3.setTop (mkF mi 29 #[.val (.ref o), .val (.int f), .val (.int s), .val .null, .unset, .unset] [(.ref tb)])) P
  refine Go.st (fun t_ k_ => XS.iloadN X3.here hx rfl (hb hby d_prog_37_method_2_29) rfl k_) ?_
  show Go pg.tables ev below (T3.setTop (mkF mi 30 #[.val (.ref o), .val (.int f), .val (.int s), .val .null, .unset, .unset] [(.int f), (.ref tb)])) P
  have ov4 := A_tb
  obtain ⟨cl4, Ar4, q4, S4, M4, H4, G4⟩ := ov4
  have hin4 : ¬ (f < 0 ∨ cl4.slots.size ≤ (f).toNatClampNeg) := inb_of S4 ⟨hf1, hf2⟩
  have hat4 : cl4.slots[(f).toNatClampNeg]? = some (.ref x) := atH H4 hin4 uT
  refine Go.st (X3.aaload hx (j := f) (v := (.ref x)) (by rw [e3]; exact Ar4.1) (State.isArrayOf_alike hZ.alike Ar4.2.1) rfl Ar4.2.2 hin4 hat4 (g := (mkF mi 30 #[.val (.ref o), .val (.int f), .val (.int s), .val .null, .unset, .unset] [(.int f), (.ref tb)])) rfl rfl (hb hby d_prog_37_method_2_30)) ?_
  show Go pg.tables ev below (T3.setTop (mkF mi 31 #[.val (.ref o), .val (.int f), .val (.int s), .val .null, .unset, .unset] [(.ref x)])) P
  refine Go.st (fun t_ k_ => XS.astore X3.here hx rfl (hb hby d_prog_37_method_2_31) rfl rfl (l' := #[.val (.ref o), .val (.int f), .val (.int s), .val .null, .val (.ref x), .unset]) rfl k_) ?_
  show Go pg.tables ev below (T3.setTop (mkF mi 33 #[.val (.ref o), .val (.int f), .val (.int s), .val .null, .val (.ref x), .unset] [])) P
  refine Go.st (fun t_ k_ => XS.aload X3.here hx rfl (hb hby d_prog_37_method_2_33) rfl rfl k_) ?_
  show Go pg.tables ev below (T3.setTop (mkF mi 35 #[.val (.ref o), .val (.int f), .val (.int s), .val .null, .val (.ref x), .unset] [(.ref x)])) P
  refine Go.st (fun t_ k_ => XS.ifnonnullYes X3.here hx rfl (pc0 := 35) (pc' := 40) rfl (hb hby d_prog_37_method_2_35) rfl (by decide) (by decide) k_) ?_
  show Go pg.tables ev below (T3.setTop (mkF mi 40 #[.val (.ref o), .val (.int f), .val (.int s), .val .null, .val (.ref x), .unset] [])) P
  refine Go.st (fun t_ k_ => XS.aload X3.here hx rfl (hb hby d_prog_37_method_2_40) rfl rfl k_) ?_
  show Go pg.tables ev below (T3.setTop (mkF mi 42 #[.val (.ref o), .val (.int f), .val (.int s), .val .null, .val (.ref x), .unset] [(.ref x)])) P
  refine Go.st (fun t_ k_ => XS.iloadN X3.here hx rfl (hb hby d_prog_37_method_2_42) rfl k_) ?_
  show Go pg.tables ev below (T3.setTop (mkF mi 43 #[.val (.ref o), .val (.int f), .val (.int s), .val .null, .val (.ref x), .unset] [(.int s), (.ref x)])) P
  obtain ⟨_, _, ⟨T5, L5, k5, n5⟩, -, X5, ⟨Lc5, hQ5, l5, y5, z5⟩, st5⟩ := Jvm.LawKit.callS X3 hx (y := (⟨"com/example/hedge/hedge/automaton/PairMarks", "find", "([II)I"⟩ : MethodName)) hown (mvT hZ (hw _ (List.mem_of_getElem? (i := 69) rfl))) (mvT hZ (hw _ (List.mem_of_getElem? (i := 70) rfl))) (mvT hZ (hw _ (List.mem_of_getElem? (i := 3) rfl))) (mvT hZ (hw _ (List.mem_of_getElem? (i := 71) rfl))) (by decide) (backOf (W := 0) (rmFi2 l Z a0 hw [] x s kx hsx kv h0 n0 Z0 A_x uX hk0 hk1) hZ (hw _ (List.mem_of_getElem? (i := 71) rfl)) (hw _ (List.mem_of_getElem? (i := 3) rfl)) (by decide) (by decide)) (g := (mkF mi 43 #[.val (.ref o), .val (.int f), .val (.int s), .val .null, .val (.ref x), .unset] [(.int s), (.ref x)])) rfl (by rw [hml]; rfl) (argsL := [(.ref x), (.int s)]) (rest := []) (lenOf pd_3 rfl) rfl (by show 2 * 0 + _ ≤ _; exact Nat.le_of_eq rfl) (hb hby d_prog_37_method_2_43) (fun _ _ => ⟨rfl, e3, (by decide : 0 + 0 ≤ _), (by decide : 0 + 0 ≤ _)⟩)
  dsimp only [Pt.U, Pt.locs, Pt.cells, Pt.slots] at X5 l5 y5 z5 st5 hQ5
  subst l5 y5 z5
  obtain ⟨rfl, N5q, e5⟩ := hQ5
  have N5 := Fr.app N0 N5q
  refine Go.st st5 ?_
  show Go pg.tables ev below (T5.setTop (mkF mi 46 #[.val (.ref o), .val (.int f), .val (.int s), .val .null, .val (.ref x), .unset] [(.int (fSl s (3 : Int32)))])) P
  refine Go.st (fun t_ k_ => XS.istore X5.here hx rfl (hb hby d_prog_37_method_2_46) rfl (l' := #[.val (.ref o), .val (.int f), .val (.int s), .val .null, .val (.ref x), .val (.int (fSl s (3 : Int32)))]) rfl k_) ?_
  show Go pg.tables ev below (T5.setTop (mkF mi 48 #[.val (.ref o), .val (.int f), .val (.int s), .val .null, .val (.ref x), .val (.int (fSl s (3 : Int32)))] [])) P
  refine Go.st (fun t_ k_ => XS.aload X5.here hx rfl (hb hby d_prog_37_method_2_48) rfl rfl k_) ?_
  show Go pg.tables ev below (T5.setTop (mkF mi 50 #[.val (.ref o), .val (.int f), .val (.int s), .val .null, .val (.ref x), .val (.int (fSl s (3 : Int32)))] [(.ref x)])) P
  refine Go.st (fun t_ k_ => XS.iload X5.here hx rfl (hb hby d_prog_37_method_2_50) rfl k_) ?_
  show Go pg.tables ev below (T5.setTop (mkF mi 52 #[.val (.ref o), .val (.int f), .val (.int s), .val .null, .val (.ref x), .val (.int (fSl s (3 : Int32)))] [(.int (fSl s (3 : Int32))), (.ref x)])) P
  have ov6 := A_x
  obtain ⟨cl6, Ar6, q6, S6, M6, H6, G6⟩ := ov6
  have hin6 : ¬ ((fSl s (3 : Int32)) < 0 ∨ cl6.slots.size ≤ ((fSl s (3 : Int32))).toNatClampNeg) := inb_of S6 (own_slot s)
  have hat6 : cl6.slots[((fSl s (3 : Int32))).toNatClampNeg]? = some (.int kv) := atH H6 hin6 uX
  refine Go.st (X5.iaload hx (j := (fSl s (3 : Int32))) (v := (.int kv)) (by rw [e5]; exact Ar6.1) (State.isArrayOf_alike hZ.alike Ar6.2.1) Ar6.2.2 hin6 hat6 (g := (mkF mi 52 #[.val (.ref o), .val (.int f), .val (.int s), .val .null, .val (.ref x), .val (.int (fSl s (3 : Int32)))] [(.int (fSl s (3 : Int32))), (.ref x)])) rfl rfl (hb hby d_prog_37_method_2_52)) ?_
  show Go pg.tables ev below (T5.setTop (mkF mi 53 #[.val (.ref o), .val (.int f), .val (.int s), .val .null, .val (.ref x), .val (.int (fSl s (3 : Int32)))] [(.int kv)])) P
  refine Go.st (fun t_ k_ => XS.iconst X5.here hx rfl (hb hby d_prog_37_method_2_53) k_) ?_
  show Go pg.tables ev below (T5.setTop (mkF mi 54 #[.val (.ref o), .val (.int f), .val (.int s), .val .null, .val (.ref x), .val (.int (fSl s (3 : Int32)))] [(.int (3 : Int32)), (.int kv)])) P
  refine Go.st (fun t_ k_ => XS.iand X5.here hx rfl (hb hby d_prog_37_method_2_54) rfl k_) ?_
  show Go pg.tables ev below (T5.setTop (mkF mi 55 #[.val (.ref o), .val (.int f), .val (.int s), .val .null, .val (.ref x), .val (.int (fSl s (3 : Int32)))] [(.int (kv &&& (3 : Int32)))])) P
  obtain ⟨fs, hr, hrun, hended, hW, hsame⟩ := X5.leave (v := some (.int (kv &&& (3 : Int32)))) (fun h => by rw [Bd.returns] at h; cases h) (BodyLoose.notSynchronized Bd)
  refine ⟨_, _, ?_, hP _ _ ⟨hrun, hended, _, _, rfl, ?_, ⟨_, rfl⟩, hW, hsame.mono (by decide) (by decide)⟩⟩
  · exact retI X5 hx Bd.returns (hb hby d_prog_37_method_2_55) hr
  · show (some (.int (kv &&& (3 : Int32))) : Option Value) = some (.int (kv &&& (3 : Int32))) ∧ Fr n0 _ ∧ T5.heap = h0
    rw [e5]
    exact ⟨rfl, N5, rfl⟩
theorem own_get0 (s : Int32) : fGt (0 : Int64) s = (0 : Int32) := by
  unfold fGt
  have : ((0 : Int64).toUInt64 >>> ((fSh s) &&& 0x3f).toInt64.toUInt64) = 0 := by
    apply UInt64.toBitVec_inj.mp
    show (0#64 >>> _) = 0#64
    simp
  rw [this]; decide
theorem own_add0 (m s : Int32) : (m &&& ((fGt (0 : Int64) s) ^^^ (-1 : Int32))) = m := by rw [own_get0]; exact own_not m
theorem own_and1 (m : Int32) : (m &&& (-1 : Int32)) = m := own_not m
def fPu (m s : Int32) : Int64 := ((0 : Int64) ||| ((m.toInt64) <<< ((fSh s) &&& 0x3f).toInt64))
theorem d_prog_37_method_3_0 : decode prog_37_method_3_code 0 = .ok (.aload_n 0, 1) := by decide +kernel
theorem d_prog_37_method_3_1 : decode prog_37_method_3_code 1 = .ok (.getfield 39, 3) := by decide +kernel
theorem d_prog_37_method_3_4 : decode prog_37_method_3_code 4 = .ok (.iload_n 1, 1) := by decide +kernel
theorem d_prog_37_method_3_5 : decode prog_37_method_3_code 5 = .ok (.aaload, 1) := by decide +kernel
theorem d_prog_37_method_3_6 : decode prog_37_method_3_code 6 = .ok (.ifnonnull 17, 3) := by decide +kernel
theorem d_prog_37_method_3_9 : decode prog_37_method_3_code 9 = .ok (.aload_n 0, 1) := by decide +kernel
theorem d_prog_37_method_3_10 : decode prog_37_method_3_code 10 = .ok (.getfield 30, 3) := by decide +kernel
theorem d_prog_37_method_3_13 : decode prog_37_method_3_code 13 = .ok (.iload_n 1, 1) := by decide +kernel
theorem d_prog_37_method_3_14 : decode prog_37_method_3_code 14 = .ok (.aaload, 1) := by decide +kernel
theorem d_prog_37_method_3_15 : decode prog_37_method_3_code 15 = .ok (.ifnonnull 8, 3) := by decide +kernel
theorem d_prog_37_method_3_18 : decode prog_37_method_3_code 18 = .ok (.aload_n 0, 1) := by decide +kernel
theorem d_prog_37_method_3_19 : decode prog_37_method_3_code 19 = .ok (.iload_n 1, 1) := by decide +kernel
theorem d_prog_37_method_3_20 : decode prog_37_method_3_code 20 = .ok (.invokevirtual 51, 3) := by decide +kernel
theorem pd_4 : parseMethodDescriptor "(I)V" = some ⟨[.int], none⟩ := by decide +kernel
theorem d_prog_37_method_3_23 : decode prog_37_method_3_code 23 = .ok (.aload_n 0, 1) := by decide +kernel
theorem d_prog_37_method_3_24 : decode prog_37_method_3_code 24 = .ok (.getfield 39, 3) := by decide +kernel
theorem d_prog_37_method_3_27 : decode prog_37_method_3_code 27 = .ok (.iload_n 1, 1) := by decide +kernel
theorem d_prog_37_method_3_28 : decode prog_37_method_3_code 28 = .ok (.aaload, 1) := by decide +kernel
theorem d_prog_37_method_3_29 : decode prog_37_method_3_code 29 = .ok (.astore 4, 2) := by decide +kernel
theorem d_prog_37_method_3_31 : decode prog_37_method_3_code 31 = .ok (.aload 4, 2) := by decide +kernel
theorem d_prog_37_method_3_33 : decode prog_37_method_3_code 33 = .ok (.ifnull 35, 3) := by decide +kernel
theorem d_prog_37_method_3_36 : decode prog_37_method_3_code 36 = .ok (.iload_n 3, 1) := by decide +kernel
theorem d_prog_37_method_3_37 : decode prog_37_method_3_code 37 = .ok (.aload_n 0, 1) := by decide +kernel
theorem d_prog_37_method_3_38 : decode prog_37_method_3_code 38 = .ok (.iload_n 1, 1) := by decide +kernel
theorem d_prog_37_method_3_39 : decode prog_37_method_3_code 39 = .ok (.iload_n 2, 1) := by decide +kernel
theorem d_prog_37_method_3_40 : decode prog_37_method_3_code 40 = .ok (.invokevirtual 55, 3) := by decide +kernel
theorem d_prog_37_method_3_43 : decode prog_37_method_3_code 43 = .ok (.iconst (-1), 1) := by decide +kernel
theorem d_prog_37_method_3_44 : decode prog_37_method_3_code 44 = .ok (.ixor, 1) := by decide +kernel
theorem d_prog_37_method_3_45 : decode prog_37_method_3_code 45 = .ok (.iand, 1) := by decide +kernel
theorem d_prog_37_method_3_46 : decode prog_37_method_3_code 46 = .ok (.istore 5, 2) := by decide +kernel
theorem d_prog_37_method_3_48 : decode prog_37_method_3_code 48 = .ok (.aload 4, 2) := by decide +kernel
theorem d_prog_37_method_3_50 : decode prog_37_method_3_code 50 = .ok (.iload_n 2, 1) := by decide +kernel
theorem d_prog_37_method_3_51 : decode prog_37_method_3_code 51 = .ok (.iconst 5, 1) := by decide +kernel
theorem d_prog_37_method_3_52 : decode prog_37_method_3_code 52 = .ok (.iushr, 1) := by decide +kernel
theorem d_prog_37_method_3_53 : decode prog_37_method_3_code 53 = .ok (.dup2, 1) := by decide +kernel
theorem d_prog_37_method_3_54 : decode prog_37_method_3_code 54 = .ok (.laload, 1) := by decide +kernel
theorem d_prog_37_method_3_55 : decode prog_37_method_3_code 55 = .ok (.iload 5, 2) := by decide +kernel
theorem d_prog_37_method_3_57 : decode prog_37_method_3_code 57 = .ok (.i2l, 1) := by decide +kernel
theorem d_prog_37_method_3_58 : decode prog_37_method_3_code 58 = .ok (.iload_n 2, 1) := by decide +kernel
theorem d_prog_37_method_3_59 : decode prog_37_method_3_code 59 = .ok (.invokestatic 43, 3) := by decide +kernel
theorem d_prog_37_method_3_62 : decode prog_37_method_3_code 62 = .ok (.lshl, 1) := by decide +kernel
theorem d_prog_37_method_3_63 : decode prog_37_method_3_code 63 = .ok (.lor, 1) := by decide +kernel
theorem d_prog_37_method_3_64 : decode prog_37_method_3_code 64 = .ok (.lastore, 1) := by decide +kernel
theorem d_prog_37_method_3_65 : decode prog_37_method_3_code 65 = .ok (.iload 5, 2) := by decide +kernel
theorem d_prog_37_method_3_67 : decode prog_37_method_3_code 67 = .ok (.ireturn, 1) := by decide +kernel
theorem ef_rmAN0B (mi : MethodId) (o : Addr) (f : Int32) (s : Int32) (m : Int32) (rw : Addr) (tb : Addr) (sz : Addr) (bm : Addr) (kR : ClassId) (kT : ClassId) (kS : ClassId) (kB : ClassId) (N : Int32) (wd : Int32) (hT : List (Int32 × Value)) (hS : List (Int32 × Value)) (hB : List (Int32 × Value)) (vR : List Value) : entryFrame mi #[(.ref o), (.int f), (.int s), (.int m)] 8 = mkF mi 0 #[.val (.ref o), .val (.int f), .val (.int s), .val (.int m), .unset, .unset, .unset, .unset] [] := by first | (simp [entryFrame, mkF, argsToLocals, Value.category]; done) | rfl
def Q_rmAN0B (Z : State) (o : Addr) (f : Int32) (s : Int32) (m : Int32) (rw : Addr) (tb : Addr) (sz : Addr) (bm : Addr) (kR : ClassId) (kT : ClassId) (kS : ClassId) (kB : ClassId) (N : Int32) (wd : Int32) (hT : List (Int32 × Value)) (hS : List (Int32 × Value)) (hB : List (Int32 × Value)) (vR : List Value) (h0 : Heap) (n0 : Nat) (vv_ : Option Value) (hh_ : Heap) (LL_ : List Loc) : Prop := vv_ = some (.int m) ∧ Fr n0 LL_ ∧ Keep h0 hh_ [o, rw, bm] ∧ ∃ (x : Addr) (kx : ClassId), h0.size ≤ x ∧ n0 ≤ x ∧ Fld Z hh_ o "com/example/hedge/hedge/automaton/PairMarks" "rows" "[I" (.ref rw) ∧ Fld Z hh_ o "com/example/hedge/hedge/automaton/PairMarks" "tables" "[[I" (.ref tb) ∧ Fld Z hh_ o "com/example/hedge/hedge/automaton/PairMarks" "sizes" "[I" (.ref sz) ∧ Fld Z hh_ o "com/example/hedge/hedge/automaton/PairMarks" "bitmaps" "[[J" (.ref bm) ∧ Fld Z hh_ o "com/example/hedge/hedge/automaton/PairMarks" "words" "I" (.int wd) ∧ Fld Z hh_ o "com/example/hedge/hedge/automaton/PairMarks" "rowCount" "I" (.int (1 : Int32)) ∧ Arv Z hh_ rw kR .int (16 : Int32) (vR.set 0 (.int f)) (.int (0 : Int32)) ∧ Arh Z hh_ bm kB (.array .long) N ((f, .ref x) :: hB) [] .null ∧ Arh Z hh_ x kx .long wd [(((s.toUInt32 >>> ((5 : Int32) &&& 31).toUInt32).toInt32), .long (fPu m s))] [] (.long (0 : Int64))
set_option maxRecDepth 65536 in
set_option maxHeartbeats 40000000 in
theorem rmAN0B (l : Launch) (Z : State) (a0 : Array Value) (hw : ∀ d ∈ tables_1, d.before a0 Z = true) (ws : List Jvm.Cond) (o : Addr) (f : Int32) (s : Int32) (m : Int32) (rw : Addr) (tb : Addr) (sz : Addr) (bm : Addr) (kR : ClassId) (kT : ClassId) (kS : ClassId) (kB : ClassId) (N : Int32) (wd : Int32) (hT : List (Int32 × Value)) (hS : List (Int32 × Value)) (hB : List (Int32 × Value)) (vR : List Value) (h0 : Heap) (n0 : Nat) (Z0 : n0 ≤ h0.size) (E0 : Exa Z h0 o "com/example/hedge/hedge/automaton/PairMarks") (ge0 : n0 ≤ o) (g_rw : n0 ≤ rw) (g_tb : n0 ≤ tb) (g_sz : n0 ≤ sz) (g_bm : n0 ≤ bm) (ne_o_rw : o ≠ rw) (ne_o_tb : o ≠ tb) (ne_o_sz : o ≠ sz) (ne_o_bm : o ≠ bm) (ne_rw_tb : rw ≠ tb) (ne_rw_sz : rw ≠ sz) (ne_rw_bm : rw ≠ bm) (ne_tb_sz : tb ≠ sz) (ne_tb_bm : tb ≠ bm) (ne_sz_bm : sz ≠ bm) (F0 : Fld Z h0 o "com/example/hedge/hedge/automaton/PairMarks" "rows" "[I" (.ref rw)) (F1 : Fld Z h0 o "com/example/hedge/hedge/automaton/PairMarks" "tables" "[[I" (.ref tb)) (F2 : Fld Z h0 o "com/example/hedge/hedge/automaton/PairMarks" "sizes" "[I" (.ref sz)) (F3 : Fld Z h0 o "com/example/hedge/hedge/automaton/PairMarks" "bitmaps" "[[J" (.ref bm)) (F4 : Fld Z h0 o "com/example/hedge/hedge/automaton/PairMarks" "words" "I" (.int wd)) (F5 : Fld Z h0 o "com/example/hedge/hedge/automaton/PairMarks" "rowCount" "I" (.int (0 : Int32))) (A_rw : Arv Z h0 rw kR .int (16 : Int32) vR (.int (0 : Int32))) (l_rw : vR.length = 16) (A_tb : Arh Z h0 tb kT (.array .int) N hT [] .null) (A_sz : Arh Z h0 sz kS .int N hS [] (.int (0 : Int32))) (A_bm : Arh Z h0 bm kB (.array .long) N hB [] .null) (O_tb : OvrA Z kT .int "[I") (O_bm : OvrA Z kB .long "[J") (hf1 : ¬ f < 0) (hf2 : f < N) (hwo : ¬ ((4 : Int64) < ((2 : Int64) * (wd.toInt64)))) (hN1 : 1 ≤ N.toInt) (hN2 : N.toInt ≤ 256) (hwd : wd = fWd N) (hwd1 : 1 ≤ wd.toInt) (hwd2 : wd.toInt ≤ 8) (hs : ¬ s < 0 ∧ s < N) (uB : getH hB [] .null f.toNatClampNeg = .null) (uT : getH hT [] .null f.toNatClampNeg = .null) (uS : getH hS [] (.int (0 : Int32)) f.toNatClampNeg = .int (0 : Int32)) :
    MetFree l (⟨"com/example/hedge/hedge/automaton/PairMarks", "add", "(III)I"⟩ : MethodName) (head1 (Jvm.Cond.code (⟨"com/example/hedge/hedge/automaton/PairMarks", "add", "(III)I"⟩ : MethodName) prog_37_method_3_code 8 (some .int) :: ws) ({ frames := 3, cells := 1, slots := 8, locals := 47 } : Room)) (fun aa_ U => aa_ = #[(.ref o), (.int f), (.int s), (.int m)] ∧ Z.Warmed39 U.vm ∧ U.heap = h0) (fun _ _ _ _ _ => True) (fun _ U oo_ UV_ => ∃ vv_ LL_, oo_ = .returned vv_ ∧ Q_rmAN0B Z o f s m rw tb sz bm kR kT kS kB N wd hT hS hB vR h0 n0 vv_ UV_.heap LL_ ∧ FrameEnd U oo_ UV_ LL_ ({ frames := 3, cells := 1, slots := 8, locals := 47 } : Room).cells ({ frames := 3, cells := 1, slots := 8, locals := 47 } : Room).slots) := by
  refine MetFree.of_bodySF (plainFor_of_name pn_0) hisR ?_
  intro pg ev si mi args below meth ci s₁ Bd hml0 hP0 hK
  obtain ⟨rfl, hZ, hh⟩ := hP0
  have hx := Bd.exec
  have hby := Bd.bytes
  have hml : ci.maxLocals = 8 := hml0
  have hown : si.vm.findClass "com/example/hedge/hedge/automaton/PairMarks" = some mi.cls := findClass_of_methodNamed Bd.named
  have hnm := (name_of_methodNamed Bd.named Bd.method).1
  have X0 : Stand pg l ev ({ frames := 3, cells := 1, slots := 8, locals := 47 } : Room) si mi #[(.ref o), (.int f), (.int s), (.int m)] below meth ci s₁ [] 0 0 := Stand.of_body Bd
  have e0 : s₁.heap = h0 := by rw [← hh, Bd.state]; rfl
  have N0 := Fr.nil n0
  refine Go.start (fun P hP => ?_)
  refine Go.st (fun t_ k_ => castTop (ef_rmAN0B mi o f s m rw tb sz bm kR kT kS kB N wd hT hS hB vR) k_) (A := s₁.setTop (mkF mi 0 #[.val (.ref o), .val (.int f), .val (.int s), .val (.int m), .unset, .unset, .unset, .unset] [])) ?_
  have hi := own_bit hN1 hN2 hwd hs
  show Go pg.tables ev below (s₁.setTop (mkF mi 0 #[.val (.ref o), .val (.int f), .val (.int s), .val (.int m), .unset, .unset, .unset, .unset] [])) P
  refine Go.st (fun t_ k_ => XS.aloadN X0.here hx rfl (hb hby d_prog_37_method_3_0) rfl rfl k_) ?_
  show Go pg.tables ev below (s₁.setTop (mkF mi 1 #[.val (.ref o), .val (.int f), .val (.int s), .val (.int m), .unset, .unset, .unset, .unset] [(.ref o)])) P
  obtain ⟨T1, X1, e1, st1⟩ := getF X0 hx hZ hown (host := "") (Or.inl (hw _ (List.mem_of_getElem? (i := 24) rfl))) Via.refl e0 F3 (g := (mkF mi 1 #[.val (.ref o), .val (.int f), .val (.int s), .val (.int m), .unset, .unset, .unset, .unset] [(.ref o)])) rfl rfl (hb hby d_prog_37_method_3_1)
  refine Go.st st1 ?_
  show Go pg.tables ev below (T1.setTop (mkF mi 4 #[.val (.ref o), .val (.int f), .val (.int s), .val (.int m), .unset, .unset, .unset, .unset] [(.ref bm)])) P
  refine Go.st (fun t_ k_ => XS.iloadN X1.here hx rfl (hb hby d_prog_37_method_3_4) rfl k_) ?_
  show Go pg.tables ev below (T1.setTop (mkF mi 5 #[.val (.ref o), .val (.int f), .val (.int s), .val (.int m), .unset, .unset, .unset, .unset] [(.int f), (.ref bm)])) P
  have ov2 := A_bm
  obtain ⟨cl2, Ar2, q2, S2, M2, H2, G2⟩ := ov2
  have hin2 : ¬ (f < 0 ∨ cl2.slots.size ≤ (f).toNatClampNeg) := inb_of S2 ⟨hf1, hf2⟩
  have hat2 : cl2.slots[(f).toNatClampNeg]? = some .null := atH H2 hin2 uB
  refine Go.st (X1.aaload hx (j := f) (v := .null) (by rw [e1]; exact Ar2.1) (State.isArrayOf_alike hZ.alike Ar2.2.1) rfl Ar2.2.2 hin2 hat2 (g := (mkF mi 5 #[.val (.ref o), .val (.int f), .val (.int s), .val (.int m), .unset, .unset, .unset, .unset] [(.int f), (.ref bm)])) rfl rfl (hb hby d_prog_37_method_3_5)) ?_
  show Go pg.tables ev below (T1.setTop (mkF mi 6 #[.val (.ref o), .val (.int f), .val (.int s), .val (.int m), .unset, .unset, .unset, .unset] [.null])) P
  refine Go.st (fun t_ k_ => XS.ifnonnullNo X1.here hx rfl (hb hby d_prog_37_method_3_6) rfl k_) ?_
  show Go pg.tables ev below (T1.setTop (mkF mi 9 #[.val (.ref o), .val (.int f), .val (.int s), .val (.int m), .unset, .unset, .unset, .unset] [])) P
  refine Go.st (fun t_ k_ => XS.aloadN X1.here hx rfl (hb hby d_prog_37_method_3_9) rfl rfl k_) ?_
  show Go pg.tables ev below (T1.setTop (mkF mi 10 #[.val (.ref o), .val (.int f), .val (.int s), .val (.int m), .unset, .unset, .unset, .unset] [(.ref o)])) P
  obtain ⟨T3, X3, e3, st3⟩ := getF X1 hx hZ hown (host := "") (Or.inl (hw _ (List.mem_of_getElem? (i := 18) rfl))) Via.refl e1 F1 (g := (mkF mi 10 #[.val (.ref o), .val (.int f), .val (.int s), .val (.int m), .unset, .unset, .unset, .unset] [(.ref o)])) rfl rfl (hb hby d_prog_37_method_3_10)
  refine Go.st st3 ?_
  show Go pg.tables ev below (T3.setTop (mkF mi 13 #[.val (.ref o), .val (.int f), .val (.int s), .val (.int m), .unset, .unset, .unset, .unset] [(.ref tb)])) P
  refine Go.st (fun t_ k_ => XS.iloadN X3.here hx rfl (hb hby d_prog_37_method_3_13) rfl k_) ?_
  show Go pg.tables ev below (T3.setTop (mkF mi 14 #[.val (.ref o), .val (.int f), .val (.int s), .val (.int m), .unset, .unset, .unset, .unset] [(.int f), (.ref tb)])) P
  have ov4 := A_tb
  obtain ⟨cl4, Ar4, q4, S4, M4, H4, G4⟩ := ov4
  have hin4 : ¬ (f < 0 ∨ cl4.slots.size ≤ (f).toNatClampNeg) := inb_of S4 ⟨hf1, hf2⟩
  have hat4 : cl4.slots[(f).toNatClampNeg]? = some .null := atH H4 hin4 uT
  refine Go.st (X3.aaload hx (j := f) (v := .null) (by rw [e3]; exact Ar4.1) (State.isArrayOf_alike hZ.alike Ar4.2.1) rfl Ar4.2.2 hin4 hat4 (g := (mkF mi 14 #[.val (.ref o), .val (.int f), .val (.int s), .val (.int m), .unset, .unset, .unset, .unset] [(.int f), (.ref tb)])) rfl rfl (hb hby d_prog_37_method_3_14)) ?_
  show Go pg.tables ev below (T3.setTop (mkF mi 15 #[.val (.ref o), .val (.int f), .val (.int s), .val (.int m), .unset, .unset, .unset, .unset] [.null])) P
  refine Go.st (fun t_ k_ => XS.ifnonnullNo X3.here hx rfl (hb hby d_prog_37_method_3_15) rfl k_) ?_
  show Go pg.tables ev below (T3.setTop (mkF mi 18 #[.val (.ref o), .val (.int f), .val (.int s), .val (.int m), .unset, .unset, .unset, .unset] [])) P
  refine Go.st (fun t_ k_ => XS.aloadN X3.here hx rfl (hb hby d_prog_37_method_3_18) rfl rfl k_) ?_
  show Go pg.tables ev below (T3.setTop (mkF mi 19 #[.val (.ref o), .val (.int f), .val (.int s), .val (.int m), .unset, .unset, .unset, .unset] [(.ref o)])) P
  refine Go.st (fun t_ k_ => XS.iloadN X3.here hx rfl (hb hby d_prog_37_method_3_19) rfl k_) ?_
  show Go pg.tables ev below (T3.setTop (mkF mi 20 #[.val (.ref o), .val (.int f), .val (.int s), .val (.int m), .unset, .unset, .unset, .unset] [(.int f), (.ref o)])) P
  obtain ⟨cq5, q5, q5'⟩ := E0.cell
  obtain ⟨_, _, ⟨T5, L5, k5, n5⟩, -, X5, ⟨Lc5, hQ5, l5, y5, z5⟩, st5⟩ := X3.privateBack hx (y := (⟨"com/example/hedge/hedge/automaton/PairMarks", "begin", "(I)V"⟩ : MethodName)) hown (mvT hZ (hw _ (List.mem_of_getElem? (i := 31) rfl))) (mvT hZ (hw _ (List.mem_of_getElem? (i := 32) rfl))) (own_selp hZ (hw _ (List.mem_of_getElem? (i := 2) rfl)) (hw _ (List.mem_of_getElem? (i := 33) rfl)) (hw _ (List.mem_of_getElem? (i := 32) rfl))) (Cond.privateMethod_at (mvP hZ (hw _ (List.mem_of_getElem? (i := 33) rfl)) (args := #[]))) (mvT hZ (hw _ (List.mem_of_getElem? (i := 34) rfl))) (by decide) (backOf (W := 0) (rmBe0B l Z a0 hw [] o f rw tb sz bm kR kT kS kB N  wd hT hS hB vR h0 n0 Z0 E0 ge0 g_rw g_tb g_sz g_bm ne_o_rw ne_o_tb ne_o_sz ne_o_bm ne_rw_tb ne_rw_sz ne_rw_bm ne_tb_sz ne_tb_bm ne_sz_bm F0 F1 F2 F3 F4 F5 A_rw l_rw A_tb A_sz A_bm O_tb O_bm hf1 hf2 hwo hwd1 hwd2) hZ (hw _ (List.mem_of_getElem? (i := 34) rfl)) (hw _ (List.mem_of_getElem? (i := 3) rfl)) (by decide) (by decide)) (g := (mkF mi 20 #[.val (.ref o), .val (.int f), .val (.int s), .val (.int m), .unset, .unset, .unset, .unset] [(.int f), (.ref o)])) rfl (by rw [hml]; rfl) (Steps.refl _) (a := o) (by rw [e3]; exact q5) q5' (argsL := [(.int f)]) (rest := []) (lenOf pd_4 rfl) rfl (by show 2 * 0 + _ ≤ _; exact Nat.le_of_eq rfl) (hb hby d_prog_37_method_3_20) (fun _ _ => ⟨rfl, e3, (by decide : 0 + 1 ≤ _), (by decide : 0 + 8 ≤ _)⟩)
  dsimp only [Pt.U, Pt.locs, Pt.cells, Pt.slots] at X5 l5 y5 z5 st5 hQ5
  subst l5 y5 z5
  obtain ⟨h5, e5⟩ : ∃ z, T5.heap = z := ⟨_, rfl⟩
  rw [e5] at hQ5
  obtain ⟨rfl, N5q, K5, x5, kx5, z_x5, g_x5, FB5_0, FB5_1, FB5_2, FB5_3, FB5_4, FB5_5, AR5, AB5, AX5⟩ := hQ5
  have N5 := Fr.app N0 N5q
  have Zs6 : n0 ≤ h5.size := Nat.le_trans Z0 K5.1
  have KC6 : Keep h0 h5 [o, rw, bm] := (Keep.refl h0 [o, rw, bm]).trans K5 (allS (P := fun x => x ∈ [o, rw, bm] ∨ h0.size ≤ x) (Or.inl (List.mem_of_getElem? (i := 0) rfl)) (allS (P := fun x => x ∈ [o, rw, bm] ∨ h0.size ≤ x) (Or.inl (List.mem_of_getElem? (i := 1) rfl)) (allS (P := fun x => x ∈ [o, rw, bm] ∨ h0.size ≤ x) (Or.inl (List.mem_of_getElem? (i := 2) rfl)) all0)))
  have sz_x5 : h0.size ≤ x5 := Nat.le_trans (Keep.refl h0 [o, rw, bm]).1 z_x5
  have ne_o_x5 : o ≠ x5 := Nat.ne_of_lt (Nat.lt_of_lt_of_le E0.lt z_x5)
  have ne_rw_x5 : rw ≠ x5 := Nat.ne_of_lt (Nat.lt_of_lt_of_le A_rw.lt z_x5)
  have ne_tb_x5 : tb ≠ x5 := Nat.ne_of_lt (Nat.lt_of_lt_of_le A_tb.lt z_x5)
  have ne_sz_x5 : sz ≠ x5 := Nat.ne_of_lt (Nat.lt_of_lt_of_le A_sz.lt z_x5)
  have ne_bm_x5 : bm ≠ x5 := Nat.ne_of_lt (Nat.lt_of_lt_of_le A_bm.lt z_x5)
  refine Go.tr st5 ?_
  show Go pg.tables ev below (T5.setTop (mkF mi 23 #[.val (.ref o), .val (.int f), .val (.int s), .val (.int m), .unset, .unset, .unset, .unset] [])) P
  refine Go.st (fun t_ k_ => XS.aloadN X5.here hx rfl (hb hby d_prog_37_method_3_23) rfl rfl k_) ?_
  show Go pg.tables ev below (T5.setTop (mkF mi 24 #[.val (.ref o), .val (.int f), .val (.int s), .val (.int m), .unset, .unset, .unset, .unset] [(.ref o)])) P
  obtain ⟨T7, X7, e7, st7⟩ := getF X5 hx hZ hown (host := "") (Or.inl (hw _ (List.mem_of_getElem? (i := 24) rfl))) Via.refl e5 FB5_3 (g := (mkF mi 24 #[.val (.ref o), .val (.int f), .val (.int s), .val (.int m), .unset, .unset, .unset, .unset] [(.ref o)])) rfl rfl (hb hby d_prog_37_method_3_24)
  refine Go.st st7 ?_
  show Go pg.tables ev below (T7.setTop (mkF mi 27 #[.val (.ref o), .val (.int f), .val (.int s), .val (.int m), .unset, .unset, .unset, .unset] [(.ref bm)])) P
  refine Go.st (fun t_ k_ => XS.iloadN X7.here hx rfl (hb hby d_prog_37_method_3_27) rfl k_) ?_
  show Go pg.tables ev below (T7.setTop (mkF mi 28 #[.val (.ref o), .val (.int f), .val (.int s), .val (.int m), .unset, .unset, .unset, .unset] [(.int f), (.ref bm)])) P
  have ov8 := AB5
  obtain ⟨cl8, Ar8, q8, S8, M8, H8, G8⟩ := ov8
  have hin8 : ¬ (f < 0 ∨ cl8.slots.size ≤ (f).toNatClampNeg) := inb_of S8 ⟨hf1, hf2⟩
  have hat8 : cl8.slots[(f).toNatClampNeg]? = some (.ref x5) := atH H8 hin8 (own_hit hf1)
  refine Go.st (X7.aaload hx (j := f) (v := (.ref x5)) (by rw [e7]; exact Ar8.1) (State.isArrayOf_alike hZ.alike Ar8.2.1) rfl Ar8.2.2 hin8 hat8 (g := (mkF mi 28 #[.val (.ref o), .val (.int f), .val (.int s), .val (.int m), .unset, .unset, .unset, .unset] [(.int f), (.ref bm)])) rfl rfl (hb hby d_prog_37_method_3_28)) ?_
  show Go pg.tables ev below (T7.setTop (mkF mi 29 #[.val (.ref o), .val (.int f), .val (.int s), .val (.int m), .unset, .unset, .unset, .unset] [(.ref x5)])) P
  refine Go.st (fun t_ k_ => XS.astore X7.here hx rfl (hb hby d_prog_37_method_3_29) rfl rfl (l' := #[.val (.ref o), .val (.int f), .val (.int s), .val (.int m), .val (.ref x5), .unset, .unset, .unset]) rfl k_) ?_
  show Go pg.tables ev below (T7.setTop (mkF mi 31 #[.val (.ref o), .val (.int f), .val (.int s), .val (.int m), .val (.ref x5), .unset, .unset, .unset] [])) P
  refine Go.st (fun t_ k_ => XS.aload X7.here hx rfl (hb hby d_prog_37_method_3_31) rfl rfl k_) ?_
  show Go pg.tables ev below (T7.setTop (mkF mi 33 #[.val (.ref o), .val (.int f), .val (.int s), .val (.int m), .val (.ref x5), .unset, .unset, .unset] [(.ref x5)])) P
  refine Go.st (fun t_ k_ => XS.ifnullNo X7.here hx rfl (hb hby d_prog_37_method_3_33) rfl k_) ?_
  show Go pg.tables ev below (T7.setTop (mkF mi 36 #[.val (.ref o), .val (.int f), .val (.int s), .val (.int m), .val (.ref x5), .unset, .unset, .unset] [])) P
  refine Go.st (fun t_ k_ => XS.iloadN X7.here hx rfl (hb hby d_prog_37_method_3_36) rfl k_) ?_
  show Go pg.tables ev below (T7.setTop (mkF mi 37 #[.val (.ref o), .val (.int f), .val (.int s), .val (.int m), .val (.ref x5), .unset, .unset, .unset] [(.int m)])) P
  refine Go.st (fun t_ k_ => XS.aloadN X7.here hx rfl (hb hby d_prog_37_method_3_37) rfl rfl k_) ?_
  show Go pg.tables ev below (T7.setTop (mkF mi 38 #[.val (.ref o), .val (.int f), .val (.int s), .val (.int m), .val (.ref x5), .unset, .unset, .unset] [(.ref o), (.int m)])) P
  refine Go.st (fun t_ k_ => XS.iloadN X7.here hx rfl (hb hby d_prog_37_method_3_38) rfl k_) ?_
  show Go pg.tables ev below (T7.setTop (mkF mi 39 #[.val (.ref o), .val (.int f), .val (.int s), .val (.int m), .val (.ref x5), .unset, .unset, .unset] [(.int f), (.ref o), (.int m)])) P
  refine Go.st (fun t_ k_ => XS.iloadN X7.here hx rfl (hb hby d_prog_37_method_3_39) rfl k_) ?_
  show Go pg.tables ev below (T7.setTop (mkF mi 40 #[.val (.ref o), .val (.int f), .val (.int s), .val (.int m), .val (.ref x5), .unset, .unset, .unset] [(.int s), (.int f), (.ref o), (.int m)])) P
  have f10 := (E0.keep K5)
  have f11 := (A_tb.keep K5 (ninS (Ne.symm ne_o_tb) (ninS (Ne.symm ne_rw_tb) (ninS ne_tb_bm nin0))))
  obtain ⟨cq9, kq9, q9a, q9b, q9c⟩ := isOf hZ e7 f10
  obtain ⟨_, _, ⟨T9, L9, k9, n9⟩, -, X9, ⟨Lc9, hQ9, l9, y9, z9⟩, st9⟩ := X7.virtualBack hx (y := (⟨"com/example/hedge/hedge/automaton/PairMarks", "get", "(II)I"⟩ : MethodName)) (z := (⟨"com/example/hedge/hedge/automaton/PairMarks", "get", "(II)I"⟩ : MethodName)) hown (mvT hZ (hw _ (List.mem_of_getElem? (i := 44) rfl))) (mvT hZ (hw _ (List.mem_of_getElem? (i := 45) rfl))) (notFace_of_selects (args := #[]) (mvT hZ (hw _ (List.mem_of_getElem? (i := 47) rfl)))) (mvT hZ (hw _ (List.mem_of_getElem? (i := 47) rfl))) (mvT hZ (hw _ (List.mem_of_getElem? (i := 46) rfl))) (by decide) (backOf (W := 1) (rmGB l Z a0 hw [] o f s tb bm kT kB N hT ((f, (.ref x5)) :: hB) x5 kx5 wd [] (0 : Int64) h5 n0 Zs6 FB5_1 FB5_3 f11 AB5 hf1 hf2 (own_hit hf1) AX5 hi rfl) hZ (hw _ (List.mem_of_getElem? (i := 48) rfl)) (hw _ (List.mem_of_getElem? (i := 3) rfl)) (by decide) (by decide)) q9a q9c (g := (mkF mi 40 #[.val (.ref o), .val (.int f), .val (.int s), .val (.int m), .val (.ref x5), .unset, .unset, .unset] [(.int s), (.int f), (.ref o), (.int m)])) rfl (by rw [hml]; rfl) (Steps.refl _) (argsL := [(.int f), (.int s)]) (rest := [(.int m)]) (lenOf pd_1 rfl) rfl (by show 2 * 0 + _ ≤ _; exact Nat.le_of_eq rfl) (hb hby d_prog_37_method_3_40) (fun _ _ => ⟨rfl, e7, (by decide : 1 + 0 ≤ _), (by decide : 8 + 0 ≤ _)⟩)
  dsimp only [Pt.U, Pt.locs, Pt.cells, Pt.slots] at X9 l9 y9 z9 st9 hQ9
  subst l9 y9 z9
  obtain ⟨rfl, N9q, e9⟩ := hQ9
  have N9 := Fr.app N5 N9q
  refine Go.tr st9 ?_
  show Go pg.tables ev below (T9.setTop (mkF mi 43 #[.val (.ref o), .val (.int f), .val (.int s), .val (.int m), .val (.ref x5), .unset, .unset, .unset] [(.int (fGt (0 : Int64) s)), (.int m)])) P
  refine Go.st (fun t_ k_ => XS.iconst X9.here hx rfl (hb hby d_prog_37_method_3_43) k_) ?_
  show Go pg.tables ev below (T9.setTop (mkF mi 44 #[.val (.ref o), .val (.int f), .val (.int s), .val (.int m), .val (.ref x5), .unset, .unset, .unset] [(.int (-1 : Int32)), (.int (fGt (0 : Int64) s)), (.int m)])) P
  refine Go.st (fun t_ k_ => XS.ixor X9.here hx rfl (hb hby d_prog_37_method_3_44) rfl k_) ?_
  show Go pg.tables ev below (T9.setTop (mkF mi 45 #[.val (.ref o), .val (.int f), .val (.int s), .val (.int m), .val (.ref x5), .unset, .unset, .unset] [(.int ((fGt (0 : Int64) s) ^^^ (-1 : Int32))), (.int m)])) P
  refine Go.st (fun t_ k_ => XS.iand X9.here hx rfl (hb hby d_prog_37_method_3_45) rfl k_) ?_
  show Go pg.tables ev below (T9.setTop (mkF mi 46 #[.val (.ref o), .val (.int f), .val (.int s), .val (.int m), .val (.ref x5), .unset, .unset, .unset] [(.int (m &&& ((fGt (0 : Int64) s) ^^^ (-1 : Int32))))])) P
  rw [own_add0]
  show Go pg.tables ev below (T9.setTop (mkF mi 46 #[.val (.ref o), .val (.int f), .val (.int s), .val (.int m), .val (.ref x5), .unset, .unset, .unset] [(.int m)])) P
  refine Go.st (fun t_ k_ => XS.istore X9.here hx rfl (hb hby d_prog_37_method_3_46) rfl (l' := #[.val (.ref o), .val (.int f), .val (.int s), .val (.int m), .val (.ref x5), .val (.int m), .unset, .unset]) rfl k_) ?_
  show Go pg.tables ev below (T9.setTop (mkF mi 48 #[.val (.ref o), .val (.int f), .val (.int s), .val (.int m), .val (.ref x5), .val (.int m), .unset, .unset] [])) P
  refine Go.st (fun t_ k_ => XS.aload X9.here hx rfl (hb hby d_prog_37_method_3_48) rfl rfl k_) ?_
  show Go pg.tables ev below (T9.setTop (mkF mi 50 #[.val (.ref o), .val (.int f), .val (.int s), .val (.int m), .val (.ref x5), .val (.int m), .unset, .unset] [(.ref x5)])) P
  refine Go.st (fun t_ k_ => XS.iloadN X9.here hx rfl (hb hby d_prog_37_method_3_50) rfl k_) ?_
  show Go pg.tables ev below (T9.setTop (mkF mi 51 #[.val (.ref o), .val (.int f), .val (.int s), .val (.int m), .val (.ref x5), .val (.int m), .unset, .unset] [(.int s), (.ref x5)])) P
  refine Go.st (fun t_ k_ => XS.iconst X9.here hx rfl (hb hby d_prog_37_method_3_51) k_) ?_
  show Go pg.tables ev below (T9.setTop (mkF mi 52 #[.val (.ref o), .val (.int f), .val (.int s), .val (.int m), .val (.ref x5), .val (.int m), .unset, .unset] [(.int (5 : Int32)), (.int s), (.ref x5)])) P
  refine Go.st (fun t_ k_ => XS.iushr X9.here hx rfl (hb hby d_prog_37_method_3_52) rfl k_) ?_
  show Go pg.tables ev below (T9.setTop (mkF mi 53 #[.val (.ref o), .val (.int f), .val (.int s), .val (.int m), .val (.ref x5), .val (.int m), .unset, .unset] [(.int ((s.toUInt32 >>> ((5 : Int32) &&& 31).toUInt32).toInt32)), (.ref x5)])) P
  refine Go.st (fun t_ k_ => XT.dup2 X9.here hx rfl (hb hby d_prog_37_method_3_53) rfl rfl rfl k_) ?_
  show Go pg.tables ev below (T9.setTop (mkF mi 54 #[.val (.ref o), .val (.int f), .val (.int s), .val (.int m), .val (.ref x5), .val (.int m), .unset, .unset] [(.int ((s.toUInt32 >>> ((5 : Int32) &&& 31).toUInt32).toInt32)), (.ref x5), (.int ((s.toUInt32 >>> ((5 : Int32) &&& 31).toUInt32).toInt32)), (.ref x5)])) P
  have ov12 := AX5
  obtain ⟨cl12, Ar12, q12, S12, M12, H12, G12⟩ := ov12
  have hin12 : ¬ (((s.toUInt32 >>> ((5 : Int32) &&& 31).toUInt32).toInt32) < 0 ∨ cl12.slots.size ≤ (((s.toUInt32 >>> ((5 : Int32) &&& 31).toUInt32).toInt32)).toNatClampNeg) := inb_of S12 hi
  have hat12 : cl12.slots[(((s.toUInt32 >>> ((5 : Int32) &&& 31).toUInt32).toInt32)).toNatClampNeg]? = some (.long (0 : Int64)) := atH H12 hin12 rfl
  refine Go.st (X9.laload hx (j := ((s.toUInt32 >>> ((5 : Int32) &&& 31).toUInt32).toInt32)) (v := (.long (0 : Int64))) (by rw [e9]; exact Ar12.1) (State.isArrayOf_alike hZ.alike Ar12.2.1) Ar12.2.2 hin12 hat12 (g := (mkF mi 54 #[.val (.ref o), .val (.int f), .val (.int s), .val (.int m), .val (.ref x5), .val (.int m), .unset, .unset] [(.int ((s.toUInt32 >>> ((5 : Int32) &&& 31).toUInt32).toInt32)), (.ref x5), (.int ((s.toUInt32 >>> ((5 : Int32) &&& 31).toUInt32).toInt32)), (.ref x5)])) rfl rfl (hb hby d_prog_37_method_3_54)) ?_
  show Go pg.tables ev below (T9.setTop (mkF mi 55 #[.val (.ref o), .val (.int f), .val (.int s), .val (.int m), .val (.ref x5), .val (.int m), .unset, .unset] [(.long (0 : Int64)), (.int ((s.toUInt32 >>> ((5 : Int32) &&& 31).toUInt32).toInt32)), (.ref x5)])) P
  refine Go.st (fun t_ k_ => XS.iload X9.here hx rfl (hb hby d_prog_37_method_3_55) rfl k_) ?_
  show Go pg.tables ev below (T9.setTop (mkF mi 57 #[.val (.ref o), .val (.int f), .val (.int s), .val (.int m), .val (.ref x5), .val (.int m), .unset, .unset] [(.int m), (.long (0 : Int64)), (.int ((s.toUInt32 >>> ((5 : Int32) &&& 31).toUInt32).toInt32)), (.ref x5)])) P
  refine Go.st (fun t_ k_ => XS.i2l X9.here hx rfl (hb hby d_prog_37_method_3_57) rfl k_) ?_
  show Go pg.tables ev below (T9.setTop (mkF mi 58 #[.val (.ref o), .val (.int f), .val (.int s), .val (.int m), .val (.ref x5), .val (.int m), .unset, .unset] [(.long (m.toInt64)), (.long (0 : Int64)), (.int ((s.toUInt32 >>> ((5 : Int32) &&& 31).toUInt32).toInt32)), (.ref x5)])) P
  refine Go.st (fun t_ k_ => XS.iloadN X9.here hx rfl (hb hby d_prog_37_method_3_58) rfl k_) ?_
  show Go pg.tables ev below (T9.setTop (mkF mi 59 #[.val (.ref o), .val (.int f), .val (.int s), .val (.int m), .val (.ref x5), .val (.int m), .unset, .unset] [(.int s), (.long (m.toInt64)), (.long (0 : Int64)), (.int ((s.toUInt32 >>> ((5 : Int32) &&& 31).toUInt32).toInt32)), (.ref x5)])) P
  obtain ⟨_, _, ⟨T13, L13, k13, n13⟩, -, X13, ⟨Lc13, hQ13, l13, y13, z13⟩, st13⟩ := Jvm.LawKit.callS X9 hx (y := (⟨"com/example/hedge/hedge/automaton/PairMarks", "shift", "(I)I"⟩ : MethodName)) hown (mvT hZ (hw _ (List.mem_of_getElem? (i := 49) rfl))) (mvT hZ (hw _ (List.mem_of_getElem? (i := 50) rfl))) (mvT hZ (hw _ (List.mem_of_getElem? (i := 3) rfl))) (mvT hZ (hw _ (List.mem_of_getElem? (i := 51) rfl))) (by decide) (backOf (W := 6) (rmSh l Z a0 hw [] s h5 n0 Zs6) hZ (hw _ (List.mem_of_getElem? (i := 51) rfl)) (hw _ (List.mem_of_getElem? (i := 3) rfl)) (by decide) (by decide)) (g := (mkF mi 59 #[.val (.ref o), .val (.int f), .val (.int s), .val (.int m), .val (.ref x5), .val (.int m), .unset, .unset] [(.int s), (.long (m.toInt64)), (.long (0 : Int64)), (.int ((s.toUInt32 >>> ((5 : Int32) &&& 31).toUInt32).toInt32)), (.ref x5)])) rfl (by rw [hml]; rfl) (argsL := [(.int s)]) (rest := [(.long (m.toInt64)), (.long (0 : Int64)), (.int ((s.toUInt32 >>> ((5 : Int32) &&& 31).toUInt32).toInt32)), (.ref x5)]) (lenOf pd_2 rfl) rfl (by show 2 * 0 + _ ≤ _; exact Nat.le_of_eq rfl) (hb hby d_prog_37_method_3_59) (fun _ _ => ⟨rfl, e9, (by decide : 1 + 0 ≤ _), (by decide : 8 + 0 ≤ _)⟩)
  dsimp only [Pt.U, Pt.locs, Pt.cells, Pt.slots] at X13 l13 y13 z13 st13 hQ13
  subst l13 y13 z13
  obtain ⟨rfl, N13q, e13⟩ := hQ13
  have N13 := Fr.app N9 N13q
  refine Go.st st13 ?_
  show Go pg.tables ev below (T13.setTop (mkF mi 62 #[.val (.ref o), .val (.int f), .val (.int s), .val (.int m), .val (.ref x5), .val (.int m), .unset, .unset] [(.int (fSh s)), (.long (m.toInt64)), (.long (0 : Int64)), (.int ((s.toUInt32 >>> ((5 : Int32) &&& 31).toUInt32).toInt32)), (.ref x5)])) P
  refine Go.st (fun t_ k_ => XS.lshl X13.here hx rfl (hb hby d_prog_37_method_3_62) rfl k_) ?_
  show Go pg.tables ev below (T13.setTop (mkF mi 63 #[.val (.ref o), .val (.int f), .val (.int s), .val (.int m), .val (.ref x5), .val (.int m), .unset, .unset] [(.long ((m.toInt64) <<< ((fSh s) &&& 0x3f).toInt64)), (.long (0 : Int64)), (.int ((s.toUInt32 >>> ((5 : Int32) &&& 31).toUInt32).toInt32)), (.ref x5)])) P
  refine Go.st (fun t_ k_ => XS.lor X13.here hx rfl (hb hby d_prog_37_method_3_63) rfl k_) ?_
  show Go pg.tables ev below (T13.setTop (mkF mi 64 #[.val (.ref o), .val (.int f), .val (.int s), .val (.int m), .val (.ref x5), .val (.int m), .unset, .unset] [(.long ((0 : Int64) ||| ((m.toInt64) <<< ((fSh s) &&& 0x3f).toInt64))), (.int ((s.toUInt32 >>> ((5 : Int32) &&& 31).toUInt32).toInt32)), (.ref x5)])) P
  have ov14 := AX5
  obtain ⟨cl14, Ar14, q14, S14, M14, H14, G14⟩ := ov14
  have hin14 : ¬ (((s.toUInt32 >>> ((5 : Int32) &&& 31).toUInt32).toInt32) < 0 ∨ cl14.slots.size ≤ (((s.toUInt32 >>> ((5 : Int32) &&& 31).toUInt32).toInt32)).toNatClampNeg) := inb_of S14 hi
  obtain ⟨T15, h15, X15, e15, W15, st15⟩ := stJ X13 hx hZ e13 Ar14 (j := ((s.toUInt32 >>> ((5 : Int32) &&& 31).toUInt32).toInt32)) hin14 (g := (mkF mi 64 #[.val (.ref o), .val (.int f), .val (.int s), .val (.int m), .val (.ref x5), .val (.int m), .unset, .unset] [(.long ((0 : Int64) ||| ((m.toInt64) <<< ((fSh s) &&& 0x3f).toInt64))), (.int ((s.toUInt32 >>> ((5 : Int32) &&& 31).toUInt32).toInt32)), (.ref x5)])) rfl rfl (hb hby d_prog_37_method_3_64)
  have Zs16 : n0 ≤ h15.size := Nat.le_trans Zs6 (Keep.of_wr W15).1
  have KC16 : Keep h0 h15 [o, rw, bm] := KC6.wr W15 (Or.inr sz_x5)
  have N16 := Fr.snoc X15 N13 g_x5
  have V15 : Arh Z h15 x5 kx5 .long wd ((((s.toUInt32 >>> ((5 : Int32) &&& 31).toUInt32).toInt32), (.long ((0 : Int64) ||| ((m.toInt64) <<< ((fSh s) &&& 0x3f).toInt64)))) :: []) [] (.long (0 : Int64)) := Arh.push Ar14 q14 S14 M14 H14 G14 rfl W15 hin14
  refine Go.st st15 ?_
  show Go pg.tables ev below (T15.setTop (mkF mi 65 #[.val (.ref o), .val (.int f), .val (.int s), .val (.int m), .val (.ref x5), .val (.int m), .unset, .unset] [])) P
  refine Go.st (fun t_ k_ => XS.iload X15.here hx rfl (hb hby d_prog_37_method_3_65) rfl k_) ?_
  show Go pg.tables ev below (T15.setTop (mkF mi 67 #[.val (.ref o), .val (.int f), .val (.int s), .val (.int m), .val (.ref x5), .val (.int m), .unset, .unset] [(.int m)])) P
  obtain ⟨fs, hr, hrun, hended, hW, hsame⟩ := X15.leave (v := some (.int m)) (fun h => by rw [Bd.returns] at h; cases h) (BodyLoose.notSynchronized Bd)
  have f17 := (FB5_0.other W15 (Or.inl ne_o_x5))
  have f18 := (FB5_1.other W15 (Or.inl ne_o_x5))
  have f19 := (FB5_2.other W15 (Or.inl ne_o_x5))
  have f20 := (FB5_3.other W15 (Or.inl ne_o_x5))
  have f21 := (FB5_4.other W15 (Or.inl ne_o_x5))
  have f22 := (FB5_5.other W15 (Or.inl ne_o_x5))
  have f23 := (AR5.other W15 ne_rw_x5)
  have f24 := (AB5.other W15 ne_bm_x5)
  refine ⟨_, _, ?_, hP _ _ ⟨hrun, hended, _, _, rfl, ?_, ⟨_, rfl⟩, hW, hsame.mono (by decide) (by decide)⟩⟩
  · exact retI X15 hx Bd.returns (hb hby d_prog_37_method_3_67) hr
  · show (some (.int m) : Option Value) = some (.int m) ∧ Fr n0 _ ∧ Keep h0 T15.heap [o, rw, bm] ∧ ∃ (x : Addr) (kx : ClassId), h0.size ≤ x ∧ n0 ≤ x ∧ Fld Z T15.heap o "com/example/hedge/hedge/automaton/PairMarks" "rows" "[I" (.ref rw) ∧ Fld Z T15.heap o "com/example/hedge/hedge/automaton/PairMarks" "tables" "[[I" (.ref tb) ∧ Fld Z T15.heap o "com/example/hedge/hedge/automaton/PairMarks" "sizes" "[I" (.ref sz) ∧ Fld Z T15.heap o "com/example/hedge/hedge/automaton/PairMarks" "bitmaps" "[[J" (.ref bm) ∧ Fld Z T15.heap o "com/example/hedge/hedge/automaton/PairMarks" "words" "I" (.int wd) ∧ Fld Z T15.heap o "com/example/hedge/hedge/automaton/PairMarks" "rowCount" "I" (.int (1 : Int32)) ∧ Arv Z T15.heap rw kR .int (16 : Int32) (vR.set 0 (.int f)) (.int (0 : Int32)) ∧ Arh Z T15.heap bm kB (.array .long) N ((f, .ref x) :: hB) [] .null ∧ Arh Z T15.heap x kx .long wd [(((s.toUInt32 >>> ((5 : Int32) &&& 31).toUInt32).toInt32), .long (fPu m s))] [] (.long (0 : Int64))
    rw [e15]
    exact ⟨rfl, N16, KC16, x5, _, sz_x5, g_x5, f17, f18, f19, f20, f21, f22, f23, f24, V15⟩
theorem d_prog_37_method_3_68 : decode prog_37_method_3_code 68 = .ok (.aload_n 0, 1) := by decide +kernel
theorem d_prog_37_method_3_69 : decode prog_37_method_3_code 69 = .ok (.getfield 30, 3) := by decide +kernel
theorem d_prog_37_method_3_72 : decode prog_37_method_3_code 72 = .ok (.iload_n 1, 1) := by decide +kernel
theorem d_prog_37_method_3_73 : decode prog_37_method_3_code 73 = .ok (.aaload, 1) := by decide +kernel
theorem d_prog_37_method_3_74 : decode prog_37_method_3_code 74 = .ok (.astore 5, 2) := by decide +kernel
theorem d_prog_37_method_3_76 : decode prog_37_method_3_code 76 = .ok (.aload 5, 2) := by decide +kernel
theorem d_prog_37_method_3_78 : decode prog_37_method_3_code 78 = .ok (.iload_n 2, 1) := by decide +kernel
theorem d_prog_37_method_3_79 : decode prog_37_method_3_code 79 = .ok (.invokestatic 47, 3) := by decide +kernel
theorem d_prog_37_method_3_82 : decode prog_37_method_3_code 82 = .ok (.istore 6, 2) := by decide +kernel
theorem d_prog_37_method_3_84 : decode prog_37_method_3_code 84 = .ok (.iload_n 3, 1) := by decide +kernel
theorem d_prog_37_method_3_85 : decode prog_37_method_3_code 85 = .ok (.aload 5, 2) := by decide +kernel
theorem d_prog_37_method_3_87 : decode prog_37_method_3_code 87 = .ok (.iload 6, 2) := by decide +kernel
theorem d_prog_37_method_3_89 : decode prog_37_method_3_code 89 = .ok (.iaload, 1) := by decide +kernel
theorem d_prog_37_method_3_90 : decode prog_37_method_3_code 90 = .ok (.iconst (-1), 1) := by decide +kernel
theorem d_prog_37_method_3_91 : decode prog_37_method_3_code 91 = .ok (.ixor, 1) := by decide +kernel
theorem d_prog_37_method_3_92 : decode prog_37_method_3_code 92 = .ok (.iand, 1) := by decide +kernel
theorem d_prog_37_method_3_93 : decode prog_37_method_3_code 93 = .ok (.istore 7, 2) := by decide +kernel
theorem d_prog_37_method_3_95 : decode prog_37_method_3_code 95 = .ok (.aload 5, 2) := by decide +kernel
theorem d_prog_37_method_3_97 : decode prog_37_method_3_code 97 = .ok (.iload 6, 2) := by decide +kernel
theorem d_prog_37_method_3_99 : decode prog_37_method_3_code 99 = .ok (.iaload, 1) := by decide +kernel
theorem d_prog_37_method_3_100 : decode prog_37_method_3_code 100 = .ok (.ifCond .eq 16, 3) := by decide +kernel
theorem d_prog_37_method_3_116 : decode prog_37_method_3_code 116 = .ok (.aload 5, 2) := by decide +kernel
theorem d_prog_37_method_3_118 : decode prog_37_method_3_code 118 = .ok (.iload 6, 2) := by decide +kernel
theorem d_prog_37_method_3_120 : decode prog_37_method_3_code 120 = .ok (.iload_n 2, 1) := by decide +kernel
theorem d_prog_37_method_3_121 : decode prog_37_method_3_code 121 = .ok (.invokestatic 59, 3) := by decide +kernel
theorem d_prog_37_method_3_124 : decode prog_37_method_3_code 124 = .ok (.iload_n 3, 1) := by decide +kernel
theorem d_prog_37_method_3_125 : decode prog_37_method_3_code 125 = .ok (.ior, 1) := by decide +kernel
theorem d_prog_37_method_3_126 : decode prog_37_method_3_code 126 = .ok (.iastore, 1) := by decide +kernel
theorem d_prog_37_method_3_127 : decode prog_37_method_3_code 127 = .ok (.aload_n 0, 1) := by decide +kernel
theorem d_prog_37_method_3_128 : decode prog_37_method_3_code 128 = .ok (.getfield 34, 3) := by decide +kernel
theorem d_prog_37_method_3_131 : decode prog_37_method_3_code 131 = .ok (.iload_n 1, 1) := by decide +kernel
theorem d_prog_37_method_3_132 : decode prog_37_method_3_code 132 = .ok (.dup2, 1) := by decide +kernel
theorem d_prog_37_method_3_133 : decode prog_37_method_3_code 133 = .ok (.iaload, 1) := by decide +kernel
theorem d_prog_37_method_3_134 : decode prog_37_method_3_code 134 = .ok (.iconst 1, 1) := by decide +kernel
theorem d_prog_37_method_3_135 : decode prog_37_method_3_code 135 = .ok (.iadd, 1) := by decide +kernel
theorem d_prog_37_method_3_136 : decode prog_37_method_3_code 136 = .ok (.iastore, 1) := by decide +kernel
theorem d_prog_37_method_3_137 : decode prog_37_method_3_code 137 = .ok (.iconst 2, 1) := by decide +kernel
theorem d_prog_37_method_3_138 : decode prog_37_method_3_code 138 = .ok (.aload_n 0, 1) := by decide +kernel
theorem d_prog_37_method_3_139 : decode prog_37_method_3_code 139 = .ok (.getfield 34, 3) := by decide +kernel
theorem d_prog_37_method_3_142 : decode prog_37_method_3_code 142 = .ok (.iload_n 1, 1) := by decide +kernel
theorem d_prog_37_method_3_143 : decode prog_37_method_3_code 143 = .ok (.iaload, 1) := by decide +kernel
theorem d_prog_37_method_3_144 : decode prog_37_method_3_code 144 = .ok (.imul, 1) := by decide +kernel
theorem d_prog_37_method_3_145 : decode prog_37_method_3_code 145 = .ok (.aload 5, 2) := by decide +kernel
theorem d_prog_37_method_3_147 : decode prog_37_method_3_code 147 = .ok (.arraylength, 1) := by decide +kernel
theorem d_prog_37_method_3_148 : decode prog_37_method_3_code 148 = .ok (.if_icmp .le 8, 3) := by decide +kernel
theorem d_prog_37_method_3_156 : decode prog_37_method_3_code 156 = .ok (.iload 7, 2) := by decide +kernel
theorem d_prog_37_method_3_158 : decode prog_37_method_3_code 158 = .ok (.ireturn, 1) := by decide +kernel
theorem ef_rmAN0T (mi : MethodId) (o : Addr) (f : Int32) (s : Int32) (m : Int32) (rw : Addr) (tb : Addr) (sz : Addr) (bm : Addr) (kR : ClassId) (kT : ClassId) (kS : ClassId) (kB : ClassId) (N : Int32) (wd : Int32) (hT : List (Int32 × Value)) (hS : List (Int32 × Value)) (hB : List (Int32 × Value)) (vR : List Value) : entryFrame mi #[(.ref o), (.int f), (.int s), (.int m)] 8 = mkF mi 0 #[.val (.ref o), .val (.int f), .val (.int s), .val (.int m), .unset, .unset, .unset, .unset] [] := by first | (simp [entryFrame, mkF, argsToLocals, Value.category]; done) | rfl
def Q_rmAN0T (Z : State) (o : Addr) (f : Int32) (s : Int32) (m : Int32) (rw : Addr) (tb : Addr) (sz : Addr) (bm : Addr) (kR : ClassId) (kT : ClassId) (kS : ClassId) (kB : ClassId) (N : Int32) (wd : Int32) (hT : List (Int32 × Value)) (hS : List (Int32 × Value)) (hB : List (Int32 × Value)) (vR : List Value) (h0 : Heap) (n0 : Nat) (vv_ : Option Value) (hh_ : Heap) (LL_ : List Loc) : Prop := vv_ = some (.int m) ∧ Fr n0 LL_ ∧ Keep h0 hh_ [o, rw, tb, sz] ∧ ∃ (x : Addr) (kx : ClassId), h0.size ≤ x ∧ n0 ≤ x ∧ Fld Z hh_ o "com/example/hedge/hedge/automaton/PairMarks" "rows" "[I" (.ref rw) ∧ Fld Z hh_ o "com/example/hedge/hedge/automaton/PairMarks" "tables" "[[I" (.ref tb) ∧ Fld Z hh_ o "com/example/hedge/hedge/automaton/PairMarks" "sizes" "[I" (.ref sz) ∧ Fld Z hh_ o "com/example/hedge/hedge/automaton/PairMarks" "bitmaps" "[[J" (.ref bm) ∧ Fld Z hh_ o "com/example/hedge/hedge/automaton/PairMarks" "words" "I" (.int wd) ∧ Fld Z hh_ o "com/example/hedge/hedge/automaton/PairMarks" "rowCount" "I" (.int (1 : Int32)) ∧ Arv Z hh_ rw kR .int (16 : Int32) (vR.set 0 (.int f)) (.int (0 : Int32)) ∧ Arh Z hh_ tb kT (.array .int) N ((f, .ref x) :: hT) [] .null ∧ Arh Z hh_ sz kS .int N ((f, .int (1 : Int32)) :: hS) [] (.int (0 : Int32)) ∧ Arh Z hh_ x kx .int (4 : Int32) [((fSl s (3 : Int32)), .int ((fKe s) ||| m))] [] (.int (0 : Int32))
set_option maxRecDepth 65536 in
set_option maxHeartbeats 40000000 in
theorem rmAN0T (l : Launch) (Z : State) (a0 : Array Value) (hw : ∀ d ∈ tables_1, d.before a0 Z = true) (ws : List Jvm.Cond) (o : Addr) (f : Int32) (s : Int32) (m : Int32) (rw : Addr) (tb : Addr) (sz : Addr) (bm : Addr) (kR : ClassId) (kT : ClassId) (kS : ClassId) (kB : ClassId) (N : Int32) (wd : Int32) (hT : List (Int32 × Value)) (hS : List (Int32 × Value)) (hB : List (Int32 × Value)) (vR : List Value) (h0 : Heap) (n0 : Nat) (Z0 : n0 ≤ h0.size) (E0 : Exa Z h0 o "com/example/hedge/hedge/automaton/PairMarks") (ge0 : n0 ≤ o) (g_rw : n0 ≤ rw) (g_tb : n0 ≤ tb) (g_sz : n0 ≤ sz) (g_bm : n0 ≤ bm) (ne_o_rw : o ≠ rw) (ne_o_tb : o ≠ tb) (ne_o_sz : o ≠ sz) (ne_o_bm : o ≠ bm) (ne_rw_tb : rw ≠ tb) (ne_rw_sz : rw ≠ sz) (ne_rw_bm : rw ≠ bm) (ne_tb_sz : tb ≠ sz) (ne_tb_bm : tb ≠ bm) (ne_sz_bm : sz ≠ bm) (F0 : Fld Z h0 o "com/example/hedge/hedge/automaton/PairMarks" "rows" "[I" (.ref rw)) (F1 : Fld Z h0 o "com/example/hedge/hedge/automaton/PairMarks" "tables" "[[I" (.ref tb)) (F2 : Fld Z h0 o "com/example/hedge/hedge/automaton/PairMarks" "sizes" "[I" (.ref sz)) (F3 : Fld Z h0 o "com/example/hedge/hedge/automaton/PairMarks" "bitmaps" "[[J" (.ref bm)) (F4 : Fld Z h0 o "com/example/hedge/hedge/automaton/PairMarks" "words" "I" (.int wd)) (F5 : Fld Z h0 o "com/example/hedge/hedge/automaton/PairMarks" "rowCount" "I" (.int (0 : Int32))) (A_rw : Arv Z h0 rw kR .int (16 : Int32) vR (.int (0 : Int32))) (l_rw : vR.length = 16) (A_tb : Arh Z h0 tb kT (.array .int) N hT [] .null) (A_sz : Arh Z h0 sz kS .int N hS [] (.int (0 : Int32))) (A_bm : Arh Z h0 bm kB (.array .long) N hB [] .null) (O_tb : OvrA Z kT .int "[I") (O_bm : OvrA Z kB .long "[J") (hf1 : ¬ f < 0) (hf2 : f < N) (hwo : (4 : Int64) < ((2 : Int64) * (wd.toInt64))) (hN1 : 1 ≤ N.toInt) (hN2 : N.toInt ≤ 256) (hwd : wd = fWd N) (hwd1 : 1 ≤ wd.toInt) (hwd2 : wd.toInt ≤ 8) (hs : ¬ s < 0 ∧ s < N) (uB : getH hB [] .null f.toNatClampNeg = .null) (uT : getH hT [] .null f.toNatClampNeg = .null) (uS : getH hS [] (.int (0 : Int32)) f.toNatClampNeg = .int (0 : Int32)) :
    MetFree l (⟨"com/example/hedge/hedge/automaton/PairMarks", "add", "(III)I"⟩ : MethodName) (head1 (Jvm.Cond.code (⟨"com/example/hedge/hedge/automaton/PairMarks", "add", "(III)I"⟩ : MethodName) prog_37_method_3_code 8 (some .int) :: ws) ({ frames := 2, cells := 1, slots := 4, locals := 29 } : Room)) (fun aa_ U => aa_ = #[(.ref o), (.int f), (.int s), (.int m)] ∧ Z.Warmed39 U.vm ∧ U.heap = h0) (fun _ _ _ _ _ => True) (fun _ U oo_ UV_ => ∃ vv_ LL_, oo_ = .returned vv_ ∧ Q_rmAN0T Z o f s m rw tb sz bm kR kT kS kB N wd hT hS hB vR h0 n0 vv_ UV_.heap LL_ ∧ FrameEnd U oo_ UV_ LL_ ({ frames := 2, cells := 1, slots := 4, locals := 29 } : Room).cells ({ frames := 2, cells := 1, slots := 4, locals := 29 } : Room).slots) := by
  refine MetFree.of_bodySF (plainFor_of_name pn_0) hisR ?_
  intro pg ev si mi args below meth ci s₁ Bd hml0 hP0 hK
  obtain ⟨rfl, hZ, hh⟩ := hP0
  have hx := Bd.exec
  have hby := Bd.bytes
  have hml : ci.maxLocals = 8 := hml0
  have hown : si.vm.findClass "com/example/hedge/hedge/automaton/PairMarks" = some mi.cls := findClass_of_methodNamed Bd.named
  have hnm := (name_of_methodNamed Bd.named Bd.method).1
  have X0 : Stand pg l ev ({ frames := 2, cells := 1, slots := 4, locals := 29 } : Room) si mi #[(.ref o), (.int f), (.int s), (.int m)] below meth ci s₁ [] 0 0 := Stand.of_body Bd
  have e0 : s₁.heap = h0 := by rw [← hh, Bd.state]; rfl
  have N0 := Fr.nil n0
  refine Go.start (fun P hP => ?_)
  refine Go.st (fun t_ k_ => castTop (ef_rmAN0T mi o f s m rw tb sz bm kR kT kS kB N wd hT hS hB vR) k_) (A := s₁.setTop (mkF mi 0 #[.val (.ref o), .val (.int f), .val (.int s), .val (.int m), .unset, .unset, .unset, .unset] [])) ?_
  have hi := own_bit hN1 hN2 hwd hs
  show Go pg.tables ev below (s₁.setTop (mkF mi 0 #[.val (.ref o), .val (.int f), .val (.int s), .val (.int m), .unset, .unset, .unset, .unset] [])) P
  refine Go.st (fun t_ k_ => XS.aloadN X0.here hx rfl (hb hby d_prog_37_method_3_0) rfl rfl k_) ?_
  show Go pg.tables ev below (s₁.setTop (mkF mi 1 #[.val (.ref o), .val (.int f), .val (.int s), .val (.int m), .unset, .unset, .unset, .unset] [(.ref o)])) P
  obtain ⟨T1, X1, e1, st1⟩ := getF X0 hx hZ hown (host := "") (Or.inl (hw _ (List.mem_of_getElem? (i := 24) rfl))) Via.refl e0 F3 (g := (mkF mi 1 #[.val (.ref o), .val (.int f), .val (.int s), .val (.int m), .unset, .unset, .unset, .unset] [(.ref o)])) rfl rfl (hb hby d_prog_37_method_3_1)
  refine Go.st st1 ?_
  show Go pg.tables ev below (T1.setTop (mkF mi 4 #[.val (.ref o), .val (.int f), .val (.int s), .val (.int m), .unset, .unset, .unset, .unset] [(.ref bm)])) P
  refine Go.st (fun t_ k_ => XS.iloadN X1.here hx rfl (hb hby d_prog_37_method_3_4) rfl k_) ?_
  show Go pg.tables ev below (T1.setTop (mkF mi 5 #[.val (.ref o), .val (.int f), .val (.int s), .val (.int m), .unset, .unset, .unset, .unset] [(.int f), (.ref bm)])) P
  have ov2 := A_bm
  obtain ⟨cl2, Ar2, q2, S2, M2, H2, G2⟩ := ov2
  have hin2 : ¬ (f < 0 ∨ cl2.slots.size ≤ (f).toNatClampNeg) := inb_of S2 ⟨hf1, hf2⟩
  have hat2 : cl2.slots[(f).toNatClampNeg]? = some .null := atH H2 hin2 uB
  refine Go.st (X1.aaload hx (j := f) (v := .null) (by rw [e1]; exact Ar2.1) (State.isArrayOf_alike hZ.alike Ar2.2.1) rfl Ar2.2.2 hin2 hat2 (g := (mkF mi 5 #[.val (.ref o), .val (.int f), .val (.int s), .val (.int m), .unset, .unset, .unset, .unset] [(.int f), (.ref bm)])) rfl rfl (hb hby d_prog_37_method_3_5)) ?_
  show Go pg.tables ev below (T1.setTop (mkF mi 6 #[.val (.ref o), .val (.int f), .val (.int s), .val (.int m), .unset, .unset, .unset, .unset] [.null])) P
  refine Go.st (fun t_ k_ => XS.ifnonnullNo X1.here hx rfl (hb hby d_prog_37_method_3_6) rfl k_) ?_
  show Go pg.tables ev below (T1.setTop (mkF mi 9 #[.val (.ref o), .val (.int f), .val (.int s), .val (.int m), .unset, .unset, .unset, .unset] [])) P
  refine Go.st (fun t_ k_ => XS.aloadN X1.here hx rfl (hb hby d_prog_37_method_3_9) rfl rfl k_) ?_
  show Go pg.tables ev below (T1.setTop (mkF mi 10 #[.val (.ref o), .val (.int f), .val (.int s), .val (.int m), .unset, .unset, .unset, .unset] [(.ref o)])) P
  obtain ⟨T3, X3, e3, st3⟩ := getF X1 hx hZ hown (host := "") (Or.inl (hw _ (List.mem_of_getElem? (i := 18) rfl))) Via.refl e1 F1 (g := (mkF mi 10 #[.val (.ref o), .val (.int f), .val (.int s), .val (.int m), .unset, .unset, .unset, .unset] [(.ref o)])) rfl rfl (hb hby d_prog_37_method_3_10)
  refine Go.st st3 ?_
  show Go pg.tables ev below (T3.setTop (mkF mi 13 #[.val (.ref o), .val (.int f), .val (.int s), .val (.int m), .unset, .unset, .unset, .unset] [(.ref tb)])) P
  refine Go.st (fun t_ k_ => XS.iloadN X3.here hx rfl (hb hby d_prog_37_method_3_13) rfl k_) ?_
  show Go pg.tables ev below (T3.setTop (mkF mi 14 #[.val (.ref o), .val (.int f), .val (.int s), .val (.int m), .unset, .unset, .unset, .unset] [(.int f), (.ref tb)])) P
  have ov4 := A_tb
  obtain ⟨cl4, Ar4, q4, S4, M4, H4, G4⟩ := ov4
  have hin4 : ¬ (f < 0 ∨ cl4.slots.size ≤ (f).toNatClampNeg) := inb_of S4 ⟨hf1, hf2⟩
  have hat4 : cl4.slots[(f).toNatClampNeg]? = some .null := atH H4 hin4 uT
  refine Go.st (X3.aaload hx (j := f) (v := .null) (by rw [e3]; exact Ar4.1) (State.isArrayOf_alike hZ.alike Ar4.2.1) rfl Ar4.2.2 hin4 hat4 (g := (mkF mi 14 #[.val (.ref o), .val (.int f), .val (.int s), .val (.int m), .unset, .unset, .unset, .unset] [(.int f), (.ref tb)])) rfl rfl (hb hby d_prog_37_method_3_14)) ?_
  show Go pg.tables ev below (T3.setTop (mkF mi 15 #[.val (.ref o), .val (.int f), .val (.int s), .val (.int m), .unset, .unset, .unset, .unset] [.null])) P
  refine Go.st (fun t_ k_ => XS.ifnonnullNo X3.here hx rfl (hb hby d_prog_37_method_3_15) rfl k_) ?_
  show Go pg.tables ev below (T3.setTop (mkF mi 18 #[.val (.ref o), .val (.int f), .val (.int s), .val (.int m), .unset, .unset, .unset, .unset] [])) P
  refine Go.st (fun t_ k_ => XS.aloadN X3.here hx rfl (hb hby d_prog_37_method_3_18) rfl rfl k_) ?_
  show Go pg.tables ev below (T3.setTop (mkF mi 19 #[.val (.ref o), .val (.int f), .val (.int s), .val (.int m), .unset, .unset, .unset, .unset] [(.ref o)])) P
  refine Go.st (fun t_ k_ => XS.iloadN X3.here hx rfl (hb hby d_prog_37_method_3_19) rfl k_) ?_
  show Go pg.tables ev below (T3.setTop (mkF mi 20 #[.val (.ref o), .val (.int f), .val (.int s), .val (.int m), .unset, .unset, .unset, .unset] [(.int f), (.ref o)])) P
  obtain ⟨cq5, q5, q5'⟩ := E0.cell
  obtain ⟨_, _, ⟨T5, L5, k5, n5⟩, -, X5, ⟨Lc5, hQ5, l5, y5, z5⟩, st5⟩ := X3.privateBack hx (y := (⟨"com/example/hedge/hedge/automaton/PairMarks", "begin", "(I)V"⟩ : MethodName)) hown (mvT hZ (hw _ (List.mem_of_getElem? (i := 31) rfl))) (mvT hZ (hw _ (List.mem_of_getElem? (i := 32) rfl))) (own_selp hZ (hw _ (List.mem_of_getElem? (i := 2) rfl)) (hw _ (List.mem_of_getElem? (i := 33) rfl)) (hw _ (List.mem_of_getElem? (i := 32) rfl))) (Cond.privateMethod_at (mvP hZ (hw _ (List.mem_of_getElem? (i := 33) rfl)) (args := #[]))) (mvT hZ (hw _ (List.mem_of_getElem? (i := 34) rfl))) (by decide) (backOf (W := 0) (rmBe0T l Z a0 hw [] o f rw tb sz bm kR kT kS kB N  wd hT hS hB vR h0 n0 Z0 E0 ge0 g_rw g_tb g_sz g_bm ne_o_rw ne_o_tb ne_o_sz ne_o_bm ne_rw_tb ne_rw_sz ne_rw_bm ne_tb_sz ne_tb_bm ne_sz_bm F0 F1 F2 F3 F4 F5 A_rw l_rw A_tb A_sz A_bm O_tb O_bm hf1 hf2 hwo hwd1 hwd2) hZ (hw _ (List.mem_of_getElem? (i := 34) rfl)) (hw _ (List.mem_of_getElem? (i := 3) rfl)) (by decide) (by decide)) (g := (mkF mi 20 #[.val (.ref o), .val (.int f), .val (.int s), .val (.int m), .unset, .unset, .unset, .unset] [(.int f), (.ref o)])) rfl (by rw [hml]; rfl) (Steps.refl _) (a := o) (by rw [e3]; exact q5) q5' (argsL := [(.int f)]) (rest := []) (lenOf pd_4 rfl) rfl (by show 2 * 0 + _ ≤ _; exact Nat.le_of_eq rfl) (hb hby d_prog_37_method_3_20) (fun _ _ => ⟨rfl, e3, (by decide : 0 + 1 ≤ _), (by decide : 0 + 4 ≤ _)⟩)
  dsimp only [Pt.U, Pt.locs, Pt.cells, Pt.slots] at X5 l5 y5 z5 st5 hQ5
  subst l5 y5 z5
  obtain ⟨h5, e5⟩ : ∃ z, T5.heap = z := ⟨_, rfl⟩
  rw [e5] at hQ5
  obtain ⟨rfl, N5q, K5, x5, kx5, z_x5, g_x5, FB5_0, FB5_1, FB5_2, FB5_3, FB5_4, FB5_5, AR5, AB5, AX5⟩ := hQ5
  have N5 := Fr.app N0 N5q
  have Zs6 : n0 ≤ h5.size := Nat.le_trans Z0 K5.1
  have KC6 : Keep h0 h5 [o, rw, tb, sz] := (Keep.refl h0 [o, rw, tb, sz]).trans K5 (allS (P := fun x => x ∈ [o, rw, tb, sz] ∨ h0.size ≤ x) (Or.inl (List.mem_of_getElem? (i := 0) rfl)) (allS (P := fun x => x ∈ [o, rw, tb, sz] ∨ h0.size ≤ x) (Or.inl (List.mem_of_getElem? (i := 1) rfl)) (allS (P := fun x => x ∈ [o, rw, tb, sz] ∨ h0.size ≤ x) (Or.inl (List.mem_of_getElem? (i := 2) rfl)) all0)))
  have sz_x5 : h0.size ≤ x5 := Nat.le_trans (Keep.refl h0 [o, rw, tb, sz]).1 z_x5
  have ne_o_x5 : o ≠ x5 := Nat.ne_of_lt (Nat.lt_of_lt_of_le E0.lt z_x5)
  have ne_rw_x5 : rw ≠ x5 := Nat.ne_of_lt (Nat.lt_of_lt_of_le A_rw.lt z_x5)
  have ne_tb_x5 : tb ≠ x5 := Nat.ne_of_lt (Nat.lt_of_lt_of_le A_tb.lt z_x5)
  have ne_sz_x5 : sz ≠ x5 := Nat.ne_of_lt (Nat.lt_of_lt_of_le A_sz.lt z_x5)
  have ne_bm_x5 : bm ≠ x5 := Nat.ne_of_lt (Nat.lt_of_lt_of_le A_bm.lt z_x5)
  refine Go.tr st5 ?_
  show Go pg.tables ev below (T5.setTop (mkF mi 23 #[.val (.ref o), .val (.int f), .val (.int s), .val (.int m), .unset, .unset, .unset, .unset] [])) P
  refine Go.st (fun t_ k_ => XS.aloadN X5.here hx rfl (hb hby d_prog_37_method_3_23) rfl rfl k_) ?_
  show Go pg.tables ev below (T5.setTop (mkF mi 24 #[.val (.ref o), .val (.int f), .val (.int s), .val (.int m), .unset, .unset, .unset, .unset] [(.ref o)])) P
  obtain ⟨T7, X7, e7, st7⟩ := getF X5 hx hZ hown (host := "") (Or.inl (hw _ (List.mem_of_getElem? (i := 24) rfl))) Via.refl e5 FB5_3 (g := (mkF mi 24 #[.val (.ref o), .val (.int f), .val (.int s), .val (.int m), .unset, .unset, .unset, .unset] [(.ref o)])) rfl rfl (hb hby d_prog_37_method_3_24)
  refine Go.st st7 ?_
  show Go pg.tables ev below (T7.setTop (mkF mi 27 #[.val (.ref o), .val (.int f), .val (.int s), .val (.int m), .unset, .unset, .unset, .unset] [(.ref bm)])) P
  refine Go.st (fun t_ k_ => XS.iloadN X7.here hx rfl (hb hby d_prog_37_method_3_27) rfl k_) ?_
  show Go pg.tables ev below (T7.setTop (mkF mi 28 #[.val (.ref o), .val (.int f), .val (.int s), .val (.int m), .unset, .unset, .unset, .unset] [(.int f), (.ref bm)])) P
  have f8 := (A_bm.keep K5 (ninS (Ne.symm ne_o_bm) (ninS (Ne.symm ne_rw_bm) (ninS (Ne.symm ne_tb_bm) nin0))))
  have ov9 := f8
  obtain ⟨cl9, Ar9, q9, S9, M9, H9, G9⟩ := ov9
  have hin9 : ¬ (f < 0 ∨ cl9.slots.size ≤ (f).toNatClampNeg) := inb_of S9 ⟨hf1, hf2⟩
  have hat9 : cl9.slots[(f).toNatClampNeg]? = some .null := atH H9 hin9 uB
  refine Go.st (X7.aaload hx (j := f) (v := .null) (by rw [e7]; exact Ar9.1) (State.isArrayOf_alike hZ.alike Ar9.2.1) rfl Ar9.2.2 hin9 hat9 (g := (mkF mi 28 #[.val (.ref o), .val (.int f), .val (.int s), .val (.int m), .unset, .unset, .unset, .unset] [(.int f), (.ref bm)])) rfl rfl (hb hby d_prog_37_method_3_28)) ?_
  show Go pg.tables ev below (T7.setTop (mkF mi 29 #[.val (.ref o), .val (.int f), .val (.int s), .val (.int m), .unset, .unset, .unset, .unset] [.null])) P
  refine Go.st (fun t_ k_ => XS.astore X7.here hx rfl (hb hby d_prog_37_method_3_29) rfl rfl (l' := #[.val (.ref o), .val (.int f), .val (.int s), .val (.int m), .val .null, .unset, .unset, .unset]) rfl k_) ?_
  show Go pg.tables ev below (T7.setTop (mkF mi 31 #[.val (.ref o), .val (.int f), .val (.int s), .val (.int m), .val .null, .unset, .unset, .unset] [])) P
  refine Go.st (fun t_ k_ => XS.aload X7.here hx rfl (hb hby d_prog_37_method_3_31) rfl rfl k_) ?_
  show Go pg.tables ev below (T7.setTop (mkF mi 33 #[.val (.ref o), .val (.int f), .val (.int s), .val (.int m), .val .null, .unset, .unset, .unset] [.null])) P
  refine Go.st (fun t_ k_ => XS.ifnullYes X7.here hx rfl (pc0 := 33) (pc' := 68) rfl (hb hby d_prog_37_method_3_33) rfl (by decide) (by decide) k_) ?_
  show Go pg.tables ev below (T7.setTop (mkF mi 68 #[.val (.ref o), .val (.int f), .val (.int s), .val (.int m), .val .null, .unset, .unset, .unset] [])) P
  refine Go.st (fun t_ k_ => XS.aloadN X7.here hx rfl (hb hby d_prog_37_method_3_68) rfl rfl k_) ?_
  show Go pg.tables ev below (T7.setTop (mkF mi 69 #[.val (.ref o), .val (.int f), .val (.int s), .val (.int m), .val .null, .unset, .unset, .unset] [(.ref o)])) P
  obtain ⟨T10, X10, e10, st10⟩ := getF X7 hx hZ hown (host := "") (Or.inl (hw _ (List.mem_of_getElem? (i := 18) rfl))) Via.refl e7 FB5_1 (g := (mkF mi 69 #[.val (.ref o), .val (.int f), .val (.int s), .val (.int m), .val .null, .unset, .unset, .unset] [(.ref o)])) rfl rfl (hb hby d_prog_37_method_3_69)
  refine Go.st st10 ?_
  show Go pg.tables ev below (T10.setTop (mkF mi 72 #[.val (.ref o), .val (.int f), .val (.int s), .val (.int m), .val .null, .unset, .unset, .unset] [(.ref tb)])) P
  refine Go.st (fun t_ k_ => XS.iloadN X10.here hx rfl (hb hby d_prog_37_method_3_72) rfl k_) ?_
  show Go pg.tables ev below (T10.setTop (mkF mi 73 #[.val (.ref o), .val (.int f), .val (.int s), .val (.int m), .val .null, .unset, .unset, .unset] [(.int f), (.ref tb)])) P
  have ov11 := AB5
  obtain ⟨cl11, Ar11, q11, S11, M11, H11, G11⟩ := ov11
  have hin11 : ¬ (f < 0 ∨ cl11.slots.size ≤ (f).toNatClampNeg) := inb_of S11 ⟨hf1, hf2⟩
  have hat11 : cl11.slots[(f).toNatClampNeg]? = some (.ref x5) := atH H11 hin11 (own_hit hf1)
  refine Go.st (X10.aaload hx (j := f) (v := (.ref x5)) (by rw [e10]; exact Ar11.1) (State.isArrayOf_alike hZ.alike Ar11.2.1) rfl Ar11.2.2 hin11 hat11 (g := (mkF mi 73 #[.val (.ref o), .val (.int f), .val (.int s), .val (.int m), .val .null, .unset, .unset, .unset] [(.int f), (.ref tb)])) rfl rfl (hb hby d_prog_37_method_3_73)) ?_
  show Go pg.tables ev below (T10.setTop (mkF mi 74 #[.val (.ref o), .val (.int f), .val (.int s), .val (.int m), .val .null, .unset, .unset, .unset] [(.ref x5)])) P
  refine Go.st (fun t_ k_ => XS.astore X10.here hx rfl (hb hby d_prog_37_method_3_74) rfl rfl (l' := #[.val (.ref o), .val (.int f), .val (.int s), .val (.int m), .val .null, .val (.ref x5), .unset, .unset]) rfl k_) ?_
  show Go pg.tables ev below (T10.setTop (mkF mi 76 #[.val (.ref o), .val (.int f), .val (.int s), .val (.int m), .val .null, .val (.ref x5), .unset, .unset] [])) P
  refine Go.st (fun t_ k_ => XS.aload X10.here hx rfl (hb hby d_prog_37_method_3_76) rfl rfl k_) ?_
  show Go pg.tables ev below (T10.setTop (mkF mi 78 #[.val (.ref o), .val (.int f), .val (.int s), .val (.int m), .val .null, .val (.ref x5), .unset, .unset] [(.ref x5)])) P
  refine Go.st (fun t_ k_ => XS.iloadN X10.here hx rfl (hb hby d_prog_37_method_3_78) rfl k_) ?_
  show Go pg.tables ev below (T10.setTop (mkF mi 79 #[.val (.ref o), .val (.int f), .val (.int s), .val (.int m), .val .null, .val (.ref x5), .unset, .unset] [(.int s), (.ref x5)])) P
  obtain ⟨_, _, ⟨T12, L12, k12, n12⟩, -, X12, ⟨Lc12, hQ12, l12, y12, z12⟩, st12⟩ := Jvm.LawKit.callS X10 hx (y := (⟨"com/example/hedge/hedge/automaton/PairMarks", "find", "([II)I"⟩ : MethodName)) hown (mvT hZ (hw _ (List.mem_of_getElem? (i := 69) rfl))) (mvT hZ (hw _ (List.mem_of_getElem? (i := 70) rfl))) (mvT hZ (hw _ (List.mem_of_getElem? (i := 3) rfl))) (mvT hZ (hw _ (List.mem_of_getElem? (i := 71) rfl))) (by decide) (backOf (W := 0) (rmFi1 l Z a0 hw [] x5 s kx5 [] h5 n0 Zs6 AX5 rfl) hZ (hw _ (List.mem_of_getElem? (i := 71) rfl)) (hw _ (List.mem_of_getElem? (i := 3) rfl)) (by decide) (by decide)) (g := (mkF mi 79 #[.val (.ref o), .val (.int f), .val (.int s), .val (.int m), .val .null, .val (.ref x5), .unset, .unset] [(.int s), (.ref x5)])) rfl (by rw [hml]; rfl) (argsL := [(.ref x5), (.int s)]) (rest := []) (lenOf pd_3 rfl) rfl (by show 2 * 0 + _ ≤ _; exact Nat.le_of_eq rfl) (hb hby d_prog_37_method_3_79) (fun _ _ => ⟨rfl, e10, (by decide : 1 + 0 ≤ _), (by decide : 4 + 0 ≤ _)⟩)
  dsimp only [Pt.U, Pt.locs, Pt.cells, Pt.slots] at X12 l12 y12 z12 st12 hQ12
  subst l12 y12 z12
  obtain ⟨rfl, N12q, e12⟩ := hQ12
  have N12 := Fr.app N5 N12q
  refine Go.st st12 ?_
  show Go pg.tables ev below (T12.setTop (mkF mi 82 #[.val (.ref o), .val (.int f), .val (.int s), .val (.int m), .val .null, .val (.ref x5), .unset, .unset] [(.int (fSl s (3 : Int32)))])) P
  refine Go.st (fun t_ k_ => XS.istore X12.here hx rfl (hb hby d_prog_37_method_3_82) rfl (l' := #[.val (.ref o), .val (.int f), .val (.int s), .val (.int m), .val .null, .val (.ref x5), .val (.int (fSl s (3 : Int32))), .unset]) rfl k_) ?_
  show Go pg.tables ev below (T12.setTop (mkF mi 84 #[.val (.ref o), .val (.int f), .val (.int s), .val (.int m), .val .null, .val (.ref x5), .val (.int (fSl s (3 : Int32))), .unset] [])) P
  refine Go.st (fun t_ k_ => XS.iloadN X12.here hx rfl (hb hby d_prog_37_method_3_84) rfl k_) ?_
  show Go pg.tables ev below (T12.setTop (mkF mi 85 #[.val (.ref o), .val (.int f), .val (.int s), .val (.int m), .val .null, .val (.ref x5), .val (.int (fSl s (3 : Int32))), .unset] [(.int m)])) P
  refine Go.st (fun t_ k_ => XS.aload X12.here hx rfl (hb hby d_prog_37_method_3_85) rfl rfl k_) ?_
  show Go pg.tables ev below (T12.setTop (mkF mi 87 #[.val (.ref o), .val (.int f), .val (.int s), .val (.int m), .val .null, .val (.ref x5), .val (.int (fSl s (3 : Int32))), .unset] [(.ref x5), (.int m)])) P
  refine Go.st (fun t_ k_ => XS.iload X12.here hx rfl (hb hby d_prog_37_method_3_87) rfl k_) ?_
  show Go pg.tables ev below (T12.setTop (mkF mi 89 #[.val (.ref o), .val (.int f), .val (.int s), .val (.int m), .val .null, .val (.ref x5), .val (.int (fSl s (3 : Int32))), .unset] [(.int (fSl s (3 : Int32))), (.ref x5), (.int m)])) P
  have ov13 := AX5
  obtain ⟨cl13, Ar13, q13, S13, M13, H13, G13⟩ := ov13
  have hin13 : ¬ ((fSl s (3 : Int32)) < 0 ∨ cl13.slots.size ≤ ((fSl s (3 : Int32))).toNatClampNeg) := inb_of S13 (own_slot s)
  have hat13 : cl13.slots[((fSl s (3 : Int32))).toNatClampNeg]? = some (.int (0 : Int32)) := atH H13 hin13 rfl
  refine Go.st (X12.iaload hx (j := (fSl s (3 : Int32))) (v := (.int (0 : Int32))) (by rw [e12]; exact Ar13.1) (State.isArrayOf_alike hZ.alike Ar13.2.1) Ar13.2.2 hin13 hat13 (g := (mkF mi 89 #[.val (.ref o), .val (.int f), .val (.int s), .val (.int m), .val .null, .val (.ref x5), .val (.int (fSl s (3 : Int32))), .unset] [(.int (fSl s (3 : Int32))), (.ref x5), (.int m)])) rfl rfl (hb hby d_prog_37_method_3_89)) ?_
  show Go pg.tables ev below (T12.setTop (mkF mi 90 #[.val (.ref o), .val (.int f), .val (.int s), .val (.int m), .val .null, .val (.ref x5), .val (.int (fSl s (3 : Int32))), .unset] [(.int (0 : Int32)), (.int m)])) P
  refine Go.st (fun t_ k_ => XS.iconst X12.here hx rfl (hb hby d_prog_37_method_3_90) k_) ?_
  show Go pg.tables ev below (T12.setTop (mkF mi 91 #[.val (.ref o), .val (.int f), .val (.int s), .val (.int m), .val .null, .val (.ref x5), .val (.int (fSl s (3 : Int32))), .unset] [(.int (-1 : Int32)), (.int (0 : Int32)), (.int m)])) P
  refine Go.st (fun t_ k_ => XS.ixor X12.here hx rfl (hb hby d_prog_37_method_3_91) rfl k_) ?_
  show Go pg.tables ev below (T12.setTop (mkF mi 92 #[.val (.ref o), .val (.int f), .val (.int s), .val (.int m), .val .null, .val (.ref x5), .val (.int (fSl s (3 : Int32))), .unset] [(.int (-1 : Int32)), (.int m)])) P
  refine Go.st (fun t_ k_ => XS.iand X12.here hx rfl (hb hby d_prog_37_method_3_92) rfl k_) ?_
  show Go pg.tables ev below (T12.setTop (mkF mi 93 #[.val (.ref o), .val (.int f), .val (.int s), .val (.int m), .val .null, .val (.ref x5), .val (.int (fSl s (3 : Int32))), .unset] [(.int (m &&& (-1 : Int32)))])) P
  rw [own_and1]
  show Go pg.tables ev below (T12.setTop (mkF mi 93 #[.val (.ref o), .val (.int f), .val (.int s), .val (.int m), .val .null, .val (.ref x5), .val (.int (fSl s (3 : Int32))), .unset] [(.int m)])) P
  refine Go.st (fun t_ k_ => XS.istore X12.here hx rfl (hb hby d_prog_37_method_3_93) rfl (l' := #[.val (.ref o), .val (.int f), .val (.int s), .val (.int m), .val .null, .val (.ref x5), .val (.int (fSl s (3 : Int32))), .val (.int m)]) rfl k_) ?_
  show Go pg.tables ev below (T12.setTop (mkF mi 95 #[.val (.ref o), .val (.int f), .val (.int s), .val (.int m), .val .null, .val (.ref x5), .val (.int (fSl s (3 : Int32))), .val (.int m)] [])) P
  refine Go.st (fun t_ k_ => XS.aload X12.here hx rfl (hb hby d_prog_37_method_3_95) rfl rfl k_) ?_
  show Go pg.tables ev below (T12.setTop (mkF mi 97 #[.val (.ref o), .val (.int f), .val (.int s), .val (.int m), .val .null, .val (.ref x5), .val (.int (fSl s (3 : Int32))), .val (.int m)] [(.ref x5)])) P
  refine Go.st (fun t_ k_ => XS.iload X12.here hx rfl (hb hby d_prog_37_method_3_97) rfl k_) ?_
  show Go pg.tables ev below (T12.setTop (mkF mi 99 #[.val (.ref o), .val (.int f), .val (.int s), .val (.int m), .val .null, .val (.ref x5), .val (.int (fSl s (3 : Int32))), .val (.int m)] [(.int (fSl s (3 : Int32))), (.ref x5)])) P
  have ov14 := AX5
  obtain ⟨cl14, Ar14, q14, S14, M14, H14, G14⟩ := ov14
  have hin14 : ¬ ((fSl s (3 : Int32)) < 0 ∨ cl14.slots.size ≤ ((fSl s (3 : Int32))).toNatClampNeg) := inb_of S14 (own_slot s)
  have hat14 : cl14.slots[((fSl s (3 : Int32))).toNatClampNeg]? = some (.int (0 : Int32)) := atH H14 hin14 rfl
  refine Go.st (X12.iaload hx (j := (fSl s (3 : Int32))) (v := (.int (0 : Int32))) (by rw [e12]; exact Ar14.1) (State.isArrayOf_alike hZ.alike Ar14.2.1) Ar14.2.2 hin14 hat14 (g := (mkF mi 99 #[.val (.ref o), .val (.int f), .val (.int s), .val (.int m), .val .null, .val (.ref x5), .val (.int (fSl s (3 : Int32))), .val (.int m)] [(.int (fSl s (3 : Int32))), (.ref x5)])) rfl rfl (hb hby d_prog_37_method_3_99)) ?_
  show Go pg.tables ev below (T12.setTop (mkF mi 100 #[.val (.ref o), .val (.int f), .val (.int s), .val (.int m), .val .null, .val (.ref x5), .val (.int (fSl s (3 : Int32))), .val (.int m)] [(.int (0 : Int32))])) P
  refine Go.st (fun t_ k_ => XS.ifYes X12.here hx rfl (pc0 := 100) (pc' := 116) rfl (hb hby d_prog_37_method_3_100) rfl ((if0 _ _).trans (teq rfl).1) (by decide) (by decide) k_) ?_
  show Go pg.tables ev below (T12.setTop (mkF mi 116 #[.val (.ref o), .val (.int f), .val (.int s), .val (.int m), .val .null, .val (.ref x5), .val (.int (fSl s (3 : Int32))), .val (.int m)] [])) P
  refine Go.st (fun t_ k_ => XS.aload X12.here hx rfl (hb hby d_prog_37_method_3_116) rfl rfl k_) ?_
  show Go pg.tables ev below (T12.setTop (mkF mi 118 #[.val (.ref o), .val (.int f), .val (.int s), .val (.int m), .val .null, .val (.ref x5), .val (.int (fSl s (3 : Int32))), .val (.int m)] [(.ref x5)])) P
  refine Go.st (fun t_ k_ => XS.iload X12.here hx rfl (hb hby d_prog_37_method_3_118) rfl k_) ?_
  show Go pg.tables ev below (T12.setTop (mkF mi 120 #[.val (.ref o), .val (.int f), .val (.int s), .val (.int m), .val .null, .val (.ref x5), .val (.int (fSl s (3 : Int32))), .val (.int m)] [(.int (fSl s (3 : Int32))), (.ref x5)])) P
  refine Go.st (fun t_ k_ => XS.iloadN X12.here hx rfl (hb hby d_prog_37_method_3_120) rfl k_) ?_
  show Go pg.tables ev below (T12.setTop (mkF mi 121 #[.val (.ref o), .val (.int f), .val (.int s), .val (.int m), .val .null, .val (.ref x5), .val (.int (fSl s (3 : Int32))), .val (.int m)] [(.int s), (.int (fSl s (3 : Int32))), (.ref x5)])) P
  obtain ⟨_, _, ⟨T15, L15, k15, n15⟩, -, X15, ⟨Lc15, hQ15, l15, y15, z15⟩, st15⟩ := Jvm.LawKit.callS X12 hx (y := (⟨"com/example/hedge/hedge/automaton/PairMarks", "key", "(I)I"⟩ : MethodName)) hown (mvT hZ (hw _ (List.mem_of_getElem? (i := 76) rfl))) (mvT hZ (hw _ (List.mem_of_getElem? (i := 77) rfl))) (mvT hZ (hw _ (List.mem_of_getElem? (i := 3) rfl))) (mvT hZ (hw _ (List.mem_of_getElem? (i := 78) rfl))) (by decide) (backOf (W := 2) (rmKe l Z a0 hw [] s h5 n0 Zs6) hZ (hw _ (List.mem_of_getElem? (i := 78) rfl)) (hw _ (List.mem_of_getElem? (i := 3) rfl)) (by decide) (by decide)) (g := (mkF mi 121 #[.val (.ref o), .val (.int f), .val (.int s), .val (.int m), .val .null, .val (.ref x5), .val (.int (fSl s (3 : Int32))), .val (.int m)] [(.int s), (.int (fSl s (3 : Int32))), (.ref x5)])) rfl (by rw [hml]; rfl) (argsL := [(.int s)]) (rest := [(.int (fSl s (3 : Int32))), (.ref x5)]) (lenOf pd_2 rfl) rfl (by show 2 * 0 + _ ≤ _; exact Nat.le_of_eq rfl) (hb hby d_prog_37_method_3_121) (fun _ _ => ⟨rfl, e12, (by decide : 1 + 0 ≤ _), (by decide : 4 + 0 ≤ _)⟩)
  dsimp only [Pt.U, Pt.locs, Pt.cells, Pt.slots] at X15 l15 y15 z15 st15 hQ15
  subst l15 y15 z15
  obtain ⟨rfl, N15q, e15⟩ := hQ15
  have N15 := Fr.app N12 N15q
  refine Go.st st15 ?_
  show Go pg.tables ev below (T15.setTop (mkF mi 124 #[.val (.ref o), .val (.int f), .val (.int s), .val (.int m), .val .null, .val (.ref x5), .val (.int (fSl s (3 : Int32))), .val (.int m)] [(.int (fKe s)), (.int (fSl s (3 : Int32))), (.ref x5)])) P
  refine Go.st (fun t_ k_ => XS.iloadN X15.here hx rfl (hb hby d_prog_37_method_3_124) rfl k_) ?_
  show Go pg.tables ev below (T15.setTop (mkF mi 125 #[.val (.ref o), .val (.int f), .val (.int s), .val (.int m), .val .null, .val (.ref x5), .val (.int (fSl s (3 : Int32))), .val (.int m)] [(.int m), (.int (fKe s)), (.int (fSl s (3 : Int32))), (.ref x5)])) P
  refine Go.st (fun t_ k_ => XS.ior X15.here hx rfl (hb hby d_prog_37_method_3_125) rfl k_) ?_
  show Go pg.tables ev below (T15.setTop (mkF mi 126 #[.val (.ref o), .val (.int f), .val (.int s), .val (.int m), .val .null, .val (.ref x5), .val (.int (fSl s (3 : Int32))), .val (.int m)] [(.int ((fKe s) ||| m)), (.int (fSl s (3 : Int32))), (.ref x5)])) P
  have ov16 := AX5
  obtain ⟨cl16, Ar16, q16, S16, M16, H16, G16⟩ := ov16
  have hin16 : ¬ ((fSl s (3 : Int32)) < 0 ∨ cl16.slots.size ≤ ((fSl s (3 : Int32))).toNatClampNeg) := inb_of S16 (own_slot s)
  obtain ⟨T17, h17, X17, e17, W17, st17⟩ := stI X15 hx hZ e15 Ar16 (j := (fSl s (3 : Int32))) hin16 (g := (mkF mi 126 #[.val (.ref o), .val (.int f), .val (.int s), .val (.int m), .val .null, .val (.ref x5), .val (.int (fSl s (3 : Int32))), .val (.int m)] [(.int ((fKe s) ||| m)), (.int (fSl s (3 : Int32))), (.ref x5)])) rfl rfl (hb hby d_prog_37_method_3_126)
  have Zs18 : n0 ≤ h17.size := Nat.le_trans Zs6 (Keep.of_wr W17).1
  have KC18 : Keep h0 h17 [o, rw, tb, sz] := KC6.wr W17 (Or.inr sz_x5)
  have N18 := Fr.snoc X17 N15 g_x5
  have V17 : Arh Z h17 x5 kx5 .int (4 : Int32) (((fSl s (3 : Int32)), (.int ((fKe s) ||| m))) :: []) [] (.int (0 : Int32)) := Arh.push Ar16 q16 S16 M16 H16 G16 rfl W17 hin16
  refine Go.st st17 ?_
  show Go pg.tables ev below (T17.setTop (mkF mi 127 #[.val (.ref o), .val (.int f), .val (.int s), .val (.int m), .val .null, .val (.ref x5), .val (.int (fSl s (3 : Int32))), .val (.int m)] [])) P
  refine Go.st (fun t_ k_ => XS.aloadN X17.here hx rfl (hb hby d_prog_37_method_3_127) rfl rfl k_) ?_
  show Go pg.tables ev below (T17.setTop (mkF mi 128 #[.val (.ref o), .val (.int f), .val (.int s), .val (.int m), .val .null, .val (.ref x5), .val (.int (fSl s (3 : Int32))), .val (.int m)] [(.ref o)])) P
  have f19 := (FB5_2.other W17 (Or.inl ne_o_x5))
  obtain ⟨T20, X20, e20, st20⟩ := getF X17 hx hZ hown (host := "") (Or.inl (hw _ (List.mem_of_getElem? (i := 20) rfl))) Via.refl e17 f19 (g := (mkF mi 128 #[.val (.ref o), .val (.int f), .val (.int s), .val (.int m), .val .null, .val (.ref x5), .val (.int (fSl s (3 : Int32))), .val (.int m)] [(.ref o)])) rfl rfl (hb hby d_prog_37_method_3_128)
  refine Go.st st20 ?_
  show Go pg.tables ev below (T20.setTop (mkF mi 131 #[.val (.ref o), .val (.int f), .val (.int s), .val (.int m), .val .null, .val (.ref x5), .val (.int (fSl s (3 : Int32))), .val (.int m)] [(.ref sz)])) P
  refine Go.st (fun t_ k_ => XS.iloadN X20.here hx rfl (hb hby d_prog_37_method_3_131) rfl k_) ?_
  show Go pg.tables ev below (T20.setTop (mkF mi 132 #[.val (.ref o), .val (.int f), .val (.int s), .val (.int m), .val .null, .val (.ref x5), .val (.int (fSl s (3 : Int32))), .val (.int m)] [(.int f), (.ref sz)])) P
  refine Go.st (fun t_ k_ => XT.dup2 X20.here hx rfl (hb hby d_prog_37_method_3_132) rfl rfl rfl k_) ?_
  show Go pg.tables ev below (T20.setTop (mkF mi 133 #[.val (.ref o), .val (.int f), .val (.int s), .val (.int m), .val .null, .val (.ref x5), .val (.int (fSl s (3 : Int32))), .val (.int m)] [(.int f), (.ref sz), (.int f), (.ref sz)])) P
  have f21 := ((A_sz.keep K5 (ninS (Ne.symm ne_o_sz) (ninS (Ne.symm ne_rw_sz) (ninS (Ne.symm ne_tb_sz) nin0)))).other W17 ne_sz_x5)
  have ov22 := f21
  obtain ⟨cl22, Ar22, q22, S22, M22, H22, G22⟩ := ov22
  have hin22 : ¬ (f < 0 ∨ cl22.slots.size ≤ (f).toNatClampNeg) := inb_of S22 ⟨hf1, hf2⟩
  have hat22 : cl22.slots[(f).toNatClampNeg]? = some (.int (0 : Int32)) := atH H22 hin22 uS
  refine Go.st (X20.iaload hx (j := f) (v := (.int (0 : Int32))) (by rw [e20]; exact Ar22.1) (State.isArrayOf_alike hZ.alike Ar22.2.1) Ar22.2.2 hin22 hat22 (g := (mkF mi 133 #[.val (.ref o), .val (.int f), .val (.int s), .val (.int m), .val .null, .val (.ref x5), .val (.int (fSl s (3 : Int32))), .val (.int m)] [(.int f), (.ref sz), (.int f), (.ref sz)])) rfl rfl (hb hby d_prog_37_method_3_133)) ?_
  show Go pg.tables ev below (T20.setTop (mkF mi 134 #[.val (.ref o), .val (.int f), .val (.int s), .val (.int m), .val .null, .val (.ref x5), .val (.int (fSl s (3 : Int32))), .val (.int m)] [(.int (0 : Int32)), (.int f), (.ref sz)])) P
  refine Go.st (fun t_ k_ => XS.iconst X20.here hx rfl (hb hby d_prog_37_method_3_134) k_) ?_
  show Go pg.tables ev below (T20.setTop (mkF mi 135 #[.val (.ref o), .val (.int f), .val (.int s), .val (.int m), .val .null, .val (.ref x5), .val (.int (fSl s (3 : Int32))), .val (.int m)] [(.int (1 : Int32)), (.int (0 : Int32)), (.int f), (.ref sz)])) P
  refine Go.st (fun t_ k_ => XS.iadd X20.here hx rfl (hb hby d_prog_37_method_3_135) rfl k_) ?_
  show Go pg.tables ev below (T20.setTop (mkF mi 136 #[.val (.ref o), .val (.int f), .val (.int s), .val (.int m), .val .null, .val (.ref x5), .val (.int (fSl s (3 : Int32))), .val (.int m)] [(.int (1 : Int32)), (.int f), (.ref sz)])) P
  have ov23 := f21
  obtain ⟨cl23, Ar23, q23, S23, M23, H23, G23⟩ := ov23
  have hin23 : ¬ (f < 0 ∨ cl23.slots.size ≤ (f).toNatClampNeg) := inb_of S23 ⟨hf1, hf2⟩
  obtain ⟨T24, h24, X24, e24, W24, st24⟩ := stI X20 hx hZ e20 Ar23 (j := f) hin23 (g := (mkF mi 136 #[.val (.ref o), .val (.int f), .val (.int s), .val (.int m), .val .null, .val (.ref x5), .val (.int (fSl s (3 : Int32))), .val (.int m)] [(.int (1 : Int32)), (.int f), (.ref sz)])) rfl rfl (hb hby d_prog_37_method_3_136)
  have Zs25 : n0 ≤ h24.size := Nat.le_trans Zs18 (Keep.of_wr W24).1
  have KC25 : Keep h0 h24 [o, rw, tb, sz] := KC18.wr W24 (Or.inl (List.mem_of_getElem? (i := 3) rfl))
  have N25 := Fr.snoc X24 N18 g_sz
  have V24 : Arh Z h24 sz kS .int N ((f, (.int (1 : Int32))) :: hS) [] (.int (0 : Int32)) := Arh.push Ar23 q23 S23 M23 H23 G23 rfl W24 hin23
  refine Go.st st24 ?_
  show Go pg.tables ev below (T24.setTop (mkF mi 137 #[.val (.ref o), .val (.int f), .val (.int s), .val (.int m), .val .null, .val (.ref x5), .val (.int (fSl s (3 : Int32))), .val (.int m)] [])) P
  refine Go.st (fun t_ k_ => XS.iconst X24.here hx rfl (hb hby d_prog_37_method_3_137) k_) ?_
  show Go pg.tables ev below (T24.setTop (mkF mi 138 #[.val (.ref o), .val (.int f), .val (.int s), .val (.int m), .val .null, .val (.ref x5), .val (.int (fSl s (3 : Int32))), .val (.int m)] [(.int (2 : Int32))])) P
  refine Go.st (fun t_ k_ => XS.aloadN X24.here hx rfl (hb hby d_prog_37_method_3_138) rfl rfl k_) ?_
  show Go pg.tables ev below (T24.setTop (mkF mi 139 #[.val (.ref o), .val (.int f), .val (.int s), .val (.int m), .val .null, .val (.ref x5), .val (.int (fSl s (3 : Int32))), .val (.int m)] [(.ref o), (.int (2 : Int32))])) P
  have f26 := (f19.other W24 (Or.inl ne_o_sz))
  obtain ⟨T27, X27, e27, st27⟩ := getF X24 hx hZ hown (host := "") (Or.inl (hw _ (List.mem_of_getElem? (i := 20) rfl))) Via.refl e24 f26 (g := (mkF mi 139 #[.val (.ref o), .val (.int f), .val (.int s), .val (.int m), .val .null, .val (.ref x5), .val (.int (fSl s (3 : Int32))), .val (.int m)] [(.ref o), (.int (2 : Int32))])) rfl rfl (hb hby d_prog_37_method_3_139)
  refine Go.st st27 ?_
  show Go pg.tables ev below (T27.setTop (mkF mi 142 #[.val (.ref o), .val (.int f), .val (.int s), .val (.int m), .val .null, .val (.ref x5), .val (.int (fSl s (3 : Int32))), .val (.int m)] [(.ref sz), (.int (2 : Int32))])) P
  refine Go.st (fun t_ k_ => XS.iloadN X27.here hx rfl (hb hby d_prog_37_method_3_142) rfl k_) ?_
  show Go pg.tables ev below (T27.setTop (mkF mi 143 #[.val (.ref o), .val (.int f), .val (.int s), .val (.int m), .val .null, .val (.ref x5), .val (.int (fSl s (3 : Int32))), .val (.int m)] [(.int f), (.ref sz), (.int (2 : Int32))])) P
  have ov28 := V24
  obtain ⟨cl28, Ar28, q28, S28, M28, H28, G28⟩ := ov28
  have hin28 : ¬ (f < 0 ∨ cl28.slots.size ≤ (f).toNatClampNeg) := inb_of S28 ⟨hf1, hf2⟩
  have hat28 : cl28.slots[(f).toNatClampNeg]? = some (.int (1 : Int32)) := atH H28 hin28 (own_hit hf1)
  refine Go.st (X27.iaload hx (j := f) (v := (.int (1 : Int32))) (by rw [e27]; exact Ar28.1) (State.isArrayOf_alike hZ.alike Ar28.2.1) Ar28.2.2 hin28 hat28 (g := (mkF mi 143 #[.val (.ref o), .val (.int f), .val (.int s), .val (.int m), .val .null, .val (.ref x5), .val (.int (fSl s (3 : Int32))), .val (.int m)] [(.int f), (.ref sz), (.int (2 : Int32))])) rfl rfl (hb hby d_prog_37_method_3_143)) ?_
  show Go pg.tables ev below (T27.setTop (mkF mi 144 #[.val (.ref o), .val (.int f), .val (.int s), .val (.int m), .val .null, .val (.ref x5), .val (.int (fSl s (3 : Int32))), .val (.int m)] [(.int (1 : Int32)), (.int (2 : Int32))])) P
  refine Go.st (fun t_ k_ => XS.imul X27.here hx rfl (hb hby d_prog_37_method_3_144) rfl k_) ?_
  show Go pg.tables ev below (T27.setTop (mkF mi 145 #[.val (.ref o), .val (.int f), .val (.int s), .val (.int m), .val .null, .val (.ref x5), .val (.int (fSl s (3 : Int32))), .val (.int m)] [(.int (2 : Int32))])) P
  refine Go.st (fun t_ k_ => XS.aload X27.here hx rfl (hb hby d_prog_37_method_3_145) rfl rfl k_) ?_
  show Go pg.tables ev below (T27.setTop (mkF mi 147 #[.val (.ref o), .val (.int f), .val (.int s), .val (.int m), .val .null, .val (.ref x5), .val (.int (fSl s (3 : Int32))), .val (.int m)] [(.ref x5), (.int (2 : Int32))])) P
  have f29 := (V17.other W24 (Ne.symm ne_sz_x5))
  have ov30 := f29
  obtain ⟨cl30, Ar30, q30, S30, M30, H30, G30⟩ := ov30
  refine Go.st (X27.arraylength hx (by rw [e27]; exact Ar30.1) (State.isArrayOf_alike hZ.alike Ar30.2.1) (g := (mkF mi 147 #[.val (.ref o), .val (.int f), .val (.int s), .val (.int m), .val .null, .val (.ref x5), .val (.int (fSl s (3 : Int32))), .val (.int m)] [(.ref x5), (.int (2 : Int32))])) rfl rfl (hb hby d_prog_37_method_3_147)) ?_
  rw [len_of S30 M30]
  show Go pg.tables ev below (T27.setTop (mkF mi 148 #[.val (.ref o), .val (.int f), .val (.int s), .val (.int m), .val .null, .val (.ref x5), .val (.int (fSl s (3 : Int32))), .val (.int m)] [(.int (4 : Int32)), (.int (2 : Int32))])) P
  refine Go.st (fun t_ k_ => XS.icmpYes X27.here hx rfl (pc0 := 148) (pc' := 156) rfl (hb hby d_prog_37_method_3_148) rfl (flt (by decide)).2.2.2 (by decide) (by decide) k_) ?_
  show Go pg.tables ev below (T27.setTop (mkF mi 156 #[.val (.ref o), .val (.int f), .val (.int s), .val (.int m), .val .null, .val (.ref x5), .val (.int (fSl s (3 : Int32))), .val (.int m)] [])) P
  refine Go.st (fun t_ k_ => XS.iload X27.here hx rfl (hb hby d_prog_37_method_3_156) rfl k_) ?_
  show Go pg.tables ev below (T27.setTop (mkF mi 158 #[.val (.ref o), .val (.int f), .val (.int s), .val (.int m), .val .null, .val (.ref x5), .val (.int (fSl s (3 : Int32))), .val (.int m)] [(.int m)])) P
  obtain ⟨fs, hr, hrun, hended, hW, hsame⟩ := X27.leave (v := some (.int m)) (fun h => by rw [Bd.returns] at h; cases h) (BodyLoose.notSynchronized Bd)
  have f31 := ((FB5_0.other W17 (Or.inl ne_o_x5)).other W24 (Or.inl ne_o_sz))
  have f32 := ((FB5_1.other W17 (Or.inl ne_o_x5)).other W24 (Or.inl ne_o_sz))
  have f33 := ((FB5_3.other W17 (Or.inl ne_o_x5)).other W24 (Or.inl ne_o_sz))
  have f34 := ((FB5_4.other W17 (Or.inl ne_o_x5)).other W24 (Or.inl ne_o_sz))
  have f35 := ((FB5_5.other W17 (Or.inl ne_o_x5)).other W24 (Or.inl ne_o_sz))
  have f36 := ((AR5.other W17 ne_rw_x5).other W24 ne_rw_sz)
  have f37 := ((AB5.other W17 ne_tb_x5).other W24 ne_tb_sz)
  refine ⟨_, _, ?_, hP _ _ ⟨hrun, hended, _, _, rfl, ?_, ⟨_, rfl⟩, hW, hsame.mono (by decide) (by decide)⟩⟩
  · exact retI X27 hx Bd.returns (hb hby d_prog_37_method_3_158) hr
  · show (some (.int m) : Option Value) = some (.int m) ∧ Fr n0 _ ∧ Keep h0 T27.heap [o, rw, tb, sz] ∧ ∃ (x : Addr) (kx : ClassId), h0.size ≤ x ∧ n0 ≤ x ∧ Fld Z T27.heap o "com/example/hedge/hedge/automaton/PairMarks" "rows" "[I" (.ref rw) ∧ Fld Z T27.heap o "com/example/hedge/hedge/automaton/PairMarks" "tables" "[[I" (.ref tb) ∧ Fld Z T27.heap o "com/example/hedge/hedge/automaton/PairMarks" "sizes" "[I" (.ref sz) ∧ Fld Z T27.heap o "com/example/hedge/hedge/automaton/PairMarks" "bitmaps" "[[J" (.ref bm) ∧ Fld Z T27.heap o "com/example/hedge/hedge/automaton/PairMarks" "words" "I" (.int wd) ∧ Fld Z T27.heap o "com/example/hedge/hedge/automaton/PairMarks" "rowCount" "I" (.int (1 : Int32)) ∧ Arv Z T27.heap rw kR .int (16 : Int32) (vR.set 0 (.int f)) (.int (0 : Int32)) ∧ Arh Z T27.heap tb kT (.array .int) N ((f, .ref x) :: hT) [] .null ∧ Arh Z T27.heap sz kS .int N ((f, .int (1 : Int32)) :: hS) [] (.int (0 : Int32)) ∧ Arh Z T27.heap x kx .int (4 : Int32) [((fSl s (3 : Int32)), .int ((fKe s) ||| m))] [] (.int (0 : Int32))
    rw [e27]
    exact ⟨rfl, N25, KC25, x5, _, sz_x5, g_x5, f31, f32, f26, f33, f34, f35, f36, f37, V24, f29⟩
theorem ef_rmAN1B (mi : MethodId) (o : Addr) (f : Int32) (s : Int32) (m : Int32) (rw : Addr) (tb : Addr) (sz : Addr) (bm : Addr) (kR : ClassId) (kT : ClassId) (kS : ClassId) (kB : ClassId) (N : Int32) (wd : Int32) (hT : List (Int32 × Value)) (hS : List (Int32 × Value)) (hB : List (Int32 × Value)) (vR : List Value) : entryFrame mi #[(.ref o), (.int f), (.int s), (.int m)] 8 = mkF mi 0 #[.val (.ref o), .val (.int f), .val (.int s), .val (.int m), .unset, .unset, .unset, .unset] [] := by first | (simp [entryFrame, mkF, argsToLocals, Value.category]; done) | rfl
def Q_rmAN1B (Z : State) (o : Addr) (f : Int32) (s : Int32) (m : Int32) (rw : Addr) (tb : Addr) (sz : Addr) (bm : Addr) (kR : ClassId) (kT : ClassId) (kS : ClassId) (kB : ClassId) (N : Int32) (wd : Int32) (hT : List (Int32 × Value)) (hS : List (Int32 × Value)) (hB : List (Int32 × Value)) (vR : List Value) (h0 : Heap) (n0 : Nat) (vv_ : Option Value) (hh_ : Heap) (LL_ : List Loc) : Prop := vv_ = some (.int m) ∧ Fr n0 LL_ ∧ Keep h0 hh_ [o, rw, bm] ∧ ∃ (x : Addr) (kx : ClassId), h0.size ≤ x ∧ n0 ≤ x ∧ Fld Z hh_ o "com/example/hedge/hedge/automaton/PairMarks" "rows" "[I" (.ref rw) ∧ Fld Z hh_ o "com/example/hedge/hedge/automaton/PairMarks" "tables" "[[I" (.ref tb) ∧ Fld Z hh_ o "com/example/hedge/hedge/automaton/PairMarks" "sizes" "[I" (.ref sz) ∧ Fld Z hh_ o "com/example/hedge/hedge/automaton/PairMarks" "bitmaps" "[[J" (.ref bm) ∧ Fld Z hh_ o "com/example/hedge/hedge/automaton/PairMarks" "words" "I" (.int wd) ∧ Fld Z hh_ o "com/example/hedge/hedge/automaton/PairMarks" "rowCount" "I" (.int (2 : Int32)) ∧ Arv Z hh_ rw kR .int (16 : Int32) (vR.set 1 (.int f)) (.int (0 : Int32)) ∧ Arh Z hh_ bm kB (.array .long) N ((f, .ref x) :: hB) [] .null ∧ Arh Z hh_ x kx .long wd [(((s.toUInt32 >>> ((5 : Int32) &&& 31).toUInt32).toInt32), .long (fPu m s))] [] (.long (0 : Int64))
set_option maxRecDepth 65536 in
set_option maxHeartbeats 40000000 in
theorem rmAN1B (l : Launch) (Z : State) (a0 : Array Value) (hw : ∀ d ∈ tables_1, d.before a0 Z = true) (ws : List Jvm.Cond) (o : Addr) (f : Int32) (s : Int32) (m : Int32) (rw : Addr) (tb : Addr) (sz : Addr) (bm : Addr) (kR : ClassId) (kT : ClassId) (kS : ClassId) (kB : ClassId) (N : Int32) (wd : Int32) (hT : List (Int32 × Value)) (hS : List (Int32 × Value)) (hB : List (Int32 × Value)) (vR : List Value) (h0 : Heap) (n0 : Nat) (Z0 : n0 ≤ h0.size) (E0 : Exa Z h0 o "com/example/hedge/hedge/automaton/PairMarks") (ge0 : n0 ≤ o) (g_rw : n0 ≤ rw) (g_tb : n0 ≤ tb) (g_sz : n0 ≤ sz) (g_bm : n0 ≤ bm) (ne_o_rw : o ≠ rw) (ne_o_tb : o ≠ tb) (ne_o_sz : o ≠ sz) (ne_o_bm : o ≠ bm) (ne_rw_tb : rw ≠ tb) (ne_rw_sz : rw ≠ sz) (ne_rw_bm : rw ≠ bm) (ne_tb_sz : tb ≠ sz) (ne_tb_bm : tb ≠ bm) (ne_sz_bm : sz ≠ bm) (F0 : Fld Z h0 o "com/example/hedge/hedge/automaton/PairMarks" "rows" "[I" (.ref rw)) (F1 : Fld Z h0 o "com/example/hedge/hedge/automaton/PairMarks" "tables" "[[I" (.ref tb)) (F2 : Fld Z h0 o "com/example/hedge/hedge/automaton/PairMarks" "sizes" "[I" (.ref sz)) (F3 : Fld Z h0 o "com/example/hedge/hedge/automaton/PairMarks" "bitmaps" "[[J" (.ref bm)) (F4 : Fld Z h0 o "com/example/hedge/hedge/automaton/PairMarks" "words" "I" (.int wd)) (F5 : Fld Z h0 o "com/example/hedge/hedge/automaton/PairMarks" "rowCount" "I" (.int (1 : Int32))) (A_rw : Arv Z h0 rw kR .int (16 : Int32) vR (.int (0 : Int32))) (l_rw : vR.length = 16) (A_tb : Arh Z h0 tb kT (.array .int) N hT [] .null) (A_sz : Arh Z h0 sz kS .int N hS [] (.int (0 : Int32))) (A_bm : Arh Z h0 bm kB (.array .long) N hB [] .null) (O_tb : OvrA Z kT .int "[I") (O_bm : OvrA Z kB .long "[J") (hf1 : ¬ f < 0) (hf2 : f < N) (hwo : ¬ ((4 : Int64) < ((2 : Int64) * (wd.toInt64)))) (hN1 : 1 ≤ N.toInt) (hN2 : N.toInt ≤ 256) (hwd : wd = fWd N) (hwd1 : 1 ≤ wd.toInt) (hwd2 : wd.toInt ≤ 8) (hs : ¬ s < 0 ∧ s < N) (uB : getH hB [] .null f.toNatClampNeg = .null) (uT : getH hT [] .null f.toNatClampNeg = .null) (uS : getH hS [] (.int (0 : Int32)) f.toNatClampNeg = .int (0 : Int32)) :
    MetFree l (⟨"com/example/hedge/hedge/automaton/PairMarks", "add", "(III)I"⟩ : MethodName) (head1 (Jvm.Cond.code (⟨"com/example/hedge/hedge/automaton/PairMarks", "add", "(III)I"⟩ : MethodName) prog_37_method_3_code 8 (some .int) :: ws) ({ frames := 3, cells := 1, slots := 8, locals := 47 } : Room)) (fun aa_ U => aa_ = #[(.ref o), (.int f), (.int s), (.int m)] ∧ Z.Warmed39 U.vm ∧ U.heap = h0) (fun _ _ _ _ _ => True) (fun _ U oo_ UV_ => ∃ vv_ LL_, oo_ = .returned vv_ ∧ Q_rmAN1B Z o f s m rw tb sz bm kR kT kS kB N wd hT hS hB vR h0 n0 vv_ UV_.heap LL_ ∧ FrameEnd U oo_ UV_ LL_ ({ frames := 3, cells := 1, slots := 8, locals := 47 } : Room).cells ({ frames := 3, cells := 1, slots := 8, locals := 47 } : Room).slots) := by
  refine MetFree.of_bodySF (plainFor_of_name pn_0) hisR ?_
  intro pg ev si mi args below meth ci s₁ Bd hml0 hP0 hK
  obtain ⟨rfl, hZ, hh⟩ := hP0
  have hx := Bd.exec
  have hby := Bd.bytes
  have hml : ci.maxLocals = 8 := hml0
  have hown : si.vm.findClass "com/example/hedge/hedge/automaton/PairMarks" = some mi.cls := findClass_of_methodNamed Bd.named
  have hnm := (name_of_methodNamed Bd.named Bd.method).1
  have X0 : Stand pg l ev ({ frames := 3, cells := 1, slots := 8, locals := 47 } : Room) si mi #[(.ref o), (.int f), (.int s), (.int m)] below meth ci s₁ [] 0 0 := Stand.of_body Bd
  have e0 : s₁.heap = h0 := by rw [← hh, Bd.state]; rfl
  have N0 := Fr.nil n0
  refine Go.start (fun P hP => ?_)
  refine Go.st (fun t_ k_ => castTop (ef_rmAN1B mi o f s m rw tb sz bm kR kT kS kB N wd hT hS hB vR) k_) (A := s₁.setTop (mkF mi 0 #[.val (.ref o), .val (.int f), .val (.int s), .val (.int m), .unset, .unset, .unset, .unset] [])) ?_
  have hi := own_bit hN1 hN2 hwd hs
  show Go pg.tables ev below (s₁.setTop (mkF mi 0 #[.val (.ref o), .val (.int f), .val (.int s), .val (.int m), .unset, .unset, .unset, .unset] [])) P
  refine Go.st (fun t_ k_ => XS.aloadN X0.here hx rfl (hb hby d_prog_37_method_3_0) rfl rfl k_) ?_
  show Go pg.tables ev below (s₁.setTop (mkF mi 1 #[.val (.ref o), .val (.int f), .val (.int s), .val (.int m), .unset, .unset, .unset, .unset] [(.ref o)])) P
  obtain ⟨T1, X1, e1, st1⟩ := getF X0 hx hZ hown (host := "") (Or.inl (hw _ (List.mem_of_getElem? (i := 24) rfl))) Via.refl e0 F3 (g := (mkF mi 1 #[.val (.ref o), .val (.int f), .val (.int s), .val (.int m), .unset, .unset, .unset, .unset] [(.ref o)])) rfl rfl (hb hby d_prog_37_method_3_1)
  refine Go.st st1 ?_
  show Go pg.tables ev below (T1.setTop (mkF mi 4 #[.val (.ref o), .val (.int f), .val (.int s), .val (.int m), .unset, .unset, .unset, .unset] [(.ref bm)])) P
  refine Go.st (fun t_ k_ => XS.iloadN X1.here hx rfl (hb hby d_prog_37_method_3_4) rfl k_) ?_
  show Go pg.tables ev below (T1.setTop (mkF mi 5 #[.val (.ref o), .val (.int f), .val (.int s), .val (.int m), .unset, .unset, .unset, .unset] [(.int f), (.ref bm)])) P
  have ov2 := A_bm
  obtain ⟨cl2, Ar2, q2, S2, M2, H2, G2⟩ := ov2
  have hin2 : ¬ (f < 0 ∨ cl2.slots.size ≤ (f).toNatClampNeg) := inb_of S2 ⟨hf1, hf2⟩
  have hat2 : cl2.slots[(f).toNatClampNeg]? = some .null := atH H2 hin2 uB
  refine Go.st (X1.aaload hx (j := f) (v := .null) (by rw [e1]; exact Ar2.1) (State.isArrayOf_alike hZ.alike Ar2.2.1) rfl Ar2.2.2 hin2 hat2 (g := (mkF mi 5 #[.val (.ref o), .val (.int f), .val (.int s), .val (.int m), .unset, .unset, .unset, .unset] [(.int f), (.ref bm)])) rfl rfl (hb hby d_prog_37_method_3_5)) ?_
  show Go pg.tables ev below (T1.setTop (mkF mi 6 #[.val (.ref o), .val (.int f), .val (.int s), .val (.int m), .unset, .unset, .unset, .unset] [.null])) P
  refine Go.st (fun t_ k_ => XS.ifnonnullNo X1.here hx rfl (hb hby d_prog_37_method_3_6) rfl k_) ?_
  show Go pg.tables ev below (T1.setTop (mkF mi 9 #[.val (.ref o), .val (.int f), .val (.int s), .val (.int m), .unset, .unset, .unset, .unset] [])) P
  refine Go.st (fun t_ k_ => XS.aloadN X1.here hx rfl (hb hby d_prog_37_method_3_9) rfl rfl k_) ?_
  show Go pg.tables ev below (T1.setTop (mkF mi 10 #[.val (.ref o), .val (.int f), .val (.int s), .val (.int m), .unset, .unset, .unset, .unset] [(.ref o)])) P
  obtain ⟨T3, X3, e3, st3⟩ := getF X1 hx hZ hown (host := "") (Or.inl (hw _ (List.mem_of_getElem? (i := 18) rfl))) Via.refl e1 F1 (g := (mkF mi 10 #[.val (.ref o), .val (.int f), .val (.int s), .val (.int m), .unset, .unset, .unset, .unset] [(.ref o)])) rfl rfl (hb hby d_prog_37_method_3_10)
  refine Go.st st3 ?_
  show Go pg.tables ev below (T3.setTop (mkF mi 13 #[.val (.ref o), .val (.int f), .val (.int s), .val (.int m), .unset, .unset, .unset, .unset] [(.ref tb)])) P
  refine Go.st (fun t_ k_ => XS.iloadN X3.here hx rfl (hb hby d_prog_37_method_3_13) rfl k_) ?_
  show Go pg.tables ev below (T3.setTop (mkF mi 14 #[.val (.ref o), .val (.int f), .val (.int s), .val (.int m), .unset, .unset, .unset, .unset] [(.int f), (.ref tb)])) P
  have ov4 := A_tb
  obtain ⟨cl4, Ar4, q4, S4, M4, H4, G4⟩ := ov4
  have hin4 : ¬ (f < 0 ∨ cl4.slots.size ≤ (f).toNatClampNeg) := inb_of S4 ⟨hf1, hf2⟩
  have hat4 : cl4.slots[(f).toNatClampNeg]? = some .null := atH H4 hin4 uT
  refine Go.st (X3.aaload hx (j := f) (v := .null) (by rw [e3]; exact Ar4.1) (State.isArrayOf_alike hZ.alike Ar4.2.1) rfl Ar4.2.2 hin4 hat4 (g := (mkF mi 14 #[.val (.ref o), .val (.int f), .val (.int s), .val (.int m), .unset, .unset, .unset, .unset] [(.int f), (.ref tb)])) rfl rfl (hb hby d_prog_37_method_3_14)) ?_
  show Go pg.tables ev below (T3.setTop (mkF mi 15 #[.val (.ref o), .val (.int f), .val (.int s), .val (.int m), .unset, .unset, .unset, .unset] [.null])) P
  refine Go.st (fun t_ k_ => XS.ifnonnullNo X3.here hx rfl (hb hby d_prog_37_method_3_15) rfl k_) ?_
  show Go pg.tables ev below (T3.setTop (mkF mi 18 #[.val (.ref o), .val (.int f), .val (.int s), .val (.int m), .unset, .unset, .unset, .unset] [])) P
  refine Go.st (fun t_ k_ => XS.aloadN X3.here hx rfl (hb hby d_prog_37_method_3_18) rfl rfl k_) ?_
  show Go pg.tables ev below (T3.setTop (mkF mi 19 #[.val (.ref o), .val (.int f), .val (.int s), .val (.int m), .unset, .unset, .unset, .unset] [(.ref o)])) P
  refine Go.st (fun t_ k_ => XS.iloadN X3.here hx rfl (hb hby d_prog_37_method_3_19) rfl k_) ?_
  show Go pg.tables ev below (T3.setTop (mkF mi 20 #[.val (.ref o), .val (.int f), .val (.int s), .val (.int m), .unset, .unset, .unset, .unset] [(.int f), (.ref o)])) P
  obtain ⟨cq5, q5, q5'⟩ := E0.cell
  obtain ⟨_, _, ⟨T5, L5, k5, n5⟩, -, X5, ⟨Lc5, hQ5, l5, y5, z5⟩, st5⟩ := X3.privateBack hx (y := (⟨"com/example/hedge/hedge/automaton/PairMarks", "begin", "(I)V"⟩ : MethodName)) hown (mvT hZ (hw _ (List.mem_of_getElem? (i := 31) rfl))) (mvT hZ (hw _ (List.mem_of_getElem? (i := 32) rfl))) (own_selp hZ (hw _ (List.mem_of_getElem? (i := 2) rfl)) (hw _ (List.mem_of_getElem? (i := 33) rfl)) (hw _ (List.mem_of_getElem? (i := 32) rfl))) (Cond.privateMethod_at (mvP hZ (hw _ (List.mem_of_getElem? (i := 33) rfl)) (args := #[]))) (mvT hZ (hw _ (List.mem_of_getElem? (i := 34) rfl))) (by decide) (backOf (W := 0) (rmBe1B l Z a0 hw [] o f rw tb sz bm kR kT kS kB N  wd hT hS hB vR h0 n0 Z0 E0 ge0 g_rw g_tb g_sz g_bm ne_o_rw ne_o_tb ne_o_sz ne_o_bm ne_rw_tb ne_rw_sz ne_rw_bm ne_tb_sz ne_tb_bm ne_sz_bm F0 F1 F2 F3 F4 F5 A_rw l_rw A_tb A_sz A_bm O_tb O_bm hf1 hf2 hwo hwd1 hwd2) hZ (hw _ (List.mem_of_getElem? (i := 34) rfl)) (hw _ (List.mem_of_getElem? (i := 3) rfl)) (by decide) (by decide)) (g := (mkF mi 20 #[.val (.ref o), .val (.int f), .val (.int s), .val (.int m), .unset, .unset, .unset, .unset] [(.int f), (.ref o)])) rfl (by rw [hml]; rfl) (Steps.refl _) (a := o) (by rw [e3]; exact q5) q5' (argsL := [(.int f)]) (rest := []) (lenOf pd_4 rfl) rfl (by show 2 * 0 + _ ≤ _; exact Nat.le_of_eq rfl) (hb hby d_prog_37_method_3_20) (fun _ _ => ⟨rfl, e3, (by decide : 0 + 1 ≤ _), (by decide : 0 + 8 ≤ _)⟩)
  dsimp only [Pt.U, Pt.locs, Pt.cells, Pt.slots] at X5 l5 y5 z5 st5 hQ5
  subst l5 y5 z5
  obtain ⟨h5, e5⟩ : ∃ z, T5.heap = z := ⟨_, rfl⟩
  rw [e5] at hQ5
  obtain ⟨rfl, N5q, K5, x5, kx5, z_x5, g_x5, FB5_0, FB5_1, FB5_2, FB5_3, FB5_4, FB5_5, AR5, AB5, AX5⟩ := hQ5
  have N5 := Fr.app N0 N5q
  have Zs6 : n0 ≤ h5.size := Nat.le_trans Z0 K5.1
  have KC6 : Keep h0 h5 [o, rw, bm] := (Keep.refl h0 [o, rw, bm]).trans K5 (allS (P := fun x => x ∈ [o, rw, bm] ∨ h0.size ≤ x) (Or.inl (List.mem_of_getElem? (i := 0) rfl)) (allS (P := fun x => x ∈ [o, rw, bm] ∨ h0.size ≤ x) (Or.inl (List.mem_of_getElem? (i := 1) rfl)) (allS (P := fun x => x ∈ [o, rw, bm] ∨ h0.size ≤ x) (Or.inl (List.mem_of_getElem? (i := 2) rfl)) all0)))
  have sz_x5 : h0.size ≤ x5 := Nat.le_trans (Keep.refl h0 [o, rw, bm]).1 z_x5
  have ne_o_x5 : o ≠ x5 := Nat.ne_of_lt (Nat.lt_of_lt_of_le E0.lt z_x5)
  have ne_rw_x5 : rw ≠ x5 := Nat.ne_of_lt (Nat.lt_of_lt_of_le A_rw.lt z_x5)
  have ne_tb_x5 : tb ≠ x5 := Nat.ne_of_lt (Nat.lt_of_lt_of_le A_tb.lt z_x5)
  have ne_sz_x5 : sz ≠ x5 := Nat.ne_of_lt (Nat.lt_of_lt_of_le A_sz.lt z_x5)
  have ne_bm_x5 : bm ≠ x5 := Nat.ne_of_lt (Nat.lt_of_lt_of_le A_bm.lt z_x5)
  refine Go.tr st5 ?_
  show Go pg.tables ev below (T5.setTop (mkF mi 23 #[.val (.ref o), .val (.int f), .val (.int s), .val (.int m), .unset, .unset, .unset, .unset] [])) P
  refine Go.st (fun t_ k_ => XS.aloadN X5.here hx rfl (hb hby d_prog_37_method_3_23) rfl rfl k_) ?_
  show Go pg.tables ev below (T5.setTop (mkF mi 24 #[.val (.ref o), .val (.int f), .val (.int s), .val (.int m), .unset, .unset, .unset, .unset] [(.ref o)])) P
  obtain ⟨T7, X7, e7, st7⟩ := getF X5 hx hZ hown (host := "") (Or.inl (hw _ (List.mem_of_getElem? (i := 24) rfl))) Via.refl e5 FB5_3 (g := (mkF mi 24 #[.val (.ref o), .val (.int f), .val (.int s), .val (.int m), .unset, .unset, .unset, .unset] [(.ref o)])) rfl rfl (hb hby d_prog_37_method_3_24)
  refine Go.st st7 ?_
  show Go pg.tables ev below (T7.setTop (mkF mi 27 #[.val (.ref o), .val (.int f), .val (.int s), .val (.int m), .unset, .unset, .unset, .unset] [(.ref bm)])) P
  refine Go.st (fun t_ k_ => XS.iloadN X7.here hx rfl (hb hby d_prog_37_method_3_27) rfl k_) ?_
  show Go pg.tables ev below (T7.setTop (mkF mi 28 #[.val (.ref o), .val (.int f), .val (.int s), .val (.int m), .unset, .unset, .unset, .unset] [(.int f), (.ref bm)])) P
  have ov8 := AB5
  obtain ⟨cl8, Ar8, q8, S8, M8, H8, G8⟩ := ov8
  have hin8 : ¬ (f < 0 ∨ cl8.slots.size ≤ (f).toNatClampNeg) := inb_of S8 ⟨hf1, hf2⟩
  have hat8 : cl8.slots[(f).toNatClampNeg]? = some (.ref x5) := atH H8 hin8 (own_hit hf1)
  refine Go.st (X7.aaload hx (j := f) (v := (.ref x5)) (by rw [e7]; exact Ar8.1) (State.isArrayOf_alike hZ.alike Ar8.2.1) rfl Ar8.2.2 hin8 hat8 (g := (mkF mi 28 #[.val (.ref o), .val (.int f), .val (.int s), .val (.int m), .unset, .unset, .unset, .unset] [(.int f), (.ref bm)])) rfl rfl (hb hby d_prog_37_method_3_28)) ?_
  show Go pg.tables ev below (T7.setTop (mkF mi 29 #[.val (.ref o), .val (.int f), .val (.int s), .val (.int m), .unset, .unset, .unset, .unset] [(.ref x5)])) P
  refine Go.st (fun t_ k_ => XS.astore X7.here hx rfl (hb hby d_prog_37_method_3_29) rfl rfl (l' := #[.val (.ref o), .val (.int f), .val (.int s), .val (.int m), .val (.ref x5), .unset, .unset, .unset]) rfl k_) ?_
  show Go pg.tables ev below (T7.setTop (mkF mi 31 #[.val (.ref o), .val (.int f), .val (.int s), .val (.int m), .val (.ref x5), .unset, .unset, .unset] [])) P
  refine Go.st (fun t_ k_ => XS.aload X7.here hx rfl (hb hby d_prog_37_method_3_31) rfl rfl k_) ?_
  show Go pg.tables ev below (T7.setTop (mkF mi 33 #[.val (.ref o), .val (.int f), .val (.int s), .val (.int m), .val (.ref x5), .unset, .unset, .unset] [(.ref x5)])) P
  refine Go.st (fun t_ k_ => XS.ifnullNo X7.here hx rfl (hb hby d_prog_37_method_3_33) rfl k_) ?_
  show Go pg.tables ev below (T7.setTop (mkF mi 36 #[.val (.ref o), .val (.int f), .val (.int s), .val (.int m), .val (.ref x5), .unset, .unset, .unset] [])) P
  refine Go.st (fun t_ k_ => XS.iloadN X7.here hx rfl (hb hby d_prog_37_method_3_36) rfl k_) ?_
  show Go pg.tables ev below (T7.setTop (mkF mi 37 #[.val (.ref o), .val (.int f), .val (.int s), .val (.int m), .val (.ref x5), .unset, .unset, .unset] [(.int m)])) P
  refine Go.st (fun t_ k_ => XS.aloadN X7.here hx rfl (hb hby d_prog_37_method_3_37) rfl rfl k_) ?_
  show Go pg.tables ev below (T7.setTop (mkF mi 38 #[.val (.ref o), .val (.int f), .val (.int s), .val (.int m), .val (.ref x5), .unset, .unset, .unset] [(.ref o), (.int m)])) P
  refine Go.st (fun t_ k_ => XS.iloadN X7.here hx rfl (hb hby d_prog_37_method_3_38) rfl k_) ?_
  show Go pg.tables ev below (T7.setTop (mkF mi 39 #[.val (.ref o), .val (.int f), .val (.int s), .val (.int m), .val (.ref x5), .unset, .unset, .unset] [(.int f), (.ref o), (.int m)])) P
  refine Go.st (fun t_ k_ => XS.iloadN X7.here hx rfl (hb hby d_prog_37_method_3_39) rfl k_) ?_
  show Go pg.tables ev below (T7.setTop (mkF mi 40 #[.val (.ref o), .val (.int f), .val (.int s), .val (.int m), .val (.ref x5), .unset, .unset, .unset] [(.int s), (.int f), (.ref o), (.int m)])) P
  have f10 := (E0.keep K5)
  have f11 := (A_tb.keep K5 (ninS (Ne.symm ne_o_tb) (ninS (Ne.symm ne_rw_tb) (ninS ne_tb_bm nin0))))
  obtain ⟨cq9, kq9, q9a, q9b, q9c⟩ := isOf hZ e7 f10
  obtain ⟨_, _, ⟨T9, L9, k9, n9⟩, -, X9, ⟨Lc9, hQ9, l9, y9, z9⟩, st9⟩ := X7.virtualBack hx (y := (⟨"com/example/hedge/hedge/automaton/PairMarks", "get", "(II)I"⟩ : MethodName)) (z := (⟨"com/example/hedge/hedge/automaton/PairMarks", "get", "(II)I"⟩ : MethodName)) hown (mvT hZ (hw _ (List.mem_of_getElem? (i := 44) rfl))) (mvT hZ (hw _ (List.mem_of_getElem? (i := 45) rfl))) (notFace_of_selects (args := #[]) (mvT hZ (hw _ (List.mem_of_getElem? (i := 47) rfl)))) (mvT hZ (hw _ (List.mem_of_getElem? (i := 47) rfl))) (mvT hZ (hw _ (List.mem_of_getElem? (i := 46) rfl))) (by decide) (backOf (W := 1) (rmGB l Z a0 hw [] o f s tb bm kT kB N hT ((f, (.ref x5)) :: hB) x5 kx5 wd [] (0 : Int64) h5 n0 Zs6 FB5_1 FB5_3 f11 AB5 hf1 hf2 (own_hit hf1) AX5 hi rfl) hZ (hw _ (List.mem_of_getElem? (i := 48) rfl)) (hw _ (List.mem_of_getElem? (i := 3) rfl)) (by decide) (by decide)) q9a q9c (g := (mkF mi 40 #[.val (.ref o), .val (.int f), .val (.int s), .val (.int m), .val (.ref x5), .unset, .unset, .unset] [(.int s), (.int f), (.ref o), (.int m)])) rfl (by rw [hml]; rfl) (Steps.refl _) (argsL := [(.int f), (.int s)]) (rest := [(.int m)]) (lenOf pd_1 rfl) rfl (by show 2 * 0 + _ ≤ _; exact Nat.le_of_eq rfl) (hb hby d_prog_37_method_3_40) (fun _ _ => ⟨rfl, e7, (by decide : 1 + 0 ≤ _), (by decide : 8 + 0 ≤ _)⟩)
  dsimp only [Pt.U, Pt.locs, Pt.cells, Pt.slots] at X9 l9 y9 z9 st9 hQ9
  subst l9 y9 z9
  obtain ⟨rfl, N9q, e9⟩ := hQ9
  have N9 := Fr.app N5 N9q
  refine Go.tr st9 ?_
  show Go pg.tables ev below (T9.setTop (mkF mi 43 #[.val (.ref o), .val (.int f), .val (.int s), .val (.int m), .val (.ref x5), .unset, .unset, .unset] [(.int (fGt (0 : Int64) s)), (.int m)])) P
  refine Go.st (fun t_ k_ => XS.iconst X9.here hx rfl (hb hby d_prog_37_method_3_43) k_) ?_
  show Go pg.tables ev below (T9.setTop (mkF mi 44 #[.val (.ref o), .val (.int f), .val (.int s), .val (.int m), .val (.ref x5), .unset, .unset, .unset] [(.int (-1 : Int32)), (.int (fGt (0 : Int64) s)), (.int m)])) P
  refine Go.st (fun t_ k_ => XS.ixor X9.here hx rfl (hb hby d_prog_37_method_3_44) rfl k_) ?_
  show Go pg.tables ev below (T9.setTop (mkF mi 45 #[.val (.ref o), .val (.int f), .val (.int s), .val (.int m), .val (.ref x5), .unset, .unset, .unset] [(.int ((fGt (0 : Int64) s) ^^^ (-1 : Int32))), (.int m)])) P
  refine Go.st (fun t_ k_ => XS.iand X9.here hx rfl (hb hby d_prog_37_method_3_45) rfl k_) ?_
  show Go pg.tables ev below (T9.setTop (mkF mi 46 #[.val (.ref o), .val (.int f), .val (.int s), .val (.int m), .val (.ref x5), .unset, .unset, .unset] [(.int (m &&& ((fGt (0 : Int64) s) ^^^ (-1 : Int32))))])) P
  rw [own_add0]
  show Go pg.tables ev below (T9.setTop (mkF mi 46 #[.val (.ref o), .val (.int f), .val (.int s), .val (.int m), .val (.ref x5), .unset, .unset, .unset] [(.int m)])) P
  refine Go.st (fun t_ k_ => XS.istore X9.here hx rfl (hb hby d_prog_37_method_3_46) rfl (l' := #[.val (.ref o), .val (.int f), .val (.int s), .val (.int m), .val (.ref x5), .val (.int m), .unset, .unset]) rfl k_) ?_
  show Go pg.tables ev below (T9.setTop (mkF mi 48 #[.val (.ref o), .val (.int f), .val (.int s), .val (.int m), .val (.ref x5), .val (.int m), .unset, .unset] [])) P
  refine Go.st (fun t_ k_ => XS.aload X9.here hx rfl (hb hby d_prog_37_method_3_48) rfl rfl k_) ?_
  show Go pg.tables ev below (T9.setTop (mkF mi 50 #[.val (.ref o), .val (.int f), .val (.int s), .val (.int m), .val (.ref x5), .val (.int m), .unset, .unset] [(.ref x5)])) P
  refine Go.st (fun t_ k_ => XS.iloadN X9.here hx rfl (hb hby d_prog_37_method_3_50) rfl k_) ?_
  show Go pg.tables ev below (T9.setTop (mkF mi 51 #[.val (.ref o), .val (.int f), .val (.int s), .val (.int m), .val (.ref x5), .val (.int m), .unset, .unset] [(.int s), (.ref x5)])) P
  refine Go.st (fun t_ k_ => XS.iconst X9.here hx rfl (hb hby d_prog_37_method_3_51) k_) ?_
  show Go pg.tables ev below (T9.setTop (mkF mi 52 #[.val (.ref o), .val (.int f), .val (.int s), .val (.int m), .val (.ref x5), .val (.int m), .unset, .unset] [(.int (5 : Int32)), (.int s), (.ref x5)])) P
  refine Go.st (fun t_ k_ => XS.iushr X9.here hx rfl (hb hby d_prog_37_method_3_52) rfl k_) ?_
  show Go pg.tables ev below (T9.setTop (mkF mi 53 #[.val (.ref o), .val (.int f), .val (.int s), .val (.int m), .val (.ref x5), .val (.int m), .unset, .unset] [(.int ((s.toUInt32 >>> ((5 : Int32) &&& 31).toUInt32).toInt32)), (.ref x5)])) P
  refine Go.st (fun t_ k_ => XT.dup2 X9.here hx rfl (hb hby d_prog_37_method_3_53) rfl rfl rfl k_) ?_
  show Go pg.tables ev below (T9.setTop (mkF mi 54 #[.val (.ref o), .val (.int f), .val (.int s), .val (.int m), .val (.ref x5), .val (.int m), .unset, .unset] [(.int ((s.toUInt32 >>> ((5 : Int32) &&& 31).toUInt32).toInt32)), (.ref x5), (.int ((s.toUInt32 >>> ((5 : Int32) &&& 31).toUInt32).toInt32)), (.ref x5)])) P
  have ov12 := AX5
  obtain ⟨cl12, Ar12, q12, S12, M12, H12, G12⟩ := ov12
  have hin12 : ¬ (((s.toUInt32 >>> ((5 : Int32) &&& 31).toUInt32).toInt32) < 0 ∨ cl12.slots.size ≤ (((s.toUInt32 >>> ((5 : Int32) &&& 31).toUInt32).toInt32)).toNatClampNeg) := inb_of S12 hi
  have hat12 : cl12.slots[(((s.toUInt32 >>> ((5 : Int32) &&& 31).toUInt32).toInt32)).toNatClampNeg]? = some (.long (0 : Int64)) := atH H12 hin12 rfl
  refine Go.st (X9.laload hx (j := ((s.toUInt32 >>> ((5 : Int32) &&& 31).toUInt32).toInt32)) (v := (.long (0 : Int64))) (by rw [e9]; exact Ar12.1) (State.isArrayOf_alike hZ.alike Ar12.2.1) Ar12.2.2 hin12 hat12 (g := (mkF mi 54 #[.val (.ref o), .val (.int f), .val (.int s), .val (.int m), .val (.ref x5), .val (.int m), .unset, .unset] [(.int ((s.toUInt32 >>> ((5 : Int32) &&& 31).toUInt32).toInt32)), (.ref x5), (.int ((s.toUInt32 >>> ((5 : Int32) &&& 31).toUInt32).toInt32)), (.ref x5)])) rfl rfl (hb hby d_prog_37_method_3_54)) ?_
  show Go pg.tables ev below (T9.setTop (mkF mi 55 #[.val (.ref o), .val (.int f), .val (.int s), .val (.int m), .val (.ref x5), .val (.int m), .unset, .unset] [(.long (0 : Int64)), (.int ((s.toUInt32 >>> ((5 : Int32) &&& 31).toUInt32).toInt32)), (.ref x5)])) P
  refine Go.st (fun t_ k_ => XS.iload X9.here hx rfl (hb hby d_prog_37_method_3_55) rfl k_) ?_
  show Go pg.tables ev below (T9.setTop (mkF mi 57 #[.val (.ref o), .val (.int f), .val (.int s), .val (.int m), .val (.ref x5), .val (.int m), .unset, .unset] [(.int m), (.long (0 : Int64)), (.int ((s.toUInt32 >>> ((5 : Int32) &&& 31).toUInt32).toInt32)), (.ref x5)])) P
  refine Go.st (fun t_ k_ => XS.i2l X9.here hx rfl (hb hby d_prog_37_method_3_57) rfl k_) ?_
  show Go pg.tables ev below (T9.setTop (mkF mi 58 #[.val (.ref o), .val (.int f), .val (.int s), .val (.int m), .val (.ref x5), .val (.int m), .unset, .unset] [(.long (m.toInt64)), (.long (0 : Int64)), (.int ((s.toUInt32 >>> ((5 : Int32) &&& 31).toUInt32).toInt32)), (.ref x5)])) P
  refine Go.st (fun t_ k_ => XS.iloadN X9.here hx rfl (hb hby d_prog_37_method_3_58) rfl k_) ?_
  show Go pg.tables ev below (T9.setTop (mkF mi 59 #[.val (.ref o), .val (.int f), .val (.int s), .val (.int m), .val (.ref x5), .val (.int m), .unset, .unset] [(.int s), (.long (m.toInt64)), (.long (0 : Int64)), (.int ((s.toUInt32 >>> ((5 : Int32) &&& 31).toUInt32).toInt32)), (.ref x5)])) P
  obtain ⟨_, _, ⟨T13, L13, k13, n13⟩, -, X13, ⟨Lc13, hQ13, l13, y13, z13⟩, st13⟩ := Jvm.LawKit.callS X9 hx (y := (⟨"com/example/hedge/hedge/automaton/PairMarks", "shift", "(I)I"⟩ : MethodName)) hown (mvT hZ (hw _ (List.mem_of_getElem? (i := 49) rfl))) (mvT hZ (hw _ (List.mem_of_getElem? (i := 50) rfl))) (mvT hZ (hw _ (List.mem_of_getElem? (i := 3) rfl))) (mvT hZ (hw _ (List.mem_of_getElem? (i := 51) rfl))) (by decide) (backOf (W := 6) (rmSh l Z a0 hw [] s h5 n0 Zs6) hZ (hw _ (List.mem_of_getElem? (i := 51) rfl)) (hw _ (List.mem_of_getElem? (i := 3) rfl)) (by decide) (by decide)) (g := (mkF mi 59 #[.val (.ref o), .val (.int f), .val (.int s), .val (.int m), .val (.ref x5), .val (.int m), .unset, .unset] [(.int s), (.long (m.toInt64)), (.long (0 : Int64)), (.int ((s.toUInt32 >>> ((5 : Int32) &&& 31).toUInt32).toInt32)), (.ref x5)])) rfl (by rw [hml]; rfl) (argsL := [(.int s)]) (rest := [(.long (m.toInt64)), (.long (0 : Int64)), (.int ((s.toUInt32 >>> ((5 : Int32) &&& 31).toUInt32).toInt32)), (.ref x5)]) (lenOf pd_2 rfl) rfl (by show 2 * 0 + _ ≤ _; exact Nat.le_of_eq rfl) (hb hby d_prog_37_method_3_59) (fun _ _ => ⟨rfl, e9, (by decide : 1 + 0 ≤ _), (by decide : 8 + 0 ≤ _)⟩)
  dsimp only [Pt.U, Pt.locs, Pt.cells, Pt.slots] at X13 l13 y13 z13 st13 hQ13
  subst l13 y13 z13
  obtain ⟨rfl, N13q, e13⟩ := hQ13
  have N13 := Fr.app N9 N13q
  refine Go.st st13 ?_
  show Go pg.tables ev below (T13.setTop (mkF mi 62 #[.val (.ref o), .val (.int f), .val (.int s), .val (.int m), .val (.ref x5), .val (.int m), .unset, .unset] [(.int (fSh s)), (.long (m.toInt64)), (.long (0 : Int64)), (.int ((s.toUInt32 >>> ((5 : Int32) &&& 31).toUInt32).toInt32)), (.ref x5)])) P
  refine Go.st (fun t_ k_ => XS.lshl X13.here hx rfl (hb hby d_prog_37_method_3_62) rfl k_) ?_
  show Go pg.tables ev below (T13.setTop (mkF mi 63 #[.val (.ref o), .val (.int f), .val (.int s), .val (.int m), .val (.ref x5), .val (.int m), .unset, .unset] [(.long ((m.toInt64) <<< ((fSh s) &&& 0x3f).toInt64)), (.long (0 : Int64)), (.int ((s.toUInt32 >>> ((5 : Int32) &&& 31).toUInt32).toInt32)), (.ref x5)])) P
  refine Go.st (fun t_ k_ => XS.lor X13.here hx rfl (hb hby d_prog_37_method_3_63) rfl k_) ?_
  show Go pg.tables ev below (T13.setTop (mkF mi 64 #[.val (.ref o), .val (.int f), .val (.int s), .val (.int m), .val (.ref x5), .val (.int m), .unset, .unset] [(.long ((0 : Int64) ||| ((m.toInt64) <<< ((fSh s) &&& 0x3f).toInt64))), (.int ((s.toUInt32 >>> ((5 : Int32) &&& 31).toUInt32).toInt32)), (.ref x5)])) P
  have ov14 := AX5
  obtain ⟨cl14, Ar14, q14, S14, M14, H14, G14⟩ := ov14
  have hin14 : ¬ (((s.toUInt32 >>> ((5 : Int32) &&& 31).toUInt32).toInt32) < 0 ∨ cl14.slots.size ≤ (((s.toUInt32 >>> ((5 : Int32) &&& 31).toUInt32).toInt32)).toNatClampNeg) := inb_of S14 hi
  obtain ⟨T15, h15, X15, e15, W15, st15⟩ := stJ X13 hx hZ e13 Ar14 (j := ((s.toUInt32 >>> ((5 : Int32) &&& 31).toUInt32).toInt32)) hin14 (g := (mkF mi 64 #[.val (.ref o), .val (.int f), .val (.int s), .val (.int m), .val (.ref x5), .val (.int m), .unset, .unset] [(.long ((0 : Int64) ||| ((m.toInt64) <<< ((fSh s) &&& 0x3f).toInt64))), (.int ((s.toUInt32 >>> ((5 : Int32) &&& 31).toUInt32).toInt32)), (.ref x5)])) rfl rfl (hb hby d_prog_37_method_3_64)
  have Zs16 : n0 ≤ h15.size := Nat.le_trans Zs6 (Keep.of_wr W15).1
  have KC16 : Keep h0 h15 [o, rw, bm] := KC6.wr W15 (Or.inr sz_x5)
  have N16 := Fr.snoc X15 N13 g_x5
  have V15 : Arh Z h15 x5 kx5 .long wd ((((s.toUInt32 >>> ((5 : Int32) &&& 31).toUInt32).toInt32), (.long ((0 : Int64) ||| ((m.toInt64) <<< ((fSh s) &&& 0x3f).toInt64)))) :: []) [] (.long (0 : Int64)) := Arh.push Ar14 q14 S14 M14 H14 G14 rfl W15 hin14
  refine Go.st st15 ?_
  show Go pg.tables ev below (T15.setTop (mkF mi 65 #[.val (.ref o), .val (.int f), .val (.int s), .val (.int m), .val (.ref x5), .val (.int m), .unset, .unset] [])) P
  refine Go.st (fun t_ k_ => XS.iload X15.here hx rfl (hb hby d_prog_37_method_3_65) rfl k_) ?_
  show Go pg.tables ev below (T15.setTop (mkF mi 67 #[.val (.ref o), .val (.int f), .val (.int s), .val (.int m), .val (.ref x5), .val (.int m), .unset, .unset] [(.int m)])) P
  obtain ⟨fs, hr, hrun, hended, hW, hsame⟩ := X15.leave (v := some (.int m)) (fun h => by rw [Bd.returns] at h; cases h) (BodyLoose.notSynchronized Bd)
  have f17 := (FB5_0.other W15 (Or.inl ne_o_x5))
  have f18 := (FB5_1.other W15 (Or.inl ne_o_x5))
  have f19 := (FB5_2.other W15 (Or.inl ne_o_x5))
  have f20 := (FB5_3.other W15 (Or.inl ne_o_x5))
  have f21 := (FB5_4.other W15 (Or.inl ne_o_x5))
  have f22 := (FB5_5.other W15 (Or.inl ne_o_x5))
  have f23 := (AR5.other W15 ne_rw_x5)
  have f24 := (AB5.other W15 ne_bm_x5)
  refine ⟨_, _, ?_, hP _ _ ⟨hrun, hended, _, _, rfl, ?_, ⟨_, rfl⟩, hW, hsame.mono (by decide) (by decide)⟩⟩
  · exact retI X15 hx Bd.returns (hb hby d_prog_37_method_3_67) hr
  · show (some (.int m) : Option Value) = some (.int m) ∧ Fr n0 _ ∧ Keep h0 T15.heap [o, rw, bm] ∧ ∃ (x : Addr) (kx : ClassId), h0.size ≤ x ∧ n0 ≤ x ∧ Fld Z T15.heap o "com/example/hedge/hedge/automaton/PairMarks" "rows" "[I" (.ref rw) ∧ Fld Z T15.heap o "com/example/hedge/hedge/automaton/PairMarks" "tables" "[[I" (.ref tb) ∧ Fld Z T15.heap o "com/example/hedge/hedge/automaton/PairMarks" "sizes" "[I" (.ref sz) ∧ Fld Z T15.heap o "com/example/hedge/hedge/automaton/PairMarks" "bitmaps" "[[J" (.ref bm) ∧ Fld Z T15.heap o "com/example/hedge/hedge/automaton/PairMarks" "words" "I" (.int wd) ∧ Fld Z T15.heap o "com/example/hedge/hedge/automaton/PairMarks" "rowCount" "I" (.int (2 : Int32)) ∧ Arv Z T15.heap rw kR .int (16 : Int32) (vR.set 1 (.int f)) (.int (0 : Int32)) ∧ Arh Z T15.heap bm kB (.array .long) N ((f, .ref x) :: hB) [] .null ∧ Arh Z T15.heap x kx .long wd [(((s.toUInt32 >>> ((5 : Int32) &&& 31).toUInt32).toInt32), .long (fPu m s))] [] (.long (0 : Int64))
    rw [e15]
    exact ⟨rfl, N16, KC16, x5, _, sz_x5, g_x5, f17, f18, f19, f20, f21, f22, f23, f24, V15⟩
theorem ef_rmAN1T (mi : MethodId) (o : Addr) (f : Int32) (s : Int32) (m : Int32) (rw : Addr) (tb : Addr) (sz : Addr) (bm : Addr) (kR : ClassId) (kT : ClassId) (kS : ClassId) (kB : ClassId) (N : Int32) (wd : Int32) (hT : List (Int32 × Value)) (hS : List (Int32 × Value)) (hB : List (Int32 × Value)) (vR : List Value) : entryFrame mi #[(.ref o), (.int f), (.int s), (.int m)] 8 = mkF mi 0 #[.val (.ref o), .val (.int f), .val (.int s), .val (.int m), .unset, .unset, .unset, .unset] [] := by first | (simp [entryFrame, mkF, argsToLocals, Value.category]; done) | rfl
def Q_rmAN1T (Z : State) (o : Addr) (f : Int32) (s : Int32) (m : Int32) (rw : Addr) (tb : Addr) (sz : Addr) (bm : Addr) (kR : ClassId) (kT : ClassId) (kS : ClassId) (kB : ClassId) (N : Int32) (wd : Int32) (hT : List (Int32 × Value)) (hS : List (Int32 × Value)) (hB : List (Int32 × Value)) (vR : List Value) (h0 : Heap) (n0 : Nat) (vv_ : Option Value) (hh_ : Heap) (LL_ : List Loc) : Prop := vv_ = some (.int m) ∧ Fr n0 LL_ ∧ Keep h0 hh_ [o, rw, tb, sz] ∧ ∃ (x : Addr) (kx : ClassId), h0.size ≤ x ∧ n0 ≤ x ∧ Fld Z hh_ o "com/example/hedge/hedge/automaton/PairMarks" "rows" "[I" (.ref rw) ∧ Fld Z hh_ o "com/example/hedge/hedge/automaton/PairMarks" "tables" "[[I" (.ref tb) ∧ Fld Z hh_ o "com/example/hedge/hedge/automaton/PairMarks" "sizes" "[I" (.ref sz) ∧ Fld Z hh_ o "com/example/hedge/hedge/automaton/PairMarks" "bitmaps" "[[J" (.ref bm) ∧ Fld Z hh_ o "com/example/hedge/hedge/automaton/PairMarks" "words" "I" (.int wd) ∧ Fld Z hh_ o "com/example/hedge/hedge/automaton/PairMarks" "rowCount" "I" (.int (2 : Int32)) ∧ Arv Z hh_ rw kR .int (16 : Int32) (vR.set 1 (.int f)) (.int (0 : Int32)) ∧ Arh Z hh_ tb kT (.array .int) N ((f, .ref x) :: hT) [] .null ∧ Arh Z hh_ sz kS .int N ((f, .int (1 : Int32)) :: hS) [] (.int (0 : Int32)) ∧ Arh Z hh_ x kx .int (4 : Int32) [((fSl s (3 : Int32)), .int ((fKe s) ||| m))] [] (.int (0 : Int32))
set_option maxRecDepth 65536 in
set_option maxHeartbeats 40000000 in
theorem rmAN1T (l : Launch) (Z : State) (a0 : Array Value) (hw : ∀ d ∈ tables_1, d.before a0 Z = true) (ws : List Jvm.Cond) (o : Addr) (f : Int32) (s : Int32) (m : Int32) (rw : Addr) (tb : Addr) (sz : Addr) (bm : Addr) (kR : ClassId) (kT : ClassId) (kS : ClassId) (kB : ClassId) (N : Int32) (wd : Int32) (hT : List (Int32 × Value)) (hS : List (Int32 × Value)) (hB : List (Int32 × Value)) (vR : List Value) (h0 : Heap) (n0 : Nat) (Z0 : n0 ≤ h0.size) (E0 : Exa Z h0 o "com/example/hedge/hedge/automaton/PairMarks") (ge0 : n0 ≤ o) (g_rw : n0 ≤ rw) (g_tb : n0 ≤ tb) (g_sz : n0 ≤ sz) (g_bm : n0 ≤ bm) (ne_o_rw : o ≠ rw) (ne_o_tb : o ≠ tb) (ne_o_sz : o ≠ sz) (ne_o_bm : o ≠ bm) (ne_rw_tb : rw ≠ tb) (ne_rw_sz : rw ≠ sz) (ne_rw_bm : rw ≠ bm) (ne_tb_sz : tb ≠ sz) (ne_tb_bm : tb ≠ bm) (ne_sz_bm : sz ≠ bm) (F0 : Fld Z h0 o "com/example/hedge/hedge/automaton/PairMarks" "rows" "[I" (.ref rw)) (F1 : Fld Z h0 o "com/example/hedge/hedge/automaton/PairMarks" "tables" "[[I" (.ref tb)) (F2 : Fld Z h0 o "com/example/hedge/hedge/automaton/PairMarks" "sizes" "[I" (.ref sz)) (F3 : Fld Z h0 o "com/example/hedge/hedge/automaton/PairMarks" "bitmaps" "[[J" (.ref bm)) (F4 : Fld Z h0 o "com/example/hedge/hedge/automaton/PairMarks" "words" "I" (.int wd)) (F5 : Fld Z h0 o "com/example/hedge/hedge/automaton/PairMarks" "rowCount" "I" (.int (1 : Int32))) (A_rw : Arv Z h0 rw kR .int (16 : Int32) vR (.int (0 : Int32))) (l_rw : vR.length = 16) (A_tb : Arh Z h0 tb kT (.array .int) N hT [] .null) (A_sz : Arh Z h0 sz kS .int N hS [] (.int (0 : Int32))) (A_bm : Arh Z h0 bm kB (.array .long) N hB [] .null) (O_tb : OvrA Z kT .int "[I") (O_bm : OvrA Z kB .long "[J") (hf1 : ¬ f < 0) (hf2 : f < N) (hwo : (4 : Int64) < ((2 : Int64) * (wd.toInt64))) (hN1 : 1 ≤ N.toInt) (hN2 : N.toInt ≤ 256) (hwd : wd = fWd N) (hwd1 : 1 ≤ wd.toInt) (hwd2 : wd.toInt ≤ 8) (hs : ¬ s < 0 ∧ s < N) (uB : getH hB [] .null f.toNatClampNeg = .null) (uT : getH hT [] .null f.toNatClampNeg = .null) (uS : getH hS [] (.int (0 : Int32)) f.toNatClampNeg = .int (0 : Int32)) :
    MetFree l (⟨"com/example/hedge/hedge/automaton/PairMarks", "add", "(III)I"⟩ : MethodName) (head1 (Jvm.Cond.code (⟨"com/example/hedge/hedge/automaton/PairMarks", "add", "(III)I"⟩ : MethodName) prog_37_method_3_code 8 (some .int) :: ws) ({ frames := 2, cells := 1, slots := 4, locals := 29 } : Room)) (fun aa_ U => aa_ = #[(.ref o), (.int f), (.int s), (.int m)] ∧ Z.Warmed39 U.vm ∧ U.heap = h0) (fun _ _ _ _ _ => True) (fun _ U oo_ UV_ => ∃ vv_ LL_, oo_ = .returned vv_ ∧ Q_rmAN1T Z o f s m rw tb sz bm kR kT kS kB N wd hT hS hB vR h0 n0 vv_ UV_.heap LL_ ∧ FrameEnd U oo_ UV_ LL_ ({ frames := 2, cells := 1, slots := 4, locals := 29 } : Room).cells ({ frames := 2, cells := 1, slots := 4, locals := 29 } : Room).slots) := by
  refine MetFree.of_bodySF (plainFor_of_name pn_0) hisR ?_
  intro pg ev si mi args below meth ci s₁ Bd hml0 hP0 hK
  obtain ⟨rfl, hZ, hh⟩ := hP0
  have hx := Bd.exec
  have hby := Bd.bytes
  have hml : ci.maxLocals = 8 := hml0
  have hown : si.vm.findClass "com/example/hedge/hedge/automaton/PairMarks" = some mi.cls := findClass_of_methodNamed Bd.named
  have hnm := (name_of_methodNamed Bd.named Bd.method).1
  have X0 : Stand pg l ev ({ frames := 2, cells := 1, slots := 4, locals := 29 } : Room) si mi #[(.ref o), (.int f), (.int s), (.int m)] below meth ci s₁ [] 0 0 := Stand.of_body Bd
  have e0 : s₁.heap = h0 := by rw [← hh, Bd.state]; rfl
  have N0 := Fr.nil n0
  refine Go.start (fun P hP => ?_)
  refine Go.st (fun t_ k_ => castTop (ef_rmAN1T mi o f s m rw tb sz bm kR kT kS kB N wd hT hS hB vR) k_) (A := s₁.setTop (mkF mi 0 #[.val (.ref o), .val (.int f), .val (.int s), .val (.int m), .unset, .unset, .unset, .unset] [])) ?_
  have hi := own_bit hN1 hN2 hwd hs
  show Go pg.tables ev below (s₁.setTop (mkF mi 0 #[.val (.ref o), .val (.int f), .val (.int s), .val (.int m), .unset, .unset, .unset, .unset] [])) P
  refine Go.st (fun t_ k_ => XS.aloadN X0.here hx rfl (hb hby d_prog_37_method_3_0) rfl rfl k_) ?_
  show Go pg.tables ev below (s₁.setTop (mkF mi 1 #[.val (.ref o), .val (.int f), .val (.int s), .val (.int m), .unset, .unset, .unset, .unset] [(.ref o)])) P
  obtain ⟨T1, X1, e1, st1⟩ := getF X0 hx hZ hown (host := "") (Or.inl (hw _ (List.mem_of_getElem? (i := 24) rfl))) Via.refl e0 F3 (g := (mkF mi 1 #[.val (.ref o), .val (.int f), .val (.int s), .val (.int m), .unset, .unset, .unset, .unset] [(.ref o)])) rfl rfl (hb hby d_prog_37_method_3_1)
  refine Go.st st1 ?_
  show Go pg.tables ev below (T1.setTop (mkF mi 4 #[.val (.ref o), .val (.int f), .val (.int s), .val (.int m), .unset, .unset, .unset, .unset] [(.ref bm)])) P
  refine Go.st (fun t_ k_ => XS.iloadN X1.here hx rfl (hb hby d_prog_37_method_3_4) rfl k_) ?_
  show Go pg.tables ev below (T1.setTop (mkF mi 5 #[.val (.ref o), .val (.int f), .val (.int s), .val (.int m), .unset, .unset, .unset, .unset] [(.int f), (.ref bm)])) P
  have ov2 := A_bm
  obtain ⟨cl2, Ar2, q2, S2, M2, H2, G2⟩ := ov2
  have hin2 : ¬ (f < 0 ∨ cl2.slots.size ≤ (f).toNatClampNeg) := inb_of S2 ⟨hf1, hf2⟩
  have hat2 : cl2.slots[(f).toNatClampNeg]? = some .null := atH H2 hin2 uB
  refine Go.st (X1.aaload hx (j := f) (v := .null) (by rw [e1]; exact Ar2.1) (State.isArrayOf_alike hZ.alike Ar2.2.1) rfl Ar2.2.2 hin2 hat2 (g := (mkF mi 5 #[.val (.ref o), .val (.int f), .val (.int s), .val (.int m), .unset, .unset, .unset, .unset] [(.int f), (.ref bm)])) rfl rfl (hb hby d_prog_37_method_3_5)) ?_
  show Go pg.tables ev below (T1.setTop (mkF mi 6 #[.val (.ref o), .val (.int f), .val (.int s), .val (.int m), .unset, .unset, .unset, .unset] [.null])) P
  refine Go.st (fun t_ k_ => XS.ifnonnullNo X1.here hx rfl (hb hby d_prog_37_method_3_6) rfl k_) ?_
  show Go pg.tables ev below (T1.setTop (mkF mi 9 #[.val (.ref o), .val (.int f), .val (.int s), .val (.int m), .unset, .unset, .unset, .unset] [])) P
  refine Go.st (fun t_ k_ => XS.aloadN X1.here hx rfl (hb hby d_prog_37_method_3_9) rfl rfl k_) ?_
  show Go pg.tables ev below (T1.setTop (mkF mi 10 #[.val (.ref o), .val (.int f), .val (.int s), .val (.int m), .unset, .unset, .unset, .unset] [(.ref o)])) P
  obtain ⟨T3, X3, e3, st3⟩ := getF X1 hx hZ hown (host := "") (Or.inl (hw _ (List.mem_of_getElem? (i := 18) rfl))) Via.refl e1 F1 (g := (mkF mi 10 #[.val (.ref o), .val (.int f), .val (.int s), .val (.int m), .unset, .unset, .unset, .unset] [(.ref o)])) rfl rfl (hb hby d_prog_37_method_3_10)
  refine Go.st st3 ?_
  show Go pg.tables ev below (T3.setTop (mkF mi 13 #[.val (.ref o), .val (.int f), .val (.int s), .val (.int m), .unset, .unset, .unset, .unset] [(.ref tb)])) P
  refine Go.st (fun t_ k_ => XS.iloadN X3.here hx rfl (hb hby d_prog_37_method_3_13) rfl k_) ?_
  show Go pg.tables ev below (T3.setTop (mkF mi 14 #[.val (.ref o), .val (.int f), .val (.int s), .val (.int m), .unset, .unset, .unset, .unset] [(.int f), (.ref tb)])) P
  have ov4 := A_tb
  obtain ⟨cl4, Ar4, q4, S4, M4, H4, G4⟩ := ov4
  have hin4 : ¬ (f < 0 ∨ cl4.slots.size ≤ (f).toNatClampNeg) := inb_of S4 ⟨hf1, hf2⟩
  have hat4 : cl4.slots[(f).toNatClampNeg]? = some .null := atH H4 hin4 uT
  refine Go.st (X3.aaload hx (j := f) (v := .null) (by rw [e3]; exact Ar4.1) (State.isArrayOf_alike hZ.alike Ar4.2.1) rfl Ar4.2.2 hin4 hat4 (g := (mkF mi 14 #[.val (.ref o), .val (.int f), .val (.int s), .val (.int m), .unset, .unset, .unset, .unset] [(.int f), (.ref tb)])) rfl rfl (hb hby d_prog_37_method_3_14)) ?_
  show Go pg.tables ev below (T3.setTop (mkF mi 15 #[.val (.ref o), .val (.int f), .val (.int s), .val (.int m), .unset, .unset, .unset, .unset] [.null])) P
  refine Go.st (fun t_ k_ => XS.ifnonnullNo X3.here hx rfl (hb hby d_prog_37_method_3_15) rfl k_) ?_
  show Go pg.tables ev below (T3.setTop (mkF mi 18 #[.val (.ref o), .val (.int f), .val (.int s), .val (.int m), .unset, .unset, .unset, .unset] [])) P
  refine Go.st (fun t_ k_ => XS.aloadN X3.here hx rfl (hb hby d_prog_37_method_3_18) rfl rfl k_) ?_
  show Go pg.tables ev below (T3.setTop (mkF mi 19 #[.val (.ref o), .val (.int f), .val (.int s), .val (.int m), .unset, .unset, .unset, .unset] [(.ref o)])) P
  refine Go.st (fun t_ k_ => XS.iloadN X3.here hx rfl (hb hby d_prog_37_method_3_19) rfl k_) ?_
  show Go pg.tables ev below (T3.setTop (mkF mi 20 #[.val (.ref o), .val (.int f), .val (.int s), .val (.int m), .unset, .unset, .unset, .unset] [(.int f), (.ref o)])) P
  obtain ⟨cq5, q5, q5'⟩ := E0.cell
  obtain ⟨_, _, ⟨T5, L5, k5, n5⟩, -, X5, ⟨Lc5, hQ5, l5, y5, z5⟩, st5⟩ := X3.privateBack hx (y := (⟨"com/example/hedge/hedge/automaton/PairMarks", "begin", "(I)V"⟩ : MethodName)) hown (mvT hZ (hw _ (List.mem_of_getElem? (i := 31) rfl))) (mvT hZ (hw _ (List.mem_of_getElem? (i := 32) rfl))) (own_selp hZ (hw _ (List.mem_of_getElem? (i := 2) rfl)) (hw _ (List.mem_of_getElem? (i := 33) rfl)) (hw _ (List.mem_of_getElem? (i := 32) rfl))) (Cond.privateMethod_at (mvP hZ (hw _ (List.mem_of_getElem? (i := 33) rfl)) (args := #[]))) (mvT hZ (hw _ (List.mem_of_getElem? (i := 34) rfl))) (by decide) (backOf (W := 0) (rmBe1T l Z a0 hw [] o f rw tb sz bm kR kT kS kB N  wd hT hS hB vR h0 n0 Z0 E0 ge0 g_rw g_tb g_sz g_bm ne_o_rw ne_o_tb ne_o_sz ne_o_bm ne_rw_tb ne_rw_sz ne_rw_bm ne_tb_sz ne_tb_bm ne_sz_bm F0 F1 F2 F3 F4 F5 A_rw l_rw A_tb A_sz A_bm O_tb O_bm hf1 hf2 hwo hwd1 hwd2) hZ (hw _ (List.mem_of_getElem? (i := 34) rfl)) (hw _ (List.mem_of_getElem? (i := 3) rfl)) (by decide) (by decide)) (g := (mkF mi 20 #[.val (.ref o), .val (.int f), .val (.int s), .val (.int m), .unset, .unset, .unset, .unset] [(.int f), (.ref o)])) rfl (by rw [hml]; rfl) (Steps.refl _) (a := o) (by rw [e3]; exact q5) q5' (argsL := [(.int f)]) (rest := []) (lenOf pd_4 rfl) rfl (by show 2 * 0 + _ ≤ _; exact Nat.le_of_eq rfl) (hb hby d_prog_37_method_3_20) (fun _ _ => ⟨rfl, e3, (by decide : 0 + 1 ≤ _), (by decide : 0 + 4 ≤ _)⟩)
  dsimp only [Pt.U, Pt.locs, Pt.cells, Pt.slots] at X5 l5 y5 z5 st5 hQ5
  subst l5 y5 z5
  obtain ⟨h5, e5⟩ : ∃ z, T5.heap = z := ⟨_, rfl⟩
  rw [e5] at hQ5
  obtain ⟨rfl, N5q, K5, x5, kx5, z_x5, g_x5, FB5_0, FB5_1, FB5_2, FB5_3, FB5_4, FB5_5, AR5, AB5, AX5⟩ := hQ5
  have N5 := Fr.app N0 N5q
  have Zs6 : n0 ≤ h5.size := Nat.le_trans Z0 K5.1
  have KC6 : Keep h0 h5 [o, rw, tb, sz] := (Keep.refl h0 [o, rw, tb, sz]).trans K5 (allS (P := fun x => x ∈ [o, rw, tb, sz] ∨ h0.size ≤ x) (Or.inl (List.mem_of_getElem? (i := 0) rfl)) (allS (P := fun x => x ∈ [o, rw, tb, sz] ∨ h0.size ≤ x) (Or.inl (List.mem_of_getElem? (i := 1) rfl)) (allS (P := fun x => x ∈ [o, rw, tb, sz] ∨ h0.size ≤ x) (Or.inl (List.mem_of_getElem? (i := 2) rfl)) all0)))
  have sz_x5 : h0.size ≤ x5 := Nat.le_trans (Keep.refl h0 [o, rw, tb, sz]).1 z_x5
  have ne_o_x5 : o ≠ x5 := Nat.ne_of_lt (Nat.lt_of_lt_of_le E0.lt z_x5)
  have ne_rw_x5 : rw ≠ x5 := Nat.ne_of_lt (Nat.lt_of_lt_of_le A_rw.lt z_x5)
  have ne_tb_x5 : tb ≠ x5 := Nat.ne_of_lt (Nat.lt_of_lt_of_le A_tb.lt z_x5)
  have ne_sz_x5 : sz ≠ x5 := Nat.ne_of_lt (Nat.lt_of_lt_of_le A_sz.lt z_x5)
  have ne_bm_x5 : bm ≠ x5 := Nat.ne_of_lt (Nat.lt_of_lt_of_le A_bm.lt z_x5)
  refine Go.tr st5 ?_
  show Go pg.tables ev below (T5.setTop (mkF mi 23 #[.val (.ref o), .val (.int f), .val (.int s), .val (.int m), .unset, .unset, .unset, .unset] [])) P
  refine Go.st (fun t_ k_ => XS.aloadN X5.here hx rfl (hb hby d_prog_37_method_3_23) rfl rfl k_) ?_
  show Go pg.tables ev below (T5.setTop (mkF mi 24 #[.val (.ref o), .val (.int f), .val (.int s), .val (.int m), .unset, .unset, .unset, .unset] [(.ref o)])) P
  obtain ⟨T7, X7, e7, st7⟩ := getF X5 hx hZ hown (host := "") (Or.inl (hw _ (List.mem_of_getElem? (i := 24) rfl))) Via.refl e5 FB5_3 (g := (mkF mi 24 #[.val (.ref o), .val (.int f), .val (.int s), .val (.int m), .unset, .unset, .unset, .unset] [(.ref o)])) rfl rfl (hb hby d_prog_37_method_3_24)
  refine Go.st st7 ?_
  show Go pg.tables ev below (T7.setTop (mkF mi 27 #[.val (.ref o), .val (.int f), .val (.int s), .val (.int m), .unset, .unset, .unset, .unset] [(.ref bm)])) P
  refine Go.st (fun t_ k_ => XS.iloadN X7.here hx rfl (hb hby d_prog_37_method_3_27) rfl k_) ?_
  show Go pg.tables ev below (T7.setTop (mkF mi 28 #[.val (.ref o), .val (.int f), .val (.int s), .val (.int m), .unset, .unset, .unset, .unset] [(.int f), (.ref bm)])) P
  have f8 := (A_bm.keep K5 (ninS (Ne.symm ne_o_bm) (ninS (Ne.symm ne_rw_bm) (ninS (Ne.symm ne_tb_bm) nin0))))
  have ov9 := f8
  obtain ⟨cl9, Ar9, q9, S9, M9, H9, G9⟩ := ov9
  have hin9 : ¬ (f < 0 ∨ cl9.slots.size ≤ (f).toNatClampNeg) := inb_of S9 ⟨hf1, hf2⟩
  have hat9 : cl9.slots[(f).toNatClampNeg]? = some .null := atH H9 hin9 uB
  refine Go.st (X7.aaload hx (j := f) (v := .null) (by rw [e7]; exact Ar9.1) (State.isArrayOf_alike hZ.alike Ar9.2.1) rfl Ar9.2.2 hin9 hat9 (g := (mkF mi 28 #[.val (.ref o), .val (.int f), .val (.int s), .val (.int m), .unset, .unset, .unset, .unset] [(.int f), (.ref bm)])) rfl rfl (hb hby d_prog_37_method_3_28)) ?_
  show Go pg.tables ev below (T7.setTop (mkF mi 29 #[.val (.ref o), .val (.int f), .val (.int s), .val (.int m), .unset, .unset, .unset, .unset] [.null])) P
  refine Go.st (fun t_ k_ => XS.astore X7.here hx rfl (hb hby d_prog_37_method_3_29) rfl rfl (l' := #[.val (.ref o), .val (.int f), .val (.int s), .val (.int m), .val .null, .unset, .unset, .unset]) rfl k_) ?_
  show Go pg.tables ev below (T7.setTop (mkF mi 31 #[.val (.ref o), .val (.int f), .val (.int s), .val (.int m), .val .null, .unset, .unset, .unset] [])) P
  refine Go.st (fun t_ k_ => XS.aload X7.here hx rfl (hb hby d_prog_37_method_3_31) rfl rfl k_) ?_
  show Go pg.tables ev below (T7.setTop (mkF mi 33 #[.val (.ref o), .val (.int f), .val (.int s), .val (.int m), .val .null, .unset, .unset, .unset] [.null])) P
  refine Go.st (fun t_ k_ => XS.ifnullYes X7.here hx rfl (pc0 := 33) (pc' := 68) rfl (hb hby d_prog_37_method_3_33) rfl (by decide) (by decide) k_) ?_
  show Go pg.tables ev below (T7.setTop (mkF mi 68 #[.val (.ref o), .val (.int f), .val (.int s), .val (.int m), .val .null, .unset, .unset, .unset] [])) P
  refine Go.st (fun t_ k_ => XS.aloadN X7.here hx rfl (hb hby d_prog_37_method_3_68) rfl rfl k_) ?_
  show Go pg.tables ev below (T7.setTop (mkF mi 69 #[.val (.ref o), .val (.int f), .val (.int s), .val (.int m), .val .null, .unset, .unset, .unset] [(.ref o)])) P
  obtain ⟨T10, X10, e10, st10⟩ := getF X7 hx hZ hown (host := "") (Or.inl (hw _ (List.mem_of_getElem? (i := 18) rfl))) Via.refl e7 FB5_1 (g := (mkF mi 69 #[.val (.ref o), .val (.int f), .val (.int s), .val (.int m), .val .null, .unset, .unset, .unset] [(.ref o)])) rfl rfl (hb hby d_prog_37_method_3_69)
  refine Go.st st10 ?_
  show Go pg.tables ev below (T10.setTop (mkF mi 72 #[.val (.ref o), .val (.int f), .val (.int s), .val (.int m), .val .null, .unset, .unset, .unset] [(.ref tb)])) P
  refine Go.st (fun t_ k_ => XS.iloadN X10.here hx rfl (hb hby d_prog_37_method_3_72) rfl k_) ?_
  show Go pg.tables ev below (T10.setTop (mkF mi 73 #[.val (.ref o), .val (.int f), .val (.int s), .val (.int m), .val .null, .unset, .unset, .unset] [(.int f), (.ref tb)])) P
  have ov11 := AB5
  obtain ⟨cl11, Ar11, q11, S11, M11, H11, G11⟩ := ov11
  have hin11 : ¬ (f < 0 ∨ cl11.slots.size ≤ (f).toNatClampNeg) := inb_of S11 ⟨hf1, hf2⟩
  have hat11 : cl11.slots[(f).toNatClampNeg]? = some (.ref x5) := atH H11 hin11 (own_hit hf1)
  refine Go.st (X10.aaload hx (j := f) (v := (.ref x5)) (by rw [e10]; exact Ar11.1) (State.isArrayOf_alike hZ.alike Ar11.2.1) rfl Ar11.2.2 hin11 hat11 (g := (mkF mi 73 #[.val (.ref o), .val (.int f), .val (.int s), .val (.int m), .val .null, .unset, .unset, .unset] [(.int f), (.ref tb)])) rfl rfl (hb hby d_prog_37_method_3_73)) ?_
  show Go pg.tables ev below (T10.setTop (mkF mi 74 #[.val (.ref o), .val (.int f), .val (.int s), .val (.int m), .val .null, .unset, .unset, .unset] [(.ref x5)])) P
  refine Go.st (fun t_ k_ => XS.astore X10.here hx rfl (hb hby d_prog_37_method_3_74) rfl rfl (l' := #[.val (.ref o), .val (.int f), .val (.int s), .val (.int m), .val .null, .val (.ref x5), .unset, .unset]) rfl k_) ?_
  show Go pg.tables ev below (T10.setTop (mkF mi 76 #[.val (.ref o), .val (.int f), .val (.int s), .val (.int m), .val .null, .val (.ref x5), .unset, .unset] [])) P
  refine Go.st (fun t_ k_ => XS.aload X10.here hx rfl (hb hby d_prog_37_method_3_76) rfl rfl k_) ?_
  show Go pg.tables ev below (T10.setTop (mkF mi 78 #[.val (.ref o), .val (.int f), .val (.int s), .val (.int m), .val .null, .val (.ref x5), .unset, .unset] [(.ref x5)])) P
  refine Go.st (fun t_ k_ => XS.iloadN X10.here hx rfl (hb hby d_prog_37_method_3_78) rfl k_) ?_
  show Go pg.tables ev below (T10.setTop (mkF mi 79 #[.val (.ref o), .val (.int f), .val (.int s), .val (.int m), .val .null, .val (.ref x5), .unset, .unset] [(.int s), (.ref x5)])) P
  obtain ⟨_, _, ⟨T12, L12, k12, n12⟩, -, X12, ⟨Lc12, hQ12, l12, y12, z12⟩, st12⟩ := Jvm.LawKit.callS X10 hx (y := (⟨"com/example/hedge/hedge/automaton/PairMarks", "find", "([II)I"⟩ : MethodName)) hown (mvT hZ (hw _ (List.mem_of_getElem? (i := 69) rfl))) (mvT hZ (hw _ (List.mem_of_getElem? (i := 70) rfl))) (mvT hZ (hw _ (List.mem_of_getElem? (i := 3) rfl))) (mvT hZ (hw _ (List.mem_of_getElem? (i := 71) rfl))) (by decide) (backOf (W := 0) (rmFi1 l Z a0 hw [] x5 s kx5 [] h5 n0 Zs6 AX5 rfl) hZ (hw _ (List.mem_of_getElem? (i := 71) rfl)) (hw _ (List.mem_of_getElem? (i := 3) rfl)) (by decide) (by decide)) (g := (mkF mi 79 #[.val (.ref o), .val (.int f), .val (.int s), .val (.int m), .val .null, .val (.ref x5), .unset, .unset] [(.int s), (.ref x5)])) rfl (by rw [hml]; rfl) (argsL := [(.ref x5), (.int s)]) (rest := []) (lenOf pd_3 rfl) rfl (by show 2 * 0 + _ ≤ _; exact Nat.le_of_eq rfl) (hb hby d_prog_37_method_3_79) (fun _ _ => ⟨rfl, e10, (by decide : 1 + 0 ≤ _), (by decide : 4 + 0 ≤ _)⟩)
  dsimp only [Pt.U, Pt.locs, Pt.cells, Pt.slots] at X12 l12 y12 z12 st12 hQ12
  subst l12 y12 z12
  obtain ⟨rfl, N12q, e12⟩ := hQ12
  have N12 := Fr.app N5 N12q
  refine Go.st st12 ?_
  show Go pg.tables ev below (T12.setTop (mkF mi 82 #[.val (.ref o), .val (.int f), .val (.int s), .val (.int m), .val .null, .val (.ref x5), .unset, .unset] [(.int (fSl s (3 : Int32)))])) P
  refine Go.st (fun t_ k_ => XS.istore X12.here hx rfl (hb hby d_prog_37_method_3_82) rfl (l' := #[.val (.ref o), .val (.int f), .val (.int s), .val (.int m), .val .null, .val (.ref x5), .val (.int (fSl s (3 : Int32))), .unset]) rfl k_) ?_
  show Go pg.tables ev below (T12.setTop (mkF mi 84 #[.val (.ref o), .val (.int f), .val (.int s), .val (.int m), .val .null, .val (.ref x5), .val (.int (fSl s (3 : Int32))), .unset] [])) P
  refine Go.st (fun t_ k_ => XS.iloadN X12.here hx rfl (hb hby d_prog_37_method_3_84) rfl k_) ?_
  show Go pg.tables ev below (T12.setTop (mkF mi 85 #[.val (.ref o), .val (.int f), .val (.int s), .val (.int m), .val .null, .val (.ref x5), .val (.int (fSl s (3 : Int32))), .unset] [(.int m)])) P
  refine Go.st (fun t_ k_ => XS.aload X12.here hx rfl (hb hby d_prog_37_method_3_85) rfl rfl k_) ?_
  show Go pg.tables ev below (T12.setTop (mkF mi 87 #[.val (.ref o), .val (.int f), .val (.int s), .val (.int m), .val .null, .val (.ref x5), .val (.int (fSl s (3 : Int32))), .unset] [(.ref x5), (.int m)])) P
  refine Go.st (fun t_ k_ => XS.iload X12.here hx rfl (hb hby d_prog_37_method_3_87) rfl k_) ?_
  show Go pg.tables ev below (T12.setTop (mkF mi 89 #[.val (.ref o), .val (.int f), .val (.int s), .val (.int m), .val .null, .val (.ref x5), .val (.int (fSl s (3 : Int32))), .unset] [(.int (fSl s (3 : Int32))), (.ref x5), (.int m)])) P
  have ov13 := AX5
  obtain ⟨cl13, Ar13, q13, S13, M13, H13, G13⟩ := ov13
  have hin13 : ¬ ((fSl s (3 : Int32)) < 0 ∨ cl13.slots.size ≤ ((fSl s (3 : Int32))).toNatClampNeg) := inb_of S13 (own_slot s)
  have hat13 : cl13.slots[((fSl s (3 : Int32))).toNatClampNeg]? = some (.int (0 : Int32)) := atH H13 hin13 rfl
  refine Go.st (X12.iaload hx (j := (fSl s (3 : Int32))) (v := (.int (0 : Int32))) (by rw [e12]; exact Ar13.1) (State.isArrayOf_alike hZ.alike Ar13.2.1) Ar13.2.2 hin13 hat13 (g := (mkF mi 89 #[.val (.ref o), .val (.int f), .val (.int s), .val (.int m), .val .null, .val (.ref x5), .val (.int (fSl s (3 : Int32))), .unset] [(.int (fSl s (3 : Int32))), (.ref x5), (.int m)])) rfl rfl (hb hby d_prog_37_method_3_89)) ?_
  show Go pg.tables ev below (T12.setTop (mkF mi 90 #[.val (.ref o), .val (.int f), .val (.int s), .val (.int m), .val .null, .val (.ref x5), .val (.int (fSl s (3 : Int32))), .unset] [(.int (0 : Int32)), (.int m)])) P
  refine Go.st (fun t_ k_ => XS.iconst X12.here hx rfl (hb hby d_prog_37_method_3_90) k_) ?_
  show Go pg.tables ev below (T12.setTop (mkF mi 91 #[.val (.ref o), .val (.int f), .val (.int s), .val (.int m), .val .null, .val (.ref x5), .val (.int (fSl s (3 : Int32))), .unset] [(.int (-1 : Int32)), (.int (0 : Int32)), (.int m)])) P
  refine Go.st (fun t_ k_ => XS.ixor X12.here hx rfl (hb hby d_prog_37_method_3_91) rfl k_) ?_
  show Go pg.tables ev below (T12.setTop (mkF mi 92 #[.val (.ref o), .val (.int f), .val (.int s), .val (.int m), .val .null, .val (.ref x5), .val (.int (fSl s (3 : Int32))), .unset] [(.int (-1 : Int32)), (.int m)])) P
  refine Go.st (fun t_ k_ => XS.iand X12.here hx rfl (hb hby d_prog_37_method_3_92) rfl k_) ?_
  show Go pg.tables ev below (T12.setTop (mkF mi 93 #[.val (.ref o), .val (.int f), .val (.int s), .val (.int m), .val .null, .val (.ref x5), .val (.int (fSl s (3 : Int32))), .unset] [(.int (m &&& (-1 : Int32)))])) P
  rw [own_and1]
  show Go pg.tables ev below (T12.setTop (mkF mi 93 #[.val (.ref o), .val (.int f), .val (.int s), .val (.int m), .val .null, .val (.ref x5), .val (.int (fSl s (3 : Int32))), .unset] [(.int m)])) P
  refine Go.st (fun t_ k_ => XS.istore X12.here hx rfl (hb hby d_prog_37_method_3_93) rfl (l' := #[.val (.ref o), .val (.int f), .val (.int s), .val (.int m), .val .null, .val (.ref x5), .val (.int (fSl s (3 : Int32))), .val (.int m)]) rfl k_) ?_
  show Go pg.tables ev below (T12.setTop (mkF mi 95 #[.val (.ref o), .val (.int f), .val (.int s), .val (.int m), .val .null, .val (.ref x5), .val (.int (fSl s (3 : Int32))), .val (.int m)] [])) P
  refine Go.st (fun t_ k_ => XS.aload X12.here hx rfl (hb hby d_prog_37_method_3_95) rfl rfl k_) ?_
  show Go pg.tables ev below (T12.setTop (mkF mi 97 #[.val (.ref o), .val (.int f), .val (.int s), .val (.int m), .val .null, .val (.ref x5), .val (.int (fSl s (3 : Int32))), .val (.int m)] [(.ref x5)])) P
  refine Go.st (fun t_ k_ => XS.iload X12.here hx rfl (hb hby d_prog_37_method_3_97) rfl k_) ?_
  show Go pg.tables ev below (T12.setTop (mkF mi 99 #[.val (.ref o), .val (.int f), .val (.int s), .val (.int m), .val .null, .val (.ref x5), .val (.int (fSl s (3 : Int32))), .val (.int m)] [(.int (fSl s (3 : Int32))), (.ref x5)])) P
  have ov14 := AX5
  obtain ⟨cl14, Ar14, q14, S14, M14, H14, G14⟩ := ov14
  have hin14 : ¬ ((fSl s (3 : Int32)) < 0 ∨ cl14.slots.size ≤ ((fSl s (3 : Int32))).toNatClampNeg) := inb_of S14 (own_slot s)
  have hat14 : cl14.slots[((fSl s (3 : Int32))).toNatClampNeg]? = some (.int (0 : Int32)) := atH H14 hin14 rfl
  refine Go.st (X12.iaload hx (j := (fSl s (3 : Int32))) (v := (.int (0 : Int32))) (by rw [e12]; exact Ar14.1) (State.isArrayOf_alike hZ.alike Ar14.2.1) Ar14.2.2 hin14 hat14 (g := (mkF mi 99 #[.val (.ref o), .val (.int f), .val (.int s), .val (.int m), .val .null, .val (.ref x5), .val (.int (fSl s (3 : Int32))), .val (.int m)] [(.int (fSl s (3 : Int32))), (.ref x5)])) rfl rfl (hb hby d_prog_37_method_3_99)) ?_
  show Go pg.tables ev below (T12.setTop (mkF mi 100 #[.val (.ref o), .val (.int f), .val (.int s), .val (.int m), .val .null, .val (.ref x5), .val (.int (fSl s (3 : Int32))), .val (.int m)] [(.int (0 : Int32))])) P
  refine Go.st (fun t_ k_ => XS.ifYes X12.here hx rfl (pc0 := 100) (pc' := 116) rfl (hb hby d_prog_37_method_3_100) rfl ((if0 _ _).trans (teq rfl).1) (by decide) (by decide) k_) ?_
  show Go pg.tables ev below (T12.setTop (mkF mi 116 #[.val (.ref o), .val (.int f), .val (.int s), .val (.int m), .val .null, .val (.ref x5), .val (.int (fSl s (3 : Int32))), .val (.int m)] [])) P
  refine Go.st (fun t_ k_ => XS.aload X12.here hx rfl (hb hby d_prog_37_method_3_116) rfl rfl k_) ?_
  show Go pg.tables ev below (T12.setTop (mkF mi 118 #[.val (.ref o), .val (.int f), .val (.int s), .val (.int m), .val .null, .val (.ref x5), .val (.int (fSl s (3 : Int32))), .val (.int m)] [(.ref x5)])) P
  refine Go.st (fun t_ k_ => XS.iload X12.here hx rfl (hb hby d_prog_37_method_3_118) rfl k_) ?_
  show Go pg.tables ev below (T12.setTop (mkF mi 120 #[.val (.ref o), .val (.int f), .val (.int s), .val (.int m), .val .null, .val (.ref x5), .val (.int (fSl s (3 : Int32))), .val (.int m)] [(.int (fSl s (3 : Int32))), (.ref x5)])) P
  refine Go.st (fun t_ k_ => XS.iloadN X12.here hx rfl (hb hby d_prog_37_method_3_120) rfl k_) ?_
  show Go pg.tables ev below (T12.setTop (mkF mi 121 #[.val (.ref o), .val (.int f), .val (.int s), .val (.int m), .val .null, .val (.ref x5), .val (.int (fSl s (3 : Int32))), .val (.int m)] [(.int s), (.int (fSl s (3 : Int32))), (.ref x5)])) P
  obtain ⟨_, _, ⟨T15, L15, k15, n15⟩, -, X15, ⟨Lc15, hQ15, l15, y15, z15⟩, st15⟩ := Jvm.LawKit.callS X12 hx (y := (⟨"com/example/hedge/hedge/automaton/PairMarks", "key", "(I)I"⟩ : MethodName)) hown (mvT hZ (hw _ (List.mem_of_getElem? (i := 76) rfl))) (mvT hZ (hw _ (List.mem_of_getElem? (i := 77) rfl))) (mvT hZ (hw _ (List.mem_of_getElem? (i := 3) rfl))) (mvT hZ (hw _ (List.mem_of_getElem? (i := 78) rfl))) (by decide) (backOf (W := 2) (rmKe l Z a0 hw [] s h5 n0 Zs6) hZ (hw _ (List.mem_of_getElem? (i := 78) rfl)) (hw _ (List.mem_of_getElem? (i := 3) rfl)) (by decide) (by decide)) (g := (mkF mi 121 #[.val (.ref o), .val (.int f), .val (.int s), .val (.int m), .val .null, .val (.ref x5), .val (.int (fSl s (3 : Int32))), .val (.int m)] [(.int s), (.int (fSl s (3 : Int32))), (.ref x5)])) rfl (by rw [hml]; rfl) (argsL := [(.int s)]) (rest := [(.int (fSl s (3 : Int32))), (.ref x5)]) (lenOf pd_2 rfl) rfl (by show 2 * 0 + _ ≤ _; exact Nat.le_of_eq rfl) (hb hby d_prog_37_method_3_121) (fun _ _ => ⟨rfl, e12, (by decide : 1 + 0 ≤ _), (by decide : 4 + 0 ≤ _)⟩)
  dsimp only [Pt.U, Pt.locs, Pt.cells, Pt.slots] at X15 l15 y15 z15 st15 hQ15
  subst l15 y15 z15
  obtain ⟨rfl, N15q, e15⟩ := hQ15
  have N15 := Fr.app N12 N15q
  refine Go.st st15 ?_
  show Go pg.tables ev below (T15.setTop (mkF mi 124 #[.val (.ref o), .val (.int f), .val (.int s), .val (.int m), .val .null, .val (.ref x5), .val (.int (fSl s (3 : Int32))), .val (.int m)] [(.int (fKe s)), (.int (fSl s (3 : Int32))), (.ref x5)])) P
  refine Go.st (fun t_ k_ => XS.iloadN X15.here hx rfl (hb hby d_prog_37_method_3_124) rfl k_) ?_
  show Go pg.tables ev below (T15.setTop (mkF mi 125 #[.val (.ref o), .val (.int f), .val (.int s), .val (.int m), .val .null, .val (.ref x5), .val (.int (fSl s (3 : Int32))), .val (.int m)] [(.int m), (.int (fKe s)), (.int (fSl s (3 : Int32))), (.ref x5)])) P
  refine Go.st (fun t_ k_ => XS.ior X15.here hx rfl (hb hby d_prog_37_method_3_125) rfl k_) ?_
  show Go pg.tables ev below (T15.setTop (mkF mi 126 #[.val (.ref o), .val (.int f), .val (.int s), .val (.int m), .val .null, .val (.ref x5), .val (.int (fSl s (3 : Int32))), .val (.int m)] [(.int ((fKe s) ||| m)), (.int (fSl s (3 : Int32))), (.ref x5)])) P
  have ov16 := AX5
  obtain ⟨cl16, Ar16, q16, S16, M16, H16, G16⟩ := ov16
  have hin16 : ¬ ((fSl s (3 : Int32)) < 0 ∨ cl16.slots.size ≤ ((fSl s (3 : Int32))).toNatClampNeg) := inb_of S16 (own_slot s)
  obtain ⟨T17, h17, X17, e17, W17, st17⟩ := stI X15 hx hZ e15 Ar16 (j := (fSl s (3 : Int32))) hin16 (g := (mkF mi 126 #[.val (.ref o), .val (.int f), .val (.int s), .val (.int m), .val .null, .val (.ref x5), .val (.int (fSl s (3 : Int32))), .val (.int m)] [(.int ((fKe s) ||| m)), (.int (fSl s (3 : Int32))), (.ref x5)])) rfl rfl (hb hby d_prog_37_method_3_126)
  have Zs18 : n0 ≤ h17.size := Nat.le_trans Zs6 (Keep.of_wr W17).1
  have KC18 : Keep h0 h17 [o, rw, tb, sz] := KC6.wr W17 (Or.inr sz_x5)
  have N18 := Fr.snoc X17 N15 g_x5
  have V17 : Arh Z h17 x5 kx5 .int (4 : Int32) (((fSl s (3 : Int32)), (.int ((fKe s) ||| m))) :: []) [] (.int (0 : Int32)) := Arh.push Ar16 q16 S16 M16 H16 G16 rfl W17 hin16
  refine Go.st st17 ?_
  show Go pg.tables ev below (T17.setTop (mkF mi 127 #[.val (.ref o), .val (.int f), .val (.int s), .val (.int m), .val .null, .val (.ref x5), .val (.int (fSl s (3 : Int32))), .val (.int m)] [])) P
  refine Go.st (fun t_ k_ => XS.aloadN X17.here hx rfl (hb hby d_prog_37_method_3_127) rfl rfl k_) ?_
  show Go pg.tables ev below (T17.setTop (mkF mi 128 #[.val (.ref o), .val (.int f), .val (.int s), .val (.int m), .val .null, .val (.ref x5), .val (.int (fSl s (3 : Int32))), .val (.int m)] [(.ref o)])) P
  have f19 := (FB5_2.other W17 (Or.inl ne_o_x5))
  obtain ⟨T20, X20, e20, st20⟩ := getF X17 hx hZ hown (host := "") (Or.inl (hw _ (List.mem_of_getElem? (i := 20) rfl))) Via.refl e17 f19 (g := (mkF mi 128 #[.val (.ref o), .val (.int f), .val (.int s), .val (.int m), .val .null, .val (.ref x5), .val (.int (fSl s (3 : Int32))), .val (.int m)] [(.ref o)])) rfl rfl (hb hby d_prog_37_method_3_128)
  refine Go.st st20 ?_
  show Go pg.tables ev below (T20.setTop (mkF mi 131 #[.val (.ref o), .val (.int f), .val (.int s), .val (.int m), .val .null, .val (.ref x5), .val (.int (fSl s (3 : Int32))), .val (.int m)] [(.ref sz)])) P
  refine Go.st (fun t_ k_ => XS.iloadN X20.here hx rfl (hb hby d_prog_37_method_3_131) rfl k_) ?_
  show Go pg.tables ev below (T20.setTop (mkF mi 132 #[.val (.ref o), .val (.int f), .val (.int s), .val (.int m), .val .null, .val (.ref x5), .val (.int (fSl s (3 : Int32))), .val (.int m)] [(.int f), (.ref sz)])) P
  refine Go.st (fun t_ k_ => XT.dup2 X20.here hx rfl (hb hby d_prog_37_method_3_132) rfl rfl rfl k_) ?_
  show Go pg.tables ev below (T20.setTop (mkF mi 133 #[.val (.ref o), .val (.int f), .val (.int s), .val (.int m), .val .null, .val (.ref x5), .val (.int (fSl s (3 : Int32))), .val (.int m)] [(.int f), (.ref sz), (.int f), (.ref sz)])) P
  have f21 := ((A_sz.keep K5 (ninS (Ne.symm ne_o_sz) (ninS (Ne.symm ne_rw_sz) (ninS (Ne.symm ne_tb_sz) nin0)))).other W17 ne_sz_x5)
  have ov22 := f21
  obtain ⟨cl22, Ar22, q22, S22, M22, H22, G22⟩ := ov22
  have hin22 : ¬ (f < 0 ∨ cl22.slots.size ≤ (f).toNatClampNeg) := inb_of S22 ⟨hf1, hf2⟩
  have hat22 : cl22.slots[(f).toNatClampNeg]? = some (.int (0 : Int32)) := atH H22 hin22 uS
  refine Go.st (X20.iaload hx (j := f) (v := (.int (0 : Int32))) (by rw [e20]; exact Ar22.1) (State.isArrayOf_alike hZ.alike Ar22.2.1) Ar22.2.2 hin22 hat22 (g := (mkF mi 133 #[.val (.ref o), .val (.int f), .val (.int s), .val (.int m), .val .null, .val (.ref x5), .val (.int (fSl s (3 : Int32))), .val (.int m)] [(.int f), (.ref sz), (.int f), (.ref sz)])) rfl rfl (hb hby d_prog_37_method_3_133)) ?_
  show Go pg.tables ev below (T20.setTop (mkF mi 134 #[.val (.ref o), .val (.int f), .val (.int s), .val (.int m), .val .null, .val (.ref x5), .val (.int (fSl s (3 : Int32))), .val (.int m)] [(.int (0 : Int32)), (.int f), (.ref sz)])) P
  refine Go.st (fun t_ k_ => XS.iconst X20.here hx rfl (hb hby d_prog_37_method_3_134) k_) ?_
  show Go pg.tables ev below (T20.setTop (mkF mi 135 #[.val (.ref o), .val (.int f), .val (.int s), .val (.int m), .val .null, .val (.ref x5), .val (.int (fSl s (3 : Int32))), .val (.int m)] [(.int (1 : Int32)), (.int (0 : Int32)), (.int f), (.ref sz)])) P
  refine Go.st (fun t_ k_ => XS.iadd X20.here hx rfl (hb hby d_prog_37_method_3_135) rfl k_) ?_
  show Go pg.tables ev below (T20.setTop (mkF mi 136 #[.val (.ref o), .val (.int f), .val (.int s), .val (.int m), .val .null, .val (.ref x5), .val (.int (fSl s (3 : Int32))), .val (.int m)] [(.int (1 : Int32)), (.int f), (.ref sz)])) P
  have ov23 := f21
  obtain ⟨cl23, Ar23, q23, S23, M23, H23, G23⟩ := ov23
  have hin23 : ¬ (f < 0 ∨ cl23.slots.size ≤ (f).toNatClampNeg) := inb_of S23 ⟨hf1, hf2⟩
  obtain ⟨T24, h24, X24, e24, W24, st24⟩ := stI X20 hx hZ e20 Ar23 (j := f) hin23 (g := (mkF mi 136 #[.val (.ref o), .val (.int f), .val (.int s), .val (.int m), .val .null, .val (.ref x5), .val (.int (fSl s (3 : Int32))), .val (.int m)] [(.int (1 : Int32)), (.int f), (.ref sz)])) rfl rfl (hb hby d_prog_37_method_3_136)
  have Zs25 : n0 ≤ h24.size := Nat.le_trans Zs18 (Keep.of_wr W24).1
  have KC25 : Keep h0 h24 [o, rw, tb, sz] := KC18.wr W24 (Or.inl (List.mem_of_getElem? (i := 3) rfl))
  have N25 := Fr.snoc X24 N18 g_sz
  have V24 : Arh Z h24 sz kS .int N ((f, (.int (1 : Int32))) :: hS) [] (.int (0 : Int32)) := Arh.push Ar23 q23 S23 M23 H23 G23 rfl W24 hin23
  refine Go.st st24 ?_
  show Go pg.tables ev below (T24.setTop (mkF mi 137 #[.val (.ref o), .val (.int f), .val (.int s), .val (.int m), .val .null, .val (.ref x5), .val (.int (fSl s (3 : Int32))), .val (.int m)] [])) P
  refine Go.st (fun t_ k_ => XS.iconst X24.here hx rfl (hb hby d_prog_37_method_3_137) k_) ?_
  show Go pg.tables ev below (T24.setTop (mkF mi 138 #[.val (.ref o), .val (.int f), .val (.int s), .val (.int m), .val .null, .val (.ref x5), .val (.int (fSl s (3 : Int32))), .val (.int m)] [(.int (2 : Int32))])) P
  refine Go.st (fun t_ k_ => XS.aloadN X24.here hx rfl (hb hby d_prog_37_method_3_138) rfl rfl k_) ?_
  show Go pg.tables ev below (T24.setTop (mkF mi 139 #[.val (.ref o), .val (.int f), .val (.int s), .val (.int m), .val .null, .val (.ref x5), .val (.int (fSl s (3 : Int32))), .val (.int m)] [(.ref o), (.int (2 : Int32))])) P
  have f26 := (f19.other W24 (Or.inl ne_o_sz))
  obtain ⟨T27, X27, e27, st27⟩ := getF X24 hx hZ hown (host := "") (Or.inl (hw _ (List.mem_of_getElem? (i := 20) rfl))) Via.refl e24 f26 (g := (mkF mi 139 #[.val (.ref o), .val (.int f), .val (.int s), .val (.int m), .val .null, .val (.ref x5), .val (.int (fSl s (3 : Int32))), .val (.int m)] [(.ref o), (.int (2 : Int32))])) rfl rfl (hb hby d_prog_37_method_3_139)
  refine Go.st st27 ?_
  show Go pg.tables ev below (T27.setTop (mkF mi 142 #[.val (.ref o), .val (.int f), .val (.int s), .val (.int m), .val .null, .val (.ref x5), .val (.int (fSl s (3 : Int32))), .val (.int m)] [(.ref sz), (.int (2 : Int32))])) P
  refine Go.st (fun t_ k_ => XS.iloadN X27.here hx rfl (hb hby d_prog_37_method_3_142) rfl k_) ?_
  show Go pg.tables ev below (T27.setTop (mkF mi 143 #[.val (.ref o), .val (.int f), .val (.int s), .val (.int m), .val .null, .val (.ref x5), .val (.int (fSl s (3 : Int32))), .val (.int m)] [(.int f), (.ref sz), (.int (2 : Int32))])) P
  have ov28 := V24
  obtain ⟨cl28, Ar28, q28, S28, M28, H28, G28⟩ := ov28
  have hin28 : ¬ (f < 0 ∨ cl28.slots.size ≤ (f).toNatClampNeg) := inb_of S28 ⟨hf1, hf2⟩
  have hat28 : cl28.slots[(f).toNatClampNeg]? = some (.int (1 : Int32)) := atH H28 hin28 (own_hit hf1)
  refine Go.st (X27.iaload hx (j := f) (v := (.int (1 : Int32))) (by rw [e27]; exact Ar28.1) (State.isArrayOf_alike hZ.alike Ar28.2.1) Ar28.2.2 hin28 hat28 (g := (mkF mi 143 #[.val (.ref o), .val (.int f), .val (.int s), .val (.int m), .val .null, .val (.ref x5), .val (.int (fSl s (3 : Int32))), .val (.int m)] [(.int f), (.ref sz), (.int (2 : Int32))])) rfl rfl (hb hby d_prog_37_method_3_143)) ?_
  show Go pg.tables ev below (T27.setTop (mkF mi 144 #[.val (.ref o), .val (.int f), .val (.int s), .val (.int m), .val .null, .val (.ref x5), .val (.int (fSl s (3 : Int32))), .val (.int m)] [(.int (1 : Int32)), (.int (2 : Int32))])) P
  refine Go.st (fun t_ k_ => XS.imul X27.here hx rfl (hb hby d_prog_37_method_3_144) rfl k_) ?_
  show Go pg.tables ev below (T27.setTop (mkF mi 145 #[.val (.ref o), .val (.int f), .val (.int s), .val (.int m), .val .null, .val (.ref x5), .val (.int (fSl s (3 : Int32))), .val (.int m)] [(.int (2 : Int32))])) P
  refine Go.st (fun t_ k_ => XS.aload X27.here hx rfl (hb hby d_prog_37_method_3_145) rfl rfl k_) ?_
  show Go pg.tables ev below (T27.setTop (mkF mi 147 #[.val (.ref o), .val (.int f), .val (.int s), .val (.int m), .val .null, .val (.ref x5), .val (.int (fSl s (3 : Int32))), .val (.int m)] [(.ref x5), (.int (2 : Int32))])) P
  have f29 := (V17.other W24 (Ne.symm ne_sz_x5))
  have ov30 := f29
  obtain ⟨cl30, Ar30, q30, S30, M30, H30, G30⟩ := ov30
  refine Go.st (X27.arraylength hx (by rw [e27]; exact Ar30.1) (State.isArrayOf_alike hZ.alike Ar30.2.1) (g := (mkF mi 147 #[.val (.ref o), .val (.int f), .val (.int s), .val (.int m), .val .null, .val (.ref x5), .val (.int (fSl s (3 : Int32))), .val (.int m)] [(.ref x5), (.int (2 : Int32))])) rfl rfl (hb hby d_prog_37_method_3_147)) ?_
  rw [len_of S30 M30]
  show Go pg.tables ev below (T27.setTop (mkF mi 148 #[.val (.ref o), .val (.int f), .val (.int s), .val (.int m), .val .null, .val (.ref x5), .val (.int (fSl s (3 : Int32))), .val (.int m)] [(.int (4 : Int32)), (.int (2 : Int32))])) P
  refine Go.st (fun t_ k_ => XS.icmpYes X27.here hx rfl (pc0 := 148) (pc' := 156) rfl (hb hby d_prog_37_method_3_148) rfl (flt (by decide)).2.2.2 (by decide) (by decide) k_) ?_
  show Go pg.tables ev below (T27.setTop (mkF mi 156 #[.val (.ref o), .val (.int f), .val (.int s), .val (.int m), .val .null, .val (.ref x5), .val (.int (fSl s (3 : Int32))), .val (.int m)] [])) P
  refine Go.st (fun t_ k_ => XS.iload X27.here hx rfl (hb hby d_prog_37_method_3_156) rfl k_) ?_
  show Go pg.tables ev below (T27.setTop (mkF mi 158 #[.val (.ref o), .val (.int f), .val (.int s), .val (.int m), .val .null, .val (.ref x5), .val (.int (fSl s (3 : Int32))), .val (.int m)] [(.int m)])) P
  obtain ⟨fs, hr, hrun, hended, hW, hsame⟩ := X27.leave (v := some (.int m)) (fun h => by rw [Bd.returns] at h; cases h) (BodyLoose.notSynchronized Bd)
  have f31 := ((FB5_0.other W17 (Or.inl ne_o_x5)).other W24 (Or.inl ne_o_sz))
  have f32 := ((FB5_1.other W17 (Or.inl ne_o_x5)).other W24 (Or.inl ne_o_sz))
  have f33 := ((FB5_3.other W17 (Or.inl ne_o_x5)).other W24 (Or.inl ne_o_sz))
  have f34 := ((FB5_4.other W17 (Or.inl ne_o_x5)).other W24 (Or.inl ne_o_sz))
  have f35 := ((FB5_5.other W17 (Or.inl ne_o_x5)).other W24 (Or.inl ne_o_sz))
  have f36 := ((AR5.other W17 ne_rw_x5).other W24 ne_rw_sz)
  have f37 := ((AB5.other W17 ne_tb_x5).other W24 ne_tb_sz)
  refine ⟨_, _, ?_, hP _ _ ⟨hrun, hended, _, _, rfl, ?_, ⟨_, rfl⟩, hW, hsame.mono (by decide) (by decide)⟩⟩
  · exact retI X27 hx Bd.returns (hb hby d_prog_37_method_3_158) hr
  · show (some (.int m) : Option Value) = some (.int m) ∧ Fr n0 _ ∧ Keep h0 T27.heap [o, rw, tb, sz] ∧ ∃ (x : Addr) (kx : ClassId), h0.size ≤ x ∧ n0 ≤ x ∧ Fld Z T27.heap o "com/example/hedge/hedge/automaton/PairMarks" "rows" "[I" (.ref rw) ∧ Fld Z T27.heap o "com/example/hedge/hedge/automaton/PairMarks" "tables" "[[I" (.ref tb) ∧ Fld Z T27.heap o "com/example/hedge/hedge/automaton/PairMarks" "sizes" "[I" (.ref sz) ∧ Fld Z T27.heap o "com/example/hedge/hedge/automaton/PairMarks" "bitmaps" "[[J" (.ref bm) ∧ Fld Z T27.heap o "com/example/hedge/hedge/automaton/PairMarks" "words" "I" (.int wd) ∧ Fld Z T27.heap o "com/example/hedge/hedge/automaton/PairMarks" "rowCount" "I" (.int (2 : Int32)) ∧ Arv Z T27.heap rw kR .int (16 : Int32) (vR.set 1 (.int f)) (.int (0 : Int32)) ∧ Arh Z T27.heap tb kT (.array .int) N ((f, .ref x) :: hT) [] .null ∧ Arh Z T27.heap sz kS .int N ((f, .int (1 : Int32)) :: hS) [] (.int (0 : Int32)) ∧ Arh Z T27.heap x kx .int (4 : Int32) [((fSl s (3 : Int32)), .int ((fKe s) ||| m))] [] (.int (0 : Int32))
    rw [e27]
    exact ⟨rfl, N25, KC25, x5, _, sz_x5, g_x5, f31, f32, f26, f33, f34, f35, f36, f37, V24, f29⟩
theorem ef_rmAEB (mi : MethodId) (o : Addr) (f : Int32) (s : Int32) (m : Int32) (tb : Addr) (bm : Addr) (kT : ClassId) (kB : ClassId) (N : Int32) (hT : List (Int32 × Value)) (hB : List (Int32 × Value)) (x : Addr) (kx : ClassId) (wd : Int32) (hsx : List (Int32 × Value)) : entryFrame mi #[(.ref o), (.int f), (.int s), (.int m)] 8 = mkF mi 0 #[.val (.ref o), .val (.int f), .val (.int s), .val (.int m), .unset, .unset, .unset, .unset] [] := by first | (simp [entryFrame, mkF, argsToLocals, Value.category]; done) | rfl
def Q_rmAEB (Z : State) (o : Addr) (f : Int32) (s : Int32) (m : Int32) (tb : Addr) (bm : Addr) (kT : ClassId) (kB : ClassId) (N : Int32) (hT : List (Int32 × Value)) (hB : List (Int32 × Value)) (x : Addr) (kx : ClassId) (wd : Int32) (hsx : List (Int32 × Value)) (h0 : Heap) (n0 : Nat) (vv_ : Option Value) (hh_ : Heap) (LL_ : List Loc) : Prop := ∃ r : Int32, vv_ = some (.int r) ∧ Fr n0 LL_ ∧ Keep h0 hh_ [x]
set_option maxRecDepth 65536 in
set_option maxHeartbeats 40000000 in
theorem rmAEB (l : Launch) (Z : State) (a0 : Array Value) (hw : ∀ d ∈ tables_1, d.before a0 Z = true) (ws : List Jvm.Cond) (o : Addr) (f : Int32) (s : Int32) (m : Int32) (tb : Addr) (bm : Addr) (kT : ClassId) (kB : ClassId) (N : Int32) (hT : List (Int32 × Value)) (hB : List (Int32 × Value)) (x : Addr) (kx : ClassId) (wd : Int32) (hsx : List (Int32 × Value)) (h0 : Heap) (n0 : Nat) (Z0 : n0 ≤ h0.size) (E0 : Exa Z h0 o "com/example/hedge/hedge/automaton/PairMarks") (F1 : Fld Z h0 o "com/example/hedge/hedge/automaton/PairMarks" "tables" "[[I" (.ref tb)) (F3 : Fld Z h0 o "com/example/hedge/hedge/automaton/PairMarks" "bitmaps" "[[J" (.ref bm)) (A_tb : Arh Z h0 tb kT (.array .int) N hT [] .null) (A_bm : Arh Z h0 bm kB (.array .long) N hB [] .null) (hf1 : ¬ f < 0) (hf2 : f < N) (uB : getH hB [] .null f.toNatClampNeg = .ref x) (A_x : Arh Z h0 x kx .long wd hsx [] (.long (0 : Int64))) (hi : ¬ ((s.toUInt32 >>> ((5 : Int32) &&& 31).toUInt32).toInt32) < 0 ∧ ((s.toUInt32 >>> ((5 : Int32) &&& 31).toUInt32).toInt32) < wd) (g_x : n0 ≤ x) (ne_bm : bm ≠ x) (ne_tb : tb ≠ x) :
    MetFree l (⟨"com/example/hedge/hedge/automaton/PairMarks", "add", "(III)I"⟩ : MethodName) (head1 (Jvm.Cond.code (⟨"com/example/hedge/hedge/automaton/PairMarks", "add", "(III)I"⟩ : MethodName) prog_37_method_3_code 8 (some .int) :: ws) ({ frames := 3, cells := 0, slots := 0, locals := 47 } : Room)) (fun aa_ U => aa_ = #[(.ref o), (.int f), (.int s), (.int m)] ∧ Z.Warmed39 U.vm ∧ U.heap = h0) (fun _ _ _ _ _ => True) (fun _ U oo_ UV_ => ∃ vv_ LL_, oo_ = .returned vv_ ∧ Q_rmAEB Z o f s m tb bm kT kB N hT hB x kx wd hsx h0 n0 vv_ UV_.heap LL_ ∧ FrameEnd U oo_ UV_ LL_ ({ frames := 3, cells := 0, slots := 0, locals := 47 } : Room).cells ({ frames := 3, cells := 0, slots := 0, locals := 47 } : Room).slots) := by
  refine MetFree.of_bodySF (plainFor_of_name pn_0) hisR ?_
  intro pg ev si mi args below meth ci s₁ Bd hml0 hP0 hK
  obtain ⟨rfl, hZ, hh⟩ := hP0
  have hx := Bd.exec
  have hby := Bd.bytes
  have hml : ci.maxLocals = 8 := hml0
  have hown : si.vm.findClass "com/example/hedge/hedge/automaton/PairMarks" = some mi.cls := findClass_of_methodNamed Bd.named
  have hnm := (name_of_methodNamed Bd.named Bd.method).1
  have X0 : Stand pg l ev ({ frames := 3, cells := 0, slots := 0, locals := 47 } : Room) si mi #[(.ref o), (.int f), (.int s), (.int m)] below meth ci s₁ [] 0 0 := Stand.of_body Bd
  have e0 : s₁.heap = h0 := by rw [← hh, Bd.state]; rfl
  have N0 := Fr.nil n0
  refine Go.start (fun P hP => ?_)
  refine Go.st (fun t_ k_ => castTop (ef_rmAEB mi o f s m tb bm kT kB N hT hB x kx wd hsx) k_) (A := s₁.setTop (mkF mi 0 #[.val (.ref o), .val (.int f), .val (.int s), .val (.int m), .unset, .unset, .unset, .unset] [])) ?_
  show Go pg.tables ev below (s₁.setTop (mkF mi 0 #[.val (.ref o), .val (.int f), .val (.int s), .val (.int m), .unset, .unset, .unset, .unset] [])) P
  refine Go.st (fun t_ k_ => XS.aloadN X0.here hx rfl (hb hby d_prog_37_method_3_0) rfl rfl k_) ?_
  show Go pg.tables ev below (s₁.setTop (mkF mi 1 #[.val (.ref o), .val (.int f), .val (.int s), .val (.int m), .unset, .unset, .unset, .unset] [(.ref o)])) P
  obtain ⟨T1, X1, e1, st1⟩ := getF X0 hx hZ hown (host := "") (Or.inl (hw _ (List.mem_of_getElem? (i := 24) rfl))) Via.refl e0 F3 (g := (mkF mi 1 #[.val (.ref o), .val (.int f), .val (.int s), .val (.int m), .unset, .unset, .unset, .unset] [(.ref o)])) rfl rfl (hb hby d_prog_37_method_3_1)
  refine Go.st st1 ?_
  show Go pg.tables ev below (T1.setTop (mkF mi 4 #[.val (.ref o), .val (.int f), .val (.int s), .val (.int m), .unset, .unset, .unset, .unset] [(.ref bm)])) P
  refine Go.st (fun t_ k_ => XS.iloadN X1.here hx rfl (hb hby d_prog_37_method_3_4) rfl k_) ?_
  show Go pg.tables ev below (T1.setTop (mkF mi 5 #[.val (.ref o), .val (.int f), .val (.int s), .val (.int m), .unset, .unset, .unset, .unset] [(.int f), (.ref bm)])) P
  have ov2 := A_bm
  obtain ⟨cl2, Ar2, q2, S2, M2, H2, G2⟩ := ov2
  have hin2 : ¬ (f < 0 ∨ cl2.slots.size ≤ (f).toNatClampNeg) := inb_of S2 ⟨hf1, hf2⟩
  have hat2 : cl2.slots[(f).toNatClampNeg]? = some (.ref x) := atH H2 hin2 uB
  refine Go.st (X1.aaload hx (j := f) (v := (.ref x)) (by rw [e1]; exact Ar2.1) (State.isArrayOf_alike hZ.alike Ar2.2.1) rfl Ar2.2.2 hin2 hat2 (g := (mkF mi 5 #[.val (.ref o), .val (.int f), .val (.int s), .val (.int m), .unset, .unset, .unset, .unset] [(.int f), (.ref bm)])) rfl rfl (hb hby d_prog_37_method_3_5)) ?_
  show Go pg.tables ev below (T1.setTop (mkF mi 6 #[.val (.ref o), .val (.int f), .val (.int s), .val (.int m), .unset, .unset, .unset, .unset] [(.ref x)])) P
  refine Go.st (fun t_ k_ => XS.ifnonnullYes X1.here hx rfl (pc0 := 6) (pc' := 23) rfl (hb hby d_prog_37_method_3_6) rfl (by decide) (by decide) k_) ?_
  show Go pg.tables ev below (T1.setTop (mkF mi 23 #[.val (.ref o), .val (.int f), .val (.int s), .val (.int m), .unset, .unset, .unset, .unset] [])) P
  refine Go.st (fun t_ k_ => XS.aloadN X1.here hx rfl (hb hby d_prog_37_method_3_23) rfl rfl k_) ?_
  show Go pg.tables ev below (T1.setTop (mkF mi 24 #[.val (.ref o), .val (.int f), .val (.int s), .val (.int m), .unset, .unset, .unset, .unset] [(.ref o)])) P
  obtain ⟨T3, X3, e3, st3⟩ := getF X1 hx hZ hown (host := "") (Or.inl (hw _ (List.mem_of_getElem? (i := 24) rfl))) Via.refl e1 F3 (g := (mkF mi 24 #[.val (.ref o), .val (.int f), .val (.int s), .val (.int m), .unset, .unset, .unset, .unset] [(.ref o)])) rfl rfl (hb hby d_prog_37_method_3_24)
  refine Go.st st3 ?_
  show Go pg.tables ev below (T3.setTop (mkF mi 27 #[.val (.ref o), .val (.int f), .val (.int s), .val (.int m), .unset, .unset, .unset, .unset] [(.ref bm)])) P
  refine Go.st (fun t_ k_ => XS.iloadN X3.here hx rfl (hb hby d_prog_37_method_3_27) rfl k_) ?_
  show Go pg.tables ev below (T3.setTop (mkF mi 28 #[.val (.ref o), .val (.int f), .val (.int s), .val (.int m), .unset, .unset, .unset, .unset] [(.int f), (.ref bm)])) P
  have ov4 := A_bm
  obtain ⟨cl4, Ar4, q4, S4, M4, H4, G4⟩ := ov4
  have hin4 : ¬ (f < 0 ∨ cl4.slots.size ≤ (f).toNatClampNeg) := inb_of S4 ⟨hf1, hf2⟩
  have hat4 : cl4.slots[(f).toNatClampNeg]? = some (.ref x) := atH H4 hin4 uB
  refine Go.st (X3.aaload hx (j := f) (v := (.ref x)) (by rw [e3]; exact Ar4.1) (State.isArrayOf_alike hZ.alike Ar4.2.1) rfl Ar4.2.2 hin4 hat4 (g := (mkF mi 28 #[.val (.ref o), .val (.int f), .val (.int s), .val (.int m), .unset, .unset, .unset, .unset] [(.int f), (.ref bm)])) rfl rfl (hb hby d_prog_37_method_3_28)) ?_
  show Go pg.tables ev below (T3.setTop (mkF mi 29 #[.val (.ref o), .val (.int f), .val (.int s), .val (.int m), .unset, .unset, .unset, .unset] [(.ref x)])) P
  refine Go.st (fun t_ k_ => XS.astore X3.here hx rfl (hb hby d_prog_37_method_3_29) rfl rfl (l' := #[.val (.ref o), .val (.int f), .val (.int s), .val (.int m), .val (.ref x), .unset, .unset, .unset]) rfl k_) ?_
  show Go pg.tables ev below (T3.setTop (mkF mi 31 #[.val (.ref o), .val (.int f), .val (.int s), .val (.int m), .val (.ref x), .unset, .unset, .unset] [])) P
  refine Go.st (fun t_ k_ => XS.aload X3.here hx rfl (hb hby d_prog_37_method_3_31) rfl rfl k_) ?_
  show Go pg.tables ev below (T3.setTop (mkF mi 33 #[.val (.ref o), .val (.int f), .val (.int s), .val (.int m), .val (.ref x), .unset, .unset, .unset] [(.ref x)])) P
  refine Go.st (fun t_ k_ => XS.ifnullNo X3.here hx rfl (hb hby d_prog_37_method_3_33) rfl k_) ?_
  show Go pg.tables ev below (T3.setTop (mkF mi 36 #[.val (.ref o), .val (.int f), .val (.int s), .val (.int m), .val (.ref x), .unset, .unset, .unset] [])) P
  obtain ⟨clx, Arx, qx, Sx, Mx, Hx, Gx⟩ := A_x
  have hinx := inb_of Sx hi
  obtain ⟨lv, uX⟩ := own_fitL (fitH Gx hinx rfl)
  have A_x : Arh Z h0 x kx .long wd hsx [] (.long (0 : Int64)) := ⟨clx, Arx, qx, Sx, Mx, Hx, Gx⟩
  refine Go.st (fun t_ k_ => XS.iloadN X3.here hx rfl (hb hby d_prog_37_method_3_36) rfl k_) ?_
  show Go pg.tables ev below (T3.setTop (mkF mi 37 #[.val (.ref o), .val (.int f), .val (.int s), .val (.int m), .val (.ref x), .unset, .unset, .unset] [(.int m)])) P
  refine Go.st (fun t_ k_ => XS.aloadN X3.here hx rfl (hb hby d_prog_37_method_3_37) rfl rfl k_) ?_
  show Go pg.tables ev below (T3.setTop (mkF mi 38 #[.val (.ref o), .val (.int f), .val (.int s), .val (.int m), .val (.ref x), .unset, .unset, .unset] [(.ref o), (.int m)])) P
  refine Go.st (fun t_ k_ => XS.iloadN X3.here hx rfl (hb hby d_prog_37_method_3_38) rfl k_) ?_
  show Go pg.tables ev below (T3.setTop (mkF mi 39 #[.val (.ref o), .val (.int f), .val (.int s), .val (.int m), .val (.ref x), .unset, .unset, .unset] [(.int f), (.ref o), (.int m)])) P
  refine Go.st (fun t_ k_ => XS.iloadN X3.here hx rfl (hb hby d_prog_37_method_3_39) rfl k_) ?_
  show Go pg.tables ev below (T3.setTop (mkF mi 40 #[.val (.ref o), .val (.int f), .val (.int s), .val (.int m), .val (.ref x), .unset, .unset, .unset] [(.int s), (.int f), (.ref o), (.int m)])) P
  obtain ⟨cq5, kq5, q5a, q5b, q5c⟩ := isOf hZ e3 E0
  obtain ⟨_, _, ⟨T5, L5, k5, n5⟩, -, X5, ⟨Lc5, hQ5, l5, y5, z5⟩, st5⟩ := X3.virtualBack hx (y := (⟨"com/example/hedge/hedge/automaton/PairMarks", "get", "(II)I"⟩ : MethodName)) (z := (⟨"com/example/hedge/hedge/automaton/PairMarks", "get", "(II)I"⟩ : MethodName)) hown (mvT hZ (hw _ (List.mem_of_getElem? (i := 44) rfl))) (mvT hZ (hw _ (List.mem_of_getElem? (i := 45) rfl))) (notFace_of_selects (args := #[]) (mvT hZ (hw _ (List.mem_of_getElem? (i := 47) rfl)))) (mvT hZ (hw _ (List.mem_of_getElem? (i := 47) rfl))) (mvT hZ (hw _ (List.mem_of_getElem? (i := 46) rfl))) (by decide) (backOf (W := 1) (rmGB l Z a0 hw [] o f s tb bm kT kB N hT hB x kx wd hsx lv h0 n0 Z0 F1 F3 A_tb A_bm hf1 hf2 uB A_x hi uX) hZ (hw _ (List.mem_of_getElem? (i := 48) rfl)) (hw _ (List.mem_of_getElem? (i := 3) rfl)) (by decide) (by decide)) q5a q5c (g := (mkF mi 40 #[.val (.ref o), .val (.int f), .val (.int s), .val (.int m), .val (.ref x), .unset, .unset, .unset] [(.int s), (.int f), (.ref o), (.int m)])) rfl (by rw [hml]; rfl) (Steps.refl _) (argsL := [(.int f), (.int s)]) (rest := [(.int m)]) (lenOf pd_1 rfl) rfl (by show 2 * 0 + _ ≤ _; exact Nat.le_of_eq rfl) (hb hby d_prog_37_method_3_40) (fun _ _ => ⟨rfl, e3, (by decide : 0 + 0 ≤ _), (by decide : 0 + 0 ≤ _)⟩)
  dsimp only [Pt.U, Pt.locs, Pt.cells, Pt.slots] at X5 l5 y5 z5 st5 hQ5
  subst l5 y5 z5
  obtain ⟨rfl, N5q, e5⟩ := hQ5
  have N5 := Fr.app N0 N5q
  refine Go.tr st5 ?_
  show Go pg.tables ev below (T5.setTop (mkF mi 43 #[.val (.ref o), .val (.int f), .val (.int s), .val (.int m), .val (.ref x), .unset, .unset, .unset] [(.int (fGt lv s)), (.int m)])) P
  refine Go.st (fun t_ k_ => XS.iconst X5.here hx rfl (hb hby d_prog_37_method_3_43) k_) ?_
  show Go pg.tables ev below (T5.setTop (mkF mi 44 #[.val (.ref o), .val (.int f), .val (.int s), .val (.int m), .val (.ref x), .unset, .unset, .unset] [(.int (-1 : Int32)), (.int (fGt lv s)), (.int m)])) P
  refine Go.st (fun t_ k_ => XS.ixor X5.here hx rfl (hb hby d_prog_37_method_3_44) rfl k_) ?_
  show Go pg.tables ev below (T5.setTop (mkF mi 45 #[.val (.ref o), .val (.int f), .val (.int s), .val (.int m), .val (.ref x), .unset, .unset, .unset] [(.int ((fGt lv s) ^^^ (-1 : Int32))), (.int m)])) P
  refine Go.st (fun t_ k_ => XS.iand X5.here hx rfl (hb hby d_prog_37_method_3_45) rfl k_) ?_
  show Go pg.tables ev below (T5.setTop (mkF mi 46 #[.val (.ref o), .val (.int f), .val (.int s), .val (.int m), .val (.ref x), .unset, .unset, .unset] [(.int (m &&& ((fGt lv s) ^^^ (-1 : Int32))))])) P
  refine Go.st (fun t_ k_ => XS.istore X5.here hx rfl (hb hby d_prog_37_method_3_46) rfl (l' := #[.val (.ref o), .val (.int f), .val (.int s), .val (.int m), .val (.ref x), .val (.int (m &&& ((fGt lv s) ^^^ (-1 : Int32)))), .unset, .unset]) rfl k_) ?_
  show Go pg.tables ev below (T5.setTop (mkF mi 48 #[.val (.ref o), .val (.int f), .val (.int s), .val (.int m), .val (.ref x), .val (.int (m &&& ((fGt lv s) ^^^ (-1 : Int32)))), .unset, .unset] [])) P
  refine Go.st (fun t_ k_ => XS.aload X5.here hx rfl (hb hby d_prog_37_method_3_48) rfl rfl k_) ?_
  show Go pg.tables ev below (T5.setTop (mkF mi 50 #[.val (.ref o), .val (.int f), .val (.int s), .val (.int m), .val (.ref x), .val (.int (m &&& ((fGt lv s) ^^^ (-1 : Int32)))), .unset, .unset] [(.ref x)])) P
  refine Go.st (fun t_ k_ => XS.iloadN X5.here hx rfl (hb hby d_prog_37_method_3_50) rfl k_) ?_
  show Go pg.tables ev below (T5.setTop (mkF mi 51 #[.val (.ref o), .val (.int f), .val (.int s), .val (.int m), .val (.ref x), .val (.int (m &&& ((fGt lv s) ^^^ (-1 : Int32)))), .unset, .unset] [(.int s), (.ref x)])) P
  refine Go.st (fun t_ k_ => XS.iconst X5.here hx rfl (hb hby d_prog_37_method_3_51) k_) ?_
  show Go pg.tables ev below (T5.setTop (mkF mi 52 #[.val (.ref o), .val (.int f), .val (.int s), .val (.int m), .val (.ref x), .val (.int (m &&& ((fGt lv s) ^^^ (-1 : Int32)))), .unset, .unset] [(.int (5 : Int32)), (.int s), (.ref x)])) P
  refine Go.st (fun t_ k_ => XS.iushr X5.here hx rfl (hb hby d_prog_37_method_3_52) rfl k_) ?_
  show Go pg.tables ev below (T5.setTop (mkF mi 53 #[.val (.ref o), .val (.int f), .val (.int s), .val (.int m), .val (.ref x), .val (.int (m &&& ((fGt lv s) ^^^ (-1 : Int32)))), .unset, .unset] [(.int ((s.toUInt32 >>> ((5 : Int32) &&& 31).toUInt32).toInt32)), (.ref x)])) P
  refine Go.st (fun t_ k_ => XT.dup2 X5.here hx rfl (hb hby d_prog_37_method_3_53) rfl rfl rfl k_) ?_
  show Go pg.tables ev below (T5.setTop (mkF mi 54 #[.val (.ref o), .val (.int f), .val (.int s), .val (.int m), .val (.ref x), .val (.int (m &&& ((fGt lv s) ^^^ (-1 : Int32)))), .unset, .unset] [(.int ((s.toUInt32 >>> ((5 : Int32) &&& 31).toUInt32).toInt32)), (.ref x), (.int ((s.toUInt32 >>> ((5 : Int32) &&& 31).toUInt32).toInt32)), (.ref x)])) P
  have ov6 := A_x
  obtain ⟨cl6, Ar6, q6, S6, M6, H6, G6⟩ := ov6
  have hin6 : ¬ (((s.toUInt32 >>> ((5 : Int32) &&& 31).toUInt32).toInt32) < 0 ∨ cl6.slots.size ≤ (((s.toUInt32 >>> ((5 : Int32) &&& 31).toUInt32).toInt32)).toNatClampNeg) := inb_of S6 hi
  have hat6 : cl6.slots[(((s.toUInt32 >>> ((5 : Int32) &&& 31).toUInt32).toInt32)).toNatClampNeg]? = some (.long lv) := atH H6 hin6 uX
  refine Go.st (X5.laload hx (j := ((s.toUInt32 >>> ((5 : Int32) &&& 31).toUInt32).toInt32)) (v := (.long lv)) (by rw [e5]; exact Ar6.1) (State.isArrayOf_alike hZ.alike Ar6.2.1) Ar6.2.2 hin6 hat6 (g := (mkF mi 54 #[.val (.ref o), .val (.int f), .val (.int s), .val (.int m), .val (.ref x), .val (.int (m &&& ((fGt lv s) ^^^ (-1 : Int32)))), .unset, .unset] [(.int ((s.toUInt32 >>> ((5 : Int32) &&& 31).toUInt32).toInt32)), (.ref x), (.int ((s.toUInt32 >>> ((5 : Int32) &&& 31).toUInt32).toInt32)), (.ref x)])) rfl rfl (hb hby d_prog_37_method_3_54)) ?_
  show Go pg.tables ev below (T5.setTop (mkF mi 55 #[.val (.ref o), .val (.int f), .val (.int s), .val (.int m), .val (.ref x), .val (.int (m &&& ((fGt lv s) ^^^ (-1 : Int32)))), .unset, .unset] [(.long lv), (.int ((s.toUInt32 >>> ((5 : Int32) &&& 31).toUInt32).toInt32)), (.ref x)])) P
  refine Go.st (fun t_ k_ => XS.iload X5.here hx rfl (hb hby d_prog_37_method_3_55) rfl k_) ?_
  show Go pg.tables ev below (T5.setTop (mkF mi 57 #[.val (.ref o), .val (.int f), .val (.int s), .val (.int m), .val (.ref x), .val (.int (m &&& ((fGt lv s) ^^^ (-1 : Int32)))), .unset, .unset] [(.int (m &&& ((fGt lv s) ^^^ (-1 : Int32)))), (.long lv), (.int ((s.toUInt32 >>> ((5 : Int32) &&& 31).toUInt32).toInt32)), (.ref x)])) P
  refine Go.st (fun t_ k_ => XS.i2l X5.here hx rfl (hb hby d_prog_37_method_3_57) rfl k_) ?_
  show Go pg.tables ev below (T5.setTop (mkF mi 58 #[.val (.ref o), .val (.int f), .val (.int s), .val (.int m), .val (.ref x), .val (.int (m &&& ((fGt lv s) ^^^ (-1 : Int32)))), .unset, .unset] [(.long ((m &&& ((fGt lv s) ^^^ (-1 : Int32))).toInt64)), (.long lv), (.int ((s.toUInt32 >>> ((5 : Int32) &&& 31).toUInt32).toInt32)), (.ref x)])) P
  refine Go.st (fun t_ k_ => XS.iloadN X5.here hx rfl (hb hby d_prog_37_method_3_58) rfl k_) ?_
  show Go pg.tables ev below (T5.setTop (mkF mi 59 #[.val (.ref o), .val (.int f), .val (.int s), .val (.int m), .val (.ref x), .val (.int (m &&& ((fGt lv s) ^^^ (-1 : Int32)))), .unset, .unset] [(.int s), (.long ((m &&& ((fGt lv s) ^^^ (-1 : Int32))).toInt64)), (.long lv), (.int ((s.toUInt32 >>> ((5 : Int32) &&& 31).toUInt32).toInt32)), (.ref x)])) P
  obtain ⟨_, _, ⟨T7, L7, k7, n7⟩, -, X7, ⟨Lc7, hQ7, l7, y7, z7⟩, st7⟩ := Jvm.LawKit.callS X5 hx (y := (⟨"com/example/hedge/hedge/automaton/PairMarks", "shift", "(I)I"⟩ : MethodName)) hown (mvT hZ (hw _ (List.mem_of_getElem? (i := 49) rfl))) (mvT hZ (hw _ (List.mem_of_getElem? (i := 50) rfl))) (mvT hZ (hw _ (List.mem_of_getElem? (i := 3) rfl))) (mvT hZ (hw _ (List.mem_of_getElem? (i := 51) rfl))) (by decide) (backOf (W := 6) (rmSh l Z a0 hw [] s h0 n0 Z0) hZ (hw _ (List.mem_of_getElem? (i := 51) rfl)) (hw _ (List.mem_of_getElem? (i := 3) rfl)) (by decide) (by decide)) (g := (mkF mi 59 #[.val (.ref o), .val (.int f), .val (.int s), .val (.int m), .val (.ref x), .val (.int (m &&& ((fGt lv s) ^^^ (-1 : Int32)))), .unset, .unset] [(.int s), (.long ((m &&& ((fGt lv s) ^^^ (-1 : Int32))).toInt64)), (.long lv), (.int ((s.toUInt32 >>> ((5 : Int32) &&& 31).toUInt32).toInt32)), (.ref x)])) rfl (by rw [hml]; rfl) (argsL := [(.int s)]) (rest := [(.long ((m &&& ((fGt lv s) ^^^ (-1 : Int32))).toInt64)), (.long lv), (.int ((s.toUInt32 >>> ((5 : Int32) &&& 31).toUInt32).toInt32)), (.ref x)]) (lenOf pd_2 rfl) rfl (by show 2 * 0 + _ ≤ _; exact Nat.le_of_eq rfl) (hb hby d_prog_37_method_3_59) (fun _ _ => ⟨rfl, e5, (by decide : 0 + 0 ≤ _), (by decide : 0 + 0 ≤ _)⟩)
  dsimp only [Pt.U, Pt.locs, Pt.cells, Pt.slots] at X7 l7 y7 z7 st7 hQ7
  subst l7 y7 z7
  obtain ⟨rfl, N7q, e7⟩ := hQ7
  have N7 := Fr.app N5 N7q
  refine Go.st st7 ?_
  show Go pg.tables ev below (T7.setTop (mkF mi 62 #[.val (.ref o), .val (.int f), .val (.int s), .val (.int m), .val (.ref x), .val (.int (m &&& ((fGt lv s) ^^^ (-1 : Int32)))), .unset, .unset] [(.int (fSh s)), (.long ((m &&& ((fGt lv s) ^^^ (-1 : Int32))).toInt64)), (.long lv), (.int ((s.toUInt32 >>> ((5 : Int32) &&& 31).toUInt32).toInt32)), (.ref x)])) P
  refine Go.st (fun t_ k_ => XS.lshl X7.here hx rfl (hb hby d_prog_37_method_3_62) rfl k_) ?_
  show Go pg.tables ev below (T7.setTop (mkF mi 63 #[.val (.ref o), .val (.int f), .val (.int s), .val (.int m), .val (.ref x), .val (.int (m &&& ((fGt lv s) ^^^ (-1 : Int32)))), .unset, .unset] [(.long (((m &&& ((fGt lv s) ^^^ (-1 : Int32))).toInt64) <<< ((fSh s) &&& 0x3f).toInt64)), (.long lv), (.int ((s.toUInt32 >>> ((5 : Int32) &&& 31).toUInt32).toInt32)), (.ref x)])) P
  refine Go.st (fun t_ k_ => XS.lor X7.here hx rfl (hb hby d_prog_37_method_3_63) rfl k_) ?_
  show Go pg.tables ev below (T7.setTop (mkF mi 64 #[.val (.ref o), .val (.int f), .val (.int s), .val (.int m), .val (.ref x), .val (.int (m &&& ((fGt lv s) ^^^ (-1 : Int32)))), .unset, .unset] [(.long (lv ||| (((m &&& ((fGt lv s) ^^^ (-1 : Int32))).toInt64) <<< ((fSh s) &&& 0x3f).toInt64))), (.int ((s.toUInt32 >>> ((5 : Int32) &&& 31).toUInt32).toInt32)), (.ref x)])) P
  have ov8 := A_x
  obtain ⟨cl8, Ar8, q8, S8, M8, H8, G8⟩ := ov8
  have hin8 : ¬ (((s.toUInt32 >>> ((5 : Int32) &&& 31).toUInt32).toInt32) < 0 ∨ cl8.slots.size ≤ (((s.toUInt32 >>> ((5 : Int32) &&& 31).toUInt32).toInt32)).toNatClampNeg) := inb_of S8 hi
  obtain ⟨T9, h9, X9, e9, W9, st9⟩ := stJ X7 hx hZ e7 Ar8 (j := ((s.toUInt32 >>> ((5 : Int32) &&& 31).toUInt32).toInt32)) hin8 (g := (mkF mi 64 #[.val (.ref o), .val (.int f), .val (.int s), .val (.int m), .val (.ref x), .val (.int (m &&& ((fGt lv s) ^^^ (-1 : Int32)))), .unset, .unset] [(.long (lv ||| (((m &&& ((fGt lv s) ^^^ (-1 : Int32))).toInt64) <<< ((fSh s) &&& 0x3f).toInt64))), (.int ((s.toUInt32 >>> ((5 : Int32) &&& 31).toUInt32).toInt32)), (.ref x)])) rfl rfl (hb hby d_prog_37_method_3_64)
  have Zs10 : n0 ≤ h9.size := Nat.le_trans Z0 (Keep.of_wr W9).1
  have KC10 : Keep h0 h9 [x] := (Keep.refl h0 [x]).wr W9 (Or.inl (List.mem_of_getElem? (i := 0) rfl))
  have N10 := Fr.snoc X9 N7 g_x
  have V9 : Arh Z h9 x kx .long wd ((((s.toUInt32 >>> ((5 : Int32) &&& 31).toUInt32).toInt32), (.long (lv ||| (((m &&& ((fGt lv s) ^^^ (-1 : Int32))).toInt64) <<< ((fSh s) &&& 0x3f).toInt64)))) :: hsx) [] (.long (0 : Int64)) := Arh.push Ar8 q8 S8 M8 H8 G8 rfl W9 hin8
  refine Go.st st9 ?_
  show Go pg.tables ev below (T9.setTop (mkF mi 65 #[.val (.ref o), .val (.int f), .val (.int s), .val (.int m), .val (.ref x), .val (.int (m &&& ((fGt lv s) ^^^ (-1 : Int32)))), .unset, .unset] [])) P
  refine Go.st (fun t_ k_ => XS.iload X9.here hx rfl (hb hby d_prog_37_method_3_65) rfl k_) ?_
  show Go pg.tables ev below (T9.setTop (mkF mi 67 #[.val (.ref o), .val (.int f), .val (.int s), .val (.int m), .val (.ref x), .val (.int (m &&& ((fGt lv s) ^^^ (-1 : Int32)))), .unset, .unset] [(.int (m &&& ((fGt lv s) ^^^ (-1 : Int32))))])) P
  obtain ⟨fs, hr, hrun, hended, hW, hsame⟩ := X9.leave (v := some (.int (m &&& ((fGt lv s) ^^^ (-1 : Int32))))) (fun h => by rw [Bd.returns] at h; cases h) (BodyLoose.notSynchronized Bd)
  refine ⟨_, _, ?_, hP _ _ ⟨hrun, hended, _, _, rfl, ?_, ⟨_, rfl⟩, hW, hsame.mono (by decide) (by decide)⟩⟩
  · exact retI X9 hx Bd.returns (hb hby d_prog_37_method_3_67) hr
  · show ∃ r : Int32, (some (.int (m &&& ((fGt lv s) ^^^ (-1 : Int32)))) : Option Value) = some (.int r) ∧ Fr n0 _ ∧ Keep h0 T9.heap [x]
    rw [e9]
    exact ⟨_, rfl, N10, KC10⟩
theorem d_prog_37_method_3_103 : decode prog_37_method_3_code 103 = .ok (.aload 5, 2) := by decide +kernel
theorem d_prog_37_method_3_105 : decode prog_37_method_3_code 105 = .ok (.iload 6, 2) := by decide +kernel
theorem d_prog_37_method_3_107 : decode prog_37_method_3_code 107 = .ok (.dup2, 1) := by decide +kernel
theorem d_prog_37_method_3_108 : decode prog_37_method_3_code 108 = .ok (.iaload, 1) := by decide +kernel
theorem d_prog_37_method_3_109 : decode prog_37_method_3_code 109 = .ok (.iload 7, 2) := by decide +kernel
theorem d_prog_37_method_3_111 : decode prog_37_method_3_code 111 = .ok (.ior, 1) := by decide +kernel
theorem d_prog_37_method_3_112 : decode prog_37_method_3_code 112 = .ok (.iastore, 1) := by decide +kernel
theorem d_prog_37_method_3_113 : decode prog_37_method_3_code 113 = .ok (.iload 7, 2) := by decide +kernel
theorem d_prog_37_method_3_115 : decode prog_37_method_3_code 115 = .ok (.ireturn, 1) := by decide +kernel
theorem ef_rmAET1 (mi : MethodId) (o : Addr) (f : Int32) (b : Int32) (m : Int32) (tb : Addr) (bm : Addr) (kT : ClassId) (kB : ClassId) (N : Int32) (hT : List (Int32 × Value)) (hB : List (Int32 × Value)) (x : Addr) (kx : ClassId) (sz : Addr) (kS : ClassId) (hS : List (Int32 × Value)) (kv : Int32) : entryFrame mi #[(.ref o), (.int f), (.int b), (.int m)] 8 = mkF mi 0 #[.val (.ref o), .val (.int f), .val (.int b), .val (.int m), .unset, .unset, .unset, .unset] [] := by first | (simp [entryFrame, mkF, argsToLocals, Value.category]; done) | rfl
def Q_rmAET1 (Z : State) (o : Addr) (f : Int32) (b : Int32) (m : Int32) (tb : Addr) (bm : Addr) (kT : ClassId) (kB : ClassId) (N : Int32) (hT : List (Int32 × Value)) (hB : List (Int32 × Value)) (x : Addr) (kx : ClassId) (sz : Addr) (kS : ClassId) (hS : List (Int32 × Value)) (kv : Int32) (h0 : Heap) (n0 : Nat) (vv_ : Option Value) (hh_ : Heap) (LL_ : List Loc) : Prop := ∃ (r : Int32) (hs2 : List (Int32 × Value)), vv_ = some (.int r) ∧ Fr n0 LL_ ∧ Keep h0 hh_ [x, sz] ∧ Arh Z hh_ sz kS .int N hs2 [] (.int (0 : Int32))
set_option maxRecDepth 65536 in
set_option maxHeartbeats 40000000 in
theorem rmAET1 (l : Launch) (Z : State) (a0 : Array Value) (hw : ∀ d ∈ tables_1, d.before a0 Z = true) (ws : List Jvm.Cond) (o : Addr) (f : Int32) (b : Int32) (m : Int32) (tb : Addr) (bm : Addr) (kT : ClassId) (kB : ClassId) (N : Int32) (hT : List (Int32 × Value)) (hB : List (Int32 × Value)) (x : Addr) (kx : ClassId) (sz : Addr) (kS : ClassId) (hS : List (Int32 × Value)) (kv : Int32) (h0 : Heap) (n0 : Nat) (Z0 : n0 ≤ h0.size) (E0 : Exa Z h0 o "com/example/hedge/hedge/automaton/PairMarks") (F1 : Fld Z h0 o "com/example/hedge/hedge/automaton/PairMarks" "tables" "[[I" (.ref tb)) (F3 : Fld Z h0 o "com/example/hedge/hedge/automaton/PairMarks" "bitmaps" "[[J" (.ref bm)) (A_tb : Arh Z h0 tb kT (.array .int) N hT [] .null) (A_bm : Arh Z h0 bm kB (.array .long) N hB [] .null) (hf1 : ¬ f < 0) (hf2 : f < N) (uB : getH hB [] .null f.toNatClampNeg = .null) (uT : getH hT [] .null f.toNatClampNeg = .ref x) (F2 : Fld Z h0 o "com/example/hedge/hedge/automaton/PairMarks" "sizes" "[I" (.ref sz)) (A_sz : Arh Z h0 sz kS .int N hS [] (.int (0 : Int32))) (uS : getH hS [] (.int (0 : Int32)) f.toNatClampNeg = .int (1 : Int32)) (A_x : Arh Z h0 x kx .int (4 : Int32) [((fSl b (3 : Int32)), .int kv)] [] (.int (0 : Int32))) (hk0 : ¬ (kv = (0 : Int32))) (hk1 : (fSe kv) = b) (g_x : n0 ≤ x) (g_sz : n0 ≤ sz) (ne_bm : bm ≠ x) (ne_tb : tb ≠ x) (ne_sz : sz ≠ x) (ne_bs : bm ≠ sz) (ne_ts : tb ≠ sz) (ne_o : o ≠ x) (ne_os : o ≠ sz) :
    MetFree l (⟨"com/example/hedge/hedge/automaton/PairMarks", "add", "(III)I"⟩ : MethodName) (head1 (Jvm.Cond.code (⟨"com/example/hedge/hedge/automaton/PairMarks", "add", "(III)I"⟩ : MethodName) prog_37_method_3_code 8 (some .int) :: ws) ({ frames := 2, cells := 0, slots := 0, locals := 29 } : Room)) (fun aa_ U => aa_ = #[(.ref o), (.int f), (.int b), (.int m)] ∧ Z.Warmed39 U.vm ∧ U.heap = h0) (fun _ _ _ _ _ => True) (fun _ U oo_ UV_ => ∃ vv_ LL_, oo_ = .returned vv_ ∧ Q_rmAET1 Z o f b m tb bm kT kB N hT hB x kx sz kS hS kv h0 n0 vv_ UV_.heap LL_ ∧ FrameEnd U oo_ UV_ LL_ ({ frames := 2, cells := 0, slots := 0, locals := 29 } : Room).cells ({ frames := 2, cells := 0, slots := 0, locals := 29 } : Room).slots) := by
  refine MetFree.of_bodySF (plainFor_of_name pn_0) hisR ?_
  intro pg ev si mi args below meth ci s₁ Bd hml0 hP0 hK
  obtain ⟨rfl, hZ, hh⟩ := hP0
  have hx := Bd.exec
  have hby := Bd.bytes
  have hml : ci.maxLocals = 8 := hml0
  have hown : si.vm.findClass "com/example/hedge/hedge/automaton/PairMarks" = some mi.cls := findClass_of_methodNamed Bd.named
  have hnm := (name_of_methodNamed Bd.named Bd.method).1
  have X0 : Stand pg l ev ({ frames := 2, cells := 0, slots := 0, locals := 29 } : Room) si mi #[(.ref o), (.int f), (.int b), (.int m)] below meth ci s₁ [] 0 0 := Stand.of_body Bd
  have e0 : s₁.heap = h0 := by rw [← hh, Bd.state]; rfl
  have N0 := Fr.nil n0
  refine Go.start (fun P hP => ?_)
  refine Go.st (fun t_ k_ => castTop (ef_rmAET1 mi o f b m tb bm kT kB N hT hB x kx sz kS hS kv) k_) (A := s₁.setTop (mkF mi 0 #[.val (.ref o), .val (.int f), .val (.int b), .val (.int m), .unset, .unset, .unset, .unset] [])) ?_
  show Go pg.tables ev below (s₁.setTop (mkF mi 0 #[.val (.ref o), .val (.int f), .val (.int b), .val (.int m), .unset, .unset, .unset, .unset] [])) P
  refine Go.st (fun t_ k_ => XS.aloadN X0.here hx rfl (hb hby d_prog_37_method_3_0) rfl rfl k_) ?_
  show Go pg.tables ev below (s₁.setTop (mkF mi 1 #[.val (.ref o), .val (.int f), .val (.int b), .val (.int m), .unset, .unset, .unset, .unset] [(.ref o)])) P
  obtain ⟨T1, X1, e1, st1⟩ := getF X0 hx hZ hown (host := "") (Or.inl (hw _ (List.mem_of_getElem? (i := 24) rfl))) Via.refl e0 F3 (g := (mkF mi 1 #[.val (.ref o), .val (.int f), .val (.int b), .val (.int m), .unset, .unset, .unset, .unset] [(.ref o)])) rfl rfl (hb hby d_prog_37_method_3_1)
  refine Go.st st1 ?_
  show Go pg.tables ev below (T1.setTop (mkF mi 4 #[.val (.ref o), .val (.int f), .val (.int b), .val (.int m), .unset, .unset, .unset, .unset] [(.ref bm)])) P
  refine Go.st (fun t_ k_ => XS.iloadN X1.here hx rfl (hb hby d_prog_37_method_3_4) rfl k_) ?_
  show Go pg.tables ev below (T1.setTop (mkF mi 5 #[.val (.ref o), .val (.int f), .val (.int b), .val (.int m), .unset, .unset, .unset, .unset] [(.int f), (.ref bm)])) P
  have ov2 := A_bm
  obtain ⟨cl2, Ar2, q2, S2, M2, H2, G2⟩ := ov2
  have hin2 : ¬ (f < 0 ∨ cl2.slots.size ≤ (f).toNatClampNeg) := inb_of S2 ⟨hf1, hf2⟩
  have hat2 : cl2.slots[(f).toNatClampNeg]? = some .null := atH H2 hin2 uB
  refine Go.st (X1.aaload hx (j := f) (v := .null) (by rw [e1]; exact Ar2.1) (State.isArrayOf_alike hZ.alike Ar2.2.1) rfl Ar2.2.2 hin2 hat2 (g := (mkF mi 5 #[.val (.ref o), .val (.int f), .val (.int b), .val (.int m), .unset, .unset, .unset, .unset] [(.int f), (.ref bm)])) rfl rfl (hb hby d_prog_37_method_3_5)) ?_
  show Go pg.tables ev below (T1.setTop (mkF mi 6 #[.val (.ref o), .val (.int f), .val (.int b), .val (.int m), .unset, .unset, .unset, .unset] [.null])) P
  refine Go.st (fun t_ k_ => XS.ifnonnullNo X1.here hx rfl (hb hby d_prog_37_method_3_6) rfl k_) ?_
  show Go pg.tables ev below (T1.setTop (mkF mi 9 #[.val (.ref o), .val (.int f), .val (.int b), .val (.int m), .unset, .unset, .unset, .unset] [])) P
  refine Go.st (fun t_ k_ => XS.aloadN X1.here hx rfl (hb hby d_prog_37_method_3_9) rfl rfl k_) ?_
  show Go pg.tables ev below (T1.setTop (mkF mi 10 #[.val (.ref o), .val (.int f), .val (.int b), .val (.int m), .unset, .unset, .unset, .unset] [(.ref o)])) P
  obtain ⟨T3, X3, e3, st3⟩ := getF X1 hx hZ hown (host := "") (Or.inl (hw _ (List.mem_of_getElem? (i := 18) rfl))) Via.refl e1 F1 (g := (mkF mi 10 #[.val (.ref o), .val (.int f), .val (.int b), .val (.int m), .unset, .unset, .unset, .unset] [(.ref o)])) rfl rfl (hb hby d_prog_37_method_3_10)
  refine Go.st st3 ?_
  show Go pg.tables ev below (T3.setTop (mkF mi 13 #[.val (.ref o), .val (.int f), .val (.int b), .val (.int m), .unset, .unset, .unset, .unset] [(.ref tb)])) P
  refine Go.st (fun t_ k_ => XS.iloadN X3.here hx rfl (hb hby d_prog_37_method_3_13) rfl k_) ?_
  show Go pg.tables ev below (T3.setTop (mkF mi 14 #[.val (.ref o), .val (.int f), .val (.int b), .val (.int m), .unset, .unset, .unset, .unset] [(.int f), (.ref tb)])) P
  have ov4 := A_tb
  obtain ⟨cl4, Ar4, q4, S4, M4, H4, G4⟩ := ov4
  have hin4 : ¬ (f < 0 ∨ cl4.slots.size ≤ (f).toNatClampNeg) := inb_of S4 ⟨hf1, hf2⟩
  have hat4 : cl4.slots[(f).toNatClampNeg]? = some (.ref x) := atH H4 hin4 uT
  refine Go.st (X3.aaload hx (j := f) (v := (.ref x)) (by rw [e3]; exact Ar4.1) (State.isArrayOf_alike hZ.alike Ar4.2.1) rfl Ar4.2.2 hin4 hat4 (g := (mkF mi 14 #[.val (.ref o), .val (.int f), .val (.int b), .val (.int m), .unset, .unset, .unset, .unset] [(.int f), (.ref tb)])) rfl rfl (hb hby d_prog_37_method_3_14)) ?_
  show Go pg.tables ev below (T3.setTop (mkF mi 15 #[.val (.ref o), .val (.int f), .val (.int b), .val (.int m), .unset, .unset, .unset, .unset] [(.ref x)])) P
  refine Go.st (fun t_ k_ => XS.ifnonnullYes X3.here hx rfl (pc0 := 15) (pc' := 23) rfl (hb hby d_prog_37_method_3_15) rfl (by decide) (by decide) k_) ?_
  show Go pg.tables ev below (T3.setTop (mkF mi 23 #[.val (.ref o), .val (.int f), .val (.int b), .val (.int m), .unset, .unset, .unset, .unset] [])) P
  refine Go.st (fun t_ k_ => XS.aloadN X3.here hx rfl (hb hby d_prog_37_method_3_23) rfl rfl k_) ?_
  show Go pg.tables ev below (T3.setTop (mkF mi 24 #[.val (.ref o), .val (.int f), .val (.int b), .val (.int m), .unset, .unset, .unset, .unset] [(.ref o)])) P
  obtain ⟨T5, X5, e5, st5⟩ := getF X3 hx hZ hown (host := "") (Or.inl (hw _ (List.mem_of_getElem? (i := 24) rfl))) Via.refl e3 F3 (g := (mkF mi 24 #[.val (.ref o), .val (.int f), .val (.int b), .val (.int m), .unset, .unset, .unset, .unset] [(.ref o)])) rfl rfl (hb hby d_prog_37_method_3_24)
  refine Go.st st5 ?_
  show Go pg.tables ev below (T5.setTop (mkF mi 27 #[.val (.ref o), .val (.int f), .val (.int b), .val (.int m), .unset, .unset, .unset, .unset] [(.ref bm)])) P
  refine Go.st (fun t_ k_ => XS.iloadN X5.here hx rfl (hb hby d_prog_37_method_3_27) rfl k_) ?_
  show Go pg.tables ev below (T5.setTop (mkF mi 28 #[.val (.ref o), .val (.int f), .val (.int b), .val (.int m), .unset, .unset, .unset, .unset] [(.int f), (.ref bm)])) P
  have ov6 := A_bm
  obtain ⟨cl6, Ar6, q6, S6, M6, H6, G6⟩ := ov6
  have hin6 : ¬ (f < 0 ∨ cl6.slots.size ≤ (f).toNatClampNeg) := inb_of S6 ⟨hf1, hf2⟩
  have hat6 : cl6.slots[(f).toNatClampNeg]? = some .null := atH H6 hin6 uB
  refine Go.st (X5.aaload hx (j := f) (v := .null) (by rw [e5]; exact Ar6.1) (State.isArrayOf_alike hZ.alike Ar6.2.1) rfl Ar6.2.2 hin6 hat6 (g := (mkF mi 28 #[.val (.ref o), .val (.int f), .val (.int b), .val (.int m), .unset, .unset, .unset, .unset] [(.int f), (.ref bm)])) rfl rfl (hb hby d_prog_37_method_3_28)) ?_
  show Go pg.tables ev below (T5.setTop (mkF mi 29 #[.val (.ref o), .val (.int f), .val (.int b), .val (.int m), .unset, .unset, .unset, .unset] [.null])) P
  refine Go.st (fun t_ k_ => XS.astore X5.here hx rfl (hb hby d_prog_37_method_3_29) rfl rfl (l' := #[.val (.ref o), .val (.int f), .val (.int b), .val (.int m), .val .null, .unset, .unset, .unset]) rfl k_) ?_
  show Go pg.tables ev below (T5.setTop (mkF mi 31 #[.val (.ref o), .val (.int f), .val (.int b), .val (.int m), .val .null, .unset, .unset, .unset] [])) P
  refine Go.st (fun t_ k_ => XS.aload X5.here hx rfl (hb hby d_prog_37_method_3_31) rfl rfl k_) ?_
  show Go pg.tables ev below (T5.setTop (mkF mi 33 #[.val (.ref o), .val (.int f), .val (.int b), .val (.int m), .val .null, .unset, .unset, .unset] [.null])) P
  refine Go.st (fun t_ k_ => XS.ifnullYes X5.here hx rfl (pc0 := 33) (pc' := 68) rfl (hb hby d_prog_37_method_3_33) rfl (by decide) (by decide) k_) ?_
  show Go pg.tables ev below (T5.setTop (mkF mi 68 #[.val (.ref o), .val (.int f), .val (.int b), .val (.int m), .val .null, .unset, .unset, .unset] [])) P
  refine Go.st (fun t_ k_ => XS.aloadN X5.here hx rfl (hb hby d_prog_37_method_3_68) rfl rfl k_) ?_
  show Go pg.tables ev below (T5.setTop (mkF mi 69 #[.val (.ref o), .val (.int f), .val (.int b), .val (.int m), .val .null, .unset, .unset, .unset] [(.ref o)])) P
  obtain ⟨T7, X7, e7, st7⟩ := getF X5 hx hZ hown (host := "") (Or.inl (hw _ (List.mem_of_getElem? (i := 18) rfl))) Via.refl e5 F1 (g := (mkF mi 69 #[.val (.ref o), .val (.int f), .val (.int b), .val (.int m), .val .null, .unset, .unset, .unset] [(.ref o)])) rfl rfl (hb hby d_prog_37_method_3_69)
  refine Go.st st7 ?_
  show Go pg.tables ev below (T7.setTop (mkF mi 72 #[.val (.ref o), .val (.int f), .val (.int b), .val (.int m), .val .null, .unset, .unset, .unset] [(.ref tb)])) P
  refine Go.st (fun t_ k_ => XS.iloadN X7.here hx rfl (hb hby d_prog_37_method_3_72) rfl k_) ?_
  show Go pg.tables ev below (T7.setTop (mkF mi 73 #[.val (.ref o), .val (.int f), .val (.int b), .val (.int m), .val .null, .unset, .unset, .unset] [(.int f), (.ref tb)])) P
  have ov8 := A_tb
  obtain ⟨cl8, Ar8, q8, S8, M8, H8, G8⟩ := ov8
  have hin8 : ¬ (f < 0 ∨ cl8.slots.size ≤ (f).toNatClampNeg) := inb_of S8 ⟨hf1, hf2⟩
  have hat8 : cl8.slots[(f).toNatClampNeg]? = some (.ref x) := atH H8 hin8 uT
  refine Go.st (X7.aaload hx (j := f) (v := (.ref x)) (by rw [e7]; exact Ar8.1) (State.isArrayOf_alike hZ.alike Ar8.2.1) rfl Ar8.2.2 hin8 hat8 (g := (mkF mi 73 #[.val (.ref o), .val (.int f), .val (.int b), .val (.int m), .val .null, .unset, .unset, .unset] [(.int f), (.ref tb)])) rfl rfl (hb hby d_prog_37_method_3_73)) ?_
  show Go pg.tables ev below (T7.setTop (mkF mi 74 #[.val (.ref o), .val (.int f), .val (.int b), .val (.int m), .val .null, .unset, .unset, .unset] [(.ref x)])) P
  refine Go.st (fun t_ k_ => XS.astore X7.here hx rfl (hb hby d_prog_37_method_3_74) rfl rfl (l' := #[.val (.ref o), .val (.int f), .val (.int b), .val (.int m), .val .null, .val (.ref x), .unset, .unset]) rfl k_) ?_
  show Go pg.tables ev below (T7.setTop (mkF mi 76 #[.val (.ref o), .val (.int f), .val (.int b), .val (.int m), .val .null, .val (.ref x), .unset, .unset] [])) P
  refine Go.st (fun t_ k_ => XS.aload X7.here hx rfl (hb hby d_prog_37_method_3_76) rfl rfl k_) ?_
  show Go pg.tables ev below (T7.setTop (mkF mi 78 #[.val (.ref o), .val (.int f), .val (.int b), .val (.int m), .val .null, .val (.ref x), .unset, .unset] [(.ref x)])) P
  refine Go.st (fun t_ k_ => XS.iloadN X7.here hx rfl (hb hby d_prog_37_method_3_78) rfl k_) ?_
  show Go pg.tables ev below (T7.setTop (mkF mi 79 #[.val (.ref o), .val (.int f), .val (.int b), .val (.int m), .val .null, .val (.ref x), .unset, .unset] [(.int b), (.ref x)])) P
  obtain ⟨_, _, ⟨T9, L9, k9, n9⟩, -, X9, ⟨Lc9, hQ9, l9, y9, z9⟩, st9⟩ := Jvm.LawKit.callS X7 hx (y := (⟨"com/example/hedge/hedge/automaton/PairMarks", "find", "([II)I"⟩ : MethodName)) hown (mvT hZ (hw _ (List.mem_of_getElem? (i := 69) rfl))) (mvT hZ (hw _ (List.mem_of_getElem? (i := 70) rfl))) (mvT hZ (hw _ (List.mem_of_getElem? (i := 3) rfl))) (mvT hZ (hw _ (List.mem_of_getElem? (i := 71) rfl))) (by decide) (backOf (W := 0) (rmFi2 l Z a0 hw [] x b kx [((fSl b (3 : Int32)), .int kv)] kv h0 n0 Z0 A_x (own_hit (own_slot b).1) hk0 hk1) hZ (hw _ (List.mem_of_getElem? (i := 71) rfl)) (hw _ (List.mem_of_getElem? (i := 3) rfl)) (by decide) (by decide)) (g := (mkF mi 79 #[.val (.ref o), .val (.int f), .val (.int b), .val (.int m), .val .null, .val (.ref x), .unset, .unset] [(.int b), (.ref x)])) rfl (by rw [hml]; rfl) (argsL := [(.ref x), (.int b)]) (rest := []) (lenOf pd_3 rfl) rfl (by show 2 * 0 + _ ≤ _; exact Nat.le_of_eq rfl) (hb hby d_prog_37_method_3_79) (fun _ _ => ⟨rfl, e7, (by decide : 0 + 0 ≤ _), (by decide : 0 + 0 ≤ _)⟩)
  dsimp only [Pt.U, Pt.locs, Pt.cells, Pt.slots] at X9 l9 y9 z9 st9 hQ9
  subst l9 y9 z9
  obtain ⟨rfl, N9q, e9⟩ := hQ9
  have N9 := Fr.app N0 N9q
  refine Go.st st9 ?_
  show Go pg.tables ev below (T9.setTop (mkF mi 82 #[.val (.ref o), .val (.int f), .val (.int b), .val (.int m), .val .null, .val (.ref x), .unset, .unset] [(.int (fSl b (3 : Int32)))])) P
  refine Go.st (fun t_ k_ => XS.istore X9.here hx rfl (hb hby d_prog_37_method_3_82) rfl (l' := #[.val (.ref o), .val (.int f), .val (.int b), .val (.int m), .val .null, .val (.ref x), .val (.int (fSl b (3 : Int32))), .unset]) rfl k_) ?_
  show Go pg.tables ev below (T9.setTop (mkF mi 84 #[.val (.ref o), .val (.int f), .val (.int b), .val (.int m), .val .null, .val (.ref x), .val (.int (fSl b (3 : Int32))), .unset] [])) P
  refine Go.st (fun t_ k_ => XS.iloadN X9.here hx rfl (hb hby d_prog_37_method_3_84) rfl k_) ?_
  show Go pg.tables ev below (T9.setTop (mkF mi 85 #[.val (.ref o), .val (.int f), .val (.int b), .val (.int m), .val .null, .val (.ref x), .val (.int (fSl b (3 : Int32))), .unset] [(.int m)])) P
  refine Go.st (fun t_ k_ => XS.aload X9.here hx rfl (hb hby d_prog_37_method_3_85) rfl rfl k_) ?_
  show Go pg.tables ev below (T9.setTop (mkF mi 87 #[.val (.ref o), .val (.int f), .val (.int b), .val (.int m), .val .null, .val (.ref x), .val (.int (fSl b (3 : Int32))), .unset] [(.ref x), (.int m)])) P
  refine Go.st (fun t_ k_ => XS.iload X9.here hx rfl (hb hby d_prog_37_method_3_87) rfl k_) ?_
  show Go pg.tables ev below (T9.setTop (mkF mi 89 #[.val (.ref o), .val (.int f), .val (.int b), .val (.int m), .val .null, .val (.ref x), .val (.int (fSl b (3 : Int32))), .unset] [(.int (fSl b (3 : Int32))), (.ref x), (.int m)])) P
  have ov10 := A_x
  obtain ⟨cl10, Ar10, q10, S10, M10, H10, G10⟩ := ov10
  have hin10 : ¬ ((fSl b (3 : Int32)) < 0 ∨ cl10.slots.size ≤ ((fSl b (3 : Int32))).toNatClampNeg) := inb_of S10 (own_slot b)
  have hat10 : cl10.slots[((fSl b (3 : Int32))).toNatClampNeg]? = some (.int kv) := atH H10 hin10 (own_hit (own_slot b).1)
  refine Go.st (X9.iaload hx (j := (fSl b (3 : Int32))) (v := (.int kv)) (by rw [e9]; exact Ar10.1) (State.isArrayOf_alike hZ.alike Ar10.2.1) Ar10.2.2 hin10 hat10 (g := (mkF mi 89 #[.val (.ref o), .val (.int f), .val (.int b), .val (.int m), .val .null, .val (.ref x), .val (.int (fSl b (3 : Int32))), .unset] [(.int (fSl b (3 : Int32))), (.ref x), (.int m)])) rfl rfl (hb hby d_prog_37_method_3_89)) ?_
  show Go pg.tables ev below (T9.setTop (mkF mi 90 #[.val (.ref o), .val (.int f), .val (.int b), .val (.int m), .val .null, .val (.ref x), .val (.int (fSl b (3 : Int32))), .unset] [(.int kv), (.int m)])) P
  refine Go.st (fun t_ k_ => XS.iconst X9.here hx rfl (hb hby d_prog_37_method_3_90) k_) ?_
  show Go pg.tables ev below (T9.setTop (mkF mi 91 #[.val (.ref o), .val (.int f), .val (.int b), .val (.int m), .val .null, .val (.ref x), .val (.int (fSl b (3 : Int32))), .unset] [(.int (-1 : Int32)), (.int kv), (.int m)])) P
  refine Go.st (fun t_ k_ => XS.ixor X9.here hx rfl (hb hby d_prog_37_method_3_91) rfl k_) ?_
  show Go pg.tables ev below (T9.setTop (mkF mi 92 #[.val (.ref o), .val (.int f), .val (.int b), .val (.int m), .val .null, .val (.ref x), .val (.int (fSl b (3 : Int32))), .unset] [(.int (kv ^^^ (-1 : Int32))), (.int m)])) P
  refine Go.st (fun t_ k_ => XS.iand X9.here hx rfl (hb hby d_prog_37_method_3_92) rfl k_) ?_
  show Go pg.tables ev below (T9.setTop (mkF mi 93 #[.val (.ref o), .val (.int f), .val (.int b), .val (.int m), .val .null, .val (.ref x), .val (.int (fSl b (3 : Int32))), .unset] [(.int (m &&& (kv ^^^ (-1 : Int32))))])) P
  refine Go.st (fun t_ k_ => XS.istore X9.here hx rfl (hb hby d_prog_37_method_3_93) rfl (l' := #[.val (.ref o), .val (.int f), .val (.int b), .val (.int m), .val .null, .val (.ref x), .val (.int (fSl b (3 : Int32))), .val (.int (m &&& (kv ^^^ (-1 : Int32))))]) rfl k_) ?_
  show Go pg.tables ev below (T9.setTop (mkF mi 95 #[.val (.ref o), .val (.int f), .val (.int b), .val (.int m), .val .null, .val (.ref x), .val (.int (fSl b (3 : Int32))), .val (.int (m &&& (kv ^^^ (-1 : Int32))))] [])) P
  refine Go.st (fun t_ k_ => XS.aload X9.here hx rfl (hb hby d_prog_37_method_3_95) rfl rfl k_) ?_
  show Go pg.tables ev below (T9.setTop (mkF mi 97 #[.val (.ref o), .val (.int f), .val (.int b), .val (.int m), .val .null, .val (.ref x), .val (.int (fSl b (3 : Int32))), .val (.int (m &&& (kv ^^^ (-1 : Int32))))] [(.ref x)])) P
  refine Go.st (fun t_ k_ => XS.iload X9.here hx rfl (hb hby d_prog_37_method_3_97) rfl k_) ?_
  show Go pg.tables ev below (T9.setTop (mkF mi 99 #[.val (.ref o), .val (.int f), .val (.int b), .val (.int m), .val .null, .val (.ref x), .val (.int (fSl b (3 : Int32))), .val (.int (m &&& (kv ^^^ (-1 : Int32))))] [(.int (fSl b (3 : Int32))), (.ref x)])) P
  have ov11 := A_x
  obtain ⟨cl11, Ar11, q11, S11, M11, H11, G11⟩ := ov11
  have hin11 : ¬ ((fSl b (3 : Int32)) < 0 ∨ cl11.slots.size ≤ ((fSl b (3 : Int32))).toNatClampNeg) := inb_of S11 (own_slot b)
  have hat11 : cl11.slots[((fSl b (3 : Int32))).toNatClampNeg]? = some (.int kv) := atH H11 hin11 (own_hit (own_slot b).1)
  refine Go.st (X9.iaload hx (j := (fSl b (3 : Int32))) (v := (.int kv)) (by rw [e9]; exact Ar11.1) (State.isArrayOf_alike hZ.alike Ar11.2.1) Ar11.2.2 hin11 hat11 (g := (mkF mi 99 #[.val (.ref o), .val (.int f), .val (.int b), .val (.int m), .val .null, .val (.ref x), .val (.int (fSl b (3 : Int32))), .val (.int (m &&& (kv ^^^ (-1 : Int32))))] [(.int (fSl b (3 : Int32))), (.ref x)])) rfl rfl (hb hby d_prog_37_method_3_99)) ?_
  show Go pg.tables ev below (T9.setTop (mkF mi 100 #[.val (.ref o), .val (.int f), .val (.int b), .val (.int m), .val .null, .val (.ref x), .val (.int (fSl b (3 : Int32))), .val (.int (m &&& (kv ^^^ (-1 : Int32))))] [(.int kv)])) P
  refine Go.st (fun t_ k_ => XS.ifNo X9.here hx rfl (hb hby d_prog_37_method_3_100) rfl ((if0 _ _).trans (feq hk0).1) k_) ?_
  show Go pg.tables ev below (T9.setTop (mkF mi 103 #[.val (.ref o), .val (.int f), .val (.int b), .val (.int m), .val .null, .val (.ref x), .val (.int (fSl b (3 : Int32))), .val (.int (m &&& (kv ^^^ (-1 : Int32))))] [])) P
  refine Go.st (fun t_ k_ => XS.aload X9.here hx rfl (hb hby d_prog_37_method_3_103) rfl rfl k_) ?_
  show Go pg.tables ev below (T9.setTop (mkF mi 105 #[.val (.ref o), .val (.int f), .val (.int b), .val (.int m), .val .null, .val (.ref x), .val (.int (fSl b (3 : Int32))), .val (.int (m &&& (kv ^^^ (-1 : Int32))))] [(.ref x)])) P
  refine Go.st (fun t_ k_ => XS.iload X9.here hx rfl (hb hby d_prog_37_method_3_105) rfl k_) ?_
  show Go pg.tables ev below (T9.setTop (mkF mi 107 #[.val (.ref o), .val (.int f), .val (.int b), .val (.int m), .val .null, .val (.ref x), .val (.int (fSl b (3 : Int32))), .val (.int (m &&& (kv ^^^ (-1 : Int32))))] [(.int (fSl b (3 : Int32))), (.ref x)])) P
  refine Go.st (fun t_ k_ => XT.dup2 X9.here hx rfl (hb hby d_prog_37_method_3_107) rfl rfl rfl k_) ?_
  show Go pg.tables ev below (T9.setTop (mkF mi 108 #[.val (.ref o), .val (.int f), .val (.int b), .val (.int m), .val .null, .val (.ref x), .val (.int (fSl b (3 : Int32))), .val (.int (m &&& (kv ^^^ (-1 : Int32))))] [(.int (fSl b (3 : Int32))), (.ref x), (.int (fSl b (3 : Int32))), (.ref x)])) P
  have ov12 := A_x
  obtain ⟨cl12, Ar12, q12, S12, M12, H12, G12⟩ := ov12
  have hin12 : ¬ ((fSl b (3 : Int32)) < 0 ∨ cl12.slots.size ≤ ((fSl b (3 : Int32))).toNatClampNeg) := inb_of S12 (own_slot b)
  have hat12 : cl12.slots[((fSl b (3 : Int32))).toNatClampNeg]? = some (.int kv) := atH H12 hin12 (own_hit (own_slot b).1)
  refine Go.st (X9.iaload hx (j := (fSl b (3 : Int32))) (v := (.int kv)) (by rw [e9]; exact Ar12.1) (State.isArrayOf_alike hZ.alike Ar12.2.1) Ar12.2.2 hin12 hat12 (g := (mkF mi 108 #[.val (.ref o), .val (.int f), .val (.int b), .val (.int m), .val .null, .val (.ref x), .val (.int (fSl b (3 : Int32))), .val (.int (m &&& (kv ^^^ (-1 : Int32))))] [(.int (fSl b (3 : Int32))), (.ref x), (.int (fSl b (3 : Int32))), (.ref x)])) rfl rfl (hb hby d_prog_37_method_3_108)) ?_
  show Go pg.tables ev below (T9.setTop (mkF mi 109 #[.val (.ref o), .val (.int f), .val (.int b), .val (.int m), .val .null, .val (.ref x), .val (.int (fSl b (3 : Int32))), .val (.int (m &&& (kv ^^^ (-1 : Int32))))] [(.int kv), (.int (fSl b (3 : Int32))), (.ref x)])) P
  refine Go.st (fun t_ k_ => XS.iload X9.here hx rfl (hb hby d_prog_37_method_3_109) rfl k_) ?_
  show Go pg.tables ev below (T9.setTop (mkF mi 111 #[.val (.ref o), .val (.int f), .val (.int b), .val (.int m), .val .null, .val (.ref x), .val (.int (fSl b (3 : Int32))), .val (.int (m &&& (kv ^^^ (-1 : Int32))))] [(.int (m &&& (kv ^^^ (-1 : Int32)))), (.int kv), (.int (fSl b (3 : Int32))), (.ref x)])) P
  refine Go.st (fun t_ k_ => XS.ior X9.here hx rfl (hb hby d_prog_37_method_3_111) rfl k_) ?_
  show Go pg.tables ev below (T9.setTop (mkF mi 112 #[.val (.ref o), .val (.int f), .val (.int b), .val (.int m), .val .null, .val (.ref x), .val (.int (fSl b (3 : Int32))), .val (.int (m &&& (kv ^^^ (-1 : Int32))))] [(.int (kv ||| (m &&& (kv ^^^ (-1 : Int32))))), (.int (fSl b (3 : Int32))), (.ref x)])) P
  have ov13 := A_x
  obtain ⟨cl13, Ar13, q13, S13, M13, H13, G13⟩ := ov13
  have hin13 : ¬ ((fSl b (3 : Int32)) < 0 ∨ cl13.slots.size ≤ ((fSl b (3 : Int32))).toNatClampNeg) := inb_of S13 (own_slot b)
  obtain ⟨T14, h14, X14, e14, W14, st14⟩ := stI X9 hx hZ e9 Ar13 (j := (fSl b (3 : Int32))) hin13 (g := (mkF mi 112 #[.val (.ref o), .val (.int f), .val (.int b), .val (.int m), .val .null, .val (.ref x), .val (.int (fSl b (3 : Int32))), .val (.int (m &&& (kv ^^^ (-1 : Int32))))] [(.int (kv ||| (m &&& (kv ^^^ (-1 : Int32))))), (.int (fSl b (3 : Int32))), (.ref x)])) rfl rfl (hb hby d_prog_37_method_3_112)
  have Zs15 : n0 ≤ h14.size := Nat.le_trans Z0 (Keep.of_wr W14).1
  have KC15 : Keep h0 h14 [x, sz] := (Keep.refl h0 [x, sz]).wr W14 (Or.inl (List.mem_of_getElem? (i := 0) rfl))
  have N15 := Fr.snoc X14 N9 g_x
  have V14 : Arh Z h14 x kx .int (4 : Int32) (((fSl b (3 : Int32)), (.int (kv ||| (m &&& (kv ^^^ (-1 : Int32)))))) :: [((fSl b (3 : Int32)), .int kv)]) [] (.int (0 : Int32)) := Arh.push Ar13 q13 S13 M13 H13 G13 rfl W14 hin13
  refine Go.st st14 ?_
  show Go pg.tables ev below (T14.setTop (mkF mi 113 #[.val (.ref o), .val (.int f), .val (.int b), .val (.int m), .val .null, .val (.ref x), .val (.int (fSl b (3 : Int32))), .val (.int (m &&& (kv ^^^ (-1 : Int32))))] [])) P
  refine Go.st (fun t_ k_ => XS.iload X14.here hx rfl (hb hby d_prog_37_method_3_113) rfl k_) ?_
  show Go pg.tables ev below (T14.setTop (mkF mi 115 #[.val (.ref o), .val (.int f), .val (.int b), .val (.int m), .val .null, .val (.ref x), .val (.int (fSl b (3 : Int32))), .val (.int (m &&& (kv ^^^ (-1 : Int32))))] [(.int (m &&& (kv ^^^ (-1 : Int32))))])) P
  obtain ⟨fs, hr, hrun, hended, hW, hsame⟩ := X14.leave (v := some (.int (m &&& (kv ^^^ (-1 : Int32))))) (fun h => by rw [Bd.returns] at h; cases h) (BodyLoose.notSynchronized Bd)
  have f16 := (A_sz.other W14 ne_sz)
  refine ⟨_, _, ?_, hP _ _ ⟨hrun, hended, _, _, rfl, ?_, ⟨_, rfl⟩, hW, hsame.mono (by decide) (by decide)⟩⟩
  · exact retI X14 hx Bd.returns (hb hby d_prog_37_method_3_115) hr
  · show ∃ (r : Int32) (hs2 : List (Int32 × Value)), (some (.int (m &&& (kv ^^^ (-1 : Int32)))) : Option Value) = some (.int r) ∧ Fr n0 _ ∧ Keep h0 T14.heap [x, sz] ∧ Arh Z T14.heap sz kS .int N hs2 [] (.int (0 : Int32))
    rw [e14]
    exact ⟨_, _, rfl, N15, KC15, f16⟩
theorem ef_rmAET2 (mi : MethodId) (o : Addr) (f : Int32) (s : Int32) (m : Int32) (tb : Addr) (bm : Addr) (kT : ClassId) (kB : ClassId) (N : Int32) (hT : List (Int32 × Value)) (hB : List (Int32 × Value)) (x : Addr) (kx : ClassId) (sz : Addr) (kS : ClassId) (hS : List (Int32 × Value)) (kv : Int32) (b : Int32) : entryFrame mi #[(.ref o), (.int f), (.int s), (.int m)] 8 = mkF mi 0 #[.val (.ref o), .val (.int f), .val (.int s), .val (.int m), .unset, .unset, .unset, .unset] [] := by first | (simp [entryFrame, mkF, argsToLocals, Value.category]; done) | rfl
def Q_rmAET2 (Z : State) (o : Addr) (f : Int32) (s : Int32) (m : Int32) (tb : Addr) (bm : Addr) (kT : ClassId) (kB : ClassId) (N : Int32) (hT : List (Int32 × Value)) (hB : List (Int32 × Value)) (x : Addr) (kx : ClassId) (sz : Addr) (kS : ClassId) (hS : List (Int32 × Value)) (kv : Int32) (b : Int32) (h0 : Heap) (n0 : Nat) (vv_ : Option Value) (hh_ : Heap) (LL_ : List Loc) : Prop := ∃ (r : Int32) (hs2 : List (Int32 × Value)), vv_ = some (.int r) ∧ Fr n0 LL_ ∧ Keep h0 hh_ [x, sz] ∧ Arh Z hh_ sz kS .int N hs2 [] (.int (0 : Int32))
set_option maxRecDepth 65536 in
set_option maxHeartbeats 40000000 in
theorem rmAET2 (l : Launch) (Z : State) (a0 : Array Value) (hw : ∀ d ∈ tables_1, d.before a0 Z = true) (ws : List Jvm.Cond) (o : Addr) (f : Int32) (s : Int32) (m : Int32) (tb : Addr) (bm : Addr) (kT : ClassId) (kB : ClassId) (N : Int32) (hT : List (Int32 × Value)) (hB : List (Int32 × Value)) (x : Addr) (kx : ClassId) (sz : Addr) (kS : ClassId) (hS : List (Int32 × Value)) (kv : Int32) (b : Int32) (h0 : Heap) (n0 : Nat) (Z0 : n0 ≤ h0.size) (E0 : Exa Z h0 o "com/example/hedge/hedge/automaton/PairMarks") (F1 : Fld Z h0 o "com/example/hedge/hedge/automaton/PairMarks" "tables" "[[I" (.ref tb)) (F3 : Fld Z h0 o "com/example/hedge/hedge/automaton/PairMarks" "bitmaps" "[[J" (.ref bm)) (A_tb : Arh Z h0 tb kT (.array .int) N hT [] .null) (A_bm : Arh Z h0 bm kB (.array .long) N hB [] .null) (hf1 : ¬ f < 0) (hf2 : f < N) (uB : getH hB [] .null f.toNatClampNeg = .null) (uT : getH hT [] .null f.toNatClampNeg = .ref x) (F2 : Fld Z h0 o "com/example/hedge/hedge/automaton/PairMarks" "sizes" "[I" (.ref sz)) (A_sz : Arh Z h0 sz kS .int N hS [] (.int (0 : Int32))) (uS : getH hS [] (.int (0 : Int32)) f.toNatClampNeg = .int (1 : Int32)) (A_x : Arh Z h0 x kx .int (4 : Int32) [((fSl b (3 : Int32)), .int kv)] [] (.int (0 : Int32))) (hk0 : ¬ (kv = (0 : Int32))) (hk1 : (fSe kv) = b) (g_x : n0 ≤ x) (g_sz : n0 ≤ sz) (ne_bm : bm ≠ x) (ne_tb : tb ≠ x) (ne_sz : sz ≠ x) (ne_bs : bm ≠ sz) (ne_ts : tb ≠ sz) (ne_o : o ≠ x) (ne_os : o ≠ sz) (hbd : ¬ b = s) (hsl : ¬ (fSl s (3 : Int32)) = (fSl b (3 : Int32))) :
    MetFree l (⟨"com/example/hedge/hedge/automaton/PairMarks", "add", "(III)I"⟩ : MethodName) (head1 (Jvm.Cond.code (⟨"com/example/hedge/hedge/automaton/PairMarks", "add", "(III)I"⟩ : MethodName) prog_37_method_3_code 8 (some .int) :: ws) ({ frames := 2, cells := 0, slots := 0, locals := 29 } : Room)) (fun aa_ U => aa_ = #[(.ref o), (.int f), (.int s), (.int m)] ∧ Z.Warmed39 U.vm ∧ U.heap = h0) (fun _ _ _ _ _ => True) (fun _ U oo_ UV_ => ∃ vv_ LL_, oo_ = .returned vv_ ∧ Q_rmAET2 Z o f s m tb bm kT kB N hT hB x kx sz kS hS kv b h0 n0 vv_ UV_.heap LL_ ∧ FrameEnd U oo_ UV_ LL_ ({ frames := 2, cells := 0, slots := 0, locals := 29 } : Room).cells ({ frames := 2, cells := 0, slots := 0, locals := 29 } : Room).slots) := by
  refine MetFree.of_bodySF (plainFor_of_name pn_0) hisR ?_
  intro pg ev si mi args below meth ci s₁ Bd hml0 hP0 hK
  obtain ⟨rfl, hZ, hh⟩ := hP0
  have hx := Bd.exec
  have hby := Bd.bytes
  have hml : ci.maxLocals = 8 := hml0
  have hown : si.vm.findClass "com/example/hedge/hedge/automaton/PairMarks" = some mi.cls := findClass_of_methodNamed Bd.named
  have hnm := (name_of_methodNamed Bd.named Bd.method).1
  have X0 : Stand pg l ev ({ frames := 2, cells := 0, slots := 0, locals := 29 } : Room) si mi #[(.ref o), (.int f), (.int s), (.int m)] below meth ci s₁ [] 0 0 := Stand.of_body Bd
  have e0 : s₁.heap = h0 := by rw [← hh, Bd.state]; rfl
  have N0 := Fr.nil n0
  refine Go.start (fun P hP => ?_)
  refine Go.st (fun t_ k_ => castTop (ef_rmAET2 mi o f s m tb bm kT kB N hT hB x kx sz kS hS kv b) k_) (A := s₁.setTop (mkF mi 0 #[.val (.ref o), .val (.int f), .val (.int s), .val (.int m), .unset, .unset, .unset, .unset] [])) ?_
  show Go pg.tables ev below (s₁.setTop (mkF mi 0 #[.val (.ref o), .val (.int f), .val (.int s), .val (.int m), .unset, .unset, .unset, .unset] [])) P
  refine Go.st (fun t_ k_ => XS.aloadN X0.here hx rfl (hb hby d_prog_37_method_3_0) rfl rfl k_) ?_
  show Go pg.tables ev below (s₁.setTop (mkF mi 1 #[.val (.ref o), .val (.int f), .val (.int s), .val (.int m), .unset, .unset, .unset, .unset] [(.ref o)])) P
  obtain ⟨T1, X1, e1, st1⟩ := getF X0 hx hZ hown (host := "") (Or.inl (hw _ (List.mem_of_getElem? (i := 24) rfl))) Via.refl e0 F3 (g := (mkF mi 1 #[.val (.ref o), .val (.int f), .val (.int s), .val (.int m), .unset, .unset, .unset, .unset] [(.ref o)])) rfl rfl (hb hby d_prog_37_method_3_1)
  refine Go.st st1 ?_
  show Go pg.tables ev below (T1.setTop (mkF mi 4 #[.val (.ref o), .val (.int f), .val (.int s), .val (.int m), .unset, .unset, .unset, .unset] [(.ref bm)])) P
  refine Go.st (fun t_ k_ => XS.iloadN X1.here hx rfl (hb hby d_prog_37_method_3_4) rfl k_) ?_
  show Go pg.tables ev below (T1.setTop (mkF mi 5 #[.val (.ref o), .val (.int f), .val (.int s), .val (.int m), .unset, .unset, .unset, .unset] [(.int f), (.ref bm)])) P
  have ov2 := A_bm
  obtain ⟨cl2, Ar2, q2, S2, M2, H2, G2⟩ := ov2
  have hin2 : ¬ (f < 0 ∨ cl2.slots.size ≤ (f).toNatClampNeg) := inb_of S2 ⟨hf1, hf2⟩
  have hat2 : cl2.slots[(f).toNatClampNeg]? = some .null := atH H2 hin2 uB
  refine Go.st (X1.aaload hx (j := f) (v := .null) (by rw [e1]; exact Ar2.1) (State.isArrayOf_alike hZ.alike Ar2.2.1) rfl Ar2.2.2 hin2 hat2 (g := (mkF mi 5 #[.val (.ref o), .val (.int f), .val (.int s), .val (.int m), .unset, .unset, .unset, .unset] [(.int f), (.ref bm)])) rfl rfl (hb hby d_prog_37_method_3_5)) ?_
  show Go pg.tables ev below (T1.setTop (mkF mi 6 #[.val (.ref o), .val (.int f), .val (.int s), .val (.int m), .unset, .unset, .unset, .unset] [.null])) P
  refine Go.st (fun t_ k_ => XS.ifnonnullNo X1.here hx rfl (hb hby d_prog_37_method_3_6) rfl k_) ?_
  show Go pg.tables ev below (T1.setTop (mkF mi 9 #[.val (.ref o), .val (.int f), .val (.int s), .val (.int m), .unset, .unset, .unset, .unset] [])) P
  refine Go.st (fun t_ k_ => XS.aloadN X1.here hx rfl (hb hby d_prog_37_method_3_9) rfl rfl k_) ?_
  show Go pg.tables ev below (T1.setTop (mkF mi 10 #[.val (.ref o), .val (.int f), .val (.int s), .val (.int m), .unset, .unset, .unset, .unset] [(.ref o)])) P
  obtain ⟨T3, X3, e3, st3⟩ := getF X1 hx hZ hown (host := "") (Or.inl (hw _ (List.mem_of_getElem? (i := 18) rfl))) Via.refl e1 F1 (g := (mkF mi 10 #[.val (.ref o), .val (.int f), .val (.int s), .val (.int m), .unset, .unset, .unset, .unset] [(.ref o)])) rfl rfl (hb hby d_prog_37_method_3_10)
  refine Go.st st3 ?_
  show Go pg.tables ev below (T3.setTop (mkF mi 13 #[.val (.ref o), .val (.int f), .val (.int s), .val (.int m), .unset, .unset, .unset, .unset] [(.ref tb)])) P
  refine Go.st (fun t_ k_ => XS.iloadN X3.here hx rfl (hb hby d_prog_37_method_3_13) rfl k_) ?_
  show Go pg.tables ev below (T3.setTop (mkF mi 14 #[.val (.ref o), .val (.int f), .val (.int s), .val (.int m), .unset, .unset, .unset, .unset] [(.int f), (.ref tb)])) P
  have ov4 := A_tb
  obtain ⟨cl4, Ar4, q4, S4, M4, H4, G4⟩ := ov4
  have hin4 : ¬ (f < 0 ∨ cl4.slots.size ≤ (f).toNatClampNeg) := inb_of S4 ⟨hf1, hf2⟩
  have hat4 : cl4.slots[(f).toNatClampNeg]? = some (.ref x) := atH H4 hin4 uT
  refine Go.st (X3.aaload hx (j := f) (v := (.ref x)) (by rw [e3]; exact Ar4.1) (State.isArrayOf_alike hZ.alike Ar4.2.1) rfl Ar4.2.2 hin4 hat4 (g := (mkF mi 14 #[.val (.ref o), .val (.int f), .val (.int s), .val (.int m), .unset, .unset, .unset, .unset] [(.int f), (.ref tb)])) rfl rfl (hb hby d_prog_37_method_3_14)) ?_
  show Go pg.tables ev below (T3.setTop (mkF mi 15 #[.val (.ref o), .val (.int f), .val (.int s), .val (.int m), .unset, .unset, .unset, .unset] [(.ref x)])) P
  refine Go.st (fun t_ k_ => XS.ifnonnullYes X3.here hx rfl (pc0 := 15) (pc' := 23) rfl (hb hby d_prog_37_method_3_15) rfl (by decide) (by decide) k_) ?_
  show Go pg.tables ev below (T3.setTop (mkF mi 23 #[.val (.ref o), .val (.int f), .val (.int s), .val (.int m), .unset, .unset, .unset, .unset] [])) P
  refine Go.st (fun t_ k_ => XS.aloadN X3.here hx rfl (hb hby d_prog_37_method_3_23) rfl rfl k_) ?_
  show Go pg.tables ev below (T3.setTop (mkF mi 24 #[.val (.ref o), .val (.int f), .val (.int s), .val (.int m), .unset, .unset, .unset, .unset] [(.ref o)])) P
  obtain ⟨T5, X5, e5, st5⟩ := getF X3 hx hZ hown (host := "") (Or.inl (hw _ (List.mem_of_getElem? (i := 24) rfl))) Via.refl e3 F3 (g := (mkF mi 24 #[.val (.ref o), .val (.int f), .val (.int s), .val (.int m), .unset, .unset, .unset, .unset] [(.ref o)])) rfl rfl (hb hby d_prog_37_method_3_24)
  refine Go.st st5 ?_
  show Go pg.tables ev below (T5.setTop (mkF mi 27 #[.val (.ref o), .val (.int f), .val (.int s), .val (.int m), .unset, .unset, .unset, .unset] [(.ref bm)])) P
  refine Go.st (fun t_ k_ => XS.iloadN X5.here hx rfl (hb hby d_prog_37_method_3_27) rfl k_) ?_
  show Go pg.tables ev below (T5.setTop (mkF mi 28 #[.val (.ref o), .val (.int f), .val (.int s), .val (.int m), .unset, .unset, .unset, .unset] [(.int f), (.ref bm)])) P
  have ov6 := A_bm
  obtain ⟨cl6, Ar6, q6, S6, M6, H6, G6⟩ := ov6
  have hin6 : ¬ (f < 0 ∨ cl6.slots.size ≤ (f).toNatClampNeg) := inb_of S6 ⟨hf1, hf2⟩
  have hat6 : cl6.slots[(f).toNatClampNeg]? = some .null := atH H6 hin6 uB
  refine Go.st (X5.aaload hx (j := f) (v := .null) (by rw [e5]; exact Ar6.1) (State.isArrayOf_alike hZ.alike Ar6.2.1) rfl Ar6.2.2 hin6 hat6 (g := (mkF mi 28 #[.val (.ref o), .val (.int f), .val (.int s), .val (.int m), .unset, .unset, .unset, .unset] [(.int f), (.ref bm)])) rfl rfl (hb hby d_prog_37_method_3_28)) ?_
  show Go pg.tables ev below (T5.setTop (mkF mi 29 #[.val (.ref o), .val (.int f), .val (.int s), .val (.int m), .unset, .unset, .unset, .unset] [.null])) P
  refine Go.st (fun t_ k_ => XS.astore X5.here hx rfl (hb hby d_prog_37_method_3_29) rfl rfl (l' := #[.val (.ref o), .val (.int f), .val (.int s), .val (.int m), .val .null, .unset, .unset, .unset]) rfl k_) ?_
  show Go pg.tables ev below (T5.setTop (mkF mi 31 #[.val (.ref o), .val (.int f), .val (.int s), .val (.int m), .val .null, .unset, .unset, .unset] [])) P
  refine Go.st (fun t_ k_ => XS.aload X5.here hx rfl (hb hby d_prog_37_method_3_31) rfl rfl k_) ?_
  show Go pg.tables ev below (T5.setTop (mkF mi 33 #[.val (.ref o), .val (.int f), .val (.int s), .val (.int m), .val .null, .unset, .unset, .unset] [.null])) P
  refine Go.st (fun t_ k_ => XS.ifnullYes X5.here hx rfl (pc0 := 33) (pc' := 68) rfl (hb hby d_prog_37_method_3_33) rfl (by decide) (by decide) k_) ?_
  show Go pg.tables ev below (T5.setTop (mkF mi 68 #[.val (.ref o), .val (.int f), .val (.int s), .val (.int m), .val .null, .unset, .unset, .unset] [])) P
  refine Go.st (fun t_ k_ => XS.aloadN X5.here hx rfl (hb hby d_prog_37_method_3_68) rfl rfl k_) ?_
  show Go pg.tables ev below (T5.setTop (mkF mi 69 #[.val (.ref o), .val (.int f), .val (.int s), .val (.int m), .val .null, .unset, .unset, .unset] [(.ref o)])) P
  obtain ⟨T7, X7, e7, st7⟩ := getF X5 hx hZ hown (host := "") (Or.inl (hw _ (List.mem_of_getElem? (i := 18) rfl))) Via.refl e5 F1 (g := (mkF mi 69 #[.val (.ref o), .val (.int f), .val (.int s), .val (.int m), .val .null, .unset, .unset, .unset] [(.ref o)])) rfl rfl (hb hby d_prog_37_method_3_69)
  refine Go.st st7 ?_
  show Go pg.tables ev below (T7.setTop (mkF mi 72 #[.val (.ref o), .val (.int f), .val (.int s), .val (.int m), .val .null, .unset, .unset, .unset] [(.ref tb)])) P
  refine Go.st (fun t_ k_ => XS.iloadN X7.here hx rfl (hb hby d_prog_37_method_3_72) rfl k_) ?_
  show Go pg.tables ev below (T7.setTop (mkF mi 73 #[.val (.ref o), .val (.int f), .val (.int s), .val (.int m), .val .null, .unset, .unset, .unset] [(.int f), (.ref tb)])) P
  have ov8 := A_tb
  obtain ⟨cl8, Ar8, q8, S8, M8, H8, G8⟩ := ov8
  have hin8 : ¬ (f < 0 ∨ cl8.slots.size ≤ (f).toNatClampNeg) := inb_of S8 ⟨hf1, hf2⟩
  have hat8 : cl8.slots[(f).toNatClampNeg]? = some (.ref x) := atH H8 hin8 uT
  refine Go.st (X7.aaload hx (j := f) (v := (.ref x)) (by rw [e7]; exact Ar8.1) (State.isArrayOf_alike hZ.alike Ar8.2.1) rfl Ar8.2.2 hin8 hat8 (g := (mkF mi 73 #[.val (.ref o), .val (.int f), .val (.int s), .val (.int m), .val .null, .unset, .unset, .unset] [(.int f), (.ref tb)])) rfl rfl (hb hby d_prog_37_method_3_73)) ?_
  show Go pg.tables ev below (T7.setTop (mkF mi 74 #[.val (.ref o), .val (.int f), .val (.int s), .val (.int m), .val .null, .unset, .unset, .unset] [(.ref x)])) P
  refine Go.st (fun t_ k_ => XS.astore X7.here hx rfl (hb hby d_prog_37_method_3_74) rfl rfl (l' := #[.val (.ref o), .val (.int f), .val (.int s), .val (.int m), .val .null, .val (.ref x), .unset, .unset]) rfl k_) ?_
  show Go pg.tables ev below (T7.setTop (mkF mi 76 #[.val (.ref o), .val (.int f), .val (.int s), .val (.int m), .val .null, .val (.ref x), .unset, .unset] [])) P
  refine Go.st (fun t_ k_ => XS.aload X7.here hx rfl (hb hby d_prog_37_method_3_76) rfl rfl k_) ?_
  show Go pg.tables ev below (T7.setTop (mkF mi 78 #[.val (.ref o), .val (.int f), .val (.int s), .val (.int m), .val .null, .val (.ref x), .unset, .unset] [(.ref x)])) P
  refine Go.st (fun t_ k_ => XS.iloadN X7.here hx rfl (hb hby d_prog_37_method_3_78) rfl k_) ?_
  show Go pg.tables ev below (T7.setTop (mkF mi 79 #[.val (.ref o), .val (.int f), .val (.int s), .val (.int m), .val .null, .val (.ref x), .unset, .unset] [(.int s), (.ref x)])) P
  obtain ⟨_, _, ⟨T9, L9, k9, n9⟩, -, X9, ⟨Lc9, hQ9, l9, y9, z9⟩, st9⟩ := Jvm.LawKit.callS X7 hx (y := (⟨"com/example/hedge/hedge/automaton/PairMarks", "find", "([II)I"⟩ : MethodName)) hown (mvT hZ (hw _ (List.mem_of_getElem? (i := 69) rfl))) (mvT hZ (hw _ (List.mem_of_getElem? (i := 70) rfl))) (mvT hZ (hw _ (List.mem_of_getElem? (i := 3) rfl))) (mvT hZ (hw _ (List.mem_of_getElem? (i := 71) rfl))) (by decide) (backOf (W := 0) (rmFi1 l Z a0 hw [] x s kx [((fSl b (3 : Int32)), .int kv)] h0 n0 Z0 A_x (getH_miss (own_slot s).1 hsl rfl)) hZ (hw _ (List.mem_of_getElem? (i := 71) rfl)) (hw _ (List.mem_of_getElem? (i := 3) rfl)) (by decide) (by decide)) (g := (mkF mi 79 #[.val (.ref o), .val (.int f), .val (.int s), .val (.int m), .val .null, .val (.ref x), .unset, .unset] [(.int s), (.ref x)])) rfl (by rw [hml]; rfl) (argsL := [(.ref x), (.int s)]) (rest := []) (lenOf pd_3 rfl) rfl (by show 2 * 0 + _ ≤ _; exact Nat.le_of_eq rfl) (hb hby d_prog_37_method_3_79) (fun _ _ => ⟨rfl, e7, (by decide : 0 + 0 ≤ _), (by decide : 0 + 0 ≤ _)⟩)
  dsimp only [Pt.U, Pt.locs, Pt.cells, Pt.slots] at X9 l9 y9 z9 st9 hQ9
  subst l9 y9 z9
  obtain ⟨rfl, N9q, e9⟩ := hQ9
  have N9 := Fr.app N0 N9q
  refine Go.st st9 ?_
  show Go pg.tables ev below (T9.setTop (mkF mi 82 #[.val (.ref o), .val (.int f), .val (.int s), .val (.int m), .val .null, .val (.ref x), .unset, .unset] [(.int (fSl s (3 : Int32)))])) P
  refine Go.st (fun t_ k_ => XS.istore X9.here hx rfl (hb hby d_prog_37_method_3_82) rfl (l' := #[.val (.ref o), .val (.int f), .val (.int s), .val (.int m), .val .null, .val (.ref x), .val (.int (fSl s (3 : Int32))), .unset]) rfl k_) ?_
  show Go pg.tables ev below (T9.setTop (mkF mi 84 #[.val (.ref o), .val (.int f), .val (.int s), .val (.int m), .val .null, .val (.ref x), .val (.int (fSl s (3 : Int32))), .unset] [])) P
  refine Go.st (fun t_ k_ => XS.iloadN X9.here hx rfl (hb hby d_prog_37_method_3_84) rfl k_) ?_
  show Go pg.tables ev below (T9.setTop (mkF mi 85 #[.val (.ref o), .val (.int f), .val (.int s), .val (.int m), .val .null, .val (.ref x), .val (.int (fSl s (3 : Int32))), .unset] [(.int m)])) P
  refine Go.st (fun t_ k_ => XS.aload X9.here hx rfl (hb hby d_prog_37_method_3_85) rfl rfl k_) ?_
  show Go pg.tables ev below (T9.setTop (mkF mi 87 #[.val (.ref o), .val (.int f), .val (.int s), .val (.int m), .val .null, .val (.ref x), .val (.int (fSl s (3 : Int32))), .unset] [(.ref x), (.int m)])) P
  refine Go.st (fun t_ k_ => XS.iload X9.here hx rfl (hb hby d_prog_37_method_3_87) rfl k_) ?_
  show Go pg.tables ev below (T9.setTop (mkF mi 89 #[.val (.ref o), .val (.int f), .val (.int s), .val (.int m), .val .null, .val (.ref x), .val (.int (fSl s (3 : Int32))), .unset] [(.int (fSl s (3 : Int32))), (.ref x), (.int m)])) P
  have ov10 := A_x
  obtain ⟨cl10, Ar10, q10, S10, M10, H10, G10⟩ := ov10
  have hin10 : ¬ ((fSl s (3 : Int32)) < 0 ∨ cl10.slots.size ≤ ((fSl s (3 : Int32))).toNatClampNeg) := inb_of S10 (own_slot s)
  have hat10 : cl10.slots[((fSl s (3 : Int32))).toNatClampNeg]? = some (.int (0 : Int32)) := atH H10 hin10 (getH_miss (own_slot s).1 hsl rfl)
  refine Go.st (X9.iaload hx (j := (fSl s (3 : Int32))) (v := (.int (0 : Int32))) (by rw [e9]; exact Ar10.1) (State.isArrayOf_alike hZ.alike Ar10.2.1) Ar10.2.2 hin10 hat10 (g := (mkF mi 89 #[.val (.ref o), .val (.int f), .val (.int s), .val (.int m), .val .null, .val (.ref x), .val (.int (fSl s (3 : Int32))), .unset] [(.int (fSl s (3 : Int32))), (.ref x), (.int m)])) rfl rfl (hb hby d_prog_37_method_3_89)) ?_
  show Go pg.tables ev below (T9.setTop (mkF mi 90 #[.val (.ref o), .val (.int f), .val (.int s), .val (.int m), .val .null, .val (.ref x), .val (.int (fSl s (3 : Int32))), .unset] [(.int (0 : Int32)), (.int m)])) P
  refine Go.st (fun t_ k_ => XS.iconst X9.here hx rfl (hb hby d_prog_37_method_3_90) k_) ?_
  show Go pg.tables ev below (T9.setTop (mkF mi 91 #[.val (.ref o), .val (.int f), .val (.int s), .val (.int m), .val .null, .val (.ref x), .val (.int (fSl s (3 : Int32))), .unset] [(.int (-1 : Int32)), (.int (0 : Int32)), (.int m)])) P
  refine Go.st (fun t_ k_ => XS.ixor X9.here hx rfl (hb hby d_prog_37_method_3_91) rfl k_) ?_
  show Go pg.tables ev below (T9.setTop (mkF mi 92 #[.val (.ref o), .val (.int f), .val (.int s), .val (.int m), .val .null, .val (.ref x), .val (.int (fSl s (3 : Int32))), .unset] [(.int (-1 : Int32)), (.int m)])) P
  refine Go.st (fun t_ k_ => XS.iand X9.here hx rfl (hb hby d_prog_37_method_3_92) rfl k_) ?_
  show Go pg.tables ev below (T9.setTop (mkF mi 93 #[.val (.ref o), .val (.int f), .val (.int s), .val (.int m), .val .null, .val (.ref x), .val (.int (fSl s (3 : Int32))), .unset] [(.int (m &&& (-1 : Int32)))])) P
  refine Go.st (fun t_ k_ => XS.istore X9.here hx rfl (hb hby d_prog_37_method_3_93) rfl (l' := #[.val (.ref o), .val (.int f), .val (.int s), .val (.int m), .val .null, .val (.ref x), .val (.int (fSl s (3 : Int32))), .val (.int (m &&& (-1 : Int32)))]) rfl k_) ?_
  show Go pg.tables ev below (T9.setTop (mkF mi 95 #[.val (.ref o), .val (.int f), .val (.int s), .val (.int m), .val .null, .val (.ref x), .val (.int (fSl s (3 : Int32))), .val (.int (m &&& (-1 : Int32)))] [])) P
  refine Go.st (fun t_ k_ => XS.aload X9.here hx rfl (hb hby d_prog_37_method_3_95) rfl rfl k_) ?_
  show Go pg.tables ev below (T9.setTop (mkF mi 97 #[.val (.ref o), .val (.int f), .val (.int s), .val (.int m), .val .null, .val (.ref x), .val (.int (fSl s (3 : Int32))), .val (.int (m &&& (-1 : Int32)))] [(.ref x)])) P
  refine Go.st (fun t_ k_ => XS.iload X9.here hx rfl (hb hby d_prog_37_method_3_97) rfl k_) ?_
  show Go pg.tables ev below (T9.setTop (mkF mi 99 #[.val (.ref o), .val (.int f), .val (.int s), .val (.int m), .val .null, .val (.ref x), .val (.int (fSl s (3 : Int32))), .val (.int (m &&& (-1 : Int32)))] [(.int (fSl s (3 : Int32))), (.ref x)])) P
  have ov11 := A_x
  obtain ⟨cl11, Ar11, q11, S11, M11, H11, G11⟩ := ov11
  have hin11 : ¬ ((fSl s (3 : Int32)) < 0 ∨ cl11.slots.size ≤ ((fSl s (3 : Int32))).toNatClampNeg) := inb_of S11 (own_slot s)
  have hat11 : cl11.slots[((fSl s (3 : Int32))).toNatClampNeg]? = some (.int (0 : Int32)) := atH H11 hin11 (getH_miss (own_slot s).1 hsl rfl)
  refine Go.st (X9.iaload hx (j := (fSl s (3 : Int32))) (v := (.int (0 : Int32))) (by rw [e9]; exact Ar11.1) (State.isArrayOf_alike hZ.alike Ar11.2.1) Ar11.2.2 hin11 hat11 (g := (mkF mi 99 #[.val (.ref o), .val (.int f), .val (.int s), .val (.int m), .val .null, .val (.ref x), .val (.int (fSl s (3 : Int32))), .val (.int (m &&& (-1 : Int32)))] [(.int (fSl s (3 : Int32))), (.ref x)])) rfl rfl (hb hby d_prog_37_method_3_99)) ?_
  show Go pg.tables ev below (T9.setTop (mkF mi 100 #[.val (.ref o), .val (.int f), .val (.int s), .val (.int m), .val .null, .val (.ref x), .val (.int (fSl s (3 : Int32))), .val (.int (m &&& (-1 : Int32)))] [(.int (0 : Int32))])) P
  refine Go.st (fun t_ k_ => XS.ifYes X9.here hx rfl (pc0 := 100) (pc' := 116) rfl (hb hby d_prog_37_method_3_100) rfl ((if0 _ _).trans (teq rfl).1) (by decide) (by decide) k_) ?_
  show Go pg.tables ev below (T9.setTop (mkF mi 116 #[.val (.ref o), .val (.int f), .val (.int s), .val (.int m), .val .null, .val (.ref x), .val (.int (fSl s (3 : Int32))), .val (.int (m &&& (-1 : Int32)))] [])) P
  refine Go.st (fun t_ k_ => XS.aload X9.here hx rfl (hb hby d_prog_37_method_3_116) rfl rfl k_) ?_
  show Go pg.tables ev below (T9.setTop (mkF mi 118 #[.val (.ref o), .val (.int f), .val (.int s), .val (.int m), .val .null, .val (.ref x), .val (.int (fSl s (3 : Int32))), .val (.int (m &&& (-1 : Int32)))] [(.ref x)])) P
  refine Go.st (fun t_ k_ => XS.iload X9.here hx rfl (hb hby d_prog_37_method_3_118) rfl k_) ?_
  show Go pg.tables ev below (T9.setTop (mkF mi 120 #[.val (.ref o), .val (.int f), .val (.int s), .val (.int m), .val .null, .val (.ref x), .val (.int (fSl s (3 : Int32))), .val (.int (m &&& (-1 : Int32)))] [(.int (fSl s (3 : Int32))), (.ref x)])) P
  refine Go.st (fun t_ k_ => XS.iloadN X9.here hx rfl (hb hby d_prog_37_method_3_120) rfl k_) ?_
  show Go pg.tables ev below (T9.setTop (mkF mi 121 #[.val (.ref o), .val (.int f), .val (.int s), .val (.int m), .val .null, .val (.ref x), .val (.int (fSl s (3 : Int32))), .val (.int (m &&& (-1 : Int32)))] [(.int s), (.int (fSl s (3 : Int32))), (.ref x)])) P
  obtain ⟨_, _, ⟨T12, L12, k12, n12⟩, -, X12, ⟨Lc12, hQ12, l12, y12, z12⟩, st12⟩ := Jvm.LawKit.callS X9 hx (y := (⟨"com/example/hedge/hedge/automaton/PairMarks", "key", "(I)I"⟩ : MethodName)) hown (mvT hZ (hw _ (List.mem_of_getElem? (i := 76) rfl))) (mvT hZ (hw _ (List.mem_of_getElem? (i := 77) rfl))) (mvT hZ (hw _ (List.mem_of_getElem? (i := 3) rfl))) (mvT hZ (hw _ (List.mem_of_getElem? (i := 78) rfl))) (by decide) (backOf (W := 2) (rmKe l Z a0 hw [] s h0 n0 Z0) hZ (hw _ (List.mem_of_getElem? (i := 78) rfl)) (hw _ (List.mem_of_getElem? (i := 3) rfl)) (by decide) (by decide)) (g := (mkF mi 121 #[.val (.ref o), .val (.int f), .val (.int s), .val (.int m), .val .null, .val (.ref x), .val (.int (fSl s (3 : Int32))), .val (.int (m &&& (-1 : Int32)))] [(.int s), (.int (fSl s (3 : Int32))), (.ref x)])) rfl (by rw [hml]; rfl) (argsL := [(.int s)]) (rest := [(.int (fSl s (3 : Int32))), (.ref x)]) (lenOf pd_2 rfl) rfl (by show 2 * 0 + _ ≤ _; exact Nat.le_of_eq rfl) (hb hby d_prog_37_method_3_121) (fun _ _ => ⟨rfl, e9, (by decide : 0 + 0 ≤ _), (by decide : 0 + 0 ≤ _)⟩)
  dsimp only [Pt.U, Pt.locs, Pt.cells, Pt.slots] at X12 l12 y12 z12 st12 hQ12
  subst l12 y12 z12
  obtain ⟨rfl, N12q, e12⟩ := hQ12
  have N12 := Fr.app N9 N12q
  refine Go.st st12 ?_
  show Go pg.tables ev below (T12.setTop (mkF mi 124 #[.val (.ref o), .val (.int f), .val (.int s), .val (.int m), .val .null, .val (.ref x), .val (.int (fSl s (3 : Int32))), .val (.int (m &&& (-1 : Int32)))] [(.int (fKe s)), (.int (fSl s (3 : Int32))), (.ref x)])) P
  refine Go.st (fun t_ k_ => XS.iloadN X12.here hx rfl (hb hby d_prog_37_method_3_124) rfl k_) ?_
  show Go pg.tables ev below (T12.setTop (mkF mi 125 #[.val (.ref o), .val (.int f), .val (.int s), .val (.int m), .val .null, .val (.ref x), .val (.int (fSl s (3 : Int32))), .val (.int (m &&& (-1 : Int32)))] [(.int m), (.int (fKe s)), (.int (fSl s (3 : Int32))), (.ref x)])) P
  refine Go.st (fun t_ k_ => XS.ior X12.here hx rfl (hb hby d_prog_37_method_3_125) rfl k_) ?_
  show Go pg.tables ev below (T12.setTop (mkF mi 126 #[.val (.ref o), .val (.int f), .val (.int s), .val (.int m), .val .null, .val (.ref x), .val (.int (fSl s (3 : Int32))), .val (.int (m &&& (-1 : Int32)))] [(.int ((fKe s) ||| m)), (.int (fSl s (3 : Int32))), (.ref x)])) P
  have ov13 := A_x
  obtain ⟨cl13, Ar13, q13, S13, M13, H13, G13⟩ := ov13
  have hin13 : ¬ ((fSl s (3 : Int32)) < 0 ∨ cl13.slots.size ≤ ((fSl s (3 : Int32))).toNatClampNeg) := inb_of S13 (own_slot s)
  obtain ⟨T14, h14, X14, e14, W14, st14⟩ := stI X12 hx hZ e12 Ar13 (j := (fSl s (3 : Int32))) hin13 (g := (mkF mi 126 #[.val (.ref o), .val (.int f), .val (.int s), .val (.int m), .val .null, .val (.ref x), .val (.int (fSl s (3 : Int32))), .val (.int (m &&& (-1 : Int32)))] [(.int ((fKe s) ||| m)), (.int (fSl s (3 : Int32))), (.ref x)])) rfl rfl (hb hby d_prog_37_method_3_126)
  have Zs15 : n0 ≤ h14.size := Nat.le_trans Z0 (Keep.of_wr W14).1
  have KC15 : Keep h0 h14 [x, sz] := (Keep.refl h0 [x, sz]).wr W14 (Or.inl (List.mem_of_getElem? (i := 0) rfl))
  have N15 := Fr.snoc X14 N12 g_x
  have V14 : Arh Z h14 x kx .int (4 : Int32) (((fSl s (3 : Int32)), (.int ((fKe s) ||| m))) :: [((fSl b (3 : Int32)), .int kv)]) [] (.int (0 : Int32)) := Arh.push Ar13 q13 S13 M13 H13 G13 rfl W14 hin13
  refine Go.st st14 ?_
  show Go pg.tables ev below (T14.setTop (mkF mi 127 #[.val (.ref o), .val (.int f), .val (.int s), .val (.int m), .val .null, .val (.ref x), .val (.int (fSl s (3 : Int32))), .val (.int (m &&& (-1 : Int32)))] [])) P
  refine Go.st (fun t_ k_ => XS.aloadN X14.here hx rfl (hb hby d_prog_37_method_3_127) rfl rfl k_) ?_
  show Go pg.tables ev below (T14.setTop (mkF mi 128 #[.val (.ref o), .val (.int f), .val (.int s), .val (.int m), .val .null, .val (.ref x), .val (.int (fSl s (3 : Int32))), .val (.int (m &&& (-1 : Int32)))] [(.ref o)])) P
  have f16 := (F2.other W14 (Or.inl ne_o))
  obtain ⟨T17, X17, e17, st17⟩ := getF X14 hx hZ hown (host := "") (Or.inl (hw _ (List.mem_of_getElem? (i := 20) rfl))) Via.refl e14 f16 (g := (mkF mi 128 #[.val (.ref o), .val (.int f), .val (.int s), .val (.int m), .val .null, .val (.ref x), .val (.int (fSl s (3 : Int32))), .val (.int (m &&& (-1 : Int32)))] [(.ref o)])) rfl rfl (hb hby d_prog_37_method_3_128)
  refine Go.st st17 ?_
  show Go pg.tables ev below (T17.setTop (mkF mi 131 #[.val (.ref o), .val (.int f), .val (.int s), .val (.int m), .val .null, .val (.ref x), .val (.int (fSl s (3 : Int32))), .val (.int (m &&& (-1 : Int32)))] [(.ref sz)])) P
  refine Go.st (fun t_ k_ => XS.iloadN X17.here hx rfl (hb hby d_prog_37_method_3_131) rfl k_) ?_
  show Go pg.tables ev below (T17.setTop (mkF mi 132 #[.val (.ref o), .val (.int f), .val (.int s), .val (.int m), .val .null, .val (.ref x), .val (.int (fSl s (3 : Int32))), .val (.int (m &&& (-1 : Int32)))] [(.int f), (.ref sz)])) P
  refine Go.st (fun t_ k_ => XT.dup2 X17.here hx rfl (hb hby d_prog_37_method_3_132) rfl rfl rfl k_) ?_
  show Go pg.tables ev below (T17.setTop (mkF mi 133 #[.val (.ref o), .val (.int f), .val (.int s), .val (.int m), .val .null, .val (.ref x), .val (.int (fSl s (3 : Int32))), .val (.int (m &&& (-1 : Int32)))] [(.int f), (.ref sz), (.int f), (.ref sz)])) P
  have f18 := (A_sz.other W14 ne_sz)
  have ov19 := f18
  obtain ⟨cl19, Ar19, q19, S19, M19, H19, G19⟩ := ov19
  have hin19 : ¬ (f < 0 ∨ cl19.slots.size ≤ (f).toNatClampNeg) := inb_of S19 ⟨hf1, hf2⟩
  have hat19 : cl19.slots[(f).toNatClampNeg]? = some (.int (1 : Int32)) := atH H19 hin19 uS
  refine Go.st (X17.iaload hx (j := f) (v := (.int (1 : Int32))) (by rw [e17]; exact Ar19.1) (State.isArrayOf_alike hZ.alike Ar19.2.1) Ar19.2.2 hin19 hat19 (g := (mkF mi 133 #[.val (.ref o), .val (.int f), .val (.int s), .val (.int m), .val .null, .val (.ref x), .val (.int (fSl s (3 : Int32))), .val (.int (m &&& (-1 : Int32)))] [(.int f), (.ref sz), (.int f), (.ref sz)])) rfl rfl (hb hby d_prog_37_method_3_133)) ?_
  show Go pg.tables ev below (T17.setTop (mkF mi 134 #[.val (.ref o), .val (.int f), .val (.int s), .val (.int m), .val .null, .val (.ref x), .val (.int (fSl s (3 : Int32))), .val (.int (m &&& (-1 : Int32)))] [(.int (1 : Int32)), (.int f), (.ref sz)])) P
  refine Go.st (fun t_ k_ => XS.iconst X17.here hx rfl (hb hby d_prog_37_method_3_134) k_) ?_
  show Go pg.tables ev below (T17.setTop (mkF mi 135 #[.val (.ref o), .val (.int f), .val (.int s), .val (.int m), .val .null, .val (.ref x), .val (.int (fSl s (3 : Int32))), .val (.int (m &&& (-1 : Int32)))] [(.int (1 : Int32)), (.int (1 : Int32)), (.int f), (.ref sz)])) P
  refine Go.st (fun t_ k_ => XS.iadd X17.here hx rfl (hb hby d_prog_37_method_3_135) rfl k_) ?_
  show Go pg.tables ev below (T17.setTop (mkF mi 136 #[.val (.ref o), .val (.int f), .val (.int s), .val (.int m), .val .null, .val (.ref x), .val (.int (fSl s (3 : Int32))), .val (.int (m &&& (-1 : Int32)))] [(.int (2 : Int32)), (.int f), (.ref sz)])) P
  have ov20 := f18
  obtain ⟨cl20, Ar20, q20, S20, M20, H20, G20⟩ := ov20
  have hin20 : ¬ (f < 0 ∨ cl20.slots.size ≤ (f).toNatClampNeg) := inb_of S20 ⟨hf1, hf2⟩
  obtain ⟨T21, h21, X21, e21, W21, st21⟩ := stI X17 hx hZ e17 Ar20 (j := f) hin20 (g := (mkF mi 136 #[.val (.ref o), .val (.int f), .val (.int s), .val (.int m), .val .null, .val (.ref x), .val (.int (fSl s (3 : Int32))), .val (.int (m &&& (-1 : Int32)))] [(.int (2 : Int32)), (.int f), (.ref sz)])) rfl rfl (hb hby d_prog_37_method_3_136)
  have Zs22 : n0 ≤ h21.size := Nat.le_trans Zs15 (Keep.of_wr W21).1
  have KC22 : Keep h0 h21 [x, sz] := KC15.wr W21 (Or.inl (List.mem_of_getElem? (i := 1) rfl))
  have N22 := Fr.snoc X21 N15 g_sz
  have V21 : Arh Z h21 sz kS .int N ((f, (.int (2 : Int32))) :: hS) [] (.int (0 : Int32)) := Arh.push Ar20 q20 S20 M20 H20 G20 rfl W21 hin20
  refine Go.st st21 ?_
  show Go pg.tables ev below (T21.setTop (mkF mi 137 #[.val (.ref o), .val (.int f), .val (.int s), .val (.int m), .val .null, .val (.ref x), .val (.int (fSl s (3 : Int32))), .val (.int (m &&& (-1 : Int32)))] [])) P
  refine Go.st (fun t_ k_ => XS.iconst X21.here hx rfl (hb hby d_prog_37_method_3_137) k_) ?_
  show Go pg.tables ev below (T21.setTop (mkF mi 138 #[.val (.ref o), .val (.int f), .val (.int s), .val (.int m), .val .null, .val (.ref x), .val (.int (fSl s (3 : Int32))), .val (.int (m &&& (-1 : Int32)))] [(.int (2 : Int32))])) P
  refine Go.st (fun t_ k_ => XS.aloadN X21.here hx rfl (hb hby d_prog_37_method_3_138) rfl rfl k_) ?_
  show Go pg.tables ev below (T21.setTop (mkF mi 139 #[.val (.ref o), .val (.int f), .val (.int s), .val (.int m), .val .null, .val (.ref x), .val (.int (fSl s (3 : Int32))), .val (.int (m &&& (-1 : Int32)))] [(.ref o), (.int (2 : Int32))])) P
  have f23 := (f16.other W21 (Or.inl ne_os))
  obtain ⟨T24, X24, e24, st24⟩ := getF X21 hx hZ hown (host := "") (Or.inl (hw _ (List.mem_of_getElem? (i := 20) rfl))) Via.refl e21 f23 (g := (mkF mi 139 #[.val (.ref o), .val (.int f), .val (.int s), .val (.int m), .val .null, .val (.ref x), .val (.int (fSl s (3 : Int32))), .val (.int (m &&& (-1 : Int32)))] [(.ref o), (.int (2 : Int32))])) rfl rfl (hb hby d_prog_37_method_3_139)
  refine Go.st st24 ?_
  show Go pg.tables ev below (T24.setTop (mkF mi 142 #[.val (.ref o), .val (.int f), .val (.int s), .val (.int m), .val .null, .val (.ref x), .val (.int (fSl s (3 : Int32))), .val (.int (m &&& (-1 : Int32)))] [(.ref sz), (.int (2 : Int32))])) P
  refine Go.st (fun t_ k_ => XS.iloadN X24.here hx rfl (hb hby d_prog_37_method_3_142) rfl k_) ?_
  show Go pg.tables ev below (T24.setTop (mkF mi 143 #[.val (.ref o), .val (.int f), .val (.int s), .val (.int m), .val .null, .val (.ref x), .val (.int (fSl s (3 : Int32))), .val (.int (m &&& (-1 : Int32)))] [(.int f), (.ref sz), (.int (2 : Int32))])) P
  have ov25 := V21
  obtain ⟨cl25, Ar25, q25, S25, M25, H25, G25⟩ := ov25
  have hin25 : ¬ (f < 0 ∨ cl25.slots.size ≤ (f).toNatClampNeg) := inb_of S25 ⟨hf1, hf2⟩
  have hat25 : cl25.slots[(f).toNatClampNeg]? = some (.int (2 : Int32)) := atH H25 hin25 (own_hit hf1)
  refine Go.st (X24.iaload hx (j := f) (v := (.int (2 : Int32))) (by rw [e24]; exact Ar25.1) (State.isArrayOf_alike hZ.alike Ar25.2.1) Ar25.2.2 hin25 hat25 (g := (mkF mi 143 #[.val (.ref o), .val (.int f), .val (.int s), .val (.int m), .val .null, .val (.ref x), .val (.int (fSl s (3 : Int32))), .val (.int (m &&& (-1 : Int32)))] [(.int f), (.ref sz), (.int (2 : Int32))])) rfl rfl (hb hby d_prog_37_method_3_143)) ?_
  show Go pg.tables ev below (T24.setTop (mkF mi 144 #[.val (.ref o), .val (.int f), .val (.int s), .val (.int m), .val .null, .val (.ref x), .val (.int (fSl s (3 : Int32))), .val (.int (m &&& (-1 : Int32)))] [(.int (2 : Int32)), (.int (2 : Int32))])) P
  refine Go.st (fun t_ k_ => XS.imul X24.here hx rfl (hb hby d_prog_37_method_3_144) rfl k_) ?_
  show Go pg.tables ev below (T24.setTop (mkF mi 145 #[.val (.ref o), .val (.int f), .val (.int s), .val (.int m), .val .null, .val (.ref x), .val (.int (fSl s (3 : Int32))), .val (.int (m &&& (-1 : Int32)))] [(.int (4 : Int32))])) P
  refine Go.st (fun t_ k_ => XS.aload X24.here hx rfl (hb hby d_prog_37_method_3_145) rfl rfl k_) ?_
  show Go pg.tables ev below (T24.setTop (mkF mi 147 #[.val (.ref o), .val (.int f), .val (.int s), .val (.int m), .val .null, .val (.ref x), .val (.int (fSl s (3 : Int32))), .val (.int (m &&& (-1 : Int32)))] [(.ref x), (.int (4 : Int32))])) P
  have f26 := (V14.other W21 (Ne.symm ne_sz))
  have ov27 := f26
  obtain ⟨cl27, Ar27, q27, S27, M27, H27, G27⟩ := ov27
  refine Go.st (X24.arraylength hx (by rw [e24]; exact Ar27.1) (State.isArrayOf_alike hZ.alike Ar27.2.1) (g := (mkF mi 147 #[.val (.ref o), .val (.int f), .val (.int s), .val (.int m), .val .null, .val (.ref x), .val (.int (fSl s (3 : Int32))), .val (.int (m &&& (-1 : Int32)))] [(.ref x), (.int (4 : Int32))])) rfl rfl (hb hby d_prog_37_method_3_147)) ?_
  rw [len_of S27 M27]
  show Go pg.tables ev below (T24.setTop (mkF mi 148 #[.val (.ref o), .val (.int f), .val (.int s), .val (.int m), .val .null, .val (.ref x), .val (.int (fSl s (3 : Int32))), .val (.int (m &&& (-1 : Int32)))] [(.int (4 : Int32)), (.int (4 : Int32))])) P
  refine Go.st (fun t_ k_ => XS.icmpYes X24.here hx rfl (pc0 := 148) (pc' := 156) rfl (hb hby d_prog_37_method_3_148) rfl (flt (by decide)).2.2.2 (by decide) (by decide) k_) ?_
  show Go pg.tables ev below (T24.setTop (mkF mi 156 #[.val (.ref o), .val (.int f), .val (.int s), .val (.int m), .val .null, .val (.ref x), .val (.int (fSl s (3 : Int32))), .val (.int (m &&& (-1 : Int32)))] [])) P
  refine Go.st (fun t_ k_ => XS.iload X24.here hx rfl (hb hby d_prog_37_method_3_156) rfl k_) ?_
  show Go pg.tables ev below (T24.setTop (mkF mi 158 #[.val (.ref o), .val (.int f), .val (.int s), .val (.int m), .val .null, .val (.ref x), .val (.int (fSl s (3 : Int32))), .val (.int (m &&& (-1 : Int32)))] [(.int (m &&& (-1 : Int32)))])) P
  obtain ⟨fs, hr, hrun, hended, hW, hsame⟩ := X24.leave (v := some (.int (m &&& (-1 : Int32)))) (fun h => by rw [Bd.returns] at h; cases h) (BodyLoose.notSynchronized Bd)
  refine ⟨_, _, ?_, hP _ _ ⟨hrun, hended, _, _, rfl, ?_, ⟨_, rfl⟩, hW, hsame.mono (by decide) (by decide)⟩⟩
  · exact retI X24 hx Bd.returns (hb hby d_prog_37_method_3_158) hr
  · show ∃ (r : Int32) (hs2 : List (Int32 × Value)), (some (.int (m &&& (-1 : Int32))) : Option Value) = some (.int r) ∧ Fr n0 _ ∧ Keep h0 T24.heap [x, sz] ∧ Arh Z T24.heap sz kS .int N hs2 [] (.int (0 : Int32))
    rw [e24]
    exact ⟨_, _, rfl, N22, KC22, V21⟩
theorem ef_rmAET3 (mi : MethodId) (o : Addr) (f : Int32) (s : Int32) (m : Int32) (tb : Addr) (bm : Addr) (kT : ClassId) (kB : ClassId) (N : Int32) (hT : List (Int32 × Value)) (hB : List (Int32 × Value)) (x : Addr) (kx : ClassId) (sz : Addr) (kS : ClassId) (hS : List (Int32 × Value)) (kv : Int32) (b : Int32) : entryFrame mi #[(.ref o), (.int f), (.int s), (.int m)] 8 = mkF mi 0 #[.val (.ref o), .val (.int f), .val (.int s), .val (.int m), .unset, .unset, .unset, .unset] [] := by first | (simp [entryFrame, mkF, argsToLocals, Value.category]; done) | rfl
def Q_rmAET3 (Z : State) (o : Addr) (f : Int32) (s : Int32) (m : Int32) (tb : Addr) (bm : Addr) (kT : ClassId) (kB : ClassId) (N : Int32) (hT : List (Int32 × Value)) (hB : List (Int32 × Value)) (x : Addr) (kx : ClassId) (sz : Addr) (kS : ClassId) (hS : List (Int32 × Value)) (kv : Int32) (b : Int32) (h0 : Heap) (n0 : Nat) (vv_ : Option Value) (hh_ : Heap) (LL_ : List Loc) : Prop := ∃ (r : Int32) (hs2 : List (Int32 × Value)), vv_ = some (.int r) ∧ Fr n0 LL_ ∧ Keep h0 hh_ [x, sz] ∧ Arh Z hh_ sz kS .int N hs2 [] (.int (0 : Int32))
set_option maxRecDepth 65536 in
set_option maxHeartbeats 40000000 in
theorem rmAET3 (l : Launch) (Z : State) (a0 : Array Value) (hw : ∀ d ∈ tables_1, d.before a0 Z = true) (ws : List Jvm.Cond) (o : Addr) (f : Int32) (s : Int32) (m : Int32) (tb : Addr) (bm : Addr) (kT : ClassId) (kB : ClassId) (N : Int32) (hT : List (Int32 × Value)) (hB : List (Int32 × Value)) (x : Addr) (kx : ClassId) (sz : Addr) (kS : ClassId) (hS : List (Int32 × Value)) (kv : Int32) (b : Int32) (h0 : Heap) (n0 : Nat) (Z0 : n0 ≤ h0.size) (E0 : Exa Z h0 o "com/example/hedge/hedge/automaton/PairMarks") (F1 : Fld Z h0 o "com/example/hedge/hedge/automaton/PairMarks" "tables" "[[I" (.ref tb)) (F3 : Fld Z h0 o "com/example/hedge/hedge/automaton/PairMarks" "bitmaps" "[[J" (.ref bm)) (A_tb : Arh Z h0 tb kT (.array .int) N hT [] .null) (A_bm : Arh Z h0 bm kB (.array .long) N hB [] .null) (hf1 : ¬ f < 0) (hf2 : f < N) (uB : getH hB [] .null f.toNatClampNeg = .null) (uT : getH hT [] .null f.toNatClampNeg = .ref x) (F2 : Fld Z h0 o "com/example/hedge/hedge/automaton/PairMarks" "sizes" "[I" (.ref sz)) (A_sz : Arh Z h0 sz kS .int N hS [] (.int (0 : Int32))) (uS : getH hS [] (.int (0 : Int32)) f.toNatClampNeg = .int (1 : Int32)) (A_x : Arh Z h0 x kx .int (4 : Int32) [((fSl b (3 : Int32)), .int kv)] [] (.int (0 : Int32))) (hk0 : ¬ (kv = (0 : Int32))) (hk1 : (fSe kv) = b) (g_x : n0 ≤ x) (g_sz : n0 ≤ sz) (ne_bm : bm ≠ x) (ne_tb : tb ≠ x) (ne_sz : sz ≠ x) (ne_bs : bm ≠ sz) (ne_ts : tb ≠ sz) (ne_o : o ≠ x) (ne_os : o ≠ sz) (hbd : ¬ b = s) (hsl : (fSl s (3 : Int32)) = (fSl b (3 : Int32))) :
    MetFree l (⟨"com/example/hedge/hedge/automaton/PairMarks", "add", "(III)I"⟩ : MethodName) (head1 (Jvm.Cond.code (⟨"com/example/hedge/hedge/automaton/PairMarks", "add", "(III)I"⟩ : MethodName) prog_37_method_3_code 8 (some .int) :: ws) ({ frames := 2, cells := 0, slots := 0, locals := 29 } : Room)) (fun aa_ U => aa_ = #[(.ref o), (.int f), (.int s), (.int m)] ∧ Z.Warmed39 U.vm ∧ U.heap = h0) (fun _ _ _ _ _ => True) (fun _ U oo_ UV_ => ∃ vv_ LL_, oo_ = .returned vv_ ∧ Q_rmAET3 Z o f s m tb bm kT kB N hT hB x kx sz kS hS kv b h0 n0 vv_ UV_.heap LL_ ∧ FrameEnd U oo_ UV_ LL_ ({ frames := 2, cells := 0, slots := 0, locals := 29 } : Room).cells ({ frames := 2, cells := 0, slots := 0, locals := 29 } : Room).slots) := by
  refine MetFree.of_bodySF (plainFor_of_name pn_0) hisR ?_
  intro pg ev si mi args below meth ci s₁ Bd hml0 hP0 hK
  obtain ⟨rfl, hZ, hh⟩ := hP0
  have hx := Bd.exec
  have hby := Bd.bytes
  have hml : ci.maxLocals = 8 := hml0
  have hown : si.vm.findClass "com/example/hedge/hedge/automaton/PairMarks" = some mi.cls := findClass_of_methodNamed Bd.named
  have hnm := (name_of_methodNamed Bd.named Bd.method).1
  have X0 : Stand pg l ev ({ frames := 2, cells := 0, slots := 0, locals := 29 } : Room) si mi #[(.ref o), (.int f), (.int s), (.int m)] below meth ci s₁ [] 0 0 := Stand.of_body Bd
  have e0 : s₁.heap = h0 := by rw [← hh, Bd.state]; rfl
  have N0 := Fr.nil n0
  refine Go.start (fun P hP => ?_)
  refine Go.st (fun t_ k_ => castTop (ef_rmAET3 mi o f s m tb bm kT kB N hT hB x kx sz kS hS kv b) k_) (A := s₁.setTop (mkF mi 0 #[.val (.ref o), .val (.int f), .val (.int s), .val (.int m), .unset, .unset, .unset, .unset] [])) ?_
  show Go pg.tables ev below (s₁.setTop (mkF mi 0 #[.val (.ref o), .val (.int f), .val (.int s), .val (.int m), .unset, .unset, .unset, .unset] [])) P
  refine Go.st (fun t_ k_ => XS.aloadN X0.here hx rfl (hb hby d_prog_37_method_3_0) rfl rfl k_) ?_
  show Go pg.tables ev below (s₁.setTop (mkF mi 1 #[.val (.ref o), .val (.int f), .val (.int s), .val (.int m), .unset, .unset, .unset, .unset] [(.ref o)])) P
  obtain ⟨T1, X1, e1, st1⟩ := getF X0 hx hZ hown (host := "") (Or.inl (hw _ (List.mem_of_getElem? (i := 24) rfl))) Via.refl e0 F3 (g := (mkF mi 1 #[.val (.ref o), .val (.int f), .val (.int s), .val (.int m), .unset, .unset, .unset, .unset] [(.ref o)])) rfl rfl (hb hby d_prog_37_method_3_1)
  refine Go.st st1 ?_
  show Go pg.tables ev below (T1.setTop (mkF mi 4 #[.val (.ref o), .val (.int f), .val (.int s), .val (.int m), .unset, .unset, .unset, .unset] [(.ref bm)])) P
  refine Go.st (fun t_ k_ => XS.iloadN X1.here hx rfl (hb hby d_prog_37_method_3_4) rfl k_) ?_
  show Go pg.tables ev below (T1.setTop (mkF mi 5 #[.val (.ref o), .val (.int f), .val (.int s), .val (.int m), .unset, .unset, .unset, .unset] [(.int f), (.ref bm)])) P
  have ov2 := A_bm
  obtain ⟨cl2, Ar2, q2, S2, M2, H2, G2⟩ := ov2
  have hin2 : ¬ (f < 0 ∨ cl2.slots.size ≤ (f).toNatClampNeg) := inb_of S2 ⟨hf1, hf2⟩
  have hat2 : cl2.slots[(f).toNatClampNeg]? = some .null := atH H2 hin2 uB
  refine Go.st (X1.aaload hx (j := f) (v := .null) (by rw [e1]; exact Ar2.1) (State.isArrayOf_alike hZ.alike Ar2.2.1) rfl Ar2.2.2 hin2 hat2 (g := (mkF mi 5 #[.val (.ref o), .val (.int f), .val (.int s), .val (.int m), .unset, .unset, .unset, .unset] [(.int f), (.ref bm)])) rfl rfl (hb hby d_prog_37_method_3_5)) ?_
  show Go pg.tables ev below (T1.setTop (mkF mi 6 #[.val (.ref o), .val (.int f), .val (.int s), .val (.int m), .unset, .unset, .unset, .unset] [.null])) P
  refine Go.st (fun t_ k_ => XS.ifnonnullNo X1.here hx rfl (hb hby d_prog_37_method_3_6) rfl k_) ?_
  show Go pg.tables ev below (T1.setTop (mkF mi 9 #[.val (.ref o), .val (.int f), .val (.int s), .val (.int m), .unset, .unset, .unset, .unset] [])) P
  refine Go.st (fun t_ k_ => XS.aloadN X1.here hx rfl (hb hby d_prog_37_method_3_9) rfl rfl k_) ?_
  show Go pg.tables ev below (T1.setTop (mkF mi 10 #[.val (.ref o), .val (.int f), .val (.int s), .val (.int m), .unset, .unset, .unset, .unset] [(.ref o)])) P
  obtain ⟨T3, X3, e3, st3⟩ := getF X1 hx hZ hown (host := "") (Or.inl (hw _ (List.mem_of_getElem? (i := 18) rfl))) Via.refl e1 F1 (g := (mkF mi 10 #[.val (.ref o), .val (.int f), .val (.int s), .val (.int m), .unset, .unset, .unset, .unset] [(.ref o)])) rfl rfl (hb hby d_prog_37_method_3_10)
  refine Go.st st3 ?_
  show Go pg.tables ev below (T3.setTop (mkF mi 13 #[.val (.ref o), .val (.int f), .val (.int s), .val (.int m), .unset, .unset, .unset, .unset] [(.ref tb)])) P
  refine Go.st (fun t_ k_ => XS.iloadN X3.here hx rfl (hb hby d_prog_37_method_3_13) rfl k_) ?_
  show Go pg.tables ev below (T3.setTop (mkF mi 14 #[.val (.ref o), .val (.int f), .val (.int s), .val (.int m), .unset, .unset, .unset, .unset] [(.int f), (.ref tb)])) P
  have ov4 := A_tb
  obtain ⟨cl4, Ar4, q4, S4, M4, H4, G4⟩ := ov4
  have hin4 : ¬ (f < 0 ∨ cl4.slots.size ≤ (f).toNatClampNeg) := inb_of S4 ⟨hf1, hf2⟩
  have hat4 : cl4.slots[(f).toNatClampNeg]? = some (.ref x) := atH H4 hin4 uT
  refine Go.st (X3.aaload hx (j := f) (v := (.ref x)) (by rw [e3]; exact Ar4.1) (State.isArrayOf_alike hZ.alike Ar4.2.1) rfl Ar4.2.2 hin4 hat4 (g := (mkF mi 14 #[.val (.ref o), .val (.int f), .val (.int s), .val (.int m), .unset, .unset, .unset, .unset] [(.int f), (.ref tb)])) rfl rfl (hb hby d_prog_37_method_3_14)) ?_
  show Go pg.tables ev below (T3.setTop (mkF mi 15 #[.val (.ref o), .val (.int f), .val (.int s), .val (.int m), .unset, .unset, .unset, .unset] [(.ref x)])) P
  refine Go.st (fun t_ k_ => XS.ifnonnullYes X3.here hx rfl (pc0 := 15) (pc' := 23) rfl (hb hby d_prog_37_method_3_15) rfl (by decide) (by decide) k_) ?_
  show Go pg.tables ev below (T3.setTop (mkF mi 23 #[.val (.ref o), .val (.int f), .val (.int s), .val (.int m), .unset, .unset, .unset, .unset] [])) P
  refine Go.st (fun t_ k_ => XS.aloadN X3.here hx rfl (hb hby d_prog_37_method_3_23) rfl rfl k_) ?_
  show Go pg.tables ev below (T3.setTop (mkF mi 24 #[.val (.ref o), .val (.int f), .val (.int s), .val (.int m), .unset, .unset, .unset, .unset] [(.ref o)])) P
  obtain ⟨T5, X5, e5, st5⟩ := getF X3 hx hZ hown (host := "") (Or.inl (hw _ (List.mem_of_getElem? (i := 24) rfl))) Via.refl e3 F3 (g := (mkF mi 24 #[.val (.ref o), .val (.int f), .val (.int s), .val (.int m), .unset, .unset, .unset, .unset] [(.ref o)])) rfl rfl (hb hby d_prog_37_method_3_24)
  refine Go.st st5 ?_
  show Go pg.tables ev below (T5.setTop (mkF mi 27 #[.val (.ref o), .val (.int f), .val (.int s), .val (.int m), .unset, .unset, .unset, .unset] [(.ref bm)])) P
  refine Go.st (fun t_ k_ => XS.iloadN X5.here hx rfl (hb hby d_prog_37_method_3_27) rfl k_) ?_
  show Go pg.tables ev below (T5.setTop (mkF mi 28 #[.val (.ref o), .val (.int f), .val (.int s), .val (.int m), .unset, .unset, .unset, .unset] [(.int f), (.ref bm)])) P
  have ov6 := A_bm
  obtain ⟨cl6, Ar6, q6, S6, M6, H6, G6⟩ := ov6
  have hin6 : ¬ (f < 0 ∨ cl6.slots.size ≤ (f).toNatClampNeg) := inb_of S6 ⟨hf1, hf2⟩
  have hat6 : cl6.slots[(f).toNatClampNeg]? = some .null := atH H6 hin6 uB
  refine Go.st (X5.aaload hx (j := f) (v := .null) (by rw [e5]; exact Ar6.1) (State.isArrayOf_alike hZ.alike Ar6.2.1) rfl Ar6.2.2 hin6 hat6 (g := (mkF mi 28 #[.val (.ref o), .val (.int f), .val (.int s), .val (.int m), .unset, .unset, .unset, .unset] [(.int f), (.ref bm)])) rfl rfl (hb hby d_prog_37_method_3_28)) ?_
  show Go pg.tables ev below (T5.setTop (mkF mi 29 #[.val (.ref o), .val (.int f), .val (.int s), .val (.int m), .unset, .unset, .unset, .unset] [.null])) P
  refine Go.st (fun t_ k_ => XS.astore X5.here hx rfl (hb hby d_prog_37_method_3_29) rfl rfl (l' := #[.val (.ref o), .val (.int f), .val (.int s), .val (.int m), .val .null, .unset, .unset, .unset]) rfl k_) ?_
  show Go pg.tables ev below (T5.setTop (mkF mi 31 #[.val (.ref o), .val (.int f), .val (.int s), .val (.int m), .val .null, .unset, .unset, .unset] [])) P
  refine Go.st (fun t_ k_ => XS.aload X5.here hx rfl (hb hby d_prog_37_method_3_31) rfl rfl k_) ?_
  show Go pg.tables ev below (T5.setTop (mkF mi 33 #[.val (.ref o), .val (.int f), .val (.int s), .val (.int m), .val .null, .unset, .unset, .unset] [.null])) P
  refine Go.st (fun t_ k_ => XS.ifnullYes X5.here hx rfl (pc0 := 33) (pc' := 68) rfl (hb hby d_prog_37_method_3_33) rfl (by decide) (by decide) k_) ?_
  show Go pg.tables ev below (T5.setTop (mkF mi 68 #[.val (.ref o), .val (.int f), .val (.int s), .val (.int m), .val .null, .unset, .unset, .unset] [])) P
  refine Go.st (fun t_ k_ => XS.aloadN X5.here hx rfl (hb hby d_prog_37_method_3_68) rfl rfl k_) ?_
  show Go pg.tables ev below (T5.setTop (mkF mi 69 #[.val (.ref o), .val (.int f), .val (.int s), .val (.int m), .val .null, .unset, .unset, .unset] [(.ref o)])) P
  obtain ⟨T7, X7, e7, st7⟩ := getF X5 hx hZ hown (host := "") (Or.inl (hw _ (List.mem_of_getElem? (i := 18) rfl))) Via.refl e5 F1 (g := (mkF mi 69 #[.val (.ref o), .val (.int f), .val (.int s), .val (.int m), .val .null, .unset, .unset, .unset] [(.ref o)])) rfl rfl (hb hby d_prog_37_method_3_69)
  refine Go.st st7 ?_
  show Go pg.tables ev below (T7.setTop (mkF mi 72 #[.val (.ref o), .val (.int f), .val (.int s), .val (.int m), .val .null, .unset, .unset, .unset] [(.ref tb)])) P
  refine Go.st (fun t_ k_ => XS.iloadN X7.here hx rfl (hb hby d_prog_37_method_3_72) rfl k_) ?_
  show Go pg.tables ev below (T7.setTop (mkF mi 73 #[.val (.ref o), .val (.int f), .val (.int s), .val (.int m), .val .null, .unset, .unset, .unset] [(.int f), (.ref tb)])) P
  have ov8 := A_tb
  obtain ⟨cl8, Ar8, q8, S8, M8, H8, G8⟩ := ov8
  have hin8 : ¬ (f < 0 ∨ cl8.slots.size ≤ (f).toNatClampNeg) := inb_of S8 ⟨hf1, hf2⟩
  have hat8 : cl8.slots[(f).toNatClampNeg]? = some (.ref x) := atH H8 hin8 uT
  refine Go.st (X7.aaload hx (j := f) (v := (.ref x)) (by rw [e7]; exact Ar8.1) (State.isArrayOf_alike hZ.alike Ar8.2.1) rfl Ar8.2.2 hin8 hat8 (g := (mkF mi 73 #[.val (.ref o), .val (.int f), .val (.int s), .val (.int m), .val .null, .unset, .unset, .unset] [(.int f), (.ref tb)])) rfl rfl (hb hby d_prog_37_method_3_73)) ?_
  show Go pg.tables ev below (T7.setTop (mkF mi 74 #[.val (.ref o), .val (.int f), .val (.int s), .val (.int m), .val .null, .unset, .unset, .unset] [(.ref x)])) P
  refine Go.st (fun t_ k_ => XS.astore X7.here hx rfl (hb hby d_prog_37_method_3_74) rfl rfl (l' := #[.val (.ref o), .val (.int f), .val (.int s), .val (.int m), .val .null, .val (.ref x), .unset, .unset]) rfl k_) ?_
  show Go pg.tables ev below (T7.setTop (mkF mi 76 #[.val (.ref o), .val (.int f), .val (.int s), .val (.int m), .val .null, .val (.ref x), .unset, .unset] [])) P
  refine Go.st (fun t_ k_ => XS.aload X7.here hx rfl (hb hby d_prog_37_method_3_76) rfl rfl k_) ?_
  show Go pg.tables ev below (T7.setTop (mkF mi 78 #[.val (.ref o), .val (.int f), .val (.int s), .val (.int m), .val .null, .val (.ref x), .unset, .unset] [(.ref x)])) P
  refine Go.st (fun t_ k_ => XS.iloadN X7.here hx rfl (hb hby d_prog_37_method_3_78) rfl k_) ?_
  show Go pg.tables ev below (T7.setTop (mkF mi 79 #[.val (.ref o), .val (.int f), .val (.int s), .val (.int m), .val .null, .val (.ref x), .unset, .unset] [(.int s), (.ref x)])) P
  obtain ⟨_, _, ⟨T9, L9, k9, n9⟩, -, X9, ⟨Lc9, hQ9, l9, y9, z9⟩, st9⟩ := Jvm.LawKit.callS X7 hx (y := (⟨"com/example/hedge/hedge/automaton/PairMarks", "find", "([II)I"⟩ : MethodName)) hown (mvT hZ (hw _ (List.mem_of_getElem? (i := 69) rfl))) (mvT hZ (hw _ (List.mem_of_getElem? (i := 70) rfl))) (mvT hZ (hw _ (List.mem_of_getElem? (i := 3) rfl))) (mvT hZ (hw _ (List.mem_of_getElem? (i := 71) rfl))) (by decide) (backOf (W := 0) (rmFi3 l Z a0 hw [] x s kx [((fSl b (3 : Int32)), .int kv)] kv h0 n0 Z0 A_x (getH_hit (own_slot s).1 hsl) hk0 (fun q => hbd (hk1.symm.trans q)) (getH_miss (own_next (own_slot s)).1.1 (by rw [← hsl]; exact (own_next (own_slot s)).2) rfl)) hZ (hw _ (List.mem_of_getElem? (i := 71) rfl)) (hw _ (List.mem_of_getElem? (i := 3) rfl)) (by decide) (by decide)) (g := (mkF mi 79 #[.val (.ref o), .val (.int f), .val (.int s), .val (.int m), .val .null, .val (.ref x), .unset, .unset] [(.int s), (.ref x)])) rfl (by rw [hml]; rfl) (argsL := [(.ref x), (.int s)]) (rest := []) (lenOf pd_3 rfl) rfl (by show 2 * 0 + _ ≤ _; exact Nat.le_of_eq rfl) (hb hby d_prog_37_method_3_79) (fun _ _ => ⟨rfl, e7, (by decide : 0 + 0 ≤ _), (by decide : 0 + 0 ≤ _)⟩)
  dsimp only [Pt.U, Pt.locs, Pt.cells, Pt.slots] at X9 l9 y9 z9 st9 hQ9
  subst l9 y9 z9
  obtain ⟨rfl, N9q, e9⟩ := hQ9
  have N9 := Fr.app N0 N9q
  refine Go.st st9 ?_
  show Go pg.tables ev below (T9.setTop (mkF mi 82 #[.val (.ref o), .val (.int f), .val (.int s), .val (.int m), .val .null, .val (.ref x), .unset, .unset] [(.int (((fSl s (3 : Int32)) + (1 : Int32)) &&& (3 : Int32)))])) P
  refine Go.st (fun t_ k_ => XS.istore X9.here hx rfl (hb hby d_prog_37_method_3_82) rfl (l' := #[.val (.ref o), .val (.int f), .val (.int s), .val (.int m), .val .null, .val (.ref x), .val (.int (((fSl s (3 : Int32)) + (1 : Int32)) &&& (3 : Int32))), .unset]) rfl k_) ?_
  show Go pg.tables ev below (T9.setTop (mkF mi 84 #[.val (.ref o), .val (.int f), .val (.int s), .val (.int m), .val .null, .val (.ref x), .val (.int (((fSl s (3 : Int32)) + (1 : Int32)) &&& (3 : Int32))), .unset] [])) P
  refine Go.st (fun t_ k_ => XS.iloadN X9.here hx rfl (hb hby d_prog_37_method_3_84) rfl k_) ?_
  show Go pg.tables ev below (T9.setTop (mkF mi 85 #[.val (.ref o), .val (.int f), .val (.int s), .val (.int m), .val .null, .val (.ref x), .val (.int (((fSl s (3 : Int32)) + (1 : Int32)) &&& (3 : Int32))), .unset] [(.int m)])) P
  refine Go.st (fun t_ k_ => XS.aload X9.here hx rfl (hb hby d_prog_37_method_3_85) rfl rfl k_) ?_
  show Go pg.tables ev below (T9.setTop (mkF mi 87 #[.val (.ref o), .val (.int f), .val (.int s), .val (.int m), .val .null, .val (.ref x), .val (.int (((fSl s (3 : Int32)) + (1 : Int32)) &&& (3 : Int32))), .unset] [(.ref x), (.int m)])) P
  refine Go.st (fun t_ k_ => XS.iload X9.here hx rfl (hb hby d_prog_37_method_3_87) rfl k_) ?_
  show Go pg.tables ev below (T9.setTop (mkF mi 89 #[.val (.ref o), .val (.int f), .val (.int s), .val (.int m), .val .null, .val (.ref x), .val (.int (((fSl s (3 : Int32)) + (1 : Int32)) &&& (3 : Int32))), .unset] [(.int (((fSl s (3 : Int32)) + (1 : Int32)) &&& (3 : Int32))), (.ref x), (.int m)])) P
  have ov10 := A_x
  obtain ⟨cl10, Ar10, q10, S10, M10, H10, G10⟩ := ov10
  have hin10 : ¬ ((((fSl s (3 : Int32)) + (1 : Int32)) &&& (3 : Int32)) < 0 ∨ cl10.slots.size ≤ ((((fSl s (3 : Int32)) + (1 : Int32)) &&& (3 : Int32))).toNatClampNeg) := inb_of S10 (own_next (own_slot s)).1
  have hat10 : cl10.slots[((((fSl s (3 : Int32)) + (1 : Int32)) &&& (3 : Int32))).toNatClampNeg]? = some (.int (0 : Int32)) := atH H10 hin10 (getH_miss (own_next (own_slot s)).1.1 (by rw [← hsl]; exact (own_next (own_slot s)).2) rfl)
  refine Go.st (X9.iaload hx (j := (((fSl s (3 : Int32)) + (1 : Int32)) &&& (3 : Int32))) (v := (.int (0 : Int32))) (by rw [e9]; exact Ar10.1) (State.isArrayOf_alike hZ.alike Ar10.2.1) Ar10.2.2 hin10 hat10 (g := (mkF mi 89 #[.val (.ref o), .val (.int f), .val (.int s), .val (.int m), .val .null, .val (.ref x), .val (.int (((fSl s (3 : Int32)) + (1 : Int32)) &&& (3 : Int32))), .unset] [(.int (((fSl s (3 : Int32)) + (1 : Int32)) &&& (3 : Int32))), (.ref x), (.int m)])) rfl rfl (hb hby d_prog_37_method_3_89)) ?_
  show Go pg.tables ev below (T9.setTop (mkF mi 90 #[.val (.ref o), .val (.int f), .val (.int s), .val (.int m), .val .null, .val (.ref x), .val (.int (((fSl s (3 : Int32)) + (1 : Int32)) &&& (3 : Int32))), .unset] [(.int (0 : Int32)), (.int m)])) P
  refine Go.st (fun t_ k_ => XS.iconst X9.here hx rfl (hb hby d_prog_37_method_3_90) k_) ?_
  show Go pg.tables ev below (T9.setTop (mkF mi 91 #[.val (.ref o), .val (.int f), .val (.int s), .val (.int m), .val .null, .val (.ref x), .val (.int (((fSl s (3 : Int32)) + (1 : Int32)) &&& (3 : Int32))), .unset] [(.int (-1 : Int32)), (.int (0 : Int32)), (.int m)])) P
  refine Go.st (fun t_ k_ => XS.ixor X9.here hx rfl (hb hby d_prog_37_method_3_91) rfl k_) ?_
  show Go pg.tables ev below (T9.setTop (mkF mi 92 #[.val (.ref o), .val (.int f), .val (.int s), .val (.int m), .val .null, .val (.ref x), .val (.int (((fSl s (3 : Int32)) + (1 : Int32)) &&& (3 : Int32))), .unset] [(.int (-1 : Int32)), (.int m)])) P
  refine Go.st (fun t_ k_ => XS.iand X9.here hx rfl (hb hby d_prog_37_method_3_92) rfl k_) ?_
  show Go pg.tables ev below (T9.setTop (mkF mi 93 #[.val (.ref o), .val (.int f), .val (.int s), .val (.int m), .val .null, .val (.ref x), .val (.int (((fSl s (3 : Int32)) + (1 : Int32)) &&& (3 : Int32))), .unset] [(.int (m &&& (-1 : Int32)))])) P
  refine Go.st (fun t_ k_ => XS.istore X9.here hx rfl (hb hby d_prog_37_method_3_93) rfl (l' := #[.val (.ref o), .val (.int f), .val (.int s), .val (.int m), .val .null, .val (.ref x), .val (.int (((fSl s (3 : Int32)) + (1 : Int32)) &&& (3 : Int32))), .val (.int (m &&& (-1 : Int32)))]) rfl k_) ?_
  show Go pg.tables ev below (T9.setTop (mkF mi 95 #[.val (.ref o), .val (.int f), .val (.int s), .val (.int m), .val .null, .val (.ref x), .val (.int (((fSl s (3 : Int32)) + (1 : Int32)) &&& (3 : Int32))), .val (.int (m &&& (-1 : Int32)))] [])) P
  refine Go.st (fun t_ k_ => XS.aload X9.here hx rfl (hb hby d_prog_37_method_3_95) rfl rfl k_) ?_
  show Go pg.tables ev below (T9.setTop (mkF mi 97 #[.val (.ref o), .val (.int f), .val (.int s), .val (.int m), .val .null, .val (.ref x), .val (.int (((fSl s (3 : Int32)) + (1 : Int32)) &&& (3 : Int32))), .val (.int (m &&& (-1 : Int32)))] [(.ref x)])) P
  refine Go.st (fun t_ k_ => XS.iload X9.here hx rfl (hb hby d_prog_37_method_3_97) rfl k_) ?_
  show Go pg.tables ev below (T9.setTop (mkF mi 99 #[.val (.ref o), .val (.int f), .val (.int s), .val (.int m), .val .null, .val (.ref x), .val (.int (((fSl s (3 : Int32)) + (1 : Int32)) &&& (3 : Int32))), .val (.int (m &&& (-1 : Int32)))] [(.int (((fSl s (3 : Int32)) + (1 : Int32)) &&& (3 : Int32))), (.ref x)])) P
  have ov11 := A_x
  obtain ⟨cl11, Ar11, q11, S11, M11, H11, G11⟩ := ov11
  have hin11 : ¬ ((((fSl s (3 : Int32)) + (1 : Int32)) &&& (3 : Int32)) < 0 ∨ cl11.slots.size ≤ ((((fSl s (3 : Int32)) + (1 : Int32)) &&& (3 : Int32))).toNatClampNeg) := inb_of S11 (own_next (own_slot s)).1
  have hat11 : cl11.slots[((((fSl s (3 : Int32)) + (1 : Int32)) &&& (3 : Int32))).toNatClampNeg]? = some (.int (0 : Int32)) := atH H11 hin11 (getH_miss (own_next (own_slot s)).1.1 (by rw [← hsl]; exact (own_next (own_slot s)).2) rfl)
  refine Go.st (X9.iaload hx (j := (((fSl s (3 : Int32)) + (1 : Int32)) &&& (3 : Int32))) (v := (.int (0 : Int32))) (by rw [e9]; exact Ar11.1) (State.isArrayOf_alike hZ.alike Ar11.2.1) Ar11.2.2 hin11 hat11 (g := (mkF mi 99 #[.val (.ref o), .val (.int f), .val (.int s), .val (.int m), .val .null, .val (.ref x), .val (.int (((fSl s (3 : Int32)) + (1 : Int32)) &&& (3 : Int32))), .val (.int (m &&& (-1 : Int32)))] [(.int (((fSl s (3 : Int32)) + (1 : Int32)) &&& (3 : Int32))), (.ref x)])) rfl rfl (hb hby d_prog_37_method_3_99)) ?_
  show Go pg.tables ev below (T9.setTop (mkF mi 100 #[.val (.ref o), .val (.int f), .val (.int s), .val (.int m), .val .null, .val (.ref x), .val (.int (((fSl s (3 : Int32)) + (1 : Int32)) &&& (3 : Int32))), .val (.int (m &&& (-1 : Int32)))] [(.int (0 : Int32))])) P
  refine Go.st (fun t_ k_ => XS.ifYes X9.here hx rfl (pc0 := 100) (pc' := 116) rfl (hb hby d_prog_37_method_3_100) rfl ((if0 _ _).trans (teq rfl).1) (by decide) (by decide) k_) ?_
  show Go pg.tables ev below (T9.setTop (mkF mi 116 #[.val (.ref o), .val (.int f), .val (.int s), .val (.int m), .val .null, .val (.ref x), .val (.int (((fSl s (3 : Int32)) + (1 : Int32)) &&& (3 : Int32))), .val (.int (m &&& (-1 : Int32)))] [])) P
  refine Go.st (fun t_ k_ => XS.aload X9.here hx rfl (hb hby d_prog_37_method_3_116) rfl rfl k_) ?_
  show Go pg.tables ev below (T9.setTop (mkF mi 118 #[.val (.ref o), .val (.int f), .val (.int s), .val (.int m), .val .null, .val (.ref x), .val (.int (((fSl s (3 : Int32)) + (1 : Int32)) &&& (3 : Int32))), .val (.int (m &&& (-1 : Int32)))] [(.ref x)])) P
  refine Go.st (fun t_ k_ => XS.iload X9.here hx rfl (hb hby d_prog_37_method_3_118) rfl k_) ?_
  show Go pg.tables ev below (T9.setTop (mkF mi 120 #[.val (.ref o), .val (.int f), .val (.int s), .val (.int m), .val .null, .val (.ref x), .val (.int (((fSl s (3 : Int32)) + (1 : Int32)) &&& (3 : Int32))), .val (.int (m &&& (-1 : Int32)))] [(.int (((fSl s (3 : Int32)) + (1 : Int32)) &&& (3 : Int32))), (.ref x)])) P
  refine Go.st (fun t_ k_ => XS.iloadN X9.here hx rfl (hb hby d_prog_37_method_3_120) rfl k_) ?_
  show Go pg.tables ev below (T9.setTop (mkF mi 121 #[.val (.ref o), .val (.int f), .val (.int s), .val (.int m), .val .null, .val (.ref x), .val (.int (((fSl s (3 : Int32)) + (1 : Int32)) &&& (3 : Int32))), .val (.int (m &&& (-1 : Int32)))] [(.int s), (.int (((fSl s (3 : Int32)) + (1 : Int32)) &&& (3 : Int32))), (.ref x)])) P
  obtain ⟨_, _, ⟨T12, L12, k12, n12⟩, -, X12, ⟨Lc12, hQ12, l12, y12, z12⟩, st12⟩ := Jvm.LawKit.callS X9 hx (y := (⟨"com/example/hedge/hedge/automaton/PairMarks", "key", "(I)I"⟩ : MethodName)) hown (mvT hZ (hw _ (List.mem_of_getElem? (i := 76) rfl))) (mvT hZ (hw _ (List.mem_of_getElem? (i := 77) rfl))) (mvT hZ (hw _ (List.mem_of_getElem? (i := 3) rfl))) (mvT hZ (hw _ (List.mem_of_getElem? (i := 78) rfl))) (by decide) (backOf (W := 2) (rmKe l Z a0 hw [] s h0 n0 Z0) hZ (hw _ (List.mem_of_getElem? (i := 78) rfl)) (hw _ (List.mem_of_getElem? (i := 3) rfl)) (by decide) (by decide)) (g := (mkF mi 121 #[.val (.ref o), .val (.int f), .val (.int s), .val (.int m), .val .null, .val (.ref x), .val (.int (((fSl s (3 : Int32)) + (1 : Int32)) &&& (3 : Int32))), .val (.int (m &&& (-1 : Int32)))] [(.int s), (.int (((fSl s (3 : Int32)) + (1 : Int32)) &&& (3 : Int32))), (.ref x)])) rfl (by rw [hml]; rfl) (argsL := [(.int s)]) (rest := [(.int (((fSl s (3 : Int32)) + (1 : Int32)) &&& (3 : Int32))), (.ref x)]) (lenOf pd_2 rfl) rfl (by show 2 * 0 + _ ≤ _; exact Nat.le_of_eq rfl) (hb hby d_prog_37_method_3_121) (fun _ _ => ⟨rfl, e9, (by decide : 0 + 0 ≤ _), (by decide : 0 + 0 ≤ _)⟩)
  dsimp only [Pt.U, Pt.locs, Pt.cells, Pt.slots] at X12 l12 y12 z12 st12 hQ12
  subst l12 y12 z12
  obtain ⟨rfl, N12q, e12⟩ := hQ12
  have N12 := Fr.app N9 N12q
  refine Go.st st12 ?_
  show Go pg.tables ev below (T12.setTop (mkF mi 124 #[.val (.ref o), .val (.int f), .val (.int s), .val (.int m), .val .null, .val (.ref x), .val (.int (((fSl s (3 : Int32)) + (1 : Int32)) &&& (3 : Int32))), .val (.int (m &&& (-1 : Int32)))] [(.int (fKe s)), (.int (((fSl s (3 : Int32)) + (1 : Int32)) &&& (3 : Int32))), (.ref x)])) P
  refine Go.st (fun t_ k_ => XS.iloadN X12.here hx rfl (hb hby d_prog_37_method_3_124) rfl k_) ?_
  show Go pg.tables ev below (T12.setTop (mkF mi 125 #[.val (.ref o), .val (.int f), .val (.int s), .val (.int m), .val .null, .val (.ref x), .val (.int (((fSl s (3 : Int32)) + (1 : Int32)) &&& (3 : Int32))), .val (.int (m &&& (-1 : Int32)))] [(.int m), (.int (fKe s)), (.int (((fSl s (3 : Int32)) + (1 : Int32)) &&& (3 : Int32))), (.ref x)])) P
  refine Go.st (fun t_ k_ => XS.ior X12.here hx rfl (hb hby d_prog_37_method_3_125) rfl k_) ?_
  show Go pg.tables ev below (T12.setTop (mkF mi 126 #[.val (.ref o), .val (.int f), .val (.int s), .val (.int m), .val .null, .val (.ref x), .val (.int (((fSl s (3 : Int32)) + (1 : Int32)) &&& (3 : Int32))), .val (.int (m &&& (-1 : Int32)))] [(.int ((fKe s) ||| m)), (.int (((fSl s (3 : Int32)) + (1 : Int32)) &&& (3 : Int32))), (.ref x)])) P
  have ov13 := A_x
  obtain ⟨cl13, Ar13, q13, S13, M13, H13, G13⟩ := ov13
  have hin13 : ¬ ((((fSl s (3 : Int32)) + (1 : Int32)) &&& (3 : Int32)) < 0 ∨ cl13.slots.size ≤ ((((fSl s (3 : Int32)) + (1 : Int32)) &&& (3 : Int32))).toNatClampNeg) := inb_of S13 (own_next (own_slot s)).1
  obtain ⟨T14, h14, X14, e14, W14, st14⟩ := stI X12 hx hZ e12 Ar13 (j := (((fSl s (3 : Int32)) + (1 : Int32)) &&& (3 : Int32))) hin13 (g := (mkF mi 126 #[.val (.ref o), .val (.int f), .val (.int s), .val (.int m), .val .null, .val (.ref x), .val (.int (((fSl s (3 : Int32)) + (1 : Int32)) &&& (3 : Int32))), .val (.int (m &&& (-1 : Int32)))] [(.int ((fKe s) ||| m)), (.int (((fSl s (3 : Int32)) + (1 : Int32)) &&& (3 : Int32))), (.ref x)])) rfl rfl (hb hby d_prog_37_method_3_126)
  have Zs15 : n0 ≤ h14.size := Nat.le_trans Z0 (Keep.of_wr W14).1
  have KC15 : Keep h0 h14 [x, sz] := (Keep.refl h0 [x, sz]).wr W14 (Or.inl (List.mem_of_getElem? (i := 0) rfl))
  have N15 := Fr.snoc X14 N12 g_x
  have V14 : Arh Z h14 x kx .int (4 : Int32) (((((fSl s (3 : Int32)) + (1 : Int32)) &&& (3 : Int32)), (.int ((fKe s) ||| m))) :: [((fSl b (3 : Int32)), .int kv)]) [] (.int (0 : Int32)) := Arh.push Ar13 q13 S13 M13 H13 G13 rfl W14 hin13
  refine Go.st st14 ?_
  show Go pg.tables ev below (T14.setTop (mkF mi 127 #[.val (.ref o), .val (.int f), .val (.int s), .val (.int m), .val .null, .val (.ref x), .val (.int (((fSl s (3 : Int32)) + (1 : Int32)) &&& (3 : Int32))), .val (.int (m &&& (-1 : Int32)))] [])) P
  refine Go.st (fun t_ k_ => XS.aloadN X14.here hx rfl (hb hby d_prog_37_method_3_127) rfl rfl k_) ?_
  show Go pg.tables ev below (T14.setTop (mkF mi 128 #[.val (.ref o), .val (.int f), .val (.int s), .val (.int m), .val .null, .val (.ref x), .val (.int (((fSl s (3 : Int32)) + (1 : Int32)) &&& (3 : Int32))), .val (.int (m &&& (-1 : Int32)))] [(.ref o)])) P
  have f16 := (F2.other W14 (Or.inl ne_o))
  obtain ⟨T17, X17, e17, st17⟩ := getF X14 hx hZ hown (host := "") (Or.inl (hw _ (List.mem_of_getElem? (i := 20) rfl))) Via.refl e14 f16 (g := (mkF mi 128 #[.val (.ref o), .val (.int f), .val (.int s), .val (.int m), .val .null, .val (.ref x), .val (.int (((fSl s (3 : Int32)) + (1 : Int32)) &&& (3 : Int32))), .val (.int (m &&& (-1 : Int32)))] [(.ref o)])) rfl rfl (hb hby d_prog_37_method_3_128)
  refine Go.st st17 ?_
  show Go pg.tables ev below (T17.setTop (mkF mi 131 #[.val (.ref o), .val (.int f), .val (.int s), .val (.int m), .val .null, .val (.ref x), .val (.int (((fSl s (3 : Int32)) + (1 : Int32)) &&& (3 : Int32))), .val (.int (m &&& (-1 : Int32)))] [(.ref sz)])) P
  refine Go.st (fun t_ k_ => XS.iloadN X17.here hx rfl (hb hby d_prog_37_method_3_131) rfl k_) ?_
  show Go pg.tables ev below (T17.setTop (mkF mi 132 #[.val (.ref o), .val (.int f), .val (.int s), .val (.int m), .val .null, .val (.ref x), .val (.int (((fSl s (3 : Int32)) + (1 : Int32)) &&& (3 : Int32))), .val (.int (m &&& (-1 : Int32)))] [(.int f), (.ref sz)])) P
  refine Go.st (fun t_ k_ => XT.dup2 X17.here hx rfl (hb hby d_prog_37_method_3_132) rfl rfl rfl k_) ?_
  show Go pg.tables ev below (T17.setTop (mkF mi 133 #[.val (.ref o), .val (.int f), .val (.int s), .val (.int m), .val .null, .val (.ref x), .val (.int (((fSl s (3 : Int32)) + (1 : Int32)) &&& (3 : Int32))), .val (.int (m &&& (-1 : Int32)))] [(.int f), (.ref sz), (.int f), (.ref sz)])) P
  have f18 := (A_sz.other W14 ne_sz)
  have ov19 := f18
  obtain ⟨cl19, Ar19, q19, S19, M19, H19, G19⟩ := ov19
  have hin19 : ¬ (f < 0 ∨ cl19.slots.size ≤ (f).toNatClampNeg) := inb_of S19 ⟨hf1, hf2⟩
  have hat19 : cl19.slots[(f).toNatClampNeg]? = some (.int (1 : Int32)) := atH H19 hin19 uS
  refine Go.st (X17.iaload hx (j := f) (v := (.int (1 : Int32))) (by rw [e17]; exact Ar19.1) (State.isArrayOf_alike hZ.alike Ar19.2.1) Ar19.2.2 hin19 hat19 (g := (mkF mi 133 #[.val (.ref o), .val (.int f), .val (.int s), .val (.int m), .val .null, .val (.ref x), .val (.int (((fSl s (3 : Int32)) + (1 : Int32)) &&& (3 : Int32))), .val (.int (m &&& (-1 : Int32)))] [(.int f), (.ref sz), (.int f), (.ref sz)])) rfl rfl (hb hby d_prog_37_method_3_133)) ?_
  show Go pg.tables ev below (T17.setTop (mkF mi 134 #[.val (.ref o), .val (.int f), .val (.int s), .val (.int m), .val .null, .val (.ref x), .val (.int (((fSl s (3 : Int32)) + (1 : Int32)) &&& (3 : Int32))), .val (.int (m &&& (-1 : Int32)))] [(.int (1 : Int32)), (.int f), (.ref sz)])) P
  refine Go.st (fun t_ k_ => XS.iconst X17.here hx rfl (hb hby d_prog_37_method_3_134) k_) ?_
  show Go pg.tables ev below (T17.setTop (mkF mi 135 #[.val (.ref o), .val (.int f), .val (.int s), .val (.int m), .val .null, .val (.ref x), .val (.int (((fSl s (3 : Int32)) + (1 : Int32)) &&& (3 : Int32))), .val (.int (m &&& (-1 : Int32)))] [(.int (1 : Int32)), (.int (1 : Int32)), (.int f), (.ref sz)])) P
  refine Go.st (fun t_ k_ => XS.iadd X17.here hx rfl (hb hby d_prog_37_method_3_135) rfl k_) ?_
  show Go pg.tables ev below (T17.setTop (mkF mi 136 #[.val (.ref o), .val (.int f), .val (.int s), .val (.int m), .val .null, .val (.ref x), .val (.int (((fSl s (3 : Int32)) + (1 : Int32)) &&& (3 : Int32))), .val (.int (m &&& (-1 : Int32)))] [(.int (2 : Int32)), (.int f), (.ref sz)])) P
  have ov20 := f18
  obtain ⟨cl20, Ar20, q20, S20, M20, H20, G20⟩ := ov20
  have hin20 : ¬ (f < 0 ∨ cl20.slots.size ≤ (f).toNatClampNeg) := inb_of S20 ⟨hf1, hf2⟩
  obtain ⟨T21, h21, X21, e21, W21, st21⟩ := stI X17 hx hZ e17 Ar20 (j := f) hin20 (g := (mkF mi 136 #[.val (.ref o), .val (.int f), .val (.int s), .val (.int m), .val .null, .val (.ref x), .val (.int (((fSl s (3 : Int32)) + (1 : Int32)) &&& (3 : Int32))), .val (.int (m &&& (-1 : Int32)))] [(.int (2 : Int32)), (.int f), (.ref sz)])) rfl rfl (hb hby d_prog_37_method_3_136)
  have Zs22 : n0 ≤ h21.size := Nat.le_trans Zs15 (Keep.of_wr W21).1
  have KC22 : Keep h0 h21 [x, sz] := KC15.wr W21 (Or.inl (List.mem_of_getElem? (i := 1) rfl))
  have N22 := Fr.snoc X21 N15 g_sz
  have V21 : Arh Z h21 sz kS .int N ((f, (.int (2 : Int32))) :: hS) [] (.int (0 : Int32)) := Arh.push Ar20 q20 S20 M20 H20 G20 rfl W21 hin20
  refine Go.st st21 ?_
  show Go pg.tables ev below (T21.setTop (mkF mi 137 #[.val (.ref o), .val (.int f), .val (.int s), .val (.int m), .val .null, .val (.ref x), .val (.int (((fSl s (3 : Int32)) + (1 : Int32)) &&& (3 : Int32))), .val (.int (m &&& (-1 : Int32)))] [])) P
  refine Go.st (fun t_ k_ => XS.iconst X21.here hx rfl (hb hby d_prog_37_method_3_137) k_) ?_
  show Go pg.tables ev below (T21.setTop (mkF mi 138 #[.val (.ref o), .val (.int f), .val (.int s), .val (.int m), .val .null, .val (.ref x), .val (.int (((fSl s (3 : Int32)) + (1 : Int32)) &&& (3 : Int32))), .val (.int (m &&& (-1 : Int32)))] [(.int (2 : Int32))])) P
  refine Go.st (fun t_ k_ => XS.aloadN X21.here hx rfl (hb hby d_prog_37_method_3_138) rfl rfl k_) ?_
  show Go pg.tables ev below (T21.setTop (mkF mi 139 #[.val (.ref o), .val (.int f), .val (.int s), .val (.int m), .val .null, .val (.ref x), .val (.int (((fSl s (3 : Int32)) + (1 : Int32)) &&& (3 : Int32))), .val (.int (m &&& (-1 : Int32)))] [(.ref o), (.int (2 : Int32))])) P
  have f23 := (f16.other W21 (Or.inl ne_os))
  obtain ⟨T24, X24, e24, st24⟩ := getF X21 hx hZ hown (host := "") (Or.inl (hw _ (List.mem_of_getElem? (i := 20) rfl))) Via.refl e21 f23 (g := (mkF mi 139 #[.val (.ref o), .val (.int f), .val (.int s), .val (.int m), .val .null, .val (.ref x), .val (.int (((fSl s (3 : Int32)) + (1 : Int32)) &&& (3 : Int32))), .val (.int (m &&& (-1 : Int32)))] [(.ref o), (.int (2 : Int32))])) rfl rfl (hb hby d_prog_37_method_3_139)
  refine Go.st st24 ?_
  show Go pg.tables ev below (T24.setTop (mkF mi 142 #[.val (.ref o), .val (.int f), .val (.int s), .val (.int m), .val .null, .val (.ref x), .val (.int (((fSl s (3 : Int32)) + (1 : Int32)) &&& (3 : Int32))), .val (.int (m &&& (-1 : Int32)))] [(.ref sz), (.int (2 : Int32))])) P
  refine Go.st (fun t_ k_ => XS.iloadN X24.here hx rfl (hb hby d_prog_37_method_3_142) rfl k_) ?_
  show Go pg.tables ev below (T24.setTop (mkF mi 143 #[.val (.ref o), .val (.int f), .val (.int s), .val (.int m), .val .null, .val (.ref x), .val (.int (((fSl s (3 : Int32)) + (1 : Int32)) &&& (3 : Int32))), .val (.int (m &&& (-1 : Int32)))] [(.int f), (.ref sz), (.int (2 : Int32))])) P
  have ov25 := V21
  obtain ⟨cl25, Ar25, q25, S25, M25, H25, G25⟩ := ov25
  have hin25 : ¬ (f < 0 ∨ cl25.slots.size ≤ (f).toNatClampNeg) := inb_of S25 ⟨hf1, hf2⟩
  have hat25 : cl25.slots[(f).toNatClampNeg]? = some (.int (2 : Int32)) := atH H25 hin25 (own_hit hf1)
  refine Go.st (X24.iaload hx (j := f) (v := (.int (2 : Int32))) (by rw [e24]; exact Ar25.1) (State.isArrayOf_alike hZ.alike Ar25.2.1) Ar25.2.2 hin25 hat25 (g := (mkF mi 143 #[.val (.ref o), .val (.int f), .val (.int s), .val (.int m), .val .null, .val (.ref x), .val (.int (((fSl s (3 : Int32)) + (1 : Int32)) &&& (3 : Int32))), .val (.int (m &&& (-1 : Int32)))] [(.int f), (.ref sz), (.int (2 : Int32))])) rfl rfl (hb hby d_prog_37_method_3_143)) ?_
  show Go pg.tables ev below (T24.setTop (mkF mi 144 #[.val (.ref o), .val (.int f), .val (.int s), .val (.int m), .val .null, .val (.ref x), .val (.int (((fSl s (3 : Int32)) + (1 : Int32)) &&& (3 : Int32))), .val (.int (m &&& (-1 : Int32)))] [(.int (2 : Int32)), (.int (2 : Int32))])) P
  refine Go.st (fun t_ k_ => XS.imul X24.here hx rfl (hb hby d_prog_37_method_3_144) rfl k_) ?_
  show Go pg.tables ev below (T24.setTop (mkF mi 145 #[.val (.ref o), .val (.int f), .val (.int s), .val (.int m), .val .null, .val (.ref x), .val (.int (((fSl s (3 : Int32)) + (1 : Int32)) &&& (3 : Int32))), .val (.int (m &&& (-1 : Int32)))] [(.int (4 : Int32))])) P
  refine Go.st (fun t_ k_ => XS.aload X24.here hx rfl (hb hby d_prog_37_method_3_145) rfl rfl k_) ?_
  show Go pg.tables ev below (T24.setTop (mkF mi 147 #[.val (.ref o), .val (.int f), .val (.int s), .val (.int m), .val .null, .val (.ref x), .val (.int (((fSl s (3 : Int32)) + (1 : Int32)) &&& (3 : Int32))), .val (.int (m &&& (-1 : Int32)))] [(.ref x), (.int (4 : Int32))])) P
  have f26 := (V14.other W21 (Ne.symm ne_sz))
  have ov27 := f26
  obtain ⟨cl27, Ar27, q27, S27, M27, H27, G27⟩ := ov27
  refine Go.st (X24.arraylength hx (by rw [e24]; exact Ar27.1) (State.isArrayOf_alike hZ.alike Ar27.2.1) (g := (mkF mi 147 #[.val (.ref o), .val (.int f), .val (.int s), .val (.int m), .val .null, .val (.ref x), .val (.int (((fSl s (3 : Int32)) + (1 : Int32)) &&& (3 : Int32))), .val (.int (m &&& (-1 : Int32)))] [(.ref x), (.int (4 : Int32))])) rfl rfl (hb hby d_prog_37_method_3_147)) ?_
  rw [len_of S27 M27]
  show Go pg.tables ev below (T24.setTop (mkF mi 148 #[.val (.ref o), .val (.int f), .val (.int s), .val (.int m), .val .null, .val (.ref x), .val (.int (((fSl s (3 : Int32)) + (1 : Int32)) &&& (3 : Int32))), .val (.int (m &&& (-1 : Int32)))] [(.int (4 : Int32)), (.int (4 : Int32))])) P
  refine Go.st (fun t_ k_ => XS.icmpYes X24.here hx rfl (pc0 := 148) (pc' := 156) rfl (hb hby d_prog_37_method_3_148) rfl (flt (by decide)).2.2.2 (by decide) (by decide) k_) ?_
  show Go pg.tables ev below (T24.setTop (mkF mi 156 #[.val (.ref o), .val (.int f), .val (.int s), .val (.int m), .val .null, .val (.ref x), .val (.int (((fSl s (3 : Int32)) + (1 : Int32)) &&& (3 : Int32))), .val (.int (m &&& (-1 : Int32)))] [])) P
  refine Go.st (fun t_ k_ => XS.iload X24.here hx rfl (hb hby d_prog_37_method_3_156) rfl k_) ?_
  show Go pg.tables ev below (T24.setTop (mkF mi 158 #[.val (.ref o), .val (.int f), .val (.int s), .val (.int m), .val .null, .val (.ref x), .val (.int (((fSl s (3 : Int32)) + (1 : Int32)) &&& (3 : Int32))), .val (.int (m &&& (-1 : Int32)))] [(.int (m &&& (-1 : Int32)))])) P
  obtain ⟨fs, hr, hrun, hended, hW, hsame⟩ := X24.leave (v := some (.int (m &&& (-1 : Int32)))) (fun h => by rw [Bd.returns] at h; cases h) (BodyLoose.notSynchronized Bd)
  refine ⟨_, _, ?_, hP _ _ ⟨hrun, hended, _, _, rfl, ?_, ⟨_, rfl⟩, hW, hsame.mono (by decide) (by decide)⟩⟩
  · exact retI X24 hx Bd.returns (hb hby d_prog_37_method_3_158) hr
  · show ∃ (r : Int32) (hs2 : List (Int32 × Value)), (some (.int (m &&& (-1 : Int32))) : Option Value) = some (.int r) ∧ Fr n0 _ ∧ Keep h0 T24.heap [x, sz] ∧ Arh Z T24.heap sz kS .int N hs2 [] (.int (0 : Int32))
    rw [e24]
    exact ⟨_, _, rfl, N22, KC22, V21⟩
theorem d_prog_37_method_9_0 : decode prog_37_method_9_code 0 = .ok (.iconst 0, 1) := by decide +kernel
theorem d_prog_37_method_9_1 : decode prog_37_method_9_code 1 = .ok (.istore_n 1, 1) := by decide +kernel
theorem d_prog_37_method_9_2 : decode prog_37_method_9_code 2 = .ok (.iload_n 1, 1) := by decide +kernel
theorem d_prog_37_method_9_3 : decode prog_37_method_9_code 3 = .ok (.aload_n 0, 1) := by decide +kernel
theorem d_prog_37_method_9_4 : decode prog_37_method_9_code 4 = .ok (.getfield 91, 3) := by decide +kernel
theorem d_prog_37_method_9_7 : decode prog_37_method_9_code 7 = .ok (.if_icmp .ge 37, 3) := by decide +kernel
theorem d_prog_37_method_9_10 : decode prog_37_method_9_code 10 = .ok (.aload_n 0, 1) := by decide +kernel
theorem d_prog_37_method_9_11 : decode prog_37_method_9_code 11 = .ok (.getfield 7, 3) := by decide +kernel
theorem d_prog_37_method_9_14 : decode prog_37_method_9_code 14 = .ok (.iload_n 1, 1) := by decide +kernel
theorem d_prog_37_method_9_15 : decode prog_37_method_9_code 15 = .ok (.iaload, 1) := by decide +kernel
theorem d_prog_37_method_9_16 : decode prog_37_method_9_code 16 = .ok (.istore_n 2, 1) := by decide +kernel
theorem d_prog_37_method_9_17 : decode prog_37_method_9_code 17 = .ok (.aload_n 0, 1) := by decide +kernel
theorem d_prog_37_method_9_18 : decode prog_37_method_9_code 18 = .ok (.getfield 30, 3) := by decide +kernel
theorem d_prog_37_method_9_21 : decode prog_37_method_9_code 21 = .ok (.iload_n 2, 1) := by decide +kernel
theorem d_prog_37_method_9_22 : decode prog_37_method_9_code 22 = .ok (.aconst_null, 1) := by decide +kernel
theorem d_prog_37_method_9_23 : decode prog_37_method_9_code 23 = .ok (.aastore, 1) := by decide +kernel
theorem d_prog_37_method_9_24 : decode prog_37_method_9_code 24 = .ok (.aload_n 0, 1) := by decide +kernel
theorem d_prog_37_method_9_25 : decode prog_37_method_9_code 25 = .ok (.getfield 39, 3) := by decide +kernel
theorem d_prog_37_method_9_28 : decode prog_37_method_9_code 28 = .ok (.iload_n 2, 1) := by decide +kernel
theorem d_prog_37_method_9_29 : decode prog_37_method_9_code 29 = .ok (.aconst_null, 1) := by decide +kernel
theorem d_prog_37_method_9_30 : decode prog_37_method_9_code 30 = .ok (.aastore, 1) := by decide +kernel
theorem d_prog_37_method_9_31 : decode prog_37_method_9_code 31 = .ok (.aload_n 0, 1) := by decide +kernel
theorem d_prog_37_method_9_32 : decode prog_37_method_9_code 32 = .ok (.getfield 34, 3) := by decide +kernel
theorem d_prog_37_method_9_35 : decode prog_37_method_9_code 35 = .ok (.iload_n 2, 1) := by decide +kernel
theorem d_prog_37_method_9_36 : decode prog_37_method_9_code 36 = .ok (.iconst 0, 1) := by decide +kernel
theorem d_prog_37_method_9_37 : decode prog_37_method_9_code 37 = .ok (.iastore, 1) := by decide +kernel
theorem d_prog_37_method_9_38 : decode prog_37_method_9_code 38 = .ok (.iinc 1 1, 3) := by decide +kernel
theorem d_prog_37_method_9_41 : decode prog_37_method_9_code 41 = .ok (.goto (-39), 3) := by decide +kernel
theorem d_prog_37_method_9_44 : decode prog_37_method_9_code 44 = .ok (.aload_n 0, 1) := by decide +kernel
theorem d_prog_37_method_9_45 : decode prog_37_method_9_code 45 = .ok (.iconst 0, 1) := by decide +kernel
theorem d_prog_37_method_9_46 : decode prog_37_method_9_code 46 = .ok (.putfield 91, 3) := by decide +kernel
theorem d_prog_37_method_9_49 : decode prog_37_method_9_code 49 = .ok (.return_, 1) := by decide +kernel
theorem ef_rmC1 (mi : MethodId) (o : Addr) (rw : Addr) (tb : Addr) (sz : Addr) (bm : Addr) (kR : ClassId) (kT : ClassId) (kS : ClassId) (kB : ClassId) (N : Int32) (wd : Int32) (hT : List (Int32 × Value)) (hS : List (Int32 × Value)) (hB : List (Int32 × Value)) (vR : List Value) (f : Int32) : entryFrame mi #[(.ref o)] 3 = mkF mi 0 #[.val (.ref o), .unset, .unset] [] := by first | (simp [entryFrame, mkF, argsToLocals, Value.category]; done) | rfl
def Q_rmC1 (Z : State) (o : Addr) (rw : Addr) (tb : Addr) (sz : Addr) (bm : Addr) (kR : ClassId) (kT : ClassId) (kS : ClassId) (kB : ClassId) (N : Int32) (wd : Int32) (hT : List (Int32 × Value)) (hS : List (Int32 × Value)) (hB : List (Int32 × Value)) (vR : List Value) (f : Int32) (h0 : Heap) (n0 : Nat) (vv_ : Option Value) (hh_ : Heap) (LL_ : List Loc) : Prop := vv_ = none ∧ Fr n0 LL_ ∧ Keep h0 hh_ [o, tb, bm, sz] ∧ Fld Z hh_ o "com/example/hedge/hedge/automaton/PairMarks" "rows" "[I" (.ref rw) ∧ Fld Z hh_ o "com/example/hedge/hedge/automaton/PairMarks" "tables" "[[I" (.ref tb) ∧ Fld Z hh_ o "com/example/hedge/hedge/automaton/PairMarks" "sizes" "[I" (.ref sz) ∧ Fld Z hh_ o "com/example/hedge/hedge/automaton/PairMarks" "bitmaps" "[[J" (.ref bm) ∧ Fld Z hh_ o "com/example/hedge/hedge/automaton/PairMarks" "words" "I" (.int wd) ∧ Fld Z hh_ o "com/example/hedge/hedge/automaton/PairMarks" "rowCount" "I" (.int (0 : Int32)) ∧ Arh Z hh_ tb kT (.array .int) N ((f, .null) :: hT) [] .null ∧ Arh Z hh_ bm kB (.array .long) N ((f, .null) :: hB) [] .null ∧ Arh Z hh_ sz kS .int N ((f, .int (0 : Int32)) :: hS) [] (.int (0 : Int32))
set_option maxRecDepth 65536 in
set_option maxHeartbeats 40000000 in
theorem rmC1 (l : Launch) (Z : State) (a0 : Array Value) (hw : ∀ d ∈ tables_1, d.before a0 Z = true) (ws : List Jvm.Cond) (o : Addr) (rw : Addr) (tb : Addr) (sz : Addr) (bm : Addr) (kR : ClassId) (kT : ClassId) (kS : ClassId) (kB : ClassId) (N : Int32) (wd : Int32) (hT : List (Int32 × Value)) (hS : List (Int32 × Value)) (hB : List (Int32 × Value)) (vR : List Value) (f : Int32) (h0 : Heap) (n0 : Nat) (Z0 : n0 ≤ h0.size) (E0 : Exa Z h0 o "com/example/hedge/hedge/automaton/PairMarks") (ge0 : n0 ≤ o) (g_rw : n0 ≤ rw) (g_tb : n0 ≤ tb) (g_sz : n0 ≤ sz) (g_bm : n0 ≤ bm) (ne_o_rw : o ≠ rw) (ne_o_tb : o ≠ tb) (ne_o_sz : o ≠ sz) (ne_o_bm : o ≠ bm) (ne_rw_tb : rw ≠ tb) (ne_rw_sz : rw ≠ sz) (ne_rw_bm : rw ≠ bm) (ne_tb_sz : tb ≠ sz) (ne_tb_bm : tb ≠ bm) (ne_sz_bm : sz ≠ bm) (F0 : Fld Z h0 o "com/example/hedge/hedge/automaton/PairMarks" "rows" "[I" (.ref rw)) (F1 : Fld Z h0 o "com/example/hedge/hedge/automaton/PairMarks" "tables" "[[I" (.ref tb)) (F2 : Fld Z h0 o "com/example/hedge/hedge/automaton/PairMarks" "sizes" "[I" (.ref sz)) (F3 : Fld Z h0 o "com/example/hedge/hedge/automaton/PairMarks" "bitmaps" "[[J" (.ref bm)) (F4 : Fld Z h0 o "com/example/hedge/hedge/automaton/PairMarks" "words" "I" (.int wd)) (F5 : Fld Z h0 o "com/example/hedge/hedge/automaton/PairMarks" "rowCount" "I" (.int (1 : Int32))) (A_rw : Arv Z h0 rw kR .int (16 : Int32) ((.int f) :: vR) (.int (0 : Int32))) (A_tb : Arh Z h0 tb kT (.array .int) N hT [] .null) (A_sz : Arh Z h0 sz kS .int N hS [] (.int (0 : Int32))) (A_bm : Arh Z h0 bm kB (.array .long) N hB [] .null) (O_tb : OvrA Z kT .int "[I") (O_bm : OvrA Z kB .long "[J") (hf1 : ¬ f < 0) (hf2 : f < N) :
    MetFree l (⟨"com/example/hedge/hedge/automaton/PairMarks", "clear", "()V"⟩ : MethodName) (head1 (Jvm.Cond.code (⟨"com/example/hedge/hedge/automaton/PairMarks", "clear", "()V"⟩ : MethodName) prog_37_method_9_code 3 none :: ws) ({ frames := 0, cells := 0, slots := 0, locals := 0 } : Room)) (fun aa_ U => aa_ = #[(.ref o)] ∧ Z.Warmed39 U.vm ∧ U.heap = h0) (fun _ _ _ _ _ => True) (fun _ U oo_ UV_ => ∃ vv_ LL_, oo_ = .returned vv_ ∧ Q_rmC1 Z o rw tb sz bm kR kT kS kB N wd hT hS hB vR f h0 n0 vv_ UV_.heap LL_ ∧ FrameEnd U oo_ UV_ LL_ ({ frames := 0, cells := 0, slots := 0, locals := 0 } : Room).cells ({ frames := 0, cells := 0, slots := 0, locals := 0 } : Room).slots) := by
  refine MetFree.of_bodySF (plainFor_of_name pn_0) hisR ?_
  intro pg ev si mi args below meth ci s₁ Bd hml0 hP0 hK
  obtain ⟨rfl, hZ, hh⟩ := hP0
  have hx := Bd.exec
  have hby := Bd.bytes
  have hml : ci.maxLocals = 3 := hml0
  have hown : si.vm.findClass "com/example/hedge/hedge/automaton/PairMarks" = some mi.cls := findClass_of_methodNamed Bd.named
  have hnm := (name_of_methodNamed Bd.named Bd.method).1
  have X0 : Stand pg l ev ({ frames := 0, cells := 0, slots := 0, locals := 0 } : Room) si mi #[(.ref o)] below meth ci s₁ [] 0 0 := Stand.of_body Bd
  have e0 : s₁.heap = h0 := by rw [← hh, Bd.state]; rfl
  have N0 := Fr.nil n0
  refine Go.start (fun P hP => ?_)
  refine Go.st (fun t_ k_ => castTop (ef_rmC1 mi o rw tb sz bm kR kT kS kB N wd hT hS hB vR f) k_) (A := s₁.setTop (mkF mi 0 #[.val (.ref o), .unset, .unset] [])) ?_
  show Go pg.tables ev below (s₁.setTop (mkF mi 0 #[.val (.ref o), .unset, .unset] [])) P
  refine Go.st (fun t_ k_ => XS.iconst X0.here hx rfl (hb hby d_prog_37_method_9_0) k_) ?_
  show Go pg.tables ev below (s₁.setTop (mkF mi 1 #[.val (.ref o), .unset, .unset] [(.int (0 : Int32))])) P
  refine Go.st (fun t_ k_ => XS.istoreN X0.here hx rfl (hb hby d_prog_37_method_9_1) rfl (l' := #[.val (.ref o), .val (.int (0 : Int32)), .unset]) rfl k_) ?_
  show Go pg.tables ev below (s₁.setTop (mkF mi 2 #[.val (.ref o), .val (.int (0 : Int32)), .unset] [])) P
  refine Go.st (fun t_ k_ => XS.iloadN X0.here hx rfl (hb hby d_prog_37_method_9_2) rfl k_) ?_
  show Go pg.tables ev below (s₁.setTop (mkF mi 3 #[.val (.ref o), .val (.int (0 : Int32)), .unset] [(.int (0 : Int32))])) P
  refine Go.st (fun t_ k_ => XS.aloadN X0.here hx rfl (hb hby d_prog_37_method_9_3) rfl rfl k_) ?_
  show Go pg.tables ev below (s₁.setTop (mkF mi 4 #[.val (.ref o), .val (.int (0 : Int32)), .unset] [(.ref o), (.int (0 : Int32))])) P
  obtain ⟨T1, X1, e1, st1⟩ := getF X0 hx hZ hown (host := "") (Or.inl (hw _ (List.mem_of_getElem? (i := 35) rfl))) Via.refl e0 F5 (g := (mkF mi 4 #[.val (.ref o), .val (.int (0 : Int32)), .unset] [(.ref o), (.int (0 : Int32))])) rfl rfl (hb hby d_prog_37_method_9_4)
  refine Go.st st1 ?_
  show Go pg.tables ev below (T1.setTop (mkF mi 7 #[.val (.ref o), .val (.int (0 : Int32)), .unset] [(.int (1 : Int32)), (.int (0 : Int32))])) P
  refine Go.st (fun t_ k_ => XS.icmpNo X1.here hx rfl (hb hby d_prog_37_method_9_7) rfl (tlt (by decide)).2.1 k_) ?_
  show Go pg.tables ev below (T1.setTop (mkF mi 10 #[.val (.ref o), .val (.int (0 : Int32)), .unset] [])) P
  refine Go.st (fun t_ k_ => XS.aloadN X1.here hx rfl (hb hby d_prog_37_method_9_10) rfl rfl k_) ?_
  show Go pg.tables ev below (T1.setTop (mkF mi 11 #[.val (.ref o), .val (.int (0 : Int32)), .unset] [(.ref o)])) P
  obtain ⟨T2, X2, e2, st2⟩ := getF X1 hx hZ hown (host := "") (Or.inl (hw _ (List.mem_of_getElem? (i := 11) rfl))) Via.refl e1 F0 (g := (mkF mi 11 #[.val (.ref o), .val (.int (0 : Int32)), .unset] [(.ref o)])) rfl rfl (hb hby d_prog_37_method_9_11)
  refine Go.st st2 ?_
  show Go pg.tables ev below (T2.setTop (mkF mi 14 #[.val (.ref o), .val (.int (0 : Int32)), .unset] [(.ref rw)])) P
  refine Go.st (fun t_ k_ => XS.iloadN X2.here hx rfl (hb hby d_prog_37_method_9_14) rfl k_) ?_
  show Go pg.tables ev below (T2.setTop (mkF mi 15 #[.val (.ref o), .val (.int (0 : Int32)), .unset] [(.int (0 : Int32)), (.ref rw)])) P
  have ov3 := A_rw
  obtain ⟨cl3, Ar3, q3, S3, M3, H3, G3⟩ := ov3
  have hin3 : ¬ ((0 : Int32) < 0 ∨ cl3.slots.size ≤ ((0 : Int32)).toNatClampNeg) := inb_of S3 ⟨by decide, by decide⟩
  have hat3 : cl3.slots[((0 : Int32)).toNatClampNeg]? = some (.int f) := Has.at H3 hin3 rfl
  refine Go.st (X2.iaload hx (j := (0 : Int32)) (v := (.int f)) (by rw [e2]; exact Ar3.1) (State.isArrayOf_alike hZ.alike Ar3.2.1) Ar3.2.2 hin3 hat3 (g := (mkF mi 15 #[.val (.ref o), .val (.int (0 : Int32)), .unset] [(.int (0 : Int32)), (.ref rw)])) rfl rfl (hb hby d_prog_37_method_9_15)) ?_
  show Go pg.tables ev below (T2.setTop (mkF mi 16 #[.val (.ref o), .val (.int (0 : Int32)), .unset] [(.int f)])) P
  refine Go.st (fun t_ k_ => XS.istoreN X2.here hx rfl (hb hby d_prog_37_method_9_16) rfl (l' := #[.val (.ref o), .val (.int (0 : Int32)), .val (.int f)]) rfl k_) ?_
  show Go pg.tables ev below (T2.setTop (mkF mi 17 #[.val (.ref o), .val (.int (0 : Int32)), .val (.int f)] [])) P
  refine Go.st (fun t_ k_ => XS.aloadN X2.here hx rfl (hb hby d_prog_37_method_9_17) rfl rfl k_) ?_
  show Go pg.tables ev below (T2.setTop (mkF mi 18 #[.val (.ref o), .val (.int (0 : Int32)), .val (.int f)] [(.ref o)])) P
  obtain ⟨T4, X4, e4, st4⟩ := getF X2 hx hZ hown (host := "") (Or.inl (hw _ (List.mem_of_getElem? (i := 18) rfl))) Via.refl e2 F1 (g := (mkF mi 18 #[.val (.ref o), .val (.int (0 : Int32)), .val (.int f)] [(.ref o)])) rfl rfl (hb hby d_prog_37_method_9_18)
  refine Go.st st4 ?_
  show Go pg.tables ev below (T4.setTop (mkF mi 21 #[.val (.ref o), .val (.int (0 : Int32)), .val (.int f)] [(.ref tb)])) P
  refine Go.st (fun t_ k_ => XS.iloadN X4.here hx rfl (hb hby d_prog_37_method_9_21) rfl k_) ?_
  show Go pg.tables ev below (T4.setTop (mkF mi 22 #[.val (.ref o), .val (.int (0 : Int32)), .val (.int f)] [(.int f), (.ref tb)])) P
  refine Go.st (fun t_ k_ => XS.aconstNull X4.here hx rfl (hb hby d_prog_37_method_9_22) k_) ?_
  show Go pg.tables ev below (T4.setTop (mkF mi 23 #[.val (.ref o), .val (.int (0 : Int32)), .val (.int f)] [.null, (.int f), (.ref tb)])) P
  have ov5 := A_tb
  obtain ⟨cl5, Ar5, q5, S5, M5, H5, G5⟩ := ov5
  have hin5 : ¬ (f < 0 ∨ cl5.slots.size ≤ (f).toNatClampNeg) := inb_of S5 ⟨hf1, hf2⟩
  obtain ⟨T6, h6, X6, e6, W6, st6⟩ := stR X4 hx hZ e4 Ar5 (j := f) hin5 rfl (Or.inl rfl) (g := (mkF mi 23 #[.val (.ref o), .val (.int (0 : Int32)), .val (.int f)] [.null, (.int f), (.ref tb)])) rfl rfl (hb hby d_prog_37_method_9_23)
  have Zs7 : n0 ≤ h6.size := Nat.le_trans Z0 (Keep.of_wr W6).1
  have KC7 : Keep h0 h6 [o, tb, bm, sz] := (Keep.refl h0 [o, tb, bm, sz]).wr W6 (Or.inl (List.mem_of_getElem? (i := 1) rfl))
  have N7 := Fr.snoc X6 N0 g_tb
  have V6 : Arh Z h6 tb kT (.array .int) N ((f, .null) :: hT) [] .null := Arh.push Ar5 q5 S5 M5 H5 G5 rfl W6 hin5
  refine Go.st st6 ?_
  show Go pg.tables ev below (T6.setTop (mkF mi 24 #[.val (.ref o), .val (.int (0 : Int32)), .val (.int f)] [])) P
  refine Go.st (fun t_ k_ => XS.aloadN X6.here hx rfl (hb hby d_prog_37_method_9_24) rfl rfl k_) ?_
  show Go pg.tables ev below (T6.setTop (mkF mi 25 #[.val (.ref o), .val (.int (0 : Int32)), .val (.int f)] [(.ref o)])) P
  have f8 := (F3.other W6 (Or.inl ne_o_tb))
  obtain ⟨T9, X9, e9, st9⟩ := getF X6 hx hZ hown (host := "") (Or.inl (hw _ (List.mem_of_getElem? (i := 24) rfl))) Via.refl e6 f8 (g := (mkF mi 25 #[.val (.ref o), .val (.int (0 : Int32)), .val (.int f)] [(.ref o)])) rfl rfl (hb hby d_prog_37_method_9_25)
  refine Go.st st9 ?_
  show Go pg.tables ev below (T9.setTop (mkF mi 28 #[.val (.ref o), .val (.int (0 : Int32)), .val (.int f)] [(.ref bm)])) P
  refine Go.st (fun t_ k_ => XS.iloadN X9.here hx rfl (hb hby d_prog_37_method_9_28) rfl k_) ?_
  show Go pg.tables ev below (T9.setTop (mkF mi 29 #[.val (.ref o), .val (.int (0 : Int32)), .val (.int f)] [(.int f), (.ref bm)])) P
  refine Go.st (fun t_ k_ => XS.aconstNull X9.here hx rfl (hb hby d_prog_37_method_9_29) k_) ?_
  show Go pg.tables ev below (T9.setTop (mkF mi 30 #[.val (.ref o), .val (.int (0 : Int32)), .val (.int f)] [.null, (.int f), (.ref bm)])) P
  have f10 := (A_bm.other W6 (Ne.symm ne_tb_bm))
  have ov11 := f10
  obtain ⟨cl11, Ar11, q11, S11, M11, H11, G11⟩ := ov11
  have hin11 : ¬ (f < 0 ∨ cl11.slots.size ≤ (f).toNatClampNeg) := inb_of S11 ⟨hf1, hf2⟩
  obtain ⟨T12, h12, X12, e12, W12, st12⟩ := stR X9 hx hZ e9 Ar11 (j := f) hin11 rfl (Or.inl rfl) (g := (mkF mi 30 #[.val (.ref o), .val (.int (0 : Int32)), .val (.int f)] [.null, (.int f), (.ref bm)])) rfl rfl (hb hby d_prog_37_method_9_30)
  have Zs13 : n0 ≤ h12.size := Nat.le_trans Zs7 (Keep.of_wr W12).1
  have KC13 : Keep h0 h12 [o, tb, bm, sz] := KC7.wr W12 (Or.inl (List.mem_of_getElem? (i := 2) rfl))
  have N13 := Fr.snoc X12 N7 g_bm
  have V12 : Arh Z h12 bm kB (.array .long) N ((f, .null) :: hB) [] .null := Arh.push Ar11 q11 S11 M11 H11 G11 rfl W12 hin11
  refine Go.st st12 ?_
  show Go pg.tables ev below (T12.setTop (mkF mi 31 #[.val (.ref o), .val (.int (0 : Int32)), .val (.int f)] [])) P
  refine Go.st (fun t_ k_ => XS.aloadN X12.here hx rfl (hb hby d_prog_37_method_9_31) rfl rfl k_) ?_
  show Go pg.tables ev below (T12.setTop (mkF mi 32 #[.val (.ref o), .val (.int (0 : Int32)), .val (.int f)] [(.ref o)])) P
  have f14 := ((F2.other W6 (Or.inl ne_o_tb)).other W12 (Or.inl ne_o_bm))
  obtain ⟨T15, X15, e15, st15⟩ := getF X12 hx hZ hown (host := "") (Or.inl (hw _ (List.mem_of_getElem? (i := 20) rfl))) Via.refl e12 f14 (g := (mkF mi 32 #[.val (.ref o), .val (.int (0 : Int32)), .val (.int f)] [(.ref o)])) rfl rfl (hb hby d_prog_37_method_9_32)
  refine Go.st st15 ?_
  show Go pg.tables ev below (T15.setTop (mkF mi 35 #[.val (.ref o), .val (.int (0 : Int32)), .val (.int f)] [(.ref sz)])) P
  refine Go.st (fun t_ k_ => XS.iloadN X15.here hx rfl (hb hby d_prog_37_method_9_35) rfl k_) ?_
  show Go pg.tables ev below (T15.setTop (mkF mi 36 #[.val (.ref o), .val (.int (0 : Int32)), .val (.int f)] [(.int f), (.ref sz)])) P
  refine Go.st (fun t_ k_ => XS.iconst X15.here hx rfl (hb hby d_prog_37_method_9_36) k_) ?_
  show Go pg.tables ev below (T15.setTop (mkF mi 37 #[.val (.ref o), .val (.int (0 : Int32)), .val (.int f)] [(.int (0 : Int32)), (.int f), (.ref sz)])) P
  have f16 := ((A_sz.other W6 (Ne.symm ne_tb_sz)).other W12 ne_sz_bm)
  have ov17 := f16
  obtain ⟨cl17, Ar17, q17, S17, M17, H17, G17⟩ := ov17
  have hin17 : ¬ (f < 0 ∨ cl17.slots.size ≤ (f).toNatClampNeg) := inb_of S17 ⟨hf1, hf2⟩
  obtain ⟨T18, h18, X18, e18, W18, st18⟩ := stI X15 hx hZ e15 Ar17 (j := f) hin17 (g := (mkF mi 37 #[.val (.ref o), .val (.int (0 : Int32)), .val (.int f)] [(.int (0 : Int32)), (.int f), (.ref sz)])) rfl rfl (hb hby d_prog_37_method_9_37)
  have Zs19 : n0 ≤ h18.size := Nat.le_trans Zs13 (Keep.of_wr W18).1
  have KC19 : Keep h0 h18 [o, tb, bm, sz] := KC13.wr W18 (Or.inl (List.mem_of_getElem? (i := 3) rfl))
  have N19 := Fr.snoc X18 N13 g_sz
  have V18 : Arh Z h18 sz kS .int N ((f, (.int (0 : Int32))) :: hS) [] (.int (0 : Int32)) := Arh.push Ar17 q17 S17 M17 H17 G17 rfl W18 hin17
  refine Go.st st18 ?_
  show Go pg.tables ev below (T18.setTop (mkF mi 38 #[.val (.ref o), .val (.int (0 : Int32)), .val (.int f)] [])) P
  refine Go.st (fun t_ k_ => XS.iinc X18.here hx rfl (hb hby d_prog_37_method_9_38) rfl (l' := #[.val (.ref o), .val (.int (1 : Int32)), .val (.int f)]) rfl k_) ?_
  show Go pg.tables ev below (T18.setTop (mkF mi 41 #[.val (.ref o), .val (.int (1 : Int32)), .val (.int f)] [])) P
  refine Go.st (fun t_ k_ => XS.goto X18.here hx rfl (pc0 := 41) (pc' := 2) rfl (hb hby d_prog_37_method_9_41) (by decide) (by decide) k_) ?_
  show Go pg.tables ev below (T18.setTop (mkF mi 2 #[.val (.ref o), .val (.int (1 : Int32)), .val (.int f)] [])) P
  refine Go.st (fun t_ k_ => XS.iloadN X18.here hx rfl (hb hby d_prog_37_method_9_2) rfl k_) ?_
  show Go pg.tables ev below (T18.setTop (mkF mi 3 #[.val (.ref o), .val (.int (1 : Int32)), .val (.int f)] [(.int (1 : Int32))])) P
  refine Go.st (fun t_ k_ => XS.aloadN X18.here hx rfl (hb hby d_prog_37_method_9_3) rfl rfl k_) ?_
  show Go pg.tables ev below (T18.setTop (mkF mi 4 #[.val (.ref o), .val (.int (1 : Int32)), .val (.int f)] [(.ref o), (.int (1 : Int32))])) P
  have f20 := (((F5.other W6 (Or.inl ne_o_tb)).other W12 (Or.inl ne_o_bm)).other W18 (Or.inl ne_o_sz))
  obtain ⟨T21, X21, e21, st21⟩ := getF X18 hx hZ hown (host := "") (Or.inl (hw _ (List.mem_of_getElem? (i := 35) rfl))) Via.refl e18 f20 (g := (mkF mi 4 #[.val (.ref o), .val (.int (1 : Int32)), .val (.int f)] [(.ref o), (.int (1 : Int32))])) rfl rfl (hb hby d_prog_37_method_9_4)
  refine Go.st st21 ?_
  show Go pg.tables ev below (T21.setTop (mkF mi 7 #[.val (.ref o), .val (.int (1 : Int32)), .val (.int f)] [(.int (1 : Int32)), (.int (1 : Int32))])) P
  refine Go.st (fun t_ k_ => XS.icmpYes X21.here hx rfl (pc0 := 7) (pc' := 44) rfl (hb hby d_prog_37_method_9_7) rfl (flt (by decide)).2.1 (by decide) (by decide) k_) ?_
  show Go pg.tables ev below (T21.setTop (mkF mi 44 #[.val (.ref o), .val (.int (1 : Int32)), .val (.int f)] [])) P
  refine Go.st (fun t_ k_ => XS.aloadN X21.here hx rfl (hb hby d_prog_37_method_9_44) rfl rfl k_) ?_
  show Go pg.tables ev below (T21.setTop (mkF mi 45 #[.val (.ref o), .val (.int (1 : Int32)), .val (.int f)] [(.ref o)])) P
  refine Go.st (fun t_ k_ => XS.iconst X21.here hx rfl (hb hby d_prog_37_method_9_45) k_) ?_
  show Go pg.tables ev below (T21.setTop (mkF mi 46 #[.val (.ref o), .val (.int (1 : Int32)), .val (.int f)] [(.int (0 : Int32)), (.ref o)])) P
  have f22 := (((E0.wr W6).wr W12).wr W18)
  obtain ⟨T23, h23, X23, e23, W23, st23⟩ := putF X21 hx hZ hown (host := "") (Or.inl (hw _ (List.mem_of_getElem? (i := 35) rfl))) Via.refl e21 f20 f22 (Or.inl (hw _ (List.mem_of_getElem? (i := 36) rfl))) (hw _ (List.mem_of_getElem? (i := 2) rfl)) (ty := .int) (by decide) rfl rfl (g := (mkF mi 46 #[.val (.ref o), .val (.int (1 : Int32)), .val (.int f)] [(.int (0 : Int32)), (.ref o)])) rfl rfl (hb hby d_prog_37_method_9_46)
  have Zs24 : n0 ≤ h23.size := Nat.le_trans Zs19 (Keep.of_wr W23).1
  have KC24 : Keep h0 h23 [o, tb, bm, sz] := KC19.wr W23 (Or.inl (List.mem_of_getElem? (i := 0) rfl))
  have N24 := Fr.snoc X23 N19 ge0
  have F23 : Fld Z h23 o "com/example/hedge/hedge/automaton/PairMarks" "rowCount" "I" (.int (0 : Int32)) := f20.same W23
  refine Go.st st23 ?_
  show Go pg.tables ev below (T23.setTop (mkF mi 49 #[.val (.ref o), .val (.int (1 : Int32)), .val (.int f)] [])) P
  obtain ⟨fs, hr, hrun, hended, hW, hsame⟩ := X23.leave (v := none) (fun _ => rfl) (BodyLoose.notSynchronized Bd)
  have f25 := ((((F0.other W6 (Or.inl ne_o_tb)).other W12 (Or.inl ne_o_bm)).other W18 (Or.inl ne_o_sz)).other W23 (Or.inr (slot_ne (Or.inl (hw _ (List.mem_of_getElem? (i := 12) rfl))) (Or.inl (hw _ (List.mem_of_getElem? (i := 36) rfl))) (by decide) (t := (.array .int)) (t' := .int) (by decide) (by decide))))
  have f26 := ((((F1.other W6 (Or.inl ne_o_tb)).other W12 (Or.inl ne_o_bm)).other W18 (Or.inl ne_o_sz)).other W23 (Or.inr (slot_ne (Or.inr (hw _ (List.mem_of_getElem? (i := 19) rfl))) (Or.inl (hw _ (List.mem_of_getElem? (i := 36) rfl))) (by decide) (t := (.array (.array .int))) (t' := .int) (by decide) (by decide))))
  have f27 := ((f14.other W18 (Or.inl ne_o_sz)).other W23 (Or.inr (slot_ne (Or.inr (hw _ (List.mem_of_getElem? (i := 21) rfl))) (Or.inl (hw _ (List.mem_of_getElem? (i := 36) rfl))) (by decide) (t := (.array .int)) (t' := .int) (by decide) (by decide))))
  have f28 := (((f8.other W12 (Or.inl ne_o_bm)).other W18 (Or.inl ne_o_sz)).other W23 (Or.inr (slot_ne (Or.inr (hw _ (List.mem_of_getElem? (i := 25) rfl))) (Or.inl (hw _ (List.mem_of_getElem? (i := 36) rfl))) (by decide) (t := (.array (.array .long))) (t' := .int) (by decide) (by decide))))
  have f29 := ((((F4.other W6 (Or.inl ne_o_tb)).other W12 (Or.inl ne_o_bm)).other W18 (Or.inl ne_o_sz)).other W23 (Or.inr (slot_ne (Or.inr (hw _ (List.mem_of_getElem? (i := 15) rfl))) (Or.inl (hw _ (List.mem_of_getElem? (i := 36) rfl))) (by decide) (t := .int) (t' := .int) (by decide) (by decide))))
  have f30 := (((V6.other W12 ne_tb_bm).other W18 ne_tb_sz).other W23 (Ne.symm ne_o_tb))
  have f31 := ((V12.other W18 (Ne.symm ne_sz_bm)).other W23 (Ne.symm ne_o_bm))
  have f32 := (V18.other W23 (Ne.symm ne_o_sz))
  refine ⟨_, _, ?_, hP _ _ ⟨hrun, hended, _, _, rfl, ?_, ⟨_, rfl⟩, hW, hsame.mono (by decide) (by decide)⟩⟩
  · exact X23.returnOut hx Bd.returns (hb hby d_prog_37_method_9_49) hr
  · show (none : Option Value) = none ∧ Fr n0 _ ∧ Keep h0 T23.heap [o, tb, bm, sz] ∧ Fld Z T23.heap o "com/example/hedge/hedge/automaton/PairMarks" "rows" "[I" (.ref rw) ∧ Fld Z T23.heap o "com/example/hedge/hedge/automaton/PairMarks" "tables" "[[I" (.ref tb) ∧ Fld Z T23.heap o "com/example/hedge/hedge/automaton/PairMarks" "sizes" "[I" (.ref sz) ∧ Fld Z T23.heap o "com/example/hedge/hedge/automaton/PairMarks" "bitmaps" "[[J" (.ref bm) ∧ Fld Z T23.heap o "com/example/hedge/hedge/automaton/PairMarks" "words" "I" (.int wd) ∧ Fld Z T23.heap o "com/example/hedge/hedge/automaton/PairMarks" "rowCount" "I" (.int (0 : Int32)) ∧ Arh Z T23.heap tb kT (.array .int) N ((f, .null) :: hT) [] .null ∧ Arh Z T23.heap bm kB (.array .long) N ((f, .null) :: hB) [] .null ∧ Arh Z T23.heap sz kS .int N ((f, .int (0 : Int32)) :: hS) [] (.int (0 : Int32))
    rw [e23]
    exact ⟨rfl, N24, KC24, f25, f26, f27, f28, f29, F23, f30, f31, f32⟩
theorem ef_rmC2 (mi : MethodId) (o : Addr) (rw : Addr) (tb : Addr) (sz : Addr) (bm : Addr) (kR : ClassId) (kT : ClassId) (kS : ClassId) (kB : ClassId) (N : Int32) (wd : Int32) (hT : List (Int32 × Value)) (hS : List (Int32 × Value)) (hB : List (Int32 × Value)) (vR : List Value) (f : Int32) (g : Int32) : entryFrame mi #[(.ref o)] 3 = mkF mi 0 #[.val (.ref o), .unset, .unset] [] := by first | (simp [entryFrame, mkF, argsToLocals, Value.category]; done) | rfl
def Q_rmC2 (Z : State) (o : Addr) (rw : Addr) (tb : Addr) (sz : Addr) (bm : Addr) (kR : ClassId) (kT : ClassId) (kS : ClassId) (kB : ClassId) (N : Int32) (wd : Int32) (hT : List (Int32 × Value)) (hS : List (Int32 × Value)) (hB : List (Int32 × Value)) (vR : List Value) (f : Int32) (g : Int32) (h0 : Heap) (n0 : Nat) (vv_ : Option Value) (hh_ : Heap) (LL_ : List Loc) : Prop := vv_ = none ∧ Fr n0 LL_ ∧ Keep h0 hh_ [o, tb, bm, sz] ∧ Fld Z hh_ o "com/example/hedge/hedge/automaton/PairMarks" "rows" "[I" (.ref rw) ∧ Fld Z hh_ o "com/example/hedge/hedge/automaton/PairMarks" "tables" "[[I" (.ref tb) ∧ Fld Z hh_ o "com/example/hedge/hedge/automaton/PairMarks" "sizes" "[I" (.ref sz) ∧ Fld Z hh_ o "com/example/hedge/hedge/automaton/PairMarks" "bitmaps" "[[J" (.ref bm) ∧ Fld Z hh_ o "com/example/hedge/hedge/automaton/PairMarks" "words" "I" (.int wd) ∧ Fld Z hh_ o "com/example/hedge/hedge/automaton/PairMarks" "rowCount" "I" (.int (0 : Int32)) ∧ Arh Z hh_ tb kT (.array .int) N ((g, .null) :: ((f, .null) :: hT)) [] .null ∧ Arh Z hh_ bm kB (.array .long) N ((g, .null) :: ((f, .null) :: hB)) [] .null ∧ Arh Z hh_ sz kS .int N ((g, .int (0 : Int32)) :: ((f, .int (0 : Int32)) :: hS)) [] (.int (0 : Int32))
set_option maxRecDepth 65536 in
set_option maxHeartbeats 40000000 in
theorem rmC2 (l : Launch) (Z : State) (a0 : Array Value) (hw : ∀ d ∈ tables_1, d.before a0 Z = true) (ws : List Jvm.Cond) (o : Addr) (rw : Addr) (tb : Addr) (sz : Addr) (bm : Addr) (kR : ClassId) (kT : ClassId) (kS : ClassId) (kB : ClassId) (N : Int32) (wd : Int32) (hT : List (Int32 × Value)) (hS : List (Int32 × Value)) (hB : List (Int32 × Value)) (vR : List Value) (f : Int32) (g : Int32) (h0 : Heap) (n0 : Nat) (Z0 : n0 ≤ h0.size) (E0 : Exa Z h0 o "com/example/hedge/hedge/automaton/PairMarks") (ge0 : n0 ≤ o) (g_rw : n0 ≤ rw) (g_tb : n0 ≤ tb) (g_sz : n0 ≤ sz) (g_bm : n0 ≤ bm) (ne_o_rw : o ≠ rw) (ne_o_tb : o ≠ tb) (ne_o_sz : o ≠ sz) (ne_o_bm : o ≠ bm) (ne_rw_tb : rw ≠ tb) (ne_rw_sz : rw ≠ sz) (ne_rw_bm : rw ≠ bm) (ne_tb_sz : tb ≠ sz) (ne_tb_bm : tb ≠ bm) (ne_sz_bm : sz ≠ bm) (F0 : Fld Z h0 o "com/example/hedge/hedge/automaton/PairMarks" "rows" "[I" (.ref rw)) (F1 : Fld Z h0 o "com/example/hedge/hedge/automaton/PairMarks" "tables" "[[I" (.ref tb)) (F2 : Fld Z h0 o "com/example/hedge/hedge/automaton/PairMarks" "sizes" "[I" (.ref sz)) (F3 : Fld Z h0 o "com/example/hedge/hedge/automaton/PairMarks" "bitmaps" "[[J" (.ref bm)) (F4 : Fld Z h0 o "com/example/hedge/hedge/automaton/PairMarks" "words" "I" (.int wd)) (F5 : Fld Z h0 o "com/example/hedge/hedge/automaton/PairMarks" "rowCount" "I" (.int (2 : Int32))) (A_rw : Arv Z h0 rw kR .int (16 : Int32) ((.int f) :: (.int g) :: vR) (.int (0 : Int32))) (A_tb : Arh Z h0 tb kT (.array .int) N hT [] .null) (A_sz : Arh Z h0 sz kS .int N hS [] (.int (0 : Int32))) (A_bm : Arh Z h0 bm kB (.array .long) N hB [] .null) (O_tb : OvrA Z kT .int "[I") (O_bm : OvrA Z kB .long "[J") (hf1 : ¬ f < 0) (hf2 : f < N) (hg1 : ¬ g < 0) (hg2 : g < N) :
    MetFree l (⟨"com/example/hedge/hedge/automaton/PairMarks", "clear", "()V"⟩ : MethodName) (head1 (Jvm.Cond.code (⟨"com/example/hedge/hedge/automaton/PairMarks", "clear", "()V"⟩ : MethodName) prog_37_method_9_code 3 none :: ws) ({ frames := 0, cells := 0, slots := 0, locals := 0 } : Room)) (fun aa_ U => aa_ = #[(.ref o)] ∧ Z.Warmed39 U.vm ∧ U.heap = h0) (fun _ _ _ _ _ => True) (fun _ U oo_ UV_ => ∃ vv_ LL_, oo_ = .returned vv_ ∧ Q_rmC2 Z o rw tb sz bm kR kT kS kB N wd hT hS hB vR f g h0 n0 vv_ UV_.heap LL_ ∧ FrameEnd U oo_ UV_ LL_ ({ frames := 0, cells := 0, slots := 0, locals := 0 } : Room).cells ({ frames := 0, cells := 0, slots := 0, locals := 0 } : Room).slots) := by
  refine MetFree.of_bodySF (plainFor_of_name pn_0) hisR ?_
  intro pg ev si mi args below meth ci s₁ Bd hml0 hP0 hK
  obtain ⟨rfl, hZ, hh⟩ := hP0
  have hx := Bd.exec
  have hby := Bd.bytes
  have hml : ci.maxLocals = 3 := hml0
  have hown : si.vm.findClass "com/example/hedge/hedge/automaton/PairMarks" = some mi.cls := findClass_of_methodNamed Bd.named
  have hnm := (name_of_methodNamed Bd.named Bd.method).1
  have X0 : Stand pg l ev ({ frames := 0, cells := 0, slots := 0, locals := 0 } : Room) si mi #[(.ref o)] below meth ci s₁ [] 0 0 := Stand.of_body Bd
  have e0 : s₁.heap = h0 := by rw [← hh, Bd.state]; rfl
  have N0 := Fr.nil n0
  refine Go.start (fun P hP => ?_)
  refine Go.st (fun t_ k_ => castTop (ef_rmC2 mi o rw tb sz bm kR kT kS kB N wd hT hS hB vR f g) k_) (A := s₁.setTop (mkF mi 0 #[.val (.ref o), .unset, .unset] [])) ?_
  show Go pg.tables ev below (s₁.setTop (mkF mi 0 #[.val (.ref o), .unset, .unset] [])) P
  refine Go.st (fun t_ k_ => XS.iconst X0.here hx rfl (hb hby d_prog_37_method_9_0) k_) ?_
  show Go pg.tables ev below (s₁.setTop (mkF mi 1 #[.val (.ref o), .unset, .unset] [(.int (0 : Int32))])) P
  refine Go.st (fun t_ k_ => XS.istoreN X0.here hx rfl (hb hby d_prog_37_method_9_1) rfl (l' := #[.val (.ref o), .val (.int (0 : Int32)), .unset]) rfl k_) ?_
  show Go pg.tables ev below (s₁.setTop (mkF mi 2 #[.val (.ref o), .val (.int (0 : Int32)), .unset] [])) P
  refine Go.st (fun t_ k_ => XS.iloadN X0.here hx rfl (hb hby d_prog_37_method_9_2) rfl k_) ?_
  show Go pg.tables ev below (s₁.setTop (mkF mi 3 #[.val (.ref o), .val (.int (0 : Int32)), .unset] [(.int (0 : Int32))])) P
  refine Go.st (fun t_ k_ => XS.aloadN X0.here hx rfl (hb hby d_prog_37_method_9_3) rfl rfl k_) ?_
  show Go pg.tables ev below (s₁.setTop (mkF mi 4 #[.val (.ref o), .val (.int (0 : Int32)), .unset] [(.ref o), (.int (0 : Int32))])) P
  obtain ⟨T1, X1, e1, st1⟩ := getF X0 hx hZ hown (host := "") (Or.inl (hw _ (List.mem_of_getElem? (i := 35) rfl))) Via.refl e0 F5 (g := (mkF mi 4 #[.val (.ref o), .val (.int (0 : Int32)), .unset] [(.ref o), (.int (0 : Int32))])) rfl rfl (hb hby d_prog_37_method_9_4)
  refine Go.st st1 ?_
  show Go pg.tables ev below (T1.setTop (mkF mi 7 #[.val (.ref o), .val (.int (0 : Int32)), .unset] [(.int (2 : Int32)), (.int (0 : Int32))])) P
  refine Go.st (fun t_ k_ => XS.icmpNo X1.here hx rfl (hb hby d_prog_37_method_9_7) rfl (tlt (by decide)).2.1 k_) ?_
  show Go pg.tables ev below (T1.setTop (mkF mi 10 #[.val (.ref o), .val (.int (0 : Int32)), .unset] [])) P
  refine Go.st (fun t_ k_ => XS.aloadN X1.here hx rfl (hb hby d_prog_37_method_9_10) rfl rfl k_) ?_
  show Go pg.tables ev below (T1.setTop (mkF mi 11 #[.val (.ref o), .val (.int (0 : Int32)), .unset] [(.ref o)])) P
  obtain ⟨T2, X2, e2, st2⟩ := getF X1 hx hZ hown (host := "") (Or.inl (hw _ (List.mem_of_getElem? (i := 11) rfl))) Via.refl e1 F0 (g := (mkF mi 11 #[.val (.ref o), .val (.int (0 : Int32)), .unset] [(.ref o)])) rfl rfl (hb hby d_prog_37_method_9_11)
  refine Go.st st2 ?_
  show Go pg.tables ev below (T2.setTop (mkF mi 14 #[.val (.ref o), .val (.int (0 : Int32)), .unset] [(.ref rw)])) P
  refine Go.st (fun t_ k_ => XS.iloadN X2.here hx rfl (hb hby d_prog_37_method_9_14) rfl k_) ?_
  show Go pg.tables ev below (T2.setTop (mkF mi 15 #[.val (.ref o), .val (.int (0 : Int32)), .unset] [(.int (0 : Int32)), (.ref rw)])) P
  have ov3 := A_rw
  obtain ⟨cl3, Ar3, q3, S3, M3, H3, G3⟩ := ov3
  have hin3 : ¬ ((0 : Int32) < 0 ∨ cl3.slots.size ≤ ((0 : Int32)).toNatClampNeg) := inb_of S3 ⟨by decide, by decide⟩
  have hat3 : cl3.slots[((0 : Int32)).toNatClampNeg]? = some (.int f) := Has.at H3 hin3 rfl
  refine Go.st (X2.iaload hx (j := (0 : Int32)) (v := (.int f)) (by rw [e2]; exact Ar3.1) (State.isArrayOf_alike hZ.alike Ar3.2.1) Ar3.2.2 hin3 hat3 (g := (mkF mi 15 #[.val (.ref o), .val (.int (0 : Int32)), .unset] [(.int (0 : Int32)), (.ref rw)])) rfl rfl (hb hby d_prog_37_method_9_15)) ?_
  show Go pg.tables ev below (T2.setTop (mkF mi 16 #[.val (.ref o), .val (.int (0 : Int32)), .unset] [(.int f)])) P
  refine Go.st (fun t_ k_ => XS.istoreN X2.here hx rfl (hb hby d_prog_37_method_9_16) rfl (l' := #[.val (.ref o), .val (.int (0 : Int32)), .val (.int f)]) rfl k_) ?_
  show Go pg.tables ev below (T2.setTop (mkF mi 17 #[.val (.ref o), .val (.int (0 : Int32)), .val (.int f)] [])) P
  refine Go.st (fun t_ k_ => XS.aloadN X2.here hx rfl (hb hby d_prog_37_method_9_17) rfl rfl k_) ?_
  show Go pg.tables ev below (T2.setTop (mkF mi 18 #[.val (.ref o), .val (.int (0 : Int32)), .val (.int f)] [(.ref o)])) P
  obtain ⟨T4, X4, e4, st4⟩ := getF X2 hx hZ hown (host := "") (Or.inl (hw _ (List.mem_of_getElem? (i := 18) rfl))) Via.refl e2 F1 (g := (mkF mi 18 #[.val (.ref o), .val (.int (0 : Int32)), .val (.int f)] [(.ref o)])) rfl rfl (hb hby d_prog_37_method_9_18)
  refine Go.st st4 ?_
  show Go pg.tables ev below (T4.setTop (mkF mi 21 #[.val (.ref o), .val (.int (0 : Int32)), .val (.int f)] [(.ref tb)])) P
  refine Go.st (fun t_ k_ => XS.iloadN X4.here hx rfl (hb hby d_prog_37_method_9_21) rfl k_) ?_
  show Go pg.tables ev below (T4.setTop (mkF mi 22 #[.val (.ref o), .val (.int (0 : Int32)), .val (.int f)] [(.int f), (.ref tb)])) P
  refine Go.st (fun t_ k_ => XS.aconstNull X4.here hx rfl (hb hby d_prog_37_method_9_22) k_) ?_
  show Go pg.tables ev below (T4.setTop (mkF mi 23 #[.val (.ref o), .val (.int (0 : Int32)), .val (.int f)] [.null, (.int f), (.ref tb)])) P
  have ov5 := A_tb
  obtain ⟨cl5, Ar5, q5, S5, M5, H5, G5⟩ := ov5
  have hin5 : ¬ (f < 0 ∨ cl5.slots.size ≤ (f).toNatClampNeg) := inb_of S5 ⟨hf1, hf2⟩
  obtain ⟨T6, h6, X6, e6, W6, st6⟩ := stR X4 hx hZ e4 Ar5 (j := f) hin5 rfl (Or.inl rfl) (g := (mkF mi 23 #[.val (.ref o), .val (.int (0 : Int32)), .val (.int f)] [.null, (.int f), (.ref tb)])) rfl rfl (hb hby d_prog_37_method_9_23)
  have Zs7 : n0 ≤ h6.size := Nat.le_trans Z0 (Keep.of_wr W6).1
  have KC7 : Keep h0 h6 [o, tb, bm, sz] := (Keep.refl h0 [o, tb, bm, sz]).wr W6 (Or.inl (List.mem_of_getElem? (i := 1) rfl))
  have N7 := Fr.snoc X6 N0 g_tb
  have V6 : Arh Z h6 tb kT (.array .int) N ((f, .null) :: hT) [] .null := Arh.push Ar5 q5 S5 M5 H5 G5 rfl W6 hin5
  refine Go.st st6 ?_
  show Go pg.tables ev below (T6.setTop (mkF mi 24 #[.val (.ref o), .val (.int (0 : Int32)), .val (.int f)] [])) P
  refine Go.st (fun t_ k_ => XS.aloadN X6.here hx rfl (hb hby d_prog_37_method_9_24) rfl rfl k_) ?_
  show Go pg.tables ev below (T6.setTop (mkF mi 25 #[.val (.ref o), .val (.int (0 : Int32)), .val (.int f)] [(.ref o)])) P
  have f8 := (F3.other W6 (Or.inl ne_o_tb))
  obtain ⟨T9, X9, e9, st9⟩ := getF X6 hx hZ hown (host := "") (Or.inl (hw _ (List.mem_of_getElem? (i := 24) rfl))) Via.refl e6 f8 (g := (mkF mi 25 #[.val (.ref o), .val (.int (0 : Int32)), .val (.int f)] [(.ref o)])) rfl rfl (hb hby d_prog_37_method_9_25)
  refine Go.st st9 ?_
  show Go pg.tables ev below (T9.setTop (mkF mi 28 #[.val (.ref o), .val (.int (0 : Int32)), .val (.int f)] [(.ref bm)])) P
  refine Go.st (fun t_ k_ => XS.iloadN X9.here hx rfl (hb hby d_prog_37_method_9_28) rfl k_) ?_
  show Go pg.tables ev below (T9.setTop (mkF mi 29 #[.val (.ref o), .val (.int (0 : Int32)), .val (.int f)] [(.int f), (.ref bm)])) P
  refine Go.st (fun t_ k_ => XS.aconstNull X9.here hx rfl (hb hby d_prog_37_method_9_29) k_) ?_
  show Go pg.tables ev below (T9.setTop (mkF mi 30 #[.val (.ref o), .val (.int (0 : Int32)), .val (.int f)] [.null, (.int f), (.ref bm)])) P
  have f10 := (A_bm.other W6 (Ne.symm ne_tb_bm))
  have ov11 := f10
  obtain ⟨cl11, Ar11, q11, S11, M11, H11, G11⟩ := ov11
  have hin11 : ¬ (f < 0 ∨ cl11.slots.size ≤ (f).toNatClampNeg) := inb_of S11 ⟨hf1, hf2⟩
  obtain ⟨T12, h12, X12, e12, W12, st12⟩ := stR X9 hx hZ e9 Ar11 (j := f) hin11 rfl (Or.inl rfl) (g := (mkF mi 30 #[.val (.ref o), .val (.int (0 : Int32)), .val (.int f)] [.null, (.int f), (.ref bm)])) rfl rfl (hb hby d_prog_37_method_9_30)
  have Zs13 : n0 ≤ h12.size := Nat.le_trans Zs7 (Keep.of_wr W12).1
  have KC13 : Keep h0 h12 [o, tb, bm, sz] := KC7.wr W12 (Or.inl (List.mem_of_getElem? (i := 2) rfl))
  have N13 := Fr.snoc X12 N7 g_bm
  have V12 : Arh Z h12 bm kB (.array .long) N ((f, .null) :: hB) [] .null := Arh.push Ar11 q11 S11 M11 H11 G11 rfl W12 hin11
  refine Go.st st12 ?_
  show Go pg.tables ev below (T12.setTop (mkF mi 31 #[.val (.ref o), .val (.int (0 : Int32)), .val (.int f)] [])) P
  refine Go.st (fun t_ k_ => XS.aloadN X12.here hx rfl (hb hby d_prog_37_method_9_31) rfl rfl k_) ?_
  show Go pg.tables ev below (T12.setTop (mkF mi 32 #[.val (.ref o), .val (.int (0 : Int32)), .val (.int f)] [(.ref o)])) P
  have f14 := ((F2.other W6 (Or.inl ne_o_tb)).other W12 (Or.inl ne_o_bm))
  obtain ⟨T15, X15, e15, st15⟩ := getF X12 hx hZ hown (host := "") (Or.inl (hw _ (List.mem_of_getElem? (i := 20) rfl))) Via.refl e12 f14 (g := (mkF mi 32 #[.val (.ref o), .val (.int (0 : Int32)), .val (.int f)] [(.ref o)])) rfl rfl (hb hby d_prog_37_method_9_32)
  refine Go.st st15 ?_
  show Go pg.tables ev below (T15.setTop (mkF mi 35 #[.val (.ref o), .val (.int (0 : Int32)), .val (.int f)] [(.ref sz)])) P
  refine Go.st (fun t_ k_ => XS.iloadN X15.here hx rfl (hb hby d_prog_37_method_9_35) rfl k_) ?_
  show Go pg.tables ev below (T15.setTop (mkF mi 36 #[.val (.ref o), .val (.int (0 : Int32)), .val (.int f)] [(.int f), (.ref sz)])) P
  refine Go.st (fun t_ k_ => XS.iconst X15.here hx rfl (hb hby d_prog_37_method_9_36) k_) ?_
  show Go pg.tables ev below (T15.setTop (mkF mi 37 #[.val (.ref o), .val (.int (0 : Int32)), .val (.int f)] [(.int (0 : Int32)), (.int f), (.ref sz)])) P
  have f16 := ((A_sz.other W6 (Ne.symm ne_tb_sz)).other W12 ne_sz_bm)
  have ov17 := f16
  obtain ⟨cl17, Ar17, q17, S17, M17, H17, G17⟩ := ov17
  have hin17 : ¬ (f < 0 ∨ cl17.slots.size ≤ (f).toNatClampNeg) := inb_of S17 ⟨hf1, hf2⟩
  obtain ⟨T18, h18, X18, e18, W18, st18⟩ := stI X15 hx hZ e15 Ar17 (j := f) hin17 (g := (mkF mi 37 #[.val (.ref o), .val (.int (0 : Int32)), .val (.int f)] [(.int (0 : Int32)), (.int f), (.ref sz)])) rfl rfl (hb hby d_prog_37_method_9_37)
  have Zs19 : n0 ≤ h18.size := Nat.le_trans Zs13 (Keep.of_wr W18).1
  have KC19 : Keep h0 h18 [o, tb, bm, sz] := KC13.wr W18 (Or.inl (List.mem_of_getElem? (i := 3) rfl))
  have N19 := Fr.snoc X18 N13 g_sz
  have V18 : Arh Z h18 sz kS .int N ((f, (.int (0 : Int32))) :: hS) [] (.int (0 : Int32)) := Arh.push Ar17 q17 S17 M17 H17 G17 rfl W18 hin17
  refine Go.st st18 ?_
  show Go pg.tables ev below (T18.setTop (mkF mi 38 #[.val (.ref o), .val (.int (0 : Int32)), .val (.int f)] [])) P
  refine Go.st (fun t_ k_ => XS.iinc X18.here hx rfl (hb hby d_prog_37_method_9_38) rfl (l' := #[.val (.ref o), .val (.int (1 : Int32)), .val (.int f)]) rfl k_) ?_
  show Go pg.tables ev below (T18.setTop (mkF mi 41 #[.val (.ref o), .val (.int (1 : Int32)), .val (.int f)] [])) P
  refine Go.st (fun t_ k_ => XS.goto X18.here hx rfl (pc0 := 41) (pc' := 2) rfl (hb hby d_prog_37_method_9_41) (by decide) (by decide) k_) ?_
  show Go pg.tables ev below (T18.setTop (mkF mi 2 #[.val (.ref o), .val (.int (1 : Int32)), .val (.int f)] [])) P
  refine Go.st (fun t_ k_ => XS.iloadN X18.here hx rfl (hb hby d_prog_37_method_9_2) rfl k_) ?_
  show Go pg.tables ev below (T18.setTop (mkF mi 3 #[.val (.ref o), .val (.int (1 : Int32)), .val (.int f)] [(.int (1 : Int32))])) P
  refine Go.st (fun t_ k_ => XS.aloadN X18.here hx rfl (hb hby d_prog_37_method_9_3) rfl rfl k_) ?_
  show Go pg.tables ev below (T18.setTop (mkF mi 4 #[.val (.ref o), .val (.int (1 : Int32)), .val (.int f)] [(.ref o), (.int (1 : Int32))])) P
  have f20 := (((F5.other W6 (Or.inl ne_o_tb)).other W12 (Or.inl ne_o_bm)).other W18 (Or.inl ne_o_sz))
  obtain ⟨T21, X21, e21, st21⟩ := getF X18 hx hZ hown (host := "") (Or.inl (hw _ (List.mem_of_getElem? (i := 35) rfl))) Via.refl e18 f20 (g := (mkF mi 4 #[.val (.ref o), .val (.int (1 : Int32)), .val (.int f)] [(.ref o), (.int (1 : Int32))])) rfl rfl (hb hby d_prog_37_method_9_4)
  refine Go.st st21 ?_
  show Go pg.tables ev below (T21.setTop (mkF mi 7 #[.val (.ref o), .val (.int (1 : Int32)), .val (.int f)] [(.int (2 : Int32)), (.int (1 : Int32))])) P
  refine Go.st (fun t_ k_ => XS.icmpNo X21.here hx rfl (hb hby d_prog_37_method_9_7) rfl (tlt (by decide)).2.1 k_) ?_
  show Go pg.tables ev below (T21.setTop (mkF mi 10 #[.val (.ref o), .val (.int (1 : Int32)), .val (.int f)] [])) P
  refine Go.st (fun t_ k_ => XS.aloadN X21.here hx rfl (hb hby d_prog_37_method_9_10) rfl rfl k_) ?_
  show Go pg.tables ev below (T21.setTop (mkF mi 11 #[.val (.ref o), .val (.int (1 : Int32)), .val (.int f)] [(.ref o)])) P
  have f22 := (((F0.other W6 (Or.inl ne_o_tb)).other W12 (Or.inl ne_o_bm)).other W18 (Or.inl ne_o_sz))
  obtain ⟨T23, X23, e23, st23⟩ := getF X21 hx hZ hown (host := "") (Or.inl (hw _ (List.mem_of_getElem? (i := 11) rfl))) Via.refl e21 f22 (g := (mkF mi 11 #[.val (.ref o), .val (.int (1 : Int32)), .val (.int f)] [(.ref o)])) rfl rfl (hb hby d_prog_37_method_9_11)
  refine Go.st st23 ?_
  show Go pg.tables ev below (T23.setTop (mkF mi 14 #[.val (.ref o), .val (.int (1 : Int32)), .val (.int f)] [(.ref rw)])) P
  refine Go.st (fun t_ k_ => XS.iloadN X23.here hx rfl (hb hby d_prog_37_method_9_14) rfl k_) ?_
  show Go pg.tables ev below (T23.setTop (mkF mi 15 #[.val (.ref o), .val (.int (1 : Int32)), .val (.int f)] [(.int (1 : Int32)), (.ref rw)])) P
  have f24 := (((A_rw.other W6 ne_rw_tb).other W12 ne_rw_bm).other W18 ne_rw_sz)
  have ov25 := f24
  obtain ⟨cl25, Ar25, q25, S25, M25, H25, G25⟩ := ov25
  have hin25 : ¬ ((1 : Int32) < 0 ∨ cl25.slots.size ≤ ((1 : Int32)).toNatClampNeg) := inb_of S25 ⟨by decide, by decide⟩
  have hat25 : cl25.slots[((1 : Int32)).toNatClampNeg]? = some (.int g) := Has.at H25 hin25 rfl
  refine Go.st (X23.iaload hx (j := (1 : Int32)) (v := (.int g)) (by rw [e23]; exact Ar25.1) (State.isArrayOf_alike hZ.alike Ar25.2.1) Ar25.2.2 hin25 hat25 (g := (mkF mi 15 #[.val (.ref o), .val (.int (1 : Int32)), .val (.int f)] [(.int (1 : Int32)), (.ref rw)])) rfl rfl (hb hby d_prog_37_method_9_15)) ?_
  show Go pg.tables ev below (T23.setTop (mkF mi 16 #[.val (.ref o), .val (.int (1 : Int32)), .val (.int f)] [(.int g)])) P
  refine Go.st (fun t_ k_ => XS.istoreN X23.here hx rfl (hb hby d_prog_37_method_9_16) rfl (l' := #[.val (.ref o), .val (.int (1 : Int32)), .val (.int g)]) rfl k_) ?_
  show Go pg.tables ev below (T23.setTop (mkF mi 17 #[.val (.ref o), .val (.int (1 : Int32)), .val (.int g)] [])) P
  refine Go.st (fun t_ k_ => XS.aloadN X23.here hx rfl (hb hby d_prog_37_method_9_17) rfl rfl k_) ?_
  show Go pg.tables ev below (T23.setTop (mkF mi 18 #[.val (.ref o), .val (.int (1 : Int32)), .val (.int g)] [(.ref o)])) P
  have f26 := (((F1.other W6 (Or.inl ne_o_tb)).other W12 (Or.inl ne_o_bm)).other W18 (Or.inl ne_o_sz))
  obtain ⟨T27, X27, e27, st27⟩ := getF X23 hx hZ hown (host := "") (Or.inl (hw _ (List.mem_of_getElem? (i := 18) rfl))) Via.refl e23 f26 (g := (mkF mi 18 #[.val (.ref o), .val (.int (1 : Int32)), .val (.int g)] [(.ref o)])) rfl rfl (hb hby d_prog_37_method_9_18)
  refine Go.st st27 ?_
  show Go pg.tables ev below (T27.setTop (mkF mi 21 #[.val (.ref o), .val (.int (1 : Int32)), .val (.int g)] [(.ref tb)])) P
  refine Go.st (fun t_ k_ => XS.iloadN X27.here hx rfl (hb hby d_prog_37_method_9_21) rfl k_) ?_
  show Go pg.tables ev below (T27.setTop (mkF mi 22 #[.val (.ref o), .val (.int (1 : Int32)), .val (.int g)] [(.int g), (.ref tb)])) P
  refine Go.st (fun t_ k_ => XS.aconstNull X27.here hx rfl (hb hby d_prog_37_method_9_22) k_) ?_
  show Go pg.tables ev below (T27.setTop (mkF mi 23 #[.val (.ref o), .val (.int (1 : Int32)), .val (.int g)] [.null, (.int g), (.ref tb)])) P
  have f28 := ((V6.other W12 ne_tb_bm).other W18 ne_tb_sz)
  have ov29 := f28
  obtain ⟨cl29, Ar29, q29, S29, M29, H29, G29⟩ := ov29
  have hin29 : ¬ (g < 0 ∨ cl29.slots.size ≤ (g).toNatClampNeg) := inb_of S29 ⟨hg1, hg2⟩
  obtain ⟨T30, h30, X30, e30, W30, st30⟩ := stR X27 hx hZ e27 Ar29 (j := g) hin29 rfl (Or.inl rfl) (g := (mkF mi 23 #[.val (.ref o), .val (.int (1 : Int32)), .val (.int g)] [.null, (.int g), (.ref tb)])) rfl rfl (hb hby d_prog_37_method_9_23)
  have Zs31 : n0 ≤ h30.size := Nat.le_trans Zs19 (Keep.of_wr W30).1
  have KC31 : Keep h0 h30 [o, tb, bm, sz] := KC19.wr W30 (Or.inl (List.mem_of_getElem? (i := 1) rfl))
  have N31 := Fr.snoc X30 N19 g_tb
  have V30 : Arh Z h30 tb kT (.array .int) N ((g, .null) :: ((f, .null) :: hT)) [] .null := Arh.push Ar29 q29 S29 M29 H29 G29 rfl W30 hin29
  refine Go.st st30 ?_
  show Go pg.tables ev below (T30.setTop (mkF mi 24 #[.val (.ref o), .val (.int (1 : Int32)), .val (.int g)] [])) P
  refine Go.st (fun t_ k_ => XS.aloadN X30.here hx rfl (hb hby d_prog_37_method_9_24) rfl rfl k_) ?_
  show Go pg.tables ev below (T30.setTop (mkF mi 25 #[.val (.ref o), .val (.int (1 : Int32)), .val (.int g)] [(.ref o)])) P
  have f32 := (((f8.other W12 (Or.inl ne_o_bm)).other W18 (Or.inl ne_o_sz)).other W30 (Or.inl ne_o_tb))
  obtain ⟨T33, X33, e33, st33⟩ := getF X30 hx hZ hown (host := "") (Or.inl (hw _ (List.mem_of_getElem? (i := 24) rfl))) Via.refl e30 f32 (g := (mkF mi 25 #[.val (.ref o), .val (.int (1 : Int32)), .val (.int g)] [(.ref o)])) rfl rfl (hb hby d_prog_37_method_9_25)
  refine Go.st st33 ?_
  show Go pg.tables ev below (T33.setTop (mkF mi 28 #[.val (.ref o), .val (.int (1 : Int32)), .val (.int g)] [(.ref bm)])) P
  refine Go.st (fun t_ k_ => XS.iloadN X33.here hx rfl (hb hby d_prog_37_method_9_28) rfl k_) ?_
  show Go pg.tables ev below (T33.setTop (mkF mi 29 #[.val (.ref o), .val (.int (1 : Int32)), .val (.int g)] [(.int g), (.ref bm)])) P
  refine Go.st (fun t_ k_ => XS.aconstNull X33.here hx rfl (hb hby d_prog_37_method_9_29) k_) ?_
  show Go pg.tables ev below (T33.setTop (mkF mi 30 #[.val (.ref o), .val (.int (1 : Int32)), .val (.int g)] [.null, (.int g), (.ref bm)])) P
  have f34 := ((V12.other W18 (Ne.symm ne_sz_bm)).other W30 (Ne.symm ne_tb_bm))
  have ov35 := f34
  obtain ⟨cl35, Ar35, q35, S35, M35, H35, G35⟩ := ov35
  have hin35 : ¬ (g < 0 ∨ cl35.slots.size ≤ (g).toNatClampNeg) := inb_of S35 ⟨hg1, hg2⟩
  obtain ⟨T36, h36, X36, e36, W36, st36⟩ := stR X33 hx hZ e33 Ar35 (j := g) hin35 rfl (Or.inl rfl) (g := (mkF mi 30 #[.val (.ref o), .val (.int (1 : Int32)), .val (.int g)] [.null, (.int g), (.ref bm)])) rfl rfl (hb hby d_prog_37_method_9_30)
  have Zs37 : n0 ≤ h36.size := Nat.le_trans Zs31 (Keep.of_wr W36).1
  have KC37 : Keep h0 h36 [o, tb, bm, sz] := KC31.wr W36 (Or.inl (List.mem_of_getElem? (i := 2) rfl))
  have N37 := Fr.snoc X36 N31 g_bm
  have V36 : Arh Z h36 bm kB (.array .long) N ((g, .null) :: ((f, .null) :: hB)) [] .null := Arh.push Ar35 q35 S35 M35 H35 G35 rfl W36 hin35
  refine Go.st st36 ?_
  show Go pg.tables ev below (T36.setTop (mkF mi 31 #[.val (.ref o), .val (.int (1 : Int32)), .val (.int g)] [])) P
  refine Go.st (fun t_ k_ => XS.aloadN X36.here hx rfl (hb hby d_prog_37_method_9_31) rfl rfl k_) ?_
  show Go pg.tables ev below (T36.setTop (mkF mi 32 #[.val (.ref o), .val (.int (1 : Int32)), .val (.int g)] [(.ref o)])) P
  have f38 := (((f14.other W18 (Or.inl ne_o_sz)).other W30 (Or.inl ne_o_tb)).other W36 (Or.inl ne_o_bm))
  obtain ⟨T39, X39, e39, st39⟩ := getF X36 hx hZ hown (host := "") (Or.inl (hw _ (List.mem_of_getElem? (i := 20) rfl))) Via.refl e36 f38 (g := (mkF mi 32 #[.val (.ref o), .val (.int (1 : Int32)), .val (.int g)] [(.ref o)])) rfl rfl (hb hby d_prog_37_method_9_32)
  refine Go.st st39 ?_
  show Go pg.tables ev below (T39.setTop (mkF mi 35 #[.val (.ref o), .val (.int (1 : Int32)), .val (.int g)] [(.ref sz)])) P
  refine Go.st (fun t_ k_ => XS.iloadN X39.here hx rfl (hb hby d_prog_37_method_9_35) rfl k_) ?_
  show Go pg.tables ev below (T39.setTop (mkF mi 36 #[.val (.ref o), .val (.int (1 : Int32)), .val (.int g)] [(.int g), (.ref sz)])) P
  refine Go.st (fun t_ k_ => XS.iconst X39.here hx rfl (hb hby d_prog_37_method_9_36) k_) ?_
  show Go pg.tables ev below (T39.setTop (mkF mi 37 #[.val (.ref o), .val (.int (1 : Int32)), .val (.int g)] [(.int (0 : Int32)), (.int g), (.ref sz)])) P
  have f40 := ((V18.other W30 (Ne.symm ne_tb_sz)).other W36 ne_sz_bm)
  have ov41 := f40
  obtain ⟨cl41, Ar41, q41, S41, M41, H41, G41⟩ := ov41
  have hin41 : ¬ (g < 0 ∨ cl41.slots.size ≤ (g).toNatClampNeg) := inb_of S41 ⟨hg1, hg2⟩
  obtain ⟨T42, h42, X42, e42, W42, st42⟩ := stI X39 hx hZ e39 Ar41 (j := g) hin41 (g := (mkF mi 37 #[.val (.ref o), .val (.int (1 : Int32)), .val (.int g)] [(.int (0 : Int32)), (.int g), (.ref sz)])) rfl rfl (hb hby d_prog_37_method_9_37)
  have Zs43 : n0 ≤ h42.size := Nat.le_trans Zs37 (Keep.of_wr W42).1
  have KC43 : Keep h0 h42 [o, tb, bm, sz] := KC37.wr W42 (Or.inl (List.mem_of_getElem? (i := 3) rfl))
  have N43 := Fr.snoc X42 N37 g_sz
  have V42 : Arh Z h42 sz kS .int N ((g, (.int (0 : Int32))) :: ((f, (.int (0 : Int32))) :: hS)) [] (.int (0 : Int32)) := Arh.push Ar41 q41 S41 M41 H41 G41 rfl W42 hin41
  refine Go.st st42 ?_
  show Go pg.tables ev below (T42.setTop (mkF mi 38 #[.val (.ref o), .val (.int (1 : Int32)), .val (.int g)] [])) P
  refine Go.st (fun t_ k_ => XS.iinc X42.here hx rfl (hb hby d_prog_37_method_9_38) rfl (l' := #[.val (.ref o), .val (.int (2 : Int32)), .val (.int g)]) rfl k_) ?_
  show Go pg.tables ev below (T42.setTop (mkF mi 41 #[.val (.ref o), .val (.int (2 : Int32)), .val (.int g)] [])) P
  refine Go.st (fun t_ k_ => XS.goto X42.here hx rfl (pc0 := 41) (pc' := 2) rfl (hb hby d_prog_37_method_9_41) (by decide) (by decide) k_) ?_
  show Go pg.tables ev below (T42.setTop (mkF mi 2 #[.val (.ref o), .val (.int (2 : Int32)), .val (.int g)] [])) P
  refine Go.st (fun t_ k_ => XS.iloadN X42.here hx rfl (hb hby d_prog_37_method_9_2) rfl k_) ?_
  show Go pg.tables ev below (T42.setTop (mkF mi 3 #[.val (.ref o), .val (.int (2 : Int32)), .val (.int g)] [(.int (2 : Int32))])) P
  refine Go.st (fun t_ k_ => XS.aloadN X42.here hx rfl (hb hby d_prog_37_method_9_3) rfl rfl k_) ?_
  show Go pg.tables ev below (T42.setTop (mkF mi 4 #[.val (.ref o), .val (.int (2 : Int32)), .val (.int g)] [(.ref o), (.int (2 : Int32))])) P
  have f44 := (((f20.other W30 (Or.inl ne_o_tb)).other W36 (Or.inl ne_o_bm)).other W42 (Or.inl ne_o_sz))
  obtain ⟨T45, X45, e45, st45⟩ := getF X42 hx hZ hown (host := "") (Or.inl (hw _ (List.mem_of_getElem? (i := 35) rfl))) Via.refl e42 f44 (g := (mkF mi 4 #[.val (.ref o), .val (.int (2 : Int32)), .val (.int g)] [(.ref o), (.int (2 : Int32))])) rfl rfl (hb hby d_prog_37_method_9_4)
  refine Go.st st45 ?_
  show Go pg.tables ev below (T45.setTop (mkF mi 7 #[.val (.ref o), .val (.int (2 : Int32)), .val (.int g)] [(.int (2 : Int32)), (.int (2 : Int32))])) P
  refine Go.st (fun t_ k_ => XS.icmpYes X45.here hx rfl (pc0 := 7) (pc' := 44) rfl (hb hby d_prog_37_method_9_7) rfl (flt (by decide)).2.1 (by decide) (by decide) k_) ?_
  show Go pg.tables ev below (T45.setTop (mkF mi 44 #[.val (.ref o), .val (.int (2 : Int32)), .val (.int g)] [])) P
  refine Go.st (fun t_ k_ => XS.aloadN X45.here hx rfl (hb hby d_prog_37_method_9_44) rfl rfl k_) ?_
  show Go pg.tables ev below (T45.setTop (mkF mi 45 #[.val (.ref o), .val (.int (2 : Int32)), .val (.int g)] [(.ref o)])) P
  refine Go.st (fun t_ k_ => XS.iconst X45.here hx rfl (hb hby d_prog_37_method_9_45) k_) ?_
  show Go pg.tables ev below (T45.setTop (mkF mi 46 #[.val (.ref o), .val (.int (2 : Int32)), .val (.int g)] [(.int (0 : Int32)), (.ref o)])) P
  have f46 := ((((((E0.wr W6).wr W12).wr W18).wr W30).wr W36).wr W42)
  obtain ⟨T47, h47, X47, e47, W47, st47⟩ := putF X45 hx hZ hown (host := "") (Or.inl (hw _ (List.mem_of_getElem? (i := 35) rfl))) Via.refl e45 f44 f46 (Or.inl (hw _ (List.mem_of_getElem? (i := 36) rfl))) (hw _ (List.mem_of_getElem? (i := 2) rfl)) (ty := .int) (by decide) rfl rfl (g := (mkF mi 46 #[.val (.ref o), .val (.int (2 : Int32)), .val (.int g)] [(.int (0 : Int32)), (.ref o)])) rfl rfl (hb hby d_prog_37_method_9_46)
  have Zs48 : n0 ≤ h47.size := Nat.le_trans Zs43 (Keep.of_wr W47).1
  have KC48 : Keep h0 h47 [o, tb, bm, sz] := KC43.wr W47 (Or.inl (List.mem_of_getElem? (i := 0) rfl))
  have N48 := Fr.snoc X47 N43 ge0
  have F47 : Fld Z h47 o "com/example/hedge/hedge/automaton/PairMarks" "rowCount" "I" (.int (0 : Int32)) := f44.same W47
  refine Go.st st47 ?_
  show Go pg.tables ev below (T47.setTop (mkF mi 49 #[.val (.ref o), .val (.int (2 : Int32)), .val (.int g)] [])) P
  obtain ⟨fs, hr, hrun, hended, hW, hsame⟩ := X47.leave (v := none) (fun _ => rfl) (BodyLoose.notSynchronized Bd)
  have f49 := ((((f22.other W30 (Or.inl ne_o_tb)).other W36 (Or.inl ne_o_bm)).other W42 (Or.inl ne_o_sz)).other W47 (Or.inr (slot_ne (Or.inl (hw _ (List.mem_of_getElem? (i := 12) rfl))) (Or.inl (hw _ (List.mem_of_getElem? (i := 36) rfl))) (by decide) (t := (.array .int)) (t' := .int) (by decide) (by decide))))
  have f50 := ((((f26.other W30 (Or.inl ne_o_tb)).other W36 (Or.inl ne_o_bm)).other W42 (Or.inl ne_o_sz)).other W47 (Or.inr (slot_ne (Or.inr (hw _ (List.mem_of_getElem? (i := 19) rfl))) (Or.inl (hw _ (List.mem_of_getElem? (i := 36) rfl))) (by decide) (t := (.array (.array .int))) (t' := .int) (by decide) (by decide))))
  have f51 := ((f38.other W42 (Or.inl ne_o_sz)).other W47 (Or.inr (slot_ne (Or.inr (hw _ (List.mem_of_getElem? (i := 21) rfl))) (Or.inl (hw _ (List.mem_of_getElem? (i := 36) rfl))) (by decide) (t := (.array .int)) (t' := .int) (by decide) (by decide))))
  have f52 := (((f32.other W36 (Or.inl ne_o_bm)).other W42 (Or.inl ne_o_sz)).other W47 (Or.inr (slot_ne (Or.inr (hw _ (List.mem_of_getElem? (i := 25) rfl))) (Or.inl (hw _ (List.mem_of_getElem? (i := 36) rfl))) (by decide) (t := (.array (.array .long))) (t' := .int) (by decide) (by decide))))
  have f53 := (((((((F4.other W6 (Or.inl ne_o_tb)).other W12 (Or.inl ne_o_bm)).other W18 (Or.inl ne_o_sz)).other W30 (Or.inl ne_o_tb)).other W36 (Or.inl ne_o_bm)).other W42 (Or.inl ne_o_sz)).other W47 (Or.inr (slot_ne (Or.inr (hw _ (List.mem_of_getElem? (i := 15) rfl))) (Or.inl (hw _ (List.mem_of_getElem? (i := 36) rfl))) (by decide) (t := .int) (t' := .int) (by decide) (by decide))))
  have f54 := (((V30.other W36 ne_tb_bm).other W42 ne_tb_sz).other W47 (Ne.symm ne_o_tb))
  have f55 := ((V36.other W42 (Ne.symm ne_sz_bm)).other W47 (Ne.symm ne_o_bm))
  have f56 := (V42.other W47 (Ne.symm ne_o_sz))
  refine ⟨_, _, ?_, hP _ _ ⟨hrun, hended, _, _, rfl, ?_, ⟨_, rfl⟩, hW, hsame.mono (by decide) (by decide)⟩⟩
  · exact X47.returnOut hx Bd.returns (hb hby d_prog_37_method_9_49) hr
  · show (none : Option Value) = none ∧ Fr n0 _ ∧ Keep h0 T47.heap [o, tb, bm, sz] ∧ Fld Z T47.heap o "com/example/hedge/hedge/automaton/PairMarks" "rows" "[I" (.ref rw) ∧ Fld Z T47.heap o "com/example/hedge/hedge/automaton/PairMarks" "tables" "[[I" (.ref tb) ∧ Fld Z T47.heap o "com/example/hedge/hedge/automaton/PairMarks" "sizes" "[I" (.ref sz) ∧ Fld Z T47.heap o "com/example/hedge/hedge/automaton/PairMarks" "bitmaps" "[[J" (.ref bm) ∧ Fld Z T47.heap o "com/example/hedge/hedge/automaton/PairMarks" "words" "I" (.int wd) ∧ Fld Z T47.heap o "com/example/hedge/hedge/automaton/PairMarks" "rowCount" "I" (.int (0 : Int32)) ∧ Arh Z T47.heap tb kT (.array .int) N ((g, .null) :: ((f, .null) :: hT)) [] .null ∧ Arh Z T47.heap bm kB (.array .long) N ((g, .null) :: ((f, .null) :: hB)) [] .null ∧ Arh Z T47.heap sz kS .int N ((g, .int (0 : Int32)) :: ((f, .int (0 : Int32)) :: hS)) [] (.int (0 : Int32))
    rw [e47]
    exact ⟨rfl, N48, KC48, f49, f50, f51, f52, f53, F47, f54, f55, f56⟩
theorem d_prog_37_method_7_0 : decode prog_37_method_7_code 0 = .ok (.aload_n 0, 1) := by decide +kernel
theorem d_prog_37_method_7_1 : decode prog_37_method_7_code 1 = .ok (.getfield 91, 3) := by decide +kernel
theorem d_prog_37_method_7_4 : decode prog_37_method_7_code 4 = .ok (.ireturn, 1) := by decide +kernel
theorem ef_rmRC (mi : MethodId) (o : Addr) (u : Int32) : entryFrame mi #[(.ref o)] 1 = mkF mi 0 #[.val (.ref o)] [] := by first | (simp [entryFrame, mkF, argsToLocals, Value.category]; done) | rfl
def Q_rmRC (Z : State) (o : Addr) (u : Int32) (h0 : Heap) (n0 : Nat) (vv_ : Option Value) (hh_ : Heap) (LL_ : List Loc) : Prop := vv_ = some (.int u) ∧ Fr n0 LL_ ∧ hh_ = h0
set_option maxRecDepth 65536 in
set_option maxHeartbeats 40000000 in
theorem rmRC (l : Launch) (Z : State) (a0 : Array Value) (hw : ∀ d ∈ tables_1, d.before a0 Z = true) (ws : List Jvm.Cond) (o : Addr) (u : Int32) (h0 : Heap) (n0 : Nat) (Z0 : n0 ≤ h0.size) (F5 : Fld Z h0 o "com/example/hedge/hedge/automaton/PairMarks" "rowCount" "I" (.int u)) :
    MetFree l (⟨"com/example/hedge/hedge/automaton/PairMarks", "rowCount", "()I"⟩ : MethodName) (head1 (Jvm.Cond.code (⟨"com/example/hedge/hedge/automaton/PairMarks", "rowCount", "()I"⟩ : MethodName) prog_37_method_7_code 1 (some .int) :: ws) ({ frames := 0, cells := 0, slots := 0, locals := 0 } : Room)) (fun aa_ U => aa_ = #[(.ref o)] ∧ Z.Warmed39 U.vm ∧ U.heap = h0) (fun _ _ _ _ _ => True) (fun _ U oo_ UV_ => ∃ vv_ LL_, oo_ = .returned vv_ ∧ Q_rmRC Z o u h0 n0 vv_ UV_.heap LL_ ∧ FrameEnd U oo_ UV_ LL_ ({ frames := 0, cells := 0, slots := 0, locals := 0 } : Room).cells ({ frames := 0, cells := 0, slots := 0, locals := 0 } : Room).slots) := by
  refine MetFree.of_bodySF (plainFor_of_name pn_0) hisR ?_
  intro pg ev si mi args below meth ci s₁ Bd hml0 hP0 hK
  obtain ⟨rfl, hZ, hh⟩ := hP0
  have hx := Bd.exec
  have hby := Bd.bytes
  have hml : ci.maxLocals = 1 := hml0
  have hown : si.vm.findClass "com/example/hedge/hedge/automaton/PairMarks" = some mi.cls := findClass_of_methodNamed Bd.named
  have hnm := (name_of_methodNamed Bd.named Bd.method).1
  have X0 : Stand pg l ev ({ frames := 0, cells := 0, slots := 0, locals := 0 } : Room) si mi #[(.ref o)] below meth ci s₁ [] 0 0 := Stand.of_body Bd
  have e0 : s₁.heap = h0 := by rw [← hh, Bd.state]; rfl
  have N0 := Fr.nil n0
  refine Go.start (fun P hP => ?_)
  refine Go.st (fun t_ k_ => castTop (ef_rmRC mi o u) k_) (A := s₁.setTop (mkF mi 0 #[.val (.ref o)] [])) ?_
  show Go pg.tables ev below (s₁.setTop (mkF mi 0 #[.val (.ref o)] [])) P
  refine Go.st (fun t_ k_ => XS.aloadN X0.here hx rfl (hb hby d_prog_37_method_7_0) rfl rfl k_) ?_
  show Go pg.tables ev below (s₁.setTop (mkF mi 1 #[.val (.ref o)] [(.ref o)])) P
  obtain ⟨T1, X1, e1, st1⟩ := getF X0 hx hZ hown (host := "") (Or.inl (hw _ (List.mem_of_getElem? (i := 35) rfl))) Via.refl e0 F5 (g := (mkF mi 1 #[.val (.ref o)] [(.ref o)])) rfl rfl (hb hby d_prog_37_method_7_1)
  refine Go.st st1 ?_
  show Go pg.tables ev below (T1.setTop (mkF mi 4 #[.val (.ref o)] [(.int u)])) P
  obtain ⟨fs, hr, hrun, hended, hW, hsame⟩ := X1.leave (v := some (.int u)) (fun h => by rw [Bd.returns] at h; cases h) (BodyLoose.notSynchronized Bd)
  refine ⟨_, _, ?_, hP _ _ ⟨hrun, hended, _, _, rfl, ?_, ⟨_, rfl⟩, hW, hsame.mono (by decide) (by decide)⟩⟩
  · exact retI X1 hx Bd.returns (hb hby d_prog_37_method_7_4) hr
  · show (some (.int u) : Option Value) = some (.int u) ∧ Fr n0 _ ∧ T1.heap = h0
    rw [e1]
    exact ⟨rfl, N0, rfl⟩
theorem d_prog_37_method_8_0 : decode prog_37_method_8_code 0 = .ok (.aload_n 0, 1) := by decide +kernel
theorem d_prog_37_method_8_1 : decode prog_37_method_8_code 1 = .ok (.getfield 7, 3) := by decide +kernel
theorem d_prog_37_method_8_4 : decode prog_37_method_8_code 4 = .ok (.iload_n 1, 1) := by decide +kernel
theorem d_prog_37_method_8_5 : decode prog_37_method_8_code 5 = .ok (.iaload, 1) := by decide +kernel
theorem d_prog_37_method_8_6 : decode prog_37_method_8_code 6 = .ok (.ireturn, 1) := by decide +kernel
theorem ef_rmRo (mi : MethodId) (o : Addr) (rw : Addr) (kR : ClassId) (f : Int32) (vR : List Value) : entryFrame mi #[(.ref o), (.int (0 : Int32))] 2 = mkF mi 0 #[.val (.ref o), .val (.int (0 : Int32))] [] := by first | (simp [entryFrame, mkF, argsToLocals, Value.category]; done) | rfl
def Q_rmRo (Z : State) (o : Addr) (rw : Addr) (kR : ClassId) (f : Int32) (vR : List Value) (h0 : Heap) (n0 : Nat) (vv_ : Option Value) (hh_ : Heap) (LL_ : List Loc) : Prop := vv_ = some (.int f) ∧ Fr n0 LL_ ∧ hh_ = h0
set_option maxRecDepth 65536 in
set_option maxHeartbeats 40000000 in
theorem rmRo (l : Launch) (Z : State) (a0 : Array Value) (hw : ∀ d ∈ tables_1, d.before a0 Z = true) (ws : List Jvm.Cond) (o : Addr) (rw : Addr) (kR : ClassId) (f : Int32) (vR : List Value) (h0 : Heap) (n0 : Nat) (Z0 : n0 ≤ h0.size) (F0 : Fld Z h0 o "com/example/hedge/hedge/automaton/PairMarks" "rows" "[I" (.ref rw)) (A_rw : Arv Z h0 rw kR .int (16 : Int32) ((.int f) :: vR) (.int (0 : Int32))) :
    MetFree l (⟨"com/example/hedge/hedge/automaton/PairMarks", "row", "(I)I"⟩ : MethodName) (head1 (Jvm.Cond.code (⟨"com/example/hedge/hedge/automaton/PairMarks", "row", "(I)I"⟩ : MethodName) prog_37_method_8_code 2 (some .int) :: ws) ({ frames := 0, cells := 0, slots := 0, locals := 0 } : Room)) (fun aa_ U => aa_ = #[(.ref o), (.int (0 : Int32))] ∧ Z.Warmed39 U.vm ∧ U.heap = h0) (fun _ _ _ _ _ => True) (fun _ U oo_ UV_ => ∃ vv_ LL_, oo_ = .returned vv_ ∧ Q_rmRo Z o rw kR f vR h0 n0 vv_ UV_.heap LL_ ∧ FrameEnd U oo_ UV_ LL_ ({ frames := 0, cells := 0, slots := 0, locals := 0 } : Room).cells ({ frames := 0, cells := 0, slots := 0, locals := 0 } : Room).slots) := by
  refine MetFree.of_bodySF (plainFor_of_name pn_0) hisR ?_
  intro pg ev si mi args below meth ci s₁ Bd hml0 hP0 hK
  obtain ⟨rfl, hZ, hh⟩ := hP0
  have hx := Bd.exec
  have hby := Bd.bytes
  have hml : ci.maxLocals = 2 := hml0
  have hown : si.vm.findClass "com/example/hedge/hedge/automaton/PairMarks" = some mi.cls := findClass_of_methodNamed Bd.named
  have hnm := (name_of_methodNamed Bd.named Bd.method).1
  have X0 : Stand pg l ev ({ frames := 0, cells := 0, slots := 0, locals := 0 } : Room) si mi #[(.ref o), (.int (0 : Int32))] below meth ci s₁ [] 0 0 := Stand.of_body Bd
  have e0 : s₁.heap = h0 := by rw [← hh, Bd.state]; rfl
  have N0 := Fr.nil n0
  refine Go.start (fun P hP => ?_)
  refine Go.st (fun t_ k_ => castTop (ef_rmRo mi o rw kR f vR) k_) (A := s₁.setTop (mkF mi 0 #[.val (.ref o), .val (.int (0 : Int32))] [])) ?_
  show Go pg.tables ev below (s₁.setTop (mkF mi 0 #[.val (.ref o), .val (.int (0 : Int32))] [])) P
  refine Go.st (fun t_ k_ => XS.aloadN X0.here hx rfl (hb hby d_prog_37_method_8_0) rfl rfl k_) ?_
  show Go pg.tables ev below (s₁.setTop (mkF mi 1 #[.val (.ref o), .val (.int (0 : Int32))] [(.ref o)])) P
  obtain ⟨T1, X1, e1, st1⟩ := getF X0 hx hZ hown (host := "") (Or.inl (hw _ (List.mem_of_getElem? (i := 11) rfl))) Via.refl e0 F0 (g := (mkF mi 1 #[.val (.ref o), .val (.int (0 : Int32))] [(.ref o)])) rfl rfl (hb hby d_prog_37_method_8_1)
  refine Go.st st1 ?_
  show Go pg.tables ev below (T1.setTop (mkF mi 4 #[.val (.ref o), .val (.int (0 : Int32))] [(.ref rw)])) P
  refine Go.st (fun t_ k_ => XS.iloadN X1.here hx rfl (hb hby d_prog_37_method_8_4) rfl k_) ?_
  show Go pg.tables ev below (T1.setTop (mkF mi 5 #[.val (.ref o), .val (.int (0 : Int32))] [(.int (0 : Int32)), (.ref rw)])) P
  have ov2 := A_rw
  obtain ⟨cl2, Ar2, q2, S2, M2, H2, G2⟩ := ov2
  have hin2 : ¬ ((0 : Int32) < 0 ∨ cl2.slots.size ≤ ((0 : Int32)).toNatClampNeg) := inb_of S2 ⟨by decide, by decide⟩
  have hat2 : cl2.slots[((0 : Int32)).toNatClampNeg]? = some (.int f) := Has.at H2 hin2 rfl
  refine Go.st (X1.iaload hx (j := (0 : Int32)) (v := (.int f)) (by rw [e1]; exact Ar2.1) (State.isArrayOf_alike hZ.alike Ar2.2.1) Ar2.2.2 hin2 hat2 (g := (mkF mi 5 #[.val (.ref o), .val (.int (0 : Int32))] [(.int (0 : Int32)), (.ref rw)])) rfl rfl (hb hby d_prog_37_method_8_5)) ?_
  show Go pg.tables ev below (T1.setTop (mkF mi 6 #[.val (.ref o), .val (.int (0 : Int32))] [(.int f)])) P
  obtain ⟨fs, hr, hrun, hended, hW, hsame⟩ := X1.leave (v := some (.int f)) (fun h => by rw [Bd.returns] at h; cases h) (BodyLoose.notSynchronized Bd)
  refine ⟨_, _, ?_, hP _ _ ⟨hrun, hended, _, _, rfl, ?_, ⟨_, rfl⟩, hW, hsame.mono (by decide) (by decide)⟩⟩
  · exact retI X1 hx Bd.returns (hb hby d_prog_37_method_8_6) hr
  · show (some (.int f) : Option Value) = some (.int f) ∧ Fr n0 _ ∧ T1.heap = h0
    rw [e1]
    exact ⟨rfl, N0, rfl⟩
def ownG (t m : Int32) : Int32 := (((((((0 : Int64) ||| ((m.toInt64) <<< ((t <<< ((1 : Int32) &&& 31)) &&& 0x3f).toInt64)).toUInt64 >>> ((t <<< ((1 : Int32) &&& 31)) &&& 0x3f).toInt64.toUInt64).toInt64)).toInt32) &&& (3 : Int32))
theorem own_fin96 : ∀ t, t < 32 → ∀ m, m < 4 → ownG (Int32.ofNat t) (Int32.ofNat m) = Int32.ofNat m := by decide +kernel
theorem own_nat0 {x : Int32} (h : 0 ≤ x.toInt) : Int32.ofNat x.toNatClampNeg = x := by
  have l0 : (0 : Int32).toInt = 0 := rfl
  exact (back32 (show ¬ x < 0 by rw [Int32.lt_iff_toInt_lt]; omega)).1
theorem own_final {m s : Int32} (m1 : 1 ≤ m.toInt) (m2 : m.toInt ≤ 3) : fGt (fPu m s) s = m := by
  show ownG (s &&& (31 : Int32)) m = m
  have e := c_mask s 31 5 (by decide) (by decide)
  have h1 := own_fin96 (s &&& 31).toNatClampNeg (by simp only [Int32.toNatClampNeg]; omega) m.toNatClampNeg (by simp only [Int32.toNatClampNeg]; omega)
  rw [own_nat0 (by omega), own_nat0 (by omega)] at h1
  exact h1
theorem own_rng {N s : Int32} (h2 : N.toInt ≤ 256) (h : ¬ s < 0 ∧ s < N) : 0 ≤ s.toInt ∧ s.toInt < 256 := by
  have l0 : (0 : Int32).toInt = 0 := rfl
  simp only [Int32.lt_iff_toInt_lt] at h; omega
theorem pd_5 : parseMethodDescriptor "(III)I" = some ⟨[.int, .int, .int], some .int⟩ := by decide +kernel
theorem pd_6 : parseMethodDescriptor "()V" = some ⟨[], none⟩ := by decide +kernel
theorem pd_7 : parseMethodDescriptor "()I" = some ⟨[], some .int⟩ := by decide +kernel
theorem pn_1 : plainName "com/example/hedge/hedge/automaton/PairMarksClearPinLaw" = true := by first | (simp [plainName, overriddenIn]; done) | decide +kernel
theorem ef_rm0 (mi : MethodId) (p0 : Int32) (p1 : Int32) (p2 : Int32) (p3 : Int32) (p4 : Int32) (p5 : Int32) : entryFrame mi #[(.int p0), (.int p1), (.int p2), (.int p3), (.int p4), (.int p5)] maxLocals = mkF mi 0 #[.val (.int p0), .val (.int p1), .val (.int p2), .val (.int p3), .val (.int p4), .val (.int p5), .unset, .unset, .unset, .unset, .unset, .unset, .unset, .unset, .unset] [] := by first | (simp [entryFrame, mkF, argsToLocals, Value.category, maxLocals]; done) | rfl
def Q_rm0 (Z : State) (p0 : Int32) (p1 : Int32) (p2 : Int32) (p3 : Int32) (p4 : Int32) (p5 : Int32) (h0 : Heap) (n0 : Nat) (vv_ : Option Value) (hh_ : Heap) (LL_ : List Loc) : Prop := vv_ = some (.int 1) ∧ Fr n0 LL_
set_option maxRecDepth 65536 in
set_option maxHeartbeats 40000000 in
theorem rm0 (l : Launch) (Z : State) (a0 : Array Value) (hw : ∀ d ∈ tables_1, d.before a0 Z = true) (ws : List Jvm.Cond) (p0 : Int32) (p1 : Int32) (p2 : Int32) (p3 : Int32) (p4 : Int32) (p5 : Int32) (h0 : Heap) (n0 : Nat) (Z0 : n0 ≤ h0.size) :
    MetFree l x (head1 (Jvm.Cond.code x code maxLocals ret :: ws) room_1) (fun aa_ U => aa_ = #[(.int p0), (.int p1), (.int p2), (.int p3), (.int p4), (.int p5)] ∧ Z.Warmed39 U.vm ∧ U.heap = h0) (fun _ _ _ _ _ => True) (fun _ U oo_ UV_ => ∃ vv_ LL_, oo_ = .returned vv_ ∧ Q_rm0 Z p0 p1 p2 p3 p4 p5 h0 n0 vv_ UV_.heap LL_ ∧ FrameEnd U oo_ UV_ LL_ room_1.cells room_1.slots) := by
  refine MetFree.of_bodySF (plainFor_of_name pn_1) hisR ?_
  intro pg ev si mi args below meth ci s₁ Bd hml0 hP0 hK
  obtain ⟨rfl, hZ, hh⟩ := hP0
  have hx := Bd.exec
  have hby := Bd.bytes
  have hml : ci.maxLocals = 15 := hml0
  have hown : si.vm.findClass "com/example/hedge/hedge/automaton/PairMarksClearPinLaw" = some mi.cls := findClass_of_methodNamed Bd.named
  have hnm := (name_of_methodNamed Bd.named Bd.method).1
  have X0 : Stand pg l ev room_1 si mi #[(.int p0), (.int p1), (.int p2), (.int p3), (.int p4), (.int p5)] below meth ci s₁ [] 0 0 := Stand.of_body Bd
  have e0 : s₁.heap = h0 := by rw [← hh, Bd.state]; rfl
  have N0 := Fr.nil n0
  refine Go.start (fun P hP => ?_)
  refine Go.st (fun t_ k_ => castTop (ef_rm0 mi p0 p1 p2 p3 p4 p5) k_) (A := s₁.setTop (mkF mi 0 #[.val (.int p0), .val (.int p1), .val (.int p2), .val (.int p3), .val (.int p4), .val (.int p5), .unset, .unset, .unset, .unset, .unset, .unset, .unset, .unset, .unset] [])) ?_
  show Go pg.tables ev below (s₁.setTop (mkF mi 0 #[.val (.int p0), .val (.int p1), .val (.int p2), .val (.int p3), .val (.int p4), .val (.int p5), .unset, .unset, .unset, .unset, .unset, .unset, .unset, .unset, .unset] [])) P
  refine Go.st (fun t_ k_ => XS.iconst X0.here hx rfl (hb hby at_0) k_) ?_
  show Go pg.tables ev below (s₁.setTop (mkF mi 1 #[.val (.int p0), .val (.int p1), .val (.int p2), .val (.int p3), .val (.int p4), .val (.int p5), .unset, .unset, .unset, .unset, .unset, .unset, .unset, .unset, .unset] [(.int (1 : Int32))])) P
  refine Go.st (fun t_ k_ => XS.iloadN X0.here hx rfl (hb hby at_1) rfl k_) ?_
  show Go pg.tables ev below (s₁.setTop (mkF mi 2 #[.val (.int p0), .val (.int p1), .val (.int p2), .val (.int p3), .val (.int p4), .val (.int p5), .unset, .unset, .unset, .unset, .unset, .unset, .unset, .unset, .unset] [(.int p0), (.int (1 : Int32))])) P
  refine Go.st (fun t_ k_ => XS.sipush X0.here hx rfl (hb hby at_2) k_) ?_
  show Go pg.tables ev below (s₁.setTop (mkF mi 5 #[.val (.int p0), .val (.int p1), .val (.int p2), .val (.int p3), .val (.int p4), .val (.int p5), .unset, .unset, .unset, .unset, .unset, .unset, .unset, .unset, .unset] [(.int (255 : Int32)), (.int p0), (.int (1 : Int32))])) P
  refine Go.st (fun t_ k_ => XS.iand X0.here hx rfl (hb hby at_5) rfl k_) ?_
  show Go pg.tables ev below (s₁.setTop (mkF mi 6 #[.val (.int p0), .val (.int p1), .val (.int p2), .val (.int p3), .val (.int p4), .val (.int p5), .unset, .unset, .unset, .unset, .unset, .unset, .unset, .unset, .unset] [(.int (p0 &&& (255 : Int32))), (.int (1 : Int32))])) P
  refine Go.st (fun t_ k_ => XS.iadd X0.here hx rfl (hb hby at_6) rfl k_) ?_
  show Go pg.tables ev below (s₁.setTop (mkF mi 7 #[.val (.int p0), .val (.int p1), .val (.int p2), .val (.int p3), .val (.int p4), .val (.int p5), .unset, .unset, .unset, .unset, .unset, .unset, .unset, .unset, .unset] [(.int ((1 : Int32) + (p0 &&& (255 : Int32))))])) P
  refine Go.st (fun t_ k_ => XS.istore X0.here hx rfl (hb hby at_7) rfl (l' := #[.val (.int p0), .val (.int p1), .val (.int p2), .val (.int p3), .val (.int p4), .val (.int p5), .val (.int ((1 : Int32) + (p0 &&& (255 : Int32)))), .unset, .unset, .unset, .unset, .unset, .unset, .unset, .unset]) rfl k_) ?_
  show Go pg.tables ev below (s₁.setTop (mkF mi 9 #[.val (.int p0), .val (.int p1), .val (.int p2), .val (.int p3), .val (.int p4), .val (.int p5), .val (.int ((1 : Int32) + (p0 &&& (255 : Int32)))), .unset, .unset, .unset, .unset, .unset, .unset, .unset, .unset] [])) P
  obtain ⟨N, hNe⟩ : ∃ z, z = ((1 : Int32) + (p0 &&& (255 : Int32))) := ⟨_, rfl⟩
  rw [← hNe]
  obtain ⟨hN1, hN2⟩ := own_n _ _ hNe
  have hN0 := own_nz hN1
  show Go pg.tables ev below (s₁.setTop (mkF mi 9 #[.val (.int p0), .val (.int p1), .val (.int p2), .val (.int p3), .val (.int p4), .val (.int p5), .val (.int N), .unset, .unset, .unset, .unset, .unset, .unset, .unset, .unset] [])) P
  refine Go.st (fun t_ k_ => XS.iloadN X0.here hx rfl (hb hby at_9) rfl k_) ?_
  show Go pg.tables ev below (s₁.setTop (mkF mi 10 #[.val (.int p0), .val (.int p1), .val (.int p2), .val (.int p3), .val (.int p4), .val (.int p5), .val (.int N), .unset, .unset, .unset, .unset, .unset, .unset, .unset, .unset] [(.int p1)])) P
  refine Go.st (X0.ldcInt hx hown (mvT hZ (hw _ (List.mem_of_getElem? (i := 0) rfl))) (g := (mkF mi 10 #[.val (.int p0), .val (.int p1), .val (.int p2), .val (.int p3), .val (.int p4), .val (.int p5), .val (.int N), .unset, .unset, .unset, .unset, .unset, .unset, .unset, .unset] [(.int p1)])) rfl (hb hby at_10)) ?_
  show Go pg.tables ev below (s₁.setTop (mkF mi 12 #[.val (.int p0), .val (.int p1), .val (.int p2), .val (.int p3), .val (.int p4), .val (.int p5), .val (.int N), .unset, .unset, .unset, .unset, .unset, .unset, .unset, .unset] [(.int (2147483647 : Int32)), (.int p1)])) P
  refine Go.st (fun t_ k_ => XS.iand X0.here hx rfl (hb hby at_12) rfl k_) ?_
  show Go pg.tables ev below (s₁.setTop (mkF mi 13 #[.val (.int p0), .val (.int p1), .val (.int p2), .val (.int p3), .val (.int p4), .val (.int p5), .val (.int N), .unset, .unset, .unset, .unset, .unset, .unset, .unset, .unset] [(.int (p1 &&& (2147483647 : Int32)))])) P
  refine Go.st (fun t_ k_ => XS.iload X0.here hx rfl (hb hby at_13) rfl k_) ?_
  show Go pg.tables ev below (s₁.setTop (mkF mi 15 #[.val (.int p0), .val (.int p1), .val (.int p2), .val (.int p3), .val (.int p4), .val (.int p5), .val (.int N), .unset, .unset, .unset, .unset, .unset, .unset, .unset, .unset] [(.int N), (.int (p1 &&& (2147483647 : Int32)))])) P
  refine Go.st (fun t_ k_ => iremM X0 hx rfl (hb hby at_15) rfl hN0 k_) ?_
  show Go pg.tables ev below (s₁.setTop (mkF mi 16 #[.val (.int p0), .val (.int p1), .val (.int p2), .val (.int p3), .val (.int p4), .val (.int p5), .val (.int N), .unset, .unset, .unset, .unset, .unset, .unset, .unset, .unset] [(.int ((p1 &&& (2147483647 : Int32)) % N))])) P
  refine Go.st (fun t_ k_ => XS.istore X0.here hx rfl (hb hby at_16) rfl (l' := #[.val (.int p0), .val (.int p1), .val (.int p2), .val (.int p3), .val (.int p4), .val (.int p5), .val (.int N), .val (.int ((p1 &&& (2147483647 : Int32)) % N)), .unset, .unset, .unset, .unset, .unset, .unset, .unset]) rfl k_) ?_
  show Go pg.tables ev below (s₁.setTop (mkF mi 18 #[.val (.int p0), .val (.int p1), .val (.int p2), .val (.int p3), .val (.int p4), .val (.int p5), .val (.int N), .val (.int ((p1 &&& (2147483647 : Int32)) % N)), .unset, .unset, .unset, .unset, .unset, .unset, .unset] [])) P
  refine Go.st (fun t_ k_ => XS.iloadN X0.here hx rfl (hb hby at_18) rfl k_) ?_
  show Go pg.tables ev below (s₁.setTop (mkF mi 19 #[.val (.int p0), .val (.int p1), .val (.int p2), .val (.int p3), .val (.int p4), .val (.int p5), .val (.int N), .val (.int ((p1 &&& (2147483647 : Int32)) % N)), .unset, .unset, .unset, .unset, .unset, .unset, .unset] [(.int p2)])) P
  refine Go.st (X0.ldcInt hx hown (mvT hZ (hw _ (List.mem_of_getElem? (i := 0) rfl))) (g := (mkF mi 19 #[.val (.int p0), .val (.int p1), .val (.int p2), .val (.int p3), .val (.int p4), .val (.int p5), .val (.int N), .val (.int ((p1 &&& (2147483647 : Int32)) % N)), .unset, .unset, .unset, .unset, .unset, .unset, .unset] [(.int p2)])) rfl (hb hby at_19)) ?_
  show Go pg.tables ev below (s₁.setTop (mkF mi 21 #[.val (.int p0), .val (.int p1), .val (.int p2), .val (.int p3), .val (.int p4), .val (.int p5), .val (.int N), .val (.int ((p1 &&& (2147483647 : Int32)) % N)), .unset, .unset, .unset, .unset, .unset, .unset, .unset] [(.int (2147483647 : Int32)), (.int p2)])) P
  refine Go.st (fun t_ k_ => XS.iand X0.here hx rfl (hb hby at_21) rfl k_) ?_
  show Go pg.tables ev below (s₁.setTop (mkF mi 22 #[.val (.int p0), .val (.int p1), .val (.int p2), .val (.int p3), .val (.int p4), .val (.int p5), .val (.int N), .val (.int ((p1 &&& (2147483647 : Int32)) % N)), .unset, .unset, .unset, .unset, .unset, .unset, .unset] [(.int (p2 &&& (2147483647 : Int32)))])) P
  refine Go.st (fun t_ k_ => XS.iload X0.here hx rfl (hb hby at_22) rfl k_) ?_
  show Go pg.tables ev below (s₁.setTop (mkF mi 24 #[.val (.int p0), .val (.int p1), .val (.int p2), .val (.int p3), .val (.int p4), .val (.int p5), .val (.int N), .val (.int ((p1 &&& (2147483647 : Int32)) % N)), .unset, .unset, .unset, .unset, .unset, .unset, .unset] [(.int N), (.int (p2 &&& (2147483647 : Int32)))])) P
  refine Go.st (fun t_ k_ => iremM X0 hx rfl (hb hby at_24) rfl hN0 k_) ?_
  show Go pg.tables ev below (s₁.setTop (mkF mi 25 #[.val (.int p0), .val (.int p1), .val (.int p2), .val (.int p3), .val (.int p4), .val (.int p5), .val (.int N), .val (.int ((p1 &&& (2147483647 : Int32)) % N)), .unset, .unset, .unset, .unset, .unset, .unset, .unset] [(.int ((p2 &&& (2147483647 : Int32)) % N))])) P
  refine Go.st (fun t_ k_ => XS.istore X0.here hx rfl (hb hby at_25) rfl (l' := #[.val (.int p0), .val (.int p1), .val (.int p2), .val (.int p3), .val (.int p4), .val (.int p5), .val (.int N), .val (.int ((p1 &&& (2147483647 : Int32)) % N)), .val (.int ((p2 &&& (2147483647 : Int32)) % N)), .unset, .unset, .unset, .unset, .unset, .unset]) rfl k_) ?_
  show Go pg.tables ev below (s₁.setTop (mkF mi 27 #[.val (.int p0), .val (.int p1), .val (.int p2), .val (.int p3), .val (.int p4), .val (.int p5), .val (.int N), .val (.int ((p1 &&& (2147483647 : Int32)) % N)), .val (.int ((p2 &&& (2147483647 : Int32)) % N)), .unset, .unset, .unset, .unset, .unset, .unset] [])) P
  refine Go.st (fun t_ k_ => XS.iloadN X0.here hx rfl (hb hby at_27) rfl k_) ?_
  show Go pg.tables ev below (s₁.setTop (mkF mi 28 #[.val (.int p0), .val (.int p1), .val (.int p2), .val (.int p3), .val (.int p4), .val (.int p5), .val (.int N), .val (.int ((p1 &&& (2147483647 : Int32)) % N)), .val (.int ((p2 &&& (2147483647 : Int32)) % N)), .unset, .unset, .unset, .unset, .unset, .unset] [(.int p3)])) P
  refine Go.st (X0.ldcInt hx hown (mvT hZ (hw _ (List.mem_of_getElem? (i := 0) rfl))) (g := (mkF mi 28 #[.val (.int p0), .val (.int p1), .val (.int p2), .val (.int p3), .val (.int p4), .val (.int p5), .val (.int N), .val (.int ((p1 &&& (2147483647 : Int32)) % N)), .val (.int ((p2 &&& (2147483647 : Int32)) % N)), .unset, .unset, .unset, .unset, .unset, .unset] [(.int p3)])) rfl (hb hby at_28)) ?_
  show Go pg.tables ev below (s₁.setTop (mkF mi 30 #[.val (.int p0), .val (.int p1), .val (.int p2), .val (.int p3), .val (.int p4), .val (.int p5), .val (.int N), .val (.int ((p1 &&& (2147483647 : Int32)) % N)), .val (.int ((p2 &&& (2147483647 : Int32)) % N)), .unset, .unset, .unset, .unset, .unset, .unset] [(.int (2147483647 : Int32)), (.int p3)])) P
  refine Go.st (fun t_ k_ => XS.iand X0.here hx rfl (hb hby at_30) rfl k_) ?_
  show Go pg.tables ev below (s₁.setTop (mkF mi 31 #[.val (.int p0), .val (.int p1), .val (.int p2), .val (.int p3), .val (.int p4), .val (.int p5), .val (.int N), .val (.int ((p1 &&& (2147483647 : Int32)) % N)), .val (.int ((p2 &&& (2147483647 : Int32)) % N)), .unset, .unset, .unset, .unset, .unset, .unset] [(.int (p3 &&& (2147483647 : Int32)))])) P
  refine Go.st (fun t_ k_ => XS.iload X0.here hx rfl (hb hby at_31) rfl k_) ?_
  show Go pg.tables ev below (s₁.setTop (mkF mi 33 #[.val (.int p0), .val (.int p1), .val (.int p2), .val (.int p3), .val (.int p4), .val (.int p5), .val (.int N), .val (.int ((p1 &&& (2147483647 : Int32)) % N)), .val (.int ((p2 &&& (2147483647 : Int32)) % N)), .unset, .unset, .unset, .unset, .unset, .unset] [(.int N), (.int (p3 &&& (2147483647 : Int32)))])) P
  refine Go.st (fun t_ k_ => iremM X0 hx rfl (hb hby at_33) rfl hN0 k_) ?_
  show Go pg.tables ev below (s₁.setTop (mkF mi 34 #[.val (.int p0), .val (.int p1), .val (.int p2), .val (.int p3), .val (.int p4), .val (.int p5), .val (.int N), .val (.int ((p1 &&& (2147483647 : Int32)) % N)), .val (.int ((p2 &&& (2147483647 : Int32)) % N)), .unset, .unset, .unset, .unset, .unset, .unset] [(.int ((p3 &&& (2147483647 : Int32)) % N))])) P
  refine Go.st (fun t_ k_ => XS.istore X0.here hx rfl (hb hby at_34) rfl (l' := #[.val (.int p0), .val (.int p1), .val (.int p2), .val (.int p3), .val (.int p4), .val (.int p5), .val (.int N), .val (.int ((p1 &&& (2147483647 : Int32)) % N)), .val (.int ((p2 &&& (2147483647 : Int32)) % N)), .val (.int ((p3 &&& (2147483647 : Int32)) % N)), .unset, .unset, .unset, .unset, .unset]) rfl k_) ?_
  show Go pg.tables ev below (s₁.setTop (mkF mi 36 #[.val (.int p0), .val (.int p1), .val (.int p2), .val (.int p3), .val (.int p4), .val (.int p5), .val (.int N), .val (.int ((p1 &&& (2147483647 : Int32)) % N)), .val (.int ((p2 &&& (2147483647 : Int32)) % N)), .val (.int ((p3 &&& (2147483647 : Int32)) % N)), .unset, .unset, .unset, .unset, .unset] [])) P
  refine Go.st (fun t_ k_ => XS.iload X0.here hx rfl (hb hby at_36) rfl k_) ?_
  show Go pg.tables ev below (s₁.setTop (mkF mi 38 #[.val (.int p0), .val (.int p1), .val (.int p2), .val (.int p3), .val (.int p4), .val (.int p5), .val (.int N), .val (.int ((p1 &&& (2147483647 : Int32)) % N)), .val (.int ((p2 &&& (2147483647 : Int32)) % N)), .val (.int ((p3 &&& (2147483647 : Int32)) % N)), .unset, .unset, .unset, .unset, .unset] [(.int p4)])) P
  refine Go.st (X0.ldcInt hx hown (mvT hZ (hw _ (List.mem_of_getElem? (i := 0) rfl))) (g := (mkF mi 38 #[.val (.int p0), .val (.int p1), .val (.int p2), .val (.int p3), .val (.int p4), .val (.int p5), .val (.int N), .val (.int ((p1 &&& (2147483647 : Int32)) % N)), .val (.int ((p2 &&& (2147483647 : Int32)) % N)), .val (.int ((p3 &&& (2147483647 : Int32)) % N)), .unset, .unset, .unset, .unset, .unset] [(.int p4)])) rfl (hb hby at_38)) ?_
  show Go pg.tables ev below (s₁.setTop (mkF mi 40 #[.val (.int p0), .val (.int p1), .val (.int p2), .val (.int p3), .val (.int p4), .val (.int p5), .val (.int N), .val (.int ((p1 &&& (2147483647 : Int32)) % N)), .val (.int ((p2 &&& (2147483647 : Int32)) % N)), .val (.int ((p3 &&& (2147483647 : Int32)) % N)), .unset, .unset, .unset, .unset, .unset] [(.int (2147483647 : Int32)), (.int p4)])) P
  refine Go.st (fun t_ k_ => XS.iand X0.here hx rfl (hb hby at_40) rfl k_) ?_
  show Go pg.tables ev below (s₁.setTop (mkF mi 41 #[.val (.int p0), .val (.int p1), .val (.int p2), .val (.int p3), .val (.int p4), .val (.int p5), .val (.int N), .val (.int ((p1 &&& (2147483647 : Int32)) % N)), .val (.int ((p2 &&& (2147483647 : Int32)) % N)), .val (.int ((p3 &&& (2147483647 : Int32)) % N)), .unset, .unset, .unset, .unset, .unset] [(.int (p4 &&& (2147483647 : Int32)))])) P
  refine Go.st (fun t_ k_ => XS.iload X0.here hx rfl (hb hby at_41) rfl k_) ?_
  show Go pg.tables ev below (s₁.setTop (mkF mi 43 #[.val (.int p0), .val (.int p1), .val (.int p2), .val (.int p3), .val (.int p4), .val (.int p5), .val (.int N), .val (.int ((p1 &&& (2147483647 : Int32)) % N)), .val (.int ((p2 &&& (2147483647 : Int32)) % N)), .val (.int ((p3 &&& (2147483647 : Int32)) % N)), .unset, .unset, .unset, .unset, .unset] [(.int N), (.int (p4 &&& (2147483647 : Int32)))])) P
  refine Go.st (fun t_ k_ => iremM X0 hx rfl (hb hby at_43) rfl hN0 k_) ?_
  show Go pg.tables ev below (s₁.setTop (mkF mi 44 #[.val (.int p0), .val (.int p1), .val (.int p2), .val (.int p3), .val (.int p4), .val (.int p5), .val (.int N), .val (.int ((p1 &&& (2147483647 : Int32)) % N)), .val (.int ((p2 &&& (2147483647 : Int32)) % N)), .val (.int ((p3 &&& (2147483647 : Int32)) % N)), .unset, .unset, .unset, .unset, .unset] [(.int ((p4 &&& (2147483647 : Int32)) % N))])) P
  refine Go.st (fun t_ k_ => XS.istore X0.here hx rfl (hb hby at_44) rfl (l' := #[.val (.int p0), .val (.int p1), .val (.int p2), .val (.int p3), .val (.int p4), .val (.int p5), .val (.int N), .val (.int ((p1 &&& (2147483647 : Int32)) % N)), .val (.int ((p2 &&& (2147483647 : Int32)) % N)), .val (.int ((p3 &&& (2147483647 : Int32)) % N)), .val (.int ((p4 &&& (2147483647 : Int32)) % N)), .unset, .unset, .unset, .unset]) rfl k_) ?_
  show Go pg.tables ev below (s₁.setTop (mkF mi 46 #[.val (.int p0), .val (.int p1), .val (.int p2), .val (.int p3), .val (.int p4), .val (.int p5), .val (.int N), .val (.int ((p1 &&& (2147483647 : Int32)) % N)), .val (.int ((p2 &&& (2147483647 : Int32)) % N)), .val (.int ((p3 &&& (2147483647 : Int32)) % N)), .val (.int ((p4 &&& (2147483647 : Int32)) % N)), .unset, .unset, .unset, .unset] [])) P
  refine Go.st (fun t_ k_ => XS.iconst X0.here hx rfl (hb hby at_46) k_) ?_
  show Go pg.tables ev below (s₁.setTop (mkF mi 47 #[.val (.int p0), .val (.int p1), .val (.int p2), .val (.int p3), .val (.int p4), .val (.int p5), .val (.int N), .val (.int ((p1 &&& (2147483647 : Int32)) % N)), .val (.int ((p2 &&& (2147483647 : Int32)) % N)), .val (.int ((p3 &&& (2147483647 : Int32)) % N)), .val (.int ((p4 &&& (2147483647 : Int32)) % N)), .unset, .unset, .unset, .unset] [(.int (1 : Int32))])) P
  refine Go.st (fun t_ k_ => XS.iload X0.here hx rfl (hb hby at_47) rfl k_) ?_
  show Go pg.tables ev below (s₁.setTop (mkF mi 49 #[.val (.int p0), .val (.int p1), .val (.int p2), .val (.int p3), .val (.int p4), .val (.int p5), .val (.int N), .val (.int ((p1 &&& (2147483647 : Int32)) % N)), .val (.int ((p2 &&& (2147483647 : Int32)) % N)), .val (.int ((p3 &&& (2147483647 : Int32)) % N)), .val (.int ((p4 &&& (2147483647 : Int32)) % N)), .unset, .unset, .unset, .unset] [(.int p5), (.int (1 : Int32))])) P
  refine Go.st (X0.ldcInt hx hown (mvT hZ (hw _ (List.mem_of_getElem? (i := 0) rfl))) (g := (mkF mi 49 #[.val (.int p0), .val (.int p1), .val (.int p2), .val (.int p3), .val (.int p4), .val (.int p5), .val (.int N), .val (.int ((p1 &&& (2147483647 : Int32)) % N)), .val (.int ((p2 &&& (2147483647 : Int32)) % N)), .val (.int ((p3 &&& (2147483647 : Int32)) % N)), .val (.int ((p4 &&& (2147483647 : Int32)) % N)), .unset, .unset, .unset, .unset] [(.int p5), (.int (1 : Int32))])) rfl (hb hby at_49)) ?_
  show Go pg.tables ev below (s₁.setTop (mkF mi 51 #[.val (.int p0), .val (.int p1), .val (.int p2), .val (.int p3), .val (.int p4), .val (.int p5), .val (.int N), .val (.int ((p1 &&& (2147483647 : Int32)) % N)), .val (.int ((p2 &&& (2147483647 : Int32)) % N)), .val (.int ((p3 &&& (2147483647 : Int32)) % N)), .val (.int ((p4 &&& (2147483647 : Int32)) % N)), .unset, .unset, .unset, .unset] [(.int (2147483647 : Int32)), (.int p5), (.int (1 : Int32))])) P
  refine Go.st (fun t_ k_ => XS.iand X0.here hx rfl (hb hby at_51) rfl k_) ?_
  show Go pg.tables ev below (s₁.setTop (mkF mi 52 #[.val (.int p0), .val (.int p1), .val (.int p2), .val (.int p3), .val (.int p4), .val (.int p5), .val (.int N), .val (.int ((p1 &&& (2147483647 : Int32)) % N)), .val (.int ((p2 &&& (2147483647 : Int32)) % N)), .val (.int ((p3 &&& (2147483647 : Int32)) % N)), .val (.int ((p4 &&& (2147483647 : Int32)) % N)), .unset, .unset, .unset, .unset] [(.int (p5 &&& (2147483647 : Int32))), (.int (1 : Int32))])) P
  refine Go.st (fun t_ k_ => XS.iconst X0.here hx rfl (hb hby at_52) k_) ?_
  show Go pg.tables ev below (s₁.setTop (mkF mi 53 #[.val (.int p0), .val (.int p1), .val (.int p2), .val (.int p3), .val (.int p4), .val (.int p5), .val (.int N), .val (.int ((p1 &&& (2147483647 : Int32)) % N)), .val (.int ((p2 &&& (2147483647 : Int32)) % N)), .val (.int ((p3 &&& (2147483647 : Int32)) % N)), .val (.int ((p4 &&& (2147483647 : Int32)) % N)), .unset, .unset, .unset, .unset] [(.int (3 : Int32)), (.int (p5 &&& (2147483647 : Int32))), (.int (1 : Int32))])) P
  refine Go.st (fun t_ k_ => iremM X0 hx rfl (hb hby at_53) rfl (by decide) k_) ?_
  show Go pg.tables ev below (s₁.setTop (mkF mi 54 #[.val (.int p0), .val (.int p1), .val (.int p2), .val (.int p3), .val (.int p4), .val (.int p5), .val (.int N), .val (.int ((p1 &&& (2147483647 : Int32)) % N)), .val (.int ((p2 &&& (2147483647 : Int32)) % N)), .val (.int ((p3 &&& (2147483647 : Int32)) % N)), .val (.int ((p4 &&& (2147483647 : Int32)) % N)), .unset, .unset, .unset, .unset] [(.int ((p5 &&& (2147483647 : Int32)) % (3 : Int32))), (.int (1 : Int32))])) P
  refine Go.st (fun t_ k_ => XS.iadd X0.here hx rfl (hb hby at_54) rfl k_) ?_
  show Go pg.tables ev below (s₁.setTop (mkF mi 55 #[.val (.int p0), .val (.int p1), .val (.int p2), .val (.int p3), .val (.int p4), .val (.int p5), .val (.int N), .val (.int ((p1 &&& (2147483647 : Int32)) % N)), .val (.int ((p2 &&& (2147483647 : Int32)) % N)), .val (.int ((p3 &&& (2147483647 : Int32)) % N)), .val (.int ((p4 &&& (2147483647 : Int32)) % N)), .unset, .unset, .unset, .unset] [(.int ((1 : Int32) + ((p5 &&& (2147483647 : Int32)) % (3 : Int32))))])) P
  refine Go.st (fun t_ k_ => XS.istore X0.here hx rfl (hb hby at_55) rfl (l' := #[.val (.int p0), .val (.int p1), .val (.int p2), .val (.int p3), .val (.int p4), .val (.int p5), .val (.int N), .val (.int ((p1 &&& (2147483647 : Int32)) % N)), .val (.int ((p2 &&& (2147483647 : Int32)) % N)), .val (.int ((p3 &&& (2147483647 : Int32)) % N)), .val (.int ((p4 &&& (2147483647 : Int32)) % N)), .val (.int ((1 : Int32) + ((p5 &&& (2147483647 : Int32)) % (3 : Int32)))), .unset, .unset, .unset]) rfl k_) ?_
  show Go pg.tables ev below (s₁.setTop (mkF mi 57 #[.val (.int p0), .val (.int p1), .val (.int p2), .val (.int p3), .val (.int p4), .val (.int p5), .val (.int N), .val (.int ((p1 &&& (2147483647 : Int32)) % N)), .val (.int ((p2 &&& (2147483647 : Int32)) % N)), .val (.int ((p3 &&& (2147483647 : Int32)) % N)), .val (.int ((p4 &&& (2147483647 : Int32)) % N)), .val (.int ((1 : Int32) + ((p5 &&& (2147483647 : Int32)) % (3 : Int32)))), .unset, .unset, .unset] [])) P
  refine Go.st (fun t_ k_ => XS.iconst X0.here hx rfl (hb hby at_57) k_) ?_
  show Go pg.tables ev below (s₁.setTop (mkF mi 58 #[.val (.int p0), .val (.int p1), .val (.int p2), .val (.int p3), .val (.int p4), .val (.int p5), .val (.int N), .val (.int ((p1 &&& (2147483647 : Int32)) % N)), .val (.int ((p2 &&& (2147483647 : Int32)) % N)), .val (.int ((p3 &&& (2147483647 : Int32)) % N)), .val (.int ((p4 &&& (2147483647 : Int32)) % N)), .val (.int ((1 : Int32) + ((p5 &&& (2147483647 : Int32)) % (3 : Int32)))), .unset, .unset, .unset] [(.int (1 : Int32))])) P
  refine Go.st (fun t_ k_ => XS.iload X0.here hx rfl (hb hby at_58) rfl k_) ?_
  show Go pg.tables ev below (s₁.setTop (mkF mi 60 #[.val (.int p0), .val (.int p1), .val (.int p2), .val (.int p3), .val (.int p4), .val (.int p5), .val (.int N), .val (.int ((p1 &&& (2147483647 : Int32)) % N)), .val (.int ((p2 &&& (2147483647 : Int32)) % N)), .val (.int ((p3 &&& (2147483647 : Int32)) % N)), .val (.int ((p4 &&& (2147483647 : Int32)) % N)), .val (.int ((1 : Int32) + ((p5 &&& (2147483647 : Int32)) % (3 : Int32)))), .unset, .unset, .unset] [(.int p5), (.int (1 : Int32))])) P
  refine Go.st (fun t_ k_ => XS.iconst X0.here hx rfl (hb hby at_60) k_) ?_
  show Go pg.tables ev below (s₁.setTop (mkF mi 61 #[.val (.int p0), .val (.int p1), .val (.int p2), .val (.int p3), .val (.int p4), .val (.int p5), .val (.int N), .val (.int ((p1 &&& (2147483647 : Int32)) % N)), .val (.int ((p2 &&& (2147483647 : Int32)) % N)), .val (.int ((p3 &&& (2147483647 : Int32)) % N)), .val (.int ((p4 &&& (2147483647 : Int32)) % N)), .val (.int ((1 : Int32) + ((p5 &&& (2147483647 : Int32)) % (3 : Int32)))), .unset, .unset, .unset] [(.int (2 : Int32)), (.int p5), (.int (1 : Int32))])) P
  refine Go.st (fun t_ k_ => XS.iushr X0.here hx rfl (hb hby at_61) rfl k_) ?_
  show Go pg.tables ev below (s₁.setTop (mkF mi 62 #[.val (.int p0), .val (.int p1), .val (.int p2), .val (.int p3), .val (.int p4), .val (.int p5), .val (.int N), .val (.int ((p1 &&& (2147483647 : Int32)) % N)), .val (.int ((p2 &&& (2147483647 : Int32)) % N)), .val (.int ((p3 &&& (2147483647 : Int32)) % N)), .val (.int ((p4 &&& (2147483647 : Int32)) % N)), .val (.int ((1 : Int32) + ((p5 &&& (2147483647 : Int32)) % (3 : Int32)))), .unset, .unset, .unset] [(.int ((p5.toUInt32 >>> ((2 : Int32) &&& 31).toUInt32).toInt32)), (.int (1 : Int32))])) P
  refine Go.st (fun t_ k_ => XS.iconst X0.here hx rfl (hb hby at_62) k_) ?_
  show Go pg.tables ev below (s₁.setTop (mkF mi 63 #[.val (.int p0), .val (.int p1), .val (.int p2), .val (.int p3), .val (.int p4), .val (.int p5), .val (.int N), .val (.int ((p1 &&& (2147483647 : Int32)) % N)), .val (.int ((p2 &&& (2147483647 : Int32)) % N)), .val (.int ((p3 &&& (2147483647 : Int32)) % N)), .val (.int ((p4 &&& (2147483647 : Int32)) % N)), .val (.int ((1 : Int32) + ((p5 &&& (2147483647 : Int32)) % (3 : Int32)))), .unset, .unset, .unset] [(.int (3 : Int32)), (.int ((p5.toUInt32 >>> ((2 : Int32) &&& 31).toUInt32).toInt32)), (.int (1 : Int32))])) P
  refine Go.st (fun t_ k_ => iremM X0 hx rfl (hb hby at_63) rfl (by decide) k_) ?_
  show Go pg.tables ev below (s₁.setTop (mkF mi 64 #[.val (.int p0), .val (.int p1), .val (.int p2), .val (.int p3), .val (.int p4), .val (.int p5), .val (.int N), .val (.int ((p1 &&& (2147483647 : Int32)) % N)), .val (.int ((p2 &&& (2147483647 : Int32)) % N)), .val (.int ((p3 &&& (2147483647 : Int32)) % N)), .val (.int ((p4 &&& (2147483647 : Int32)) % N)), .val (.int ((1 : Int32) + ((p5 &&& (2147483647 : Int32)) % (3 : Int32)))), .unset, .unset, .unset] [(.int (((p5.toUInt32 >>> ((2 : Int32) &&& 31).toUInt32).toInt32) % (3 : Int32))), (.int (1 : Int32))])) P
  refine Go.st (fun t_ k_ => XS.iadd X0.here hx rfl (hb hby at_64) rfl k_) ?_
  show Go pg.tables ev below (s₁.setTop (mkF mi 65 #[.val (.int p0), .val (.int p1), .val (.int p2), .val (.int p3), .val (.int p4), .val (.int p5), .val (.int N), .val (.int ((p1 &&& (2147483647 : Int32)) % N)), .val (.int ((p2 &&& (2147483647 : Int32)) % N)), .val (.int ((p3 &&& (2147483647 : Int32)) % N)), .val (.int ((p4 &&& (2147483647 : Int32)) % N)), .val (.int ((1 : Int32) + ((p5 &&& (2147483647 : Int32)) % (3 : Int32)))), .unset, .unset, .unset] [(.int ((1 : Int32) + (((p5.toUInt32 >>> ((2 : Int32) &&& 31).toUInt32).toInt32) % (3 : Int32))))])) P
  refine Go.st (fun t_ k_ => XS.istore X0.here hx rfl (hb hby at_65) rfl (l' := #[.val (.int p0), .val (.int p1), .val (.int p2), .val (.int p3), .val (.int p4), .val (.int p5), .val (.int N), .val (.int ((p1 &&& (2147483647 : Int32)) % N)), .val (.int ((p2 &&& (2147483647 : Int32)) % N)), .val (.int ((p3 &&& (2147483647 : Int32)) % N)), .val (.int ((p4 &&& (2147483647 : Int32)) % N)), .val (.int ((1 : Int32) + ((p5 &&& (2147483647 : Int32)) % (3 : Int32)))), .val (.int ((1 : Int32) + (((p5.toUInt32 >>> ((2 : Int32) &&& 31).toUInt32).toInt32) % (3 : Int32)))), .unset, .unset]) rfl k_) ?_
  show Go pg.tables ev below (s₁.setTop (mkF mi 67 #[.val (.int p0), .val (.int p1), .val (.int p2), .val (.int p3), .val (.int p4), .val (.int p5), .val (.int N), .val (.int ((p1 &&& (2147483647 : Int32)) % N)), .val (.int ((p2 &&& (2147483647 : Int32)) % N)), .val (.int ((p3 &&& (2147483647 : Int32)) % N)), .val (.int ((p4 &&& (2147483647 : Int32)) % N)), .val (.int ((1 : Int32) + ((p5 &&& (2147483647 : Int32)) % (3 : Int32)))), .val (.int ((1 : Int32) + (((p5.toUInt32 >>> ((2 : Int32) &&& 31).toUInt32).toInt32) % (3 : Int32)))), .unset, .unset] [])) P
  refine Go.st (fun t_ k_ => XS.iconst X0.here hx rfl (hb hby at_67) k_) ?_
  show Go pg.tables ev below (s₁.setTop (mkF mi 68 #[.val (.int p0), .val (.int p1), .val (.int p2), .val (.int p3), .val (.int p4), .val (.int p5), .val (.int N), .val (.int ((p1 &&& (2147483647 : Int32)) % N)), .val (.int ((p2 &&& (2147483647 : Int32)) % N)), .val (.int ((p3 &&& (2147483647 : Int32)) % N)), .val (.int ((p4 &&& (2147483647 : Int32)) % N)), .val (.int ((1 : Int32) + ((p5 &&& (2147483647 : Int32)) % (3 : Int32)))), .val (.int ((1 : Int32) + (((p5.toUInt32 >>> ((2 : Int32) &&& 31).toUInt32).toInt32) % (3 : Int32)))), .unset, .unset] [(.int (1 : Int32))])) P
  refine Go.st (fun t_ k_ => XS.iload X0.here hx rfl (hb hby at_68) rfl k_) ?_
  show Go pg.tables ev below (s₁.setTop (mkF mi 70 #[.val (.int p0), .val (.int p1), .val (.int p2), .val (.int p3), .val (.int p4), .val (.int p5), .val (.int N), .val (.int ((p1 &&& (2147483647 : Int32)) % N)), .val (.int ((p2 &&& (2147483647 : Int32)) % N)), .val (.int ((p3 &&& (2147483647 : Int32)) % N)), .val (.int ((p4 &&& (2147483647 : Int32)) % N)), .val (.int ((1 : Int32) + ((p5 &&& (2147483647 : Int32)) % (3 : Int32)))), .val (.int ((1 : Int32) + (((p5.toUInt32 >>> ((2 : Int32) &&& 31).toUInt32).toInt32) % (3 : Int32)))), .unset, .unset] [(.int p5), (.int (1 : Int32))])) P
  refine Go.st (fun t_ k_ => XS.iconst X0.here hx rfl (hb hby at_70) k_) ?_
  show Go pg.tables ev below (s₁.setTop (mkF mi 71 #[.val (.int p0), .val (.int p1), .val (.int p2), .val (.int p3), .val (.int p4), .val (.int p5), .val (.int N), .val (.int ((p1 &&& (2147483647 : Int32)) % N)), .val (.int ((p2 &&& (2147483647 : Int32)) % N)), .val (.int ((p3 &&& (2147483647 : Int32)) % N)), .val (.int ((p4 &&& (2147483647 : Int32)) % N)), .val (.int ((1 : Int32) + ((p5 &&& (2147483647 : Int32)) % (3 : Int32)))), .val (.int ((1 : Int32) + (((p5.toUInt32 >>> ((2 : Int32) &&& 31).toUInt32).toInt32) % (3 : Int32)))), .unset, .unset] [(.int (4 : Int32)), (.int p5), (.int (1 : Int32))])) P
  refine Go.st (fun t_ k_ => XS.iushr X0.here hx rfl (hb hby at_71) rfl k_) ?_
  show Go pg.tables ev below (s₁.setTop (mkF mi 72 #[.val (.int p0), .val (.int p1), .val (.int p2), .val (.int p3), .val (.int p4), .val (.int p5), .val (.int N), .val (.int ((p1 &&& (2147483647 : Int32)) % N)), .val (.int ((p2 &&& (2147483647 : Int32)) % N)), .val (.int ((p3 &&& (2147483647 : Int32)) % N)), .val (.int ((p4 &&& (2147483647 : Int32)) % N)), .val (.int ((1 : Int32) + ((p5 &&& (2147483647 : Int32)) % (3 : Int32)))), .val (.int ((1 : Int32) + (((p5.toUInt32 >>> ((2 : Int32) &&& 31).toUInt32).toInt32) % (3 : Int32)))), .unset, .unset] [(.int ((p5.toUInt32 >>> ((4 : Int32) &&& 31).toUInt32).toInt32)), (.int (1 : Int32))])) P
  refine Go.st (fun t_ k_ => XS.iconst X0.here hx rfl (hb hby at_72) k_) ?_
  show Go pg.tables ev below (s₁.setTop (mkF mi 73 #[.val (.int p0), .val (.int p1), .val (.int p2), .val (.int p3), .val (.int p4), .val (.int p5), .val (.int N), .val (.int ((p1 &&& (2147483647 : Int32)) % N)), .val (.int ((p2 &&& (2147483647 : Int32)) % N)), .val (.int ((p3 &&& (2147483647 : Int32)) % N)), .val (.int ((p4 &&& (2147483647 : Int32)) % N)), .val (.int ((1 : Int32) + ((p5 &&& (2147483647 : Int32)) % (3 : Int32)))), .val (.int ((1 : Int32) + (((p5.toUInt32 >>> ((2 : Int32) &&& 31).toUInt32).toInt32) % (3 : Int32)))), .unset, .unset] [(.int (3 : Int32)), (.int ((p5.toUInt32 >>> ((4 : Int32) &&& 31).toUInt32).toInt32)), (.int (1 : Int32))])) P
  refine Go.st (fun t_ k_ => iremM X0 hx rfl (hb hby at_73) rfl (by decide) k_) ?_
  show Go pg.tables ev below (s₁.setTop (mkF mi 74 #[.val (.int p0), .val (.int p1), .val (.int p2), .val (.int p3), .val (.int p4), .val (.int p5), .val (.int N), .val (.int ((p1 &&& (2147483647 : Int32)) % N)), .val (.int ((p2 &&& (2147483647 : Int32)) % N)), .val (.int ((p3 &&& (2147483647 : Int32)) % N)), .val (.int ((p4 &&& (2147483647 : Int32)) % N)), .val (.int ((1 : Int32) + ((p5 &&& (2147483647 : Int32)) % (3 : Int32)))), .val (.int ((1 : Int32) + (((p5.toUInt32 >>> ((2 : Int32) &&& 31).toUInt32).toInt32) % (3 : Int32)))), .unset, .unset] [(.int (((p5.toUInt32 >>> ((4 : Int32) &&& 31).toUInt32).toInt32) % (3 : Int32))), (.int (1 : Int32))])) P
  refine Go.st (fun t_ k_ => XS.iadd X0.here hx rfl (hb hby at_74) rfl k_) ?_
  show Go pg.tables ev below (s₁.setTop (mkF mi 75 #[.val (.int p0), .val (.int p1), .val (.int p2), .val (.int p3), .val (.int p4), .val (.int p5), .val (.int N), .val (.int ((p1 &&& (2147483647 : Int32)) % N)), .val (.int ((p2 &&& (2147483647 : Int32)) % N)), .val (.int ((p3 &&& (2147483647 : Int32)) % N)), .val (.int ((p4 &&& (2147483647 : Int32)) % N)), .val (.int ((1 : Int32) + ((p5 &&& (2147483647 : Int32)) % (3 : Int32)))), .val (.int ((1 : Int32) + (((p5.toUInt32 >>> ((2 : Int32) &&& 31).toUInt32).toInt32) % (3 : Int32)))), .unset, .unset] [(.int ((1 : Int32) + (((p5.toUInt32 >>> ((4 : Int32) &&& 31).toUInt32).toInt32) % (3 : Int32))))])) P
  refine Go.st (fun t_ k_ => XS.istore X0.here hx rfl (hb hby at_75) rfl (l' := #[.val (.int p0), .val (.int p1), .val (.int p2), .val (.int p3), .val (.int p4), .val (.int p5), .val (.int N), .val (.int ((p1 &&& (2147483647 : Int32)) % N)), .val (.int ((p2 &&& (2147483647 : Int32)) % N)), .val (.int ((p3 &&& (2147483647 : Int32)) % N)), .val (.int ((p4 &&& (2147483647 : Int32)) % N)), .val (.int ((1 : Int32) + ((p5 &&& (2147483647 : Int32)) % (3 : Int32)))), .val (.int ((1 : Int32) + (((p5.toUInt32 >>> ((2 : Int32) &&& 31).toUInt32).toInt32) % (3 : Int32)))), .val (.int ((1 : Int32) + (((p5.toUInt32 >>> ((4 : Int32) &&& 31).toUInt32).toInt32) % (3 : Int32)))), .unset]) rfl k_) ?_
  show Go pg.tables ev below (s₁.setTop (mkF mi 77 #[.val (.int p0), .val (.int p1), .val (.int p2), .val (.int p3), .val (.int p4), .val (.int p5), .val (.int N), .val (.int ((p1 &&& (2147483647 : Int32)) % N)), .val (.int ((p2 &&& (2147483647 : Int32)) % N)), .val (.int ((p3 &&& (2147483647 : Int32)) % N)), .val (.int ((p4 &&& (2147483647 : Int32)) % N)), .val (.int ((1 : Int32) + ((p5 &&& (2147483647 : Int32)) % (3 : Int32)))), .val (.int ((1 : Int32) + (((p5.toUInt32 >>> ((2 : Int32) &&& 31).toUInt32).toInt32) % (3 : Int32)))), .val (.int ((1 : Int32) + (((p5.toUInt32 >>> ((4 : Int32) &&& 31).toUInt32).toInt32) % (3 : Int32)))), .unset] [])) P
  obtain ⟨iA, e_iA⟩ : ∃ z, z = ((p1 &&& (2147483647 : Int32)) % N) := ⟨_, rfl⟩
  rw [← e_iA]
  have hA := own_idx _ hN1 e_iA
  obtain ⟨iB, e_iB⟩ : ∃ z, z = ((p2 &&& (2147483647 : Int32)) % N) := ⟨_, rfl⟩
  rw [← e_iB]
  have hBq := own_idx _ hN1 e_iB
  obtain ⟨iC, e_iC⟩ : ∃ z, z = ((p3 &&& (2147483647 : Int32)) % N) := ⟨_, rfl⟩
  rw [← e_iC]
  have hCq := own_idx _ hN1 e_iC
  obtain ⟨iD, e_iD⟩ : ∃ z, z = ((p4 &&& (2147483647 : Int32)) % N) := ⟨_, rfl⟩
  rw [← e_iD]
  have hD := own_idx _ hN1 e_iD
  obtain ⟨m1, e_m1⟩ : ∃ z, z = ((1 : Int32) + ((p5 &&& (2147483647 : Int32)) % (3 : Int32))) := ⟨_, rfl⟩
  rw [← e_m1]
  have hm1 := own_m1 _ e_m1
  obtain ⟨m2, e_m2⟩ : ∃ z, z = ((1 : Int32) + (((p5.toUInt32 >>> ((2 : Int32) &&& 31).toUInt32).toInt32) % (3 : Int32))) := ⟨_, rfl⟩
  rw [← e_m2]
  have hm2 := own_m2 _ _ 2 (by decide) (by decide) e_m2
  obtain ⟨m3, e_m3⟩ : ∃ z, z = ((1 : Int32) + (((p5.toUInt32 >>> ((4 : Int32) &&& 31).toUInt32).toInt32) % (3 : Int32))) := ⟨_, rfl⟩
  rw [← e_m3]
  have hm3 := own_m2 _ _ 4 (by decide) (by decide) e_m3
  clear e_iA e_iB e_iC e_iD e_m1 e_m2 e_m3
  show Go pg.tables ev below (s₁.setTop (mkF mi 77 #[.val (.int p0), .val (.int p1), .val (.int p2), .val (.int p3), .val (.int p4), .val (.int p5), .val (.int N), .val (.int iA), .val (.int iB), .val (.int iC), .val (.int iD), .val (.int m1), .val (.int m2), .val (.int m3), .unset] [])) P
  obtain ⟨T1, h1, X1, e1, E1, A1, D1, -, st1⟩ := newO X0 hx hZ hown (hw _ (List.mem_of_getElem? (i := 1) rfl)) (hw _ (List.mem_of_getElem? (i := 2) rfl)) (hw _ (List.mem_of_getElem? (i := 3) rfl)) e0 (g := (mkF mi 77 #[.val (.int p0), .val (.int p1), .val (.int p2), .val (.int p3), .val (.int p4), .val (.int p5), .val (.int N), .val (.int iA), .val (.int iB), .val (.int iC), .val (.int iD), .val (.int m1), .val (.int m2), .val (.int m3), .unset] [])) rfl (hb hby at_77) (by decide) (by decide)
  obtain ⟨b1, g1⟩ : ∃ z, z = h0.size := ⟨_, rfl⟩
  rw [← g1] at A1 D1 st1
  have Zs2 : n0 ≤ h1.size := Nat.le_trans Z0 E1.1
  have g_b1 : n0 ≤ b1 := Nat.le_trans Z0 (Nat.le_of_eq g1.symm)
  have F1_12 : Fld Z h1 b1 "com/example/hedge/hedge/automaton/PairMarks" "rows" "[I" .null := D1 (Or.inl (hw _ (List.mem_of_getElem? (i := 12) rfl))) (ty := (.array .int)) (by decide)
  have F1_15 : Fld Z h1 b1 "com/example/hedge/hedge/automaton/PairMarks" "words" "I" (.int (0 : Int32)) := D1 (Or.inr (hw _ (List.mem_of_getElem? (i := 15) rfl))) (ty := .int) (by decide)
  have F1_19 : Fld Z h1 b1 "com/example/hedge/hedge/automaton/PairMarks" "tables" "[[I" .null := D1 (Or.inr (hw _ (List.mem_of_getElem? (i := 19) rfl))) (ty := (.array (.array .int))) (by decide)
  have F1_21 : Fld Z h1 b1 "com/example/hedge/hedge/automaton/PairMarks" "sizes" "[I" .null := D1 (Or.inr (hw _ (List.mem_of_getElem? (i := 21) rfl))) (ty := (.array .int)) (by decide)
  have F1_25 : Fld Z h1 b1 "com/example/hedge/hedge/automaton/PairMarks" "bitmaps" "[[J" .null := D1 (Or.inr (hw _ (List.mem_of_getElem? (i := 25) rfl))) (ty := (.array (.array .long))) (by decide)
  have F1_36 : Fld Z h1 b1 "com/example/hedge/hedge/automaton/PairMarks" "rowCount" "I" (.int (0 : Int32)) := D1 (Or.inl (hw _ (List.mem_of_getElem? (i := 36) rfl))) (ty := .int) (by decide)
  refine Go.st st1 ?_
  show Go pg.tables ev below (T1.setTop (mkF mi 80 #[.val (.int p0), .val (.int p1), .val (.int p2), .val (.int p3), .val (.int p4), .val (.int p5), .val (.int N), .val (.int iA), .val (.int iB), .val (.int iC), .val (.int iD), .val (.int m1), .val (.int m2), .val (.int m3), .unset] [(.ref b1)])) P
  refine Go.st (fun t_ k_ => XS.dup X1.here hx rfl (hb hby at_80) rfl rfl k_) ?_
  show Go pg.tables ev below (T1.setTop (mkF mi 81 #[.val (.int p0), .val (.int p1), .val (.int p2), .val (.int p3), .val (.int p4), .val (.int p5), .val (.int N), .val (.int iA), .val (.int iB), .val (.int iC), .val (.int iD), .val (.int m1), .val (.int m2), .val (.int m3), .unset] [(.ref b1), (.ref b1)])) P
  refine Go.st (fun t_ k_ => XS.iload X1.here hx rfl (hb hby at_81) rfl k_) ?_
  show Go pg.tables ev below (T1.setTop (mkF mi 83 #[.val (.int p0), .val (.int p1), .val (.int p2), .val (.int p3), .val (.int p4), .val (.int p5), .val (.int N), .val (.int iA), .val (.int iB), .val (.int iC), .val (.int iD), .val (.int m1), .val (.int m2), .val (.int m3), .unset] [(.int N), (.ref b1), (.ref b1)])) P
  obtain ⟨_, _, ⟨T3, L3, k3, n3⟩, -, X3, ⟨Lc3, hQ3, l3, y3, z3⟩, st3⟩ := X1.specialBack hx (y := (⟨"com/example/hedge/hedge/automaton/PairMarks", "<init>", "(I)V"⟩ : MethodName)) rfl hown (mvT hZ (hw _ (List.mem_of_getElem? (i := 4) rfl))) (mvT hZ (hw _ (List.mem_of_getElem? (i := 5) rfl))) (mvT hZ (hw _ (List.mem_of_getElem? (i := 6) rfl))) (by decide) (backOf (W := 1) (rmI l Z a0 hw [] b1 N h1 n0 Zs2 A1 g_b1 F1_12 F1_19 F1_21 F1_25 F1_15 F1_36 (own_ltN hN2) (own_cap hN1 hN2)) hZ (hw _ (List.mem_of_getElem? (i := 6) rfl)) (hw _ (List.mem_of_getElem? (i := 3) rfl)) (by decide) (by decide)) (g := (mkF mi 83 #[.val (.int p0), .val (.int p1), .val (.int p2), .val (.int p3), .val (.int p4), .val (.int p5), .val (.int N), .val (.int iA), .val (.int iB), .val (.int iC), .val (.int iD), .val (.int m1), .val (.int m2), .val (.int m3), .unset] [(.int N), (.ref b1), (.ref b1)])) rfl (by rw [hml]; rfl) (Steps.refl _) (a := b1) (argsL := [(.int N)]) (rest := [(.ref b1)]) (lenOf pd_4 rfl) rfl (by show 2 * 0 + _ ≤ _; exact Nat.le_of_eq rfl) (hb hby at_83) (fun _ _ => ⟨rfl, e1, (by decide : 1 + 4 ≤ _), (by decide : 6 + 784 ≤ _)⟩)
  dsimp only [Pt.U, Pt.locs, Pt.cells, Pt.slots] at X3 l3 y3 z3 st3 hQ3
  subst l3 y3 z3
  obtain ⟨h3, e3⟩ : ∃ z, T3.heap = z := ⟨_, rfl⟩
  rw [e3] at hQ3
  obtain ⟨rfl, N3q, K3, rw, tb, sz, bm, kR, kT, kS, kB, z_rw, z_tb, z_sz, z_bm, g_rw, g_tb, g_sz, g_bm, ne_o_rw, ne_o_tb, ne_o_sz, ne_o_bm, ne_rw_tb, ne_rw_sz, ne_rw_bm, ne_tb_sz, ne_tb_bm, ne_sz_bm, FI0, FI1, FI2, FI3, FI4, FI5, V_rw, V_tb, V_sz, V_bm, O_tb, O_bm⟩ := hQ3
  have N3 := Fr.app N0 N3q
  have Zs4 : n0 ≤ h3.size := Nat.le_trans Zs2 K3.1
  obtain ⟨wd, hwd⟩ : ∃ z, z = fWd N := ⟨_, rfl⟩
  rw [← hwd] at FI4
  obtain ⟨hwd1, hwd2⟩ := own_wdr hN1 hN2 hwd
  refine Go.tr st3 ?_
  show Go pg.tables ev below (T3.setTop (mkF mi 86 #[.val (.int p0), .val (.int p1), .val (.int p2), .val (.int p3), .val (.int p4), .val (.int p5), .val (.int N), .val (.int iA), .val (.int iB), .val (.int iC), .val (.int iD), .val (.int m1), .val (.int m2), .val (.int m3), .unset] [(.ref b1)])) P
  refine Go.st (fun t_ k_ => XS.astore X3.here hx rfl (hb hby at_86) rfl rfl (l' := #[.val (.int p0), .val (.int p1), .val (.int p2), .val (.int p3), .val (.int p4), .val (.int p5), .val (.int N), .val (.int iA), .val (.int iB), .val (.int iC), .val (.int iD), .val (.int m1), .val (.int m2), .val (.int m3), .val (.ref b1)]) rfl k_) ?_
  show Go pg.tables ev below (T3.setTop (mkF mi 88 #[.val (.int p0), .val (.int p1), .val (.int p2), .val (.int p3), .val (.int p4), .val (.int p5), .val (.int N), .val (.int iA), .val (.int iB), .val (.int iC), .val (.int iD), .val (.int m1), .val (.int m2), .val (.int m3), .val (.ref b1)] [])) P
  by_cases hwo : (4 : Int64) < ((2 : Int64) * (wd.toInt64))
  · by_cases hac : iA = iC
    · subst hac
      by_cases hbd : iB = iD
      · subst hbd
        show Go pg.tables ev below (T3.setTop (mkF mi 88 #[.val (.int p0), .val (.int p1), .val (.int p2), .val (.int p3), .val (.int p4), .val (.int p5), .val (.int N), .val (.int iA), .val (.int iB), .val (.int iA), .val (.int iB), .val (.int m1), .val (.int m2), .val (.int m3), .val (.ref b1)] [])) P
        refine Go.st (fun t_ k_ => XS.aload X3.here hx rfl (hb hby at_88) rfl rfl k_) ?_
        show Go pg.tables ev below (T3.setTop (mkF mi 90 #[.val (.int p0), .val (.int p1), .val (.int p2), .val (.int p3), .val (.int p4), .val (.int p5), .val (.int N), .val (.int iA), .val (.int iB), .val (.int iA), .val (.int iB), .val (.int m1), .val (.int m2), .val (.int m3), .val (.ref b1)] [(.ref b1)])) P
        refine Go.st (fun t_ k_ => XS.iload X3.here hx rfl (hb hby at_90) rfl k_) ?_
        show Go pg.tables ev below (T3.setTop (mkF mi 92 #[.val (.int p0), .val (.int p1), .val (.int p2), .val (.int p3), .val (.int p4), .val (.int p5), .val (.int N), .val (.int iA), .val (.int iB), .val (.int iA), .val (.int iB), .val (.int m1), .val (.int m2), .val (.int m3), .val (.ref b1)] [(.int iA), (.ref b1)])) P
        refine Go.st (fun t_ k_ => XS.iload X3.here hx rfl (hb hby at_92) rfl k_) ?_
        show Go pg.tables ev below (T3.setTop (mkF mi 94 #[.val (.int p0), .val (.int p1), .val (.int p2), .val (.int p3), .val (.int p4), .val (.int p5), .val (.int N), .val (.int iA), .val (.int iB), .val (.int iA), .val (.int iB), .val (.int m1), .val (.int m2), .val (.int m3), .val (.ref b1)] [(.int iB), (.int iA), (.ref b1)])) P
        refine Go.st (fun t_ k_ => XS.iload X3.here hx rfl (hb hby at_94) rfl k_) ?_
        show Go pg.tables ev below (T3.setTop (mkF mi 96 #[.val (.int p0), .val (.int p1), .val (.int p2), .val (.int p3), .val (.int p4), .val (.int p5), .val (.int N), .val (.int iA), .val (.int iB), .val (.int iA), .val (.int iB), .val (.int m1), .val (.int m2), .val (.int m3), .val (.ref b1)] [(.int m1), (.int iB), (.int iA), (.ref b1)])) P
        have f6 := (A1.keep K3)
        obtain ⟨cq5, kq5, q5a, q5b, q5c⟩ := isOf hZ e3 f6
        obtain ⟨_, _, ⟨T5, L5, k5, n5⟩, -, X5, ⟨Lc5, hQ5, l5, y5, z5⟩, st5⟩ := X3.virtualBack hx (y := (⟨"com/example/hedge/hedge/automaton/PairMarks", "add", "(III)I"⟩ : MethodName)) (z := (⟨"com/example/hedge/hedge/automaton/PairMarks", "add", "(III)I"⟩ : MethodName)) hown (mvT hZ (hw _ (List.mem_of_getElem? (i := 26) rfl))) (mvT hZ (hw _ (List.mem_of_getElem? (i := 27) rfl))) (notFace_of_selects (args := #[]) (mvT hZ (hw _ (List.mem_of_getElem? (i := 29) rfl)))) (mvT hZ (hw _ (List.mem_of_getElem? (i := 29) rfl))) (mvT hZ (hw _ (List.mem_of_getElem? (i := 28) rfl))) (by decide) (backOf (W := 0) (rmAN0T l Z a0 hw [] b1 iA iB m1 rw tb sz bm kR kT kS kB N  wd [] [] [] [(.int (0 : Int32)), (.int (0 : Int32)), (.int (0 : Int32)), (.int (0 : Int32)), (.int (0 : Int32)), (.int (0 : Int32)), (.int (0 : Int32)), (.int (0 : Int32)), (.int (0 : Int32)), (.int (0 : Int32)), (.int (0 : Int32)), (.int (0 : Int32)), (.int (0 : Int32)), (.int (0 : Int32)), (.int (0 : Int32)), (.int (0 : Int32))] h3 n0 Zs4 f6 g_b1 g_rw g_tb g_sz g_bm ne_o_rw ne_o_tb ne_o_sz ne_o_bm ne_rw_tb ne_rw_sz ne_rw_bm ne_tb_sz ne_tb_bm ne_sz_bm FI0 FI1 FI2 FI3 FI4 FI5 V_rw rfl V_tb V_sz V_bm O_tb O_bm hA.1 hA.2 hwo hN1 hN2 hwd hwd1 hwd2 hBq rfl rfl rfl) hZ (hw _ (List.mem_of_getElem? (i := 30) rfl)) (hw _ (List.mem_of_getElem? (i := 3) rfl)) (by decide) (by decide)) q5a q5c (g := (mkF mi 96 #[.val (.int p0), .val (.int p1), .val (.int p2), .val (.int p3), .val (.int p4), .val (.int p5), .val (.int N), .val (.int iA), .val (.int iB), .val (.int iA), .val (.int iB), .val (.int m1), .val (.int m2), .val (.int m3), .val (.ref b1)] [(.int m1), (.int iB), (.int iA), (.ref b1)])) rfl (by rw [hml]; rfl) (Steps.refl _) (argsL := [(.int iA), (.int iB), (.int m1)]) (rest := []) (lenOf pd_5 rfl) rfl (by show 2 * 0 + _ ≤ _; exact Nat.le_of_eq rfl) (hb hby at_96) (fun _ _ => ⟨rfl, e3, (by decide : 5 + 1 ≤ _), (by decide : 790 + 4 ≤ _)⟩)
        dsimp only [Pt.U, Pt.locs, Pt.cells, Pt.slots] at X5 l5 y5 z5 st5 hQ5
        subst l5 y5 z5
        obtain ⟨h5, e5⟩ : ∃ z, T5.heap = z := ⟨_, rfl⟩
        rw [e5] at hQ5
        obtain ⟨rfl, N5q, K5, x5, kx5, z_x5, g_x5, FB5_0, FB5_1, FB5_2, FB5_3, FB5_4, FB5_5, AR5, AB5, AZ5, AX5⟩ := hQ5
        have N5 := Fr.app N3 N5q
        have Zs7 : n0 ≤ h5.size := Nat.le_trans Zs4 K5.1
        have AS5 : Arv Z h5 rw kR .int (16 : Int32) [(.int iA), (.int (0 : Int32)), (.int (0 : Int32)), (.int (0 : Int32)), (.int (0 : Int32)), (.int (0 : Int32)), (.int (0 : Int32)), (.int (0 : Int32)), (.int (0 : Int32)), (.int (0 : Int32)), (.int (0 : Int32)), (.int (0 : Int32)), (.int (0 : Int32)), (.int (0 : Int32)), (.int (0 : Int32)), (.int (0 : Int32))] (.int (0 : Int32)) := AR5
        have ne_b1_x5 : b1 ≠ x5 := Nat.ne_of_lt (Nat.lt_of_lt_of_le f6.lt z_x5)
        have ne_rw_x5 : rw ≠ x5 := Nat.ne_of_lt (Nat.lt_of_lt_of_le V_rw.lt z_x5)
        have ne_tb_x5 : tb ≠ x5 := Nat.ne_of_lt (Nat.lt_of_lt_of_le V_tb.lt z_x5)
        have ne_sz_x5 : sz ≠ x5 := Nat.ne_of_lt (Nat.lt_of_lt_of_le V_sz.lt z_x5)
        have ne_bm_x5 : bm ≠ x5 := Nat.ne_of_lt (Nat.lt_of_lt_of_le V_bm.lt z_x5)
        refine Go.tr st5 ?_
        show Go pg.tables ev below (T5.setTop (mkF mi 99 #[.val (.int p0), .val (.int p1), .val (.int p2), .val (.int p3), .val (.int p4), .val (.int p5), .val (.int N), .val (.int iA), .val (.int iB), .val (.int iA), .val (.int iB), .val (.int m1), .val (.int m2), .val (.int m3), .val (.ref b1)] [(.int m1)])) P
        refine Go.st (fun t_ k_ => XS.pop X5.here hx rfl (hb hby at_99) rfl rfl k_) ?_
        show Go pg.tables ev below (T5.setTop (mkF mi 100 #[.val (.int p0), .val (.int p1), .val (.int p2), .val (.int p3), .val (.int p4), .val (.int p5), .val (.int N), .val (.int iA), .val (.int iB), .val (.int iA), .val (.int iB), .val (.int m1), .val (.int m2), .val (.int m3), .val (.ref b1)] [])) P
        refine Go.st (fun t_ k_ => XS.aload X5.here hx rfl (hb hby at_100) rfl rfl k_) ?_
        show Go pg.tables ev below (T5.setTop (mkF mi 102 #[.val (.int p0), .val (.int p1), .val (.int p2), .val (.int p3), .val (.int p4), .val (.int p5), .val (.int N), .val (.int iA), .val (.int iB), .val (.int iA), .val (.int iB), .val (.int m1), .val (.int m2), .val (.int m3), .val (.ref b1)] [(.ref b1)])) P
        refine Go.st (fun t_ k_ => XS.iload X5.here hx rfl (hb hby at_102) rfl k_) ?_
        show Go pg.tables ev below (T5.setTop (mkF mi 104 #[.val (.int p0), .val (.int p1), .val (.int p2), .val (.int p3), .val (.int p4), .val (.int p5), .val (.int N), .val (.int iA), .val (.int iB), .val (.int iA), .val (.int iB), .val (.int m1), .val (.int m2), .val (.int m3), .val (.ref b1)] [(.int iA), (.ref b1)])) P
        refine Go.st (fun t_ k_ => XS.iload X5.here hx rfl (hb hby at_104) rfl k_) ?_
        show Go pg.tables ev below (T5.setTop (mkF mi 106 #[.val (.int p0), .val (.int p1), .val (.int p2), .val (.int p3), .val (.int p4), .val (.int p5), .val (.int N), .val (.int iA), .val (.int iB), .val (.int iA), .val (.int iB), .val (.int m1), .val (.int m2), .val (.int m3), .val (.ref b1)] [(.int iB), (.int iA), (.ref b1)])) P
        refine Go.st (fun t_ k_ => XS.iload X5.here hx rfl (hb hby at_106) rfl k_) ?_
        show Go pg.tables ev below (T5.setTop (mkF mi 108 #[.val (.int p0), .val (.int p1), .val (.int p2), .val (.int p3), .val (.int p4), .val (.int p5), .val (.int N), .val (.int iA), .val (.int iB), .val (.int iA), .val (.int iB), .val (.int m1), .val (.int m2), .val (.int m3), .val (.ref b1)] [(.int m2), (.int iB), (.int iA), (.ref b1)])) P
        have f9 := (f6.keep K5)
        have f10 := (V_bm.keep K5 (ninS (Ne.symm ne_o_bm) (ninS (Ne.symm ne_rw_bm) (ninS (Ne.symm ne_tb_bm) (ninS (Ne.symm ne_sz_bm) nin0)))))
        have hkB1 : 0 ≤ iB.toInt ∧ iB.toInt < 256 := own_rng hN2 hBq
        obtain ⟨cq8, kq8, q8a, q8b, q8c⟩ := isOf hZ e5 f9
        obtain ⟨_, _, ⟨T8, L8, k8, n8⟩, -, X8, ⟨Lc8, hQ8, l8, y8, z8⟩, st8⟩ := X5.virtualBack hx (y := (⟨"com/example/hedge/hedge/automaton/PairMarks", "add", "(III)I"⟩ : MethodName)) (z := (⟨"com/example/hedge/hedge/automaton/PairMarks", "add", "(III)I"⟩ : MethodName)) hown (mvT hZ (hw _ (List.mem_of_getElem? (i := 26) rfl))) (mvT hZ (hw _ (List.mem_of_getElem? (i := 27) rfl))) (notFace_of_selects (args := #[]) (mvT hZ (hw _ (List.mem_of_getElem? (i := 29) rfl)))) (mvT hZ (hw _ (List.mem_of_getElem? (i := 29) rfl))) (mvT hZ (hw _ (List.mem_of_getElem? (i := 28) rfl))) (by decide) (backOf (W := 0) (rmAET1 l Z a0 hw [] b1 iA iB m2 tb bm kT kB N ((iA, (.ref x5)) :: []) [] x5 kx5 sz kS ((iA, (.int (1 : Int32))) :: []) ((fKe iB) ||| m1)  h5 n0 Zs7 f9 FB5_1 FB5_3 AB5 f10 hA.1 hA.2 rfl (own_hit hA.1) FB5_2 AZ5 (own_hit hA.1) AX5 (own_key0 hkB1.1 hkB1.2 hm1.1 hm1.2) (own_key1 hkB1.1 hkB1.2 hm1.1 hm1.2) g_x5 g_sz ne_bm_x5 ne_tb_x5 ne_sz_x5 (Ne.symm ne_sz_bm) ne_tb_sz ne_b1_x5 ne_o_sz) hZ (hw _ (List.mem_of_getElem? (i := 30) rfl)) (hw _ (List.mem_of_getElem? (i := 3) rfl)) (by decide) (by decide)) q8a q8c (g := (mkF mi 108 #[.val (.int p0), .val (.int p1), .val (.int p2), .val (.int p3), .val (.int p4), .val (.int p5), .val (.int N), .val (.int iA), .val (.int iB), .val (.int iA), .val (.int iB), .val (.int m1), .val (.int m2), .val (.int m3), .val (.ref b1)] [(.int m2), (.int iB), (.int iA), (.ref b1)])) rfl (by rw [hml]; rfl) (Steps.refl _) (argsL := [(.int iA), (.int iB), (.int m2)]) (rest := []) (lenOf pd_5 rfl) rfl (by show 2 * 0 + _ ≤ _; exact Nat.le_of_eq rfl) (hb hby at_108) (fun _ _ => ⟨rfl, e5, (by decide : 6 + 0 ≤ _), (by decide : 794 + 0 ≤ _)⟩)
        dsimp only [Pt.U, Pt.locs, Pt.cells, Pt.slots] at X8 l8 y8 z8 st8 hQ8
        subst l8 y8 z8
        obtain ⟨h8, e8⟩ : ∃ z, T8.heap = z := ⟨_, rfl⟩
        rw [e8] at hQ8
        obtain ⟨r8, hs8, rfl, N8q, K8, AZ8⟩ := hQ8
        have N8 := Fr.app N5 N8q
        have Zs11 : n0 ≤ h8.size := Nat.le_trans Zs7 K8.1
        refine Go.tr st8 ?_
        show Go pg.tables ev below (T8.setTop (mkF mi 111 #[.val (.int p0), .val (.int p1), .val (.int p2), .val (.int p3), .val (.int p4), .val (.int p5), .val (.int N), .val (.int iA), .val (.int iB), .val (.int iA), .val (.int iB), .val (.int m1), .val (.int m2), .val (.int m3), .val (.ref b1)] [(.int r8)])) P
        refine Go.st (fun t_ k_ => XS.pop X8.here hx rfl (hb hby at_111) rfl rfl k_) ?_
        show Go pg.tables ev below (T8.setTop (mkF mi 112 #[.val (.int p0), .val (.int p1), .val (.int p2), .val (.int p3), .val (.int p4), .val (.int p5), .val (.int N), .val (.int iA), .val (.int iB), .val (.int iA), .val (.int iB), .val (.int m1), .val (.int m2), .val (.int m3), .val (.ref b1)] [])) P
        refine Go.st (fun t_ k_ => XS.aload X8.here hx rfl (hb hby at_112) rfl rfl k_) ?_
        show Go pg.tables ev below (T8.setTop (mkF mi 114 #[.val (.int p0), .val (.int p1), .val (.int p2), .val (.int p3), .val (.int p4), .val (.int p5), .val (.int N), .val (.int iA), .val (.int iB), .val (.int iA), .val (.int iB), .val (.int m1), .val (.int m2), .val (.int m3), .val (.ref b1)] [(.ref b1)])) P
        have f13 := (f9.keep K8)
        have f14 := (FB5_0.keep K8 (ninS ne_b1_x5 (ninS ne_o_sz nin0)))
        have f15 := (FB5_1.keep K8 (ninS ne_b1_x5 (ninS ne_o_sz nin0)))
        have f16 := (FB5_2.keep K8 (ninS ne_b1_x5 (ninS ne_o_sz nin0)))
        have f17 := (FB5_3.keep K8 (ninS ne_b1_x5 (ninS ne_o_sz nin0)))
        have f18 := (FB5_4.keep K8 (ninS ne_b1_x5 (ninS ne_o_sz nin0)))
        have f19 := (FB5_5.keep K8 (ninS ne_b1_x5 (ninS ne_o_sz nin0)))
        have f20 := (AS5.keep K8 (ninS ne_rw_x5 (ninS ne_rw_sz nin0)))
        have f21 := (AB5.keep K8 (ninS ne_tb_x5 (ninS ne_tb_sz nin0)))
        have f22 := (f10.keep K8 (ninS ne_bm_x5 (ninS (Ne.symm ne_sz_bm) nin0)))
        obtain ⟨cq12, kq12, q12a, q12b, q12c⟩ := isOf hZ e8 f13
        obtain ⟨_, _, ⟨T12, L12, k12, n12⟩, -, X12, ⟨Lc12, hQ12, l12, y12, z12⟩, st12⟩ := X8.virtualBack hx (y := (⟨"com/example/hedge/hedge/automaton/PairMarks", "clear", "()V"⟩ : MethodName)) (z := (⟨"com/example/hedge/hedge/automaton/PairMarks", "clear", "()V"⟩ : MethodName)) hown (mvT hZ (hw _ (List.mem_of_getElem? (i := 52) rfl))) (mvT hZ (hw _ (List.mem_of_getElem? (i := 53) rfl))) (notFace_of_selects (args := #[]) (mvT hZ (hw _ (List.mem_of_getElem? (i := 55) rfl)))) (mvT hZ (hw _ (List.mem_of_getElem? (i := 55) rfl))) (mvT hZ (hw _ (List.mem_of_getElem? (i := 54) rfl))) (by decide) (backOf (W := 0) (rmC1 l Z a0 hw [] b1 rw tb sz bm kR kT kS kB N  wd ((iA, (.ref x5)) :: []) hs8 [] [(.int (0 : Int32)), (.int (0 : Int32)), (.int (0 : Int32)), (.int (0 : Int32)), (.int (0 : Int32)), (.int (0 : Int32)), (.int (0 : Int32)), (.int (0 : Int32)), (.int (0 : Int32)), (.int (0 : Int32)), (.int (0 : Int32)), (.int (0 : Int32)), (.int (0 : Int32)), (.int (0 : Int32)), (.int (0 : Int32))] iA h8 n0 Zs11 f13 g_b1 g_rw g_tb g_sz g_bm ne_o_rw ne_o_tb ne_o_sz ne_o_bm ne_rw_tb ne_rw_sz ne_rw_bm ne_tb_sz ne_tb_bm ne_sz_bm f14 f15 f16 f17 f18 f19 f20 f21 AZ8 f22 O_tb O_bm hA.1 hA.2) hZ (hw _ (List.mem_of_getElem? (i := 56) rfl)) (hw _ (List.mem_of_getElem? (i := 3) rfl)) (by decide) (by decide)) q12a q12c (g := (mkF mi 114 #[.val (.int p0), .val (.int p1), .val (.int p2), .val (.int p3), .val (.int p4), .val (.int p5), .val (.int N), .val (.int iA), .val (.int iB), .val (.int iA), .val (.int iB), .val (.int m1), .val (.int m2), .val (.int m3), .val (.ref b1)] [(.ref b1)])) rfl (by rw [hml]; rfl) (Steps.refl _) (argsL := []) (rest := []) (lenOf pd_6 rfl) rfl (by show 2 * 0 + _ ≤ _; exact Nat.le_of_eq rfl) (hb hby at_114) (fun _ _ => ⟨rfl, e8, (by decide : 6 + 0 ≤ _), (by decide : 794 + 0 ≤ _)⟩)
        dsimp only [Pt.U, Pt.locs, Pt.cells, Pt.slots] at X12 l12 y12 z12 st12 hQ12
        subst l12 y12 z12
        obtain ⟨h12, e12⟩ : ∃ z, T12.heap = z := ⟨_, rfl⟩
        rw [e12] at hQ12
        obtain ⟨rfl, N12q, K12, FB12_0, FB12_1, FB12_2, FB12_3, FB12_4, FB12_5, CT12, CB12, CS12⟩ := hQ12
        have N12 := Fr.app N8 N12q
        have Zs23 : n0 ≤ h12.size := Nat.le_trans Zs11 K12.1
        refine Go.tr st12 ?_
        show Go pg.tables ev below (T12.setTop (mkF mi 117 #[.val (.int p0), .val (.int p1), .val (.int p2), .val (.int p3), .val (.int p4), .val (.int p5), .val (.int N), .val (.int iA), .val (.int iB), .val (.int iA), .val (.int iB), .val (.int m1), .val (.int m2), .val (.int m3), .val (.ref b1)] [])) P
        refine Go.st (fun t_ k_ => XS.aload X12.here hx rfl (hb hby at_117) rfl rfl k_) ?_
        show Go pg.tables ev below (T12.setTop (mkF mi 119 #[.val (.int p0), .val (.int p1), .val (.int p2), .val (.int p3), .val (.int p4), .val (.int p5), .val (.int N), .val (.int iA), .val (.int iB), .val (.int iA), .val (.int iB), .val (.int m1), .val (.int m2), .val (.int m3), .val (.ref b1)] [(.ref b1)])) P
        have f25 := (f13.keep K12)
        obtain ⟨cq24, kq24, q24a, q24b, q24c⟩ := isOf hZ e12 f25
        obtain ⟨_, _, ⟨T24, L24, k24, n24⟩, -, X24, ⟨Lc24, hQ24, l24, y24, z24⟩, st24⟩ := X12.virtualBack hx (y := (⟨"com/example/hedge/hedge/automaton/PairMarks", "rowCount", "()I"⟩ : MethodName)) (z := (⟨"com/example/hedge/hedge/automaton/PairMarks", "rowCount", "()I"⟩ : MethodName)) hown (mvT hZ (hw _ (List.mem_of_getElem? (i := 57) rfl))) (mvT hZ (hw _ (List.mem_of_getElem? (i := 58) rfl))) (notFace_of_selects (args := #[]) (mvT hZ (hw _ (List.mem_of_getElem? (i := 60) rfl)))) (mvT hZ (hw _ (List.mem_of_getElem? (i := 60) rfl))) (mvT hZ (hw _ (List.mem_of_getElem? (i := 59) rfl))) (by decide) (backOf (W := 0) (rmRC l Z a0 hw [] b1 (0 : Int32) h12 n0 Zs23 FB12_5) hZ (hw _ (List.mem_of_getElem? (i := 61) rfl)) (hw _ (List.mem_of_getElem? (i := 3) rfl)) (by decide) (by decide)) q24a q24c (g := (mkF mi 119 #[.val (.int p0), .val (.int p1), .val (.int p2), .val (.int p3), .val (.int p4), .val (.int p5), .val (.int N), .val (.int iA), .val (.int iB), .val (.int iA), .val (.int iB), .val (.int m1), .val (.int m2), .val (.int m3), .val (.ref b1)] [(.ref b1)])) rfl (by rw [hml]; rfl) (Steps.refl _) (argsL := []) (rest := []) (lenOf pd_7 rfl) rfl (by show 2 * 0 + _ ≤ _; exact Nat.le_of_eq rfl) (hb hby at_119) (fun _ _ => ⟨rfl, e12, (by decide : 6 + 0 ≤ _), (by decide : 794 + 0 ≤ _)⟩)
        dsimp only [Pt.U, Pt.locs, Pt.cells, Pt.slots] at X24 l24 y24 z24 st24 hQ24
        subst l24 y24 z24
        obtain ⟨rfl, N24q, e24⟩ := hQ24
        have N24 := Fr.app N12 N24q
        refine Go.tr st24 ?_
        show Go pg.tables ev below (T24.setTop (mkF mi 122 #[.val (.int p0), .val (.int p1), .val (.int p2), .val (.int p3), .val (.int p4), .val (.int p5), .val (.int N), .val (.int iA), .val (.int iB), .val (.int iA), .val (.int iB), .val (.int m1), .val (.int m2), .val (.int m3), .val (.ref b1)] [(.int (0 : Int32))])) P
        refine Go.st (fun t_ k_ => XS.ifYes X24.here hx rfl (pc0 := 122) (pc' := 127) rfl (hb hby at_122) rfl ((if0 _ _).trans (teq rfl).1) (by decide) (by decide) k_) ?_
        show Go pg.tables ev below (T24.setTop (mkF mi 127 #[.val (.int p0), .val (.int p1), .val (.int p2), .val (.int p3), .val (.int p4), .val (.int p5), .val (.int N), .val (.int iA), .val (.int iB), .val (.int iA), .val (.int iB), .val (.int m1), .val (.int m2), .val (.int m3), .val (.ref b1)] [])) P
        refine Go.st (fun t_ k_ => XS.aload X24.here hx rfl (hb hby at_127) rfl rfl k_) ?_
        show Go pg.tables ev below (T24.setTop (mkF mi 129 #[.val (.int p0), .val (.int p1), .val (.int p2), .val (.int p3), .val (.int p4), .val (.int p5), .val (.int N), .val (.int iA), .val (.int iB), .val (.int iA), .val (.int iB), .val (.int m1), .val (.int m2), .val (.int m3), .val (.ref b1)] [(.ref b1)])) P
        refine Go.st (fun t_ k_ => XS.iload X24.here hx rfl (hb hby at_129) rfl k_) ?_
        show Go pg.tables ev below (T24.setTop (mkF mi 131 #[.val (.int p0), .val (.int p1), .val (.int p2), .val (.int p3), .val (.int p4), .val (.int p5), .val (.int N), .val (.int iA), .val (.int iB), .val (.int iA), .val (.int iB), .val (.int m1), .val (.int m2), .val (.int m3), .val (.ref b1)] [(.int iA), (.ref b1)])) P
        refine Go.st (fun t_ k_ => XS.iload X24.here hx rfl (hb hby at_131) rfl k_) ?_
        show Go pg.tables ev below (T24.setTop (mkF mi 133 #[.val (.int p0), .val (.int p1), .val (.int p2), .val (.int p3), .val (.int p4), .val (.int p5), .val (.int N), .val (.int iA), .val (.int iB), .val (.int iA), .val (.int iB), .val (.int m1), .val (.int m2), .val (.int m3), .val (.ref b1)] [(.int iB), (.int iA), (.ref b1)])) P
        obtain ⟨cq26, kq26, q26a, q26b, q26c⟩ := isOf hZ e24 f25
        obtain ⟨_, _, ⟨T26, L26, k26, n26⟩, -, X26, ⟨Lc26, hQ26, l26, y26, z26⟩, st26⟩ := X24.virtualBack hx (y := (⟨"com/example/hedge/hedge/automaton/PairMarks", "get", "(II)I"⟩ : MethodName)) (z := (⟨"com/example/hedge/hedge/automaton/PairMarks", "get", "(II)I"⟩ : MethodName)) hown (mvT hZ (hw _ (List.mem_of_getElem? (i := 62) rfl))) (mvT hZ (hw _ (List.mem_of_getElem? (i := 45) rfl))) (notFace_of_selects (args := #[]) (mvT hZ (hw _ (List.mem_of_getElem? (i := 47) rfl)))) (mvT hZ (hw _ (List.mem_of_getElem? (i := 47) rfl))) (mvT hZ (hw _ (List.mem_of_getElem? (i := 46) rfl))) (by decide) (backOf (W := 0) (rmG0 l Z a0 hw [] b1 iA iB tb bm kT kB N ((iA, .null) :: ((iA, (.ref x5)) :: [])) ((iA, .null) :: []) h12 n0 Zs23 FB12_1 FB12_3 CT12 CB12 hA.1 hA.2 (own_hit hA.1) (own_hit hA.1)) hZ (hw _ (List.mem_of_getElem? (i := 48) rfl)) (hw _ (List.mem_of_getElem? (i := 3) rfl)) (by decide) (by decide)) q26a q26c (g := (mkF mi 133 #[.val (.int p0), .val (.int p1), .val (.int p2), .val (.int p3), .val (.int p4), .val (.int p5), .val (.int N), .val (.int iA), .val (.int iB), .val (.int iA), .val (.int iB), .val (.int m1), .val (.int m2), .val (.int m3), .val (.ref b1)] [(.int iB), (.int iA), (.ref b1)])) rfl (by rw [hml]; rfl) (Steps.refl _) (argsL := [(.int iA), (.int iB)]) (rest := []) (lenOf pd_1 rfl) rfl (by show 2 * 0 + _ ≤ _; exact Nat.le_of_eq rfl) (hb hby at_133) (fun _ _ => ⟨rfl, e24, (by decide : 6 + 0 ≤ _), (by decide : 794 + 0 ≤ _)⟩)
        dsimp only [Pt.U, Pt.locs, Pt.cells, Pt.slots] at X26 l26 y26 z26 st26 hQ26
        subst l26 y26 z26
        obtain ⟨rfl, N26q, e26⟩ := hQ26
        have N26 := Fr.app N24 N26q
        refine Go.tr st26 ?_
        show Go pg.tables ev below (T26.setTop (mkF mi 136 #[.val (.int p0), .val (.int p1), .val (.int p2), .val (.int p3), .val (.int p4), .val (.int p5), .val (.int N), .val (.int iA), .val (.int iB), .val (.int iA), .val (.int iB), .val (.int m1), .val (.int m2), .val (.int m3), .val (.ref b1)] [(.int (0 : Int32))])) P
        refine Go.st (fun t_ k_ => XS.ifYes X26.here hx rfl (pc0 := 136) (pc' := 141) rfl (hb hby at_136) rfl ((if0 _ _).trans (teq rfl).1) (by decide) (by decide) k_) ?_
        show Go pg.tables ev below (T26.setTop (mkF mi 141 #[.val (.int p0), .val (.int p1), .val (.int p2), .val (.int p3), .val (.int p4), .val (.int p5), .val (.int N), .val (.int iA), .val (.int iB), .val (.int iA), .val (.int iB), .val (.int m1), .val (.int m2), .val (.int m3), .val (.ref b1)] [])) P
        refine Go.st (fun t_ k_ => XS.aload X26.here hx rfl (hb hby at_141) rfl rfl k_) ?_
        show Go pg.tables ev below (T26.setTop (mkF mi 143 #[.val (.int p0), .val (.int p1), .val (.int p2), .val (.int p3), .val (.int p4), .val (.int p5), .val (.int N), .val (.int iA), .val (.int iB), .val (.int iA), .val (.int iB), .val (.int m1), .val (.int m2), .val (.int m3), .val (.ref b1)] [(.ref b1)])) P
        refine Go.st (fun t_ k_ => XS.iload X26.here hx rfl (hb hby at_143) rfl k_) ?_
        show Go pg.tables ev below (T26.setTop (mkF mi 145 #[.val (.int p0), .val (.int p1), .val (.int p2), .val (.int p3), .val (.int p4), .val (.int p5), .val (.int N), .val (.int iA), .val (.int iB), .val (.int iA), .val (.int iB), .val (.int m1), .val (.int m2), .val (.int m3), .val (.ref b1)] [(.int iA), (.ref b1)])) P
        refine Go.st (fun t_ k_ => XS.iload X26.here hx rfl (hb hby at_145) rfl k_) ?_
        show Go pg.tables ev below (T26.setTop (mkF mi 147 #[.val (.int p0), .val (.int p1), .val (.int p2), .val (.int p3), .val (.int p4), .val (.int p5), .val (.int N), .val (.int iA), .val (.int iB), .val (.int iA), .val (.int iB), .val (.int m1), .val (.int m2), .val (.int m3), .val (.ref b1)] [(.int iB), (.int iA), (.ref b1)])) P
        obtain ⟨cq27, kq27, q27a, q27b, q27c⟩ := isOf hZ e26 f25
        obtain ⟨_, _, ⟨T27, L27, k27, n27⟩, -, X27, ⟨Lc27, hQ27, l27, y27, z27⟩, st27⟩ := X26.virtualBack hx (y := (⟨"com/example/hedge/hedge/automaton/PairMarks", "get", "(II)I"⟩ : MethodName)) (z := (⟨"com/example/hedge/hedge/automaton/PairMarks", "get", "(II)I"⟩ : MethodName)) hown (mvT hZ (hw _ (List.mem_of_getElem? (i := 62) rfl))) (mvT hZ (hw _ (List.mem_of_getElem? (i := 45) rfl))) (notFace_of_selects (args := #[]) (mvT hZ (hw _ (List.mem_of_getElem? (i := 47) rfl)))) (mvT hZ (hw _ (List.mem_of_getElem? (i := 47) rfl))) (mvT hZ (hw _ (List.mem_of_getElem? (i := 46) rfl))) (by decide) (backOf (W := 0) (rmG0 l Z a0 hw [] b1 iA iB tb bm kT kB N ((iA, .null) :: ((iA, (.ref x5)) :: [])) ((iA, .null) :: []) h12 n0 Zs23 FB12_1 FB12_3 CT12 CB12 hA.1 hA.2 (own_hit hA.1) (own_hit hA.1)) hZ (hw _ (List.mem_of_getElem? (i := 48) rfl)) (hw _ (List.mem_of_getElem? (i := 3) rfl)) (by decide) (by decide)) q27a q27c (g := (mkF mi 147 #[.val (.int p0), .val (.int p1), .val (.int p2), .val (.int p3), .val (.int p4), .val (.int p5), .val (.int N), .val (.int iA), .val (.int iB), .val (.int iA), .val (.int iB), .val (.int m1), .val (.int m2), .val (.int m3), .val (.ref b1)] [(.int iB), (.int iA), (.ref b1)])) rfl (by rw [hml]; rfl) (Steps.refl _) (argsL := [(.int iA), (.int iB)]) (rest := []) (lenOf pd_1 rfl) rfl (by show 2 * 0 + _ ≤ _; exact Nat.le_of_eq rfl) (hb hby at_147) (fun _ _ => ⟨rfl, e26, (by decide : 6 + 0 ≤ _), (by decide : 794 + 0 ≤ _)⟩)
        dsimp only [Pt.U, Pt.locs, Pt.cells, Pt.slots] at X27 l27 y27 z27 st27 hQ27
        subst l27 y27 z27
        obtain ⟨rfl, N27q, e27⟩ := hQ27
        have N27 := Fr.app N26 N27q
        refine Go.tr st27 ?_
        show Go pg.tables ev below (T27.setTop (mkF mi 150 #[.val (.int p0), .val (.int p1), .val (.int p2), .val (.int p3), .val (.int p4), .val (.int p5), .val (.int N), .val (.int iA), .val (.int iB), .val (.int iA), .val (.int iB), .val (.int m1), .val (.int m2), .val (.int m3), .val (.ref b1)] [(.int (0 : Int32))])) P
        refine Go.st (fun t_ k_ => XS.ifYes X27.here hx rfl (pc0 := 150) (pc' := 155) rfl (hb hby at_150) rfl ((if0 _ _).trans (teq rfl).1) (by decide) (by decide) k_) ?_
        show Go pg.tables ev below (T27.setTop (mkF mi 155 #[.val (.int p0), .val (.int p1), .val (.int p2), .val (.int p3), .val (.int p4), .val (.int p5), .val (.int N), .val (.int iA), .val (.int iB), .val (.int iA), .val (.int iB), .val (.int m1), .val (.int m2), .val (.int m3), .val (.ref b1)] [])) P
        refine Go.st (fun t_ k_ => XS.aload X27.here hx rfl (hb hby at_155) rfl rfl k_) ?_
        show Go pg.tables ev below (T27.setTop (mkF mi 157 #[.val (.int p0), .val (.int p1), .val (.int p2), .val (.int p3), .val (.int p4), .val (.int p5), .val (.int N), .val (.int iA), .val (.int iB), .val (.int iA), .val (.int iB), .val (.int m1), .val (.int m2), .val (.int m3), .val (.ref b1)] [(.ref b1)])) P
        refine Go.st (fun t_ k_ => XS.iload X27.here hx rfl (hb hby at_157) rfl k_) ?_
        show Go pg.tables ev below (T27.setTop (mkF mi 159 #[.val (.int p0), .val (.int p1), .val (.int p2), .val (.int p3), .val (.int p4), .val (.int p5), .val (.int N), .val (.int iA), .val (.int iB), .val (.int iA), .val (.int iB), .val (.int m1), .val (.int m2), .val (.int m3), .val (.ref b1)] [(.int iA), (.ref b1)])) P
        refine Go.st (fun t_ k_ => XS.iload X27.here hx rfl (hb hby at_159) rfl k_) ?_
        show Go pg.tables ev below (T27.setTop (mkF mi 161 #[.val (.int p0), .val (.int p1), .val (.int p2), .val (.int p3), .val (.int p4), .val (.int p5), .val (.int N), .val (.int iA), .val (.int iB), .val (.int iA), .val (.int iB), .val (.int m1), .val (.int m2), .val (.int m3), .val (.ref b1)] [(.int iB), (.int iA), (.ref b1)])) P
        refine Go.st (fun t_ k_ => XS.iload X27.here hx rfl (hb hby at_161) rfl k_) ?_
        show Go pg.tables ev below (T27.setTop (mkF mi 163 #[.val (.int p0), .val (.int p1), .val (.int p2), .val (.int p3), .val (.int p4), .val (.int p5), .val (.int N), .val (.int iA), .val (.int iB), .val (.int iA), .val (.int iB), .val (.int m1), .val (.int m2), .val (.int m3), .val (.ref b1)] [(.int m3), (.int iB), (.int iA), (.ref b1)])) P
        have f29 := (f20.keep K12 (ninS (Ne.symm ne_o_rw) (ninS ne_rw_tb (ninS ne_rw_bm (ninS ne_rw_sz nin0)))))
        obtain ⟨cq28, kq28, q28a, q28b, q28c⟩ := isOf hZ e27 f25
        obtain ⟨_, _, ⟨T28, L28, k28, n28⟩, -, X28, ⟨Lc28, hQ28, l28, y28, z28⟩, st28⟩ := X27.virtualBack hx (y := (⟨"com/example/hedge/hedge/automaton/PairMarks", "add", "(III)I"⟩ : MethodName)) (z := (⟨"com/example/hedge/hedge/automaton/PairMarks", "add", "(III)I"⟩ : MethodName)) hown (mvT hZ (hw _ (List.mem_of_getElem? (i := 26) rfl))) (mvT hZ (hw _ (List.mem_of_getElem? (i := 27) rfl))) (notFace_of_selects (args := #[]) (mvT hZ (hw _ (List.mem_of_getElem? (i := 29) rfl)))) (mvT hZ (hw _ (List.mem_of_getElem? (i := 29) rfl))) (mvT hZ (hw _ (List.mem_of_getElem? (i := 28) rfl))) (by decide) (backOf (W := 0) (rmAN0T l Z a0 hw [] b1 iA iB m3 rw tb sz bm kR kT kS kB N  wd ((iA, .null) :: ((iA, (.ref x5)) :: [])) ((iA, (.int (0 : Int32))) :: hs8) ((iA, .null) :: []) [(.int iA), (.int (0 : Int32)), (.int (0 : Int32)), (.int (0 : Int32)), (.int (0 : Int32)), (.int (0 : Int32)), (.int (0 : Int32)), (.int (0 : Int32)), (.int (0 : Int32)), (.int (0 : Int32)), (.int (0 : Int32)), (.int (0 : Int32)), (.int (0 : Int32)), (.int (0 : Int32)), (.int (0 : Int32)), (.int (0 : Int32))] h12 n0 Zs23 f25 g_b1 g_rw g_tb g_sz g_bm ne_o_rw ne_o_tb ne_o_sz ne_o_bm ne_rw_tb ne_rw_sz ne_rw_bm ne_tb_sz ne_tb_bm ne_sz_bm FB12_0 FB12_1 FB12_2 FB12_3 FB12_4 FB12_5 f29 rfl CT12 CS12 CB12 O_tb O_bm hA.1 hA.2 hwo hN1 hN2 hwd hwd1 hwd2 hBq (own_hit hA.1) (own_hit hA.1) (own_hit hA.1)) hZ (hw _ (List.mem_of_getElem? (i := 30) rfl)) (hw _ (List.mem_of_getElem? (i := 3) rfl)) (by decide) (by decide)) q28a q28c (g := (mkF mi 163 #[.val (.int p0), .val (.int p1), .val (.int p2), .val (.int p3), .val (.int p4), .val (.int p5), .val (.int N), .val (.int iA), .val (.int iB), .val (.int iA), .val (.int iB), .val (.int m1), .val (.int m2), .val (.int m3), .val (.ref b1)] [(.int m3), (.int iB), (.int iA), (.ref b1)])) rfl (by rw [hml]; rfl) (Steps.refl _) (argsL := [(.int iA), (.int iB), (.int m3)]) (rest := []) (lenOf pd_5 rfl) rfl (by show 2 * 0 + _ ≤ _; exact Nat.le_of_eq rfl) (hb hby at_163) (fun _ _ => ⟨rfl, e27, (by decide : 6 + 1 ≤ _), (by decide : 794 + 4 ≤ _)⟩)
        dsimp only [Pt.U, Pt.locs, Pt.cells, Pt.slots] at X28 l28 y28 z28 st28 hQ28
        subst l28 y28 z28
        obtain ⟨h28, e28⟩ : ∃ z, T28.heap = z := ⟨_, rfl⟩
        rw [e28] at hQ28
        obtain ⟨rfl, N28q, K28, x28, kx28, z_x28, g_x28, FB28_0, FB28_1, FB28_2, FB28_3, FB28_4, FB28_5, AR28, AB28, AZ28, AX28⟩ := hQ28
        have N28 := Fr.app N27 N28q
        have Zs30 : n0 ≤ h28.size := Nat.le_trans Zs23 K28.1
        have AS28 : Arv Z h28 rw kR .int (16 : Int32) [(.int iA), (.int (0 : Int32)), (.int (0 : Int32)), (.int (0 : Int32)), (.int (0 : Int32)), (.int (0 : Int32)), (.int (0 : Int32)), (.int (0 : Int32)), (.int (0 : Int32)), (.int (0 : Int32)), (.int (0 : Int32)), (.int (0 : Int32)), (.int (0 : Int32)), (.int (0 : Int32)), (.int (0 : Int32)), (.int (0 : Int32))] (.int (0 : Int32)) := AR28
        have ne_b1_x28 : b1 ≠ x28 := Nat.ne_of_lt (Nat.lt_of_lt_of_le f25.lt z_x28)
        have ne_rw_x28 : rw ≠ x28 := Nat.ne_of_lt (Nat.lt_of_lt_of_le f29.lt z_x28)
        have ne_tb_x28 : tb ≠ x28 := Nat.ne_of_lt (Nat.lt_of_lt_of_le CT12.lt z_x28)
        have ne_sz_x28 : sz ≠ x28 := Nat.ne_of_lt (Nat.lt_of_lt_of_le CS12.lt z_x28)
        have ne_bm_x28 : bm ≠ x28 := Nat.ne_of_lt (Nat.lt_of_lt_of_le CB12.lt z_x28)
        refine Go.tr st28 ?_
        show Go pg.tables ev below (T28.setTop (mkF mi 166 #[.val (.int p0), .val (.int p1), .val (.int p2), .val (.int p3), .val (.int p4), .val (.int p5), .val (.int N), .val (.int iA), .val (.int iB), .val (.int iA), .val (.int iB), .val (.int m1), .val (.int m2), .val (.int m3), .val (.ref b1)] [(.int m3)])) P
        refine Go.st (fun t_ k_ => XS.iload X28.here hx rfl (hb hby at_166) rfl k_) ?_
        show Go pg.tables ev below (T28.setTop (mkF mi 168 #[.val (.int p0), .val (.int p1), .val (.int p2), .val (.int p3), .val (.int p4), .val (.int p5), .val (.int N), .val (.int iA), .val (.int iB), .val (.int iA), .val (.int iB), .val (.int m1), .val (.int m2), .val (.int m3), .val (.ref b1)] [(.int m3), (.int m3)])) P
        refine Go.st (fun t_ k_ => XS.icmpYes X28.here hx rfl (pc0 := 168) (pc' := 173) rfl (hb hby at_168) rfl (teq rfl).1 (by decide) (by decide) k_) ?_
        show Go pg.tables ev below (T28.setTop (mkF mi 173 #[.val (.int p0), .val (.int p1), .val (.int p2), .val (.int p3), .val (.int p4), .val (.int p5), .val (.int N), .val (.int iA), .val (.int iB), .val (.int iA), .val (.int iB), .val (.int m1), .val (.int m2), .val (.int m3), .val (.ref b1)] [])) P
        refine Go.st (fun t_ k_ => XS.aload X28.here hx rfl (hb hby at_173) rfl rfl k_) ?_
        show Go pg.tables ev below (T28.setTop (mkF mi 175 #[.val (.int p0), .val (.int p1), .val (.int p2), .val (.int p3), .val (.int p4), .val (.int p5), .val (.int N), .val (.int iA), .val (.int iB), .val (.int iA), .val (.int iB), .val (.int m1), .val (.int m2), .val (.int m3), .val (.ref b1)] [(.ref b1)])) P
        have f32 := (f25.keep K28)
        obtain ⟨cq31, kq31, q31a, q31b, q31c⟩ := isOf hZ e28 f32
        obtain ⟨_, _, ⟨T31, L31, k31, n31⟩, -, X31, ⟨Lc31, hQ31, l31, y31, z31⟩, st31⟩ := X28.virtualBack hx (y := (⟨"com/example/hedge/hedge/automaton/PairMarks", "rowCount", "()I"⟩ : MethodName)) (z := (⟨"com/example/hedge/hedge/automaton/PairMarks", "rowCount", "()I"⟩ : MethodName)) hown (mvT hZ (hw _ (List.mem_of_getElem? (i := 57) rfl))) (mvT hZ (hw _ (List.mem_of_getElem? (i := 58) rfl))) (notFace_of_selects (args := #[]) (mvT hZ (hw _ (List.mem_of_getElem? (i := 60) rfl)))) (mvT hZ (hw _ (List.mem_of_getElem? (i := 60) rfl))) (mvT hZ (hw _ (List.mem_of_getElem? (i := 59) rfl))) (by decide) (backOf (W := 0) (rmRC l Z a0 hw [] b1 (1 : Int32) h28 n0 Zs30 FB28_5) hZ (hw _ (List.mem_of_getElem? (i := 61) rfl)) (hw _ (List.mem_of_getElem? (i := 3) rfl)) (by decide) (by decide)) q31a q31c (g := (mkF mi 175 #[.val (.int p0), .val (.int p1), .val (.int p2), .val (.int p3), .val (.int p4), .val (.int p5), .val (.int N), .val (.int iA), .val (.int iB), .val (.int iA), .val (.int iB), .val (.int m1), .val (.int m2), .val (.int m3), .val (.ref b1)] [(.ref b1)])) rfl (by rw [hml]; rfl) (Steps.refl _) (argsL := []) (rest := []) (lenOf pd_7 rfl) rfl (by show 2 * 0 + _ ≤ _; exact Nat.le_of_eq rfl) (hb hby at_175) (fun _ _ => ⟨rfl, e28, (by decide : 7 + 0 ≤ _), (by decide : 798 + 0 ≤ _)⟩)
        dsimp only [Pt.U, Pt.locs, Pt.cells, Pt.slots] at X31 l31 y31 z31 st31 hQ31
        subst l31 y31 z31
        obtain ⟨rfl, N31q, e31⟩ := hQ31
        have N31 := Fr.app N28 N31q
        refine Go.tr st31 ?_
        show Go pg.tables ev below (T31.setTop (mkF mi 178 #[.val (.int p0), .val (.int p1), .val (.int p2), .val (.int p3), .val (.int p4), .val (.int p5), .val (.int N), .val (.int iA), .val (.int iB), .val (.int iA), .val (.int iB), .val (.int m1), .val (.int m2), .val (.int m3), .val (.ref b1)] [(.int (1 : Int32))])) P
        refine Go.st (fun t_ k_ => XS.iconst X31.here hx rfl (hb hby at_178) k_) ?_
        show Go pg.tables ev below (T31.setTop (mkF mi 179 #[.val (.int p0), .val (.int p1), .val (.int p2), .val (.int p3), .val (.int p4), .val (.int p5), .val (.int N), .val (.int iA), .val (.int iB), .val (.int iA), .val (.int iB), .val (.int m1), .val (.int m2), .val (.int m3), .val (.ref b1)] [(.int (1 : Int32)), (.int (1 : Int32))])) P
        refine Go.st (fun t_ k_ => XS.icmpYes X31.here hx rfl (pc0 := 179) (pc' := 184) rfl (hb hby at_179) rfl (teq rfl).1 (by decide) (by decide) k_) ?_
        show Go pg.tables ev below (T31.setTop (mkF mi 184 #[.val (.int p0), .val (.int p1), .val (.int p2), .val (.int p3), .val (.int p4), .val (.int p5), .val (.int N), .val (.int iA), .val (.int iB), .val (.int iA), .val (.int iB), .val (.int m1), .val (.int m2), .val (.int m3), .val (.ref b1)] [])) P
        refine Go.st (fun t_ k_ => XS.aload X31.here hx rfl (hb hby at_184) rfl rfl k_) ?_
        show Go pg.tables ev below (T31.setTop (mkF mi 186 #[.val (.int p0), .val (.int p1), .val (.int p2), .val (.int p3), .val (.int p4), .val (.int p5), .val (.int N), .val (.int iA), .val (.int iB), .val (.int iA), .val (.int iB), .val (.int m1), .val (.int m2), .val (.int m3), .val (.ref b1)] [(.ref b1)])) P
        refine Go.st (fun t_ k_ => XS.iconst X31.here hx rfl (hb hby at_186) k_) ?_
        show Go pg.tables ev below (T31.setTop (mkF mi 187 #[.val (.int p0), .val (.int p1), .val (.int p2), .val (.int p3), .val (.int p4), .val (.int p5), .val (.int N), .val (.int iA), .val (.int iB), .val (.int iA), .val (.int iB), .val (.int m1), .val (.int m2), .val (.int m3), .val (.ref b1)] [(.int (0 : Int32)), (.ref b1)])) P
        obtain ⟨cq33, kq33, q33a, q33b, q33c⟩ := isOf hZ e31 f32
        obtain ⟨_, _, ⟨T33, L33, k33, n33⟩, -, X33, ⟨Lc33, hQ33, l33, y33, z33⟩, st33⟩ := X31.virtualBack hx (y := (⟨"com/example/hedge/hedge/automaton/PairMarks", "row", "(I)I"⟩ : MethodName)) (z := (⟨"com/example/hedge/hedge/automaton/PairMarks", "row", "(I)I"⟩ : MethodName)) hown (mvT hZ (hw _ (List.mem_of_getElem? (i := 63) rfl))) (mvT hZ (hw _ (List.mem_of_getElem? (i := 64) rfl))) (notFace_of_selects (args := #[]) (mvT hZ (hw _ (List.mem_of_getElem? (i := 66) rfl)))) (mvT hZ (hw _ (List.mem_of_getElem? (i := 66) rfl))) (mvT hZ (hw _ (List.mem_of_getElem? (i := 65) rfl))) (by decide) (backOf (W := 0) (rmRo l Z a0 hw [] b1 rw kR iA [(.int (0 : Int32)), (.int (0 : Int32)), (.int (0 : Int32)), (.int (0 : Int32)), (.int (0 : Int32)), (.int (0 : Int32)), (.int (0 : Int32)), (.int (0 : Int32)), (.int (0 : Int32)), (.int (0 : Int32)), (.int (0 : Int32)), (.int (0 : Int32)), (.int (0 : Int32)), (.int (0 : Int32)), (.int (0 : Int32))] h28 n0 Zs30 FB28_0 AS28) hZ (hw _ (List.mem_of_getElem? (i := 67) rfl)) (hw _ (List.mem_of_getElem? (i := 3) rfl)) (by decide) (by decide)) q33a q33c (g := (mkF mi 187 #[.val (.int p0), .val (.int p1), .val (.int p2), .val (.int p3), .val (.int p4), .val (.int p5), .val (.int N), .val (.int iA), .val (.int iB), .val (.int iA), .val (.int iB), .val (.int m1), .val (.int m2), .val (.int m3), .val (.ref b1)] [(.int (0 : Int32)), (.ref b1)])) rfl (by rw [hml]; rfl) (Steps.refl _) (argsL := [(.int (0 : Int32))]) (rest := []) (lenOf pd_2 rfl) rfl (by show 2 * 0 + _ ≤ _; exact Nat.le_of_eq rfl) (hb hby at_187) (fun _ _ => ⟨rfl, e31, (by decide : 7 + 0 ≤ _), (by decide : 798 + 0 ≤ _)⟩)
        dsimp only [Pt.U, Pt.locs, Pt.cells, Pt.slots] at X33 l33 y33 z33 st33 hQ33
        subst l33 y33 z33
        obtain ⟨rfl, N33q, e33⟩ := hQ33
        have N33 := Fr.app N31 N33q
        refine Go.tr st33 ?_
        show Go pg.tables ev below (T33.setTop (mkF mi 190 #[.val (.int p0), .val (.int p1), .val (.int p2), .val (.int p3), .val (.int p4), .val (.int p5), .val (.int N), .val (.int iA), .val (.int iB), .val (.int iA), .val (.int iB), .val (.int m1), .val (.int m2), .val (.int m3), .val (.ref b1)] [(.int iA)])) P
        refine Go.st (fun t_ k_ => XS.iload X33.here hx rfl (hb hby at_190) rfl k_) ?_
        show Go pg.tables ev below (T33.setTop (mkF mi 192 #[.val (.int p0), .val (.int p1), .val (.int p2), .val (.int p3), .val (.int p4), .val (.int p5), .val (.int N), .val (.int iA), .val (.int iB), .val (.int iA), .val (.int iB), .val (.int m1), .val (.int m2), .val (.int m3), .val (.ref b1)] [(.int iA), (.int iA)])) P
        refine Go.st (fun t_ k_ => XS.icmpYes X33.here hx rfl (pc0 := 192) (pc' := 197) rfl (hb hby at_192) rfl (teq rfl).1 (by decide) (by decide) k_) ?_
        show Go pg.tables ev below (T33.setTop (mkF mi 197 #[.val (.int p0), .val (.int p1), .val (.int p2), .val (.int p3), .val (.int p4), .val (.int p5), .val (.int N), .val (.int iA), .val (.int iB), .val (.int iA), .val (.int iB), .val (.int m1), .val (.int m2), .val (.int m3), .val (.ref b1)] [])) P
        refine Go.st (fun t_ k_ => XS.aload X33.here hx rfl (hb hby at_197) rfl rfl k_) ?_
        show Go pg.tables ev below (T33.setTop (mkF mi 199 #[.val (.int p0), .val (.int p1), .val (.int p2), .val (.int p3), .val (.int p4), .val (.int p5), .val (.int N), .val (.int iA), .val (.int iB), .val (.int iA), .val (.int iB), .val (.int m1), .val (.int m2), .val (.int m3), .val (.ref b1)] [(.ref b1)])) P
        refine Go.st (fun t_ k_ => XS.iload X33.here hx rfl (hb hby at_199) rfl k_) ?_
        show Go pg.tables ev below (T33.setTop (mkF mi 201 #[.val (.int p0), .val (.int p1), .val (.int p2), .val (.int p3), .val (.int p4), .val (.int p5), .val (.int N), .val (.int iA), .val (.int iB), .val (.int iA), .val (.int iB), .val (.int m1), .val (.int m2), .val (.int m3), .val (.ref b1)] [(.int iA), (.ref b1)])) P
        refine Go.st (fun t_ k_ => XS.iload X33.here hx rfl (hb hby at_201) rfl k_) ?_
        show Go pg.tables ev below (T33.setTop (mkF mi 203 #[.val (.int p0), .val (.int p1), .val (.int p2), .val (.int p3), .val (.int p4), .val (.int p5), .val (.int N), .val (.int iA), .val (.int iB), .val (.int iA), .val (.int iB), .val (.int m1), .val (.int m2), .val (.int m3), .val (.ref b1)] [(.int iB), (.int iA), (.ref b1)])) P
        have f35 := (CB12.keep K28 (ninS (Ne.symm ne_o_bm) (ninS (Ne.symm ne_rw_bm) (ninS (Ne.symm ne_tb_bm) (ninS (Ne.symm ne_sz_bm) nin0)))))
        have hkD1 : 0 ≤ iB.toInt ∧ iB.toInt < 256 := own_rng hN2 hBq
        obtain ⟨cq34, kq34, q34a, q34b, q34c⟩ := isOf hZ e33 f32
        obtain ⟨_, _, ⟨T34, L34, k34, n34⟩, -, X34, ⟨Lc34, hQ34, l34, y34, z34⟩, st34⟩ := X33.virtualBack hx (y := (⟨"com/example/hedge/hedge/automaton/PairMarks", "get", "(II)I"⟩ : MethodName)) (z := (⟨"com/example/hedge/hedge/automaton/PairMarks", "get", "(II)I"⟩ : MethodName)) hown (mvT hZ (hw _ (List.mem_of_getElem? (i := 62) rfl))) (mvT hZ (hw _ (List.mem_of_getElem? (i := 45) rfl))) (notFace_of_selects (args := #[]) (mvT hZ (hw _ (List.mem_of_getElem? (i := 47) rfl)))) (mvT hZ (hw _ (List.mem_of_getElem? (i := 47) rfl))) (mvT hZ (hw _ (List.mem_of_getElem? (i := 46) rfl))) (by decide) (backOf (W := 0) (rmGT l Z a0 hw [] b1 iA iB tb bm kT kB N ((iA, (.ref x28)) :: ((iA, .null) :: ((iA, (.ref x5)) :: []))) ((iA, .null) :: []) x28 kx28 [((fSl iB (3 : Int32)), (.int ((fKe iB) ||| m3)))] ((fKe iB) ||| m3) h28 n0 Zs30 FB28_1 FB28_3 AB28 f35 hA.1 hA.2 (own_hit hA.1) (own_hit hA.1) AX28 (own_hit (own_slot iB).1) (own_key0 hkD1.1 hkD1.2 hm3.1 hm3.2) (own_key1 hkD1.1 hkD1.2 hm3.1 hm3.2)) hZ (hw _ (List.mem_of_getElem? (i := 48) rfl)) (hw _ (List.mem_of_getElem? (i := 3) rfl)) (by decide) (by decide)) q34a q34c (g := (mkF mi 203 #[.val (.int p0), .val (.int p1), .val (.int p2), .val (.int p3), .val (.int p4), .val (.int p5), .val (.int N), .val (.int iA), .val (.int iB), .val (.int iA), .val (.int iB), .val (.int m1), .val (.int m2), .val (.int m3), .val (.ref b1)] [(.int iB), (.int iA), (.ref b1)])) rfl (by rw [hml]; rfl) (Steps.refl _) (argsL := [(.int iA), (.int iB)]) (rest := []) (lenOf pd_1 rfl) rfl (by show 2 * 0 + _ ≤ _; exact Nat.le_of_eq rfl) (hb hby at_203) (fun _ _ => ⟨rfl, e33, (by decide : 7 + 0 ≤ _), (by decide : 798 + 0 ≤ _)⟩)
        dsimp only [Pt.U, Pt.locs, Pt.cells, Pt.slots] at X34 l34 y34 z34 st34 hQ34
        subst l34 y34 z34
        obtain ⟨rfl, N34q, e34⟩ := hQ34
        have N34 := Fr.app N33 N34q
        refine Go.tr st34 ?_
        show Go pg.tables ev below (T34.setTop (mkF mi 206 #[.val (.int p0), .val (.int p1), .val (.int p2), .val (.int p3), .val (.int p4), .val (.int p5), .val (.int N), .val (.int iA), .val (.int iB), .val (.int iA), .val (.int iB), .val (.int m1), .val (.int m2), .val (.int m3), .val (.ref b1)] [(.int (((fKe iB) ||| m3) &&& (3 : Int32)))])) P
        refine Go.st (fun t_ k_ => XS.iload X34.here hx rfl (hb hby at_206) rfl k_) ?_
        show Go pg.tables ev below (T34.setTop (mkF mi 208 #[.val (.int p0), .val (.int p1), .val (.int p2), .val (.int p3), .val (.int p4), .val (.int p5), .val (.int N), .val (.int iA), .val (.int iB), .val (.int iA), .val (.int iB), .val (.int m1), .val (.int m2), .val (.int m3), .val (.ref b1)] [(.int m3), (.int (((fKe iB) ||| m3) &&& (3 : Int32)))])) P
        refine Go.st (fun t_ k_ => XS.icmpNo X34.here hx rfl (hb hby at_208) rfl (teq (own_key2 hkD1.1 hkD1.2 hm3.1 hm3.2)).2 k_) ?_
        show Go pg.tables ev below (T34.setTop (mkF mi 211 #[.val (.int p0), .val (.int p1), .val (.int p2), .val (.int p3), .val (.int p4), .val (.int p5), .val (.int N), .val (.int iA), .val (.int iB), .val (.int iA), .val (.int iB), .val (.int m1), .val (.int m2), .val (.int m3), .val (.ref b1)] [])) P
        refine Go.st (fun t_ k_ => XS.iconst X34.here hx rfl (hb hby at_211) k_) ?_
        show Go pg.tables ev below (T34.setTop (mkF mi 212 #[.val (.int p0), .val (.int p1), .val (.int p2), .val (.int p3), .val (.int p4), .val (.int p5), .val (.int N), .val (.int iA), .val (.int iB), .val (.int iA), .val (.int iB), .val (.int m1), .val (.int m2), .val (.int m3), .val (.ref b1)] [(.int (1 : Int32))])) P
        refine Go.st (fun t_ k_ => XS.goto X34.here hx rfl (pc0 := 212) (pc' := 216) rfl (hb hby at_212) (by decide) (by decide) k_) ?_
        show Go pg.tables ev below (T34.setTop (mkF mi 216 #[.val (.int p0), .val (.int p1), .val (.int p2), .val (.int p3), .val (.int p4), .val (.int p5), .val (.int N), .val (.int iA), .val (.int iB), .val (.int iA), .val (.int iB), .val (.int m1), .val (.int m2), .val (.int m3), .val (.ref b1)] [(.int (1 : Int32))])) P
        obtain ⟨fs, hr, hrun, hended, hW, hsame⟩ := X34.leave (v := some (.int (1 : Int32))) (fun h => by rw [Bd.returns] at h; cases h) (BodyLoose.notSynchronized Bd)
        refine ⟨_, _, ?_, hP _ _ ⟨hrun, hended, _, _, rfl, ?_, ⟨_, rfl⟩, hW, hsame.mono (by decide) (by decide)⟩⟩
        · exact retN X34 hx (t := .boolean) Bd.returns (by simp) (hb hby at_216) hr
        · show (some (.int (1 : Int32)) : Option Value) = some (.int 1) ∧ Fr n0 _
          exact ⟨rfl, N34⟩
      · by_cases hsl : (fSl iD (3 : Int32)) = (fSl iB (3 : Int32))
        · show Go pg.tables ev below (T3.setTop (mkF mi 88 #[.val (.int p0), .val (.int p1), .val (.int p2), .val (.int p3), .val (.int p4), .val (.int p5), .val (.int N), .val (.int iA), .val (.int iB), .val (.int iA), .val (.int iD), .val (.int m1), .val (.int m2), .val (.int m3), .val (.ref b1)] [])) P
          refine Go.st (fun t_ k_ => XS.aload X3.here hx rfl (hb hby at_88) rfl rfl k_) ?_
          show Go pg.tables ev below (T3.setTop (mkF mi 90 #[.val (.int p0), .val (.int p1), .val (.int p2), .val (.int p3), .val (.int p4), .val (.int p5), .val (.int N), .val (.int iA), .val (.int iB), .val (.int iA), .val (.int iD), .val (.int m1), .val (.int m2), .val (.int m3), .val (.ref b1)] [(.ref b1)])) P
          refine Go.st (fun t_ k_ => XS.iload X3.here hx rfl (hb hby at_90) rfl k_) ?_
          show Go pg.tables ev below (T3.setTop (mkF mi 92 #[.val (.int p0), .val (.int p1), .val (.int p2), .val (.int p3), .val (.int p4), .val (.int p5), .val (.int N), .val (.int iA), .val (.int iB), .val (.int iA), .val (.int iD), .val (.int m1), .val (.int m2), .val (.int m3), .val (.ref b1)] [(.int iA), (.ref b1)])) P
          refine Go.st (fun t_ k_ => XS.iload X3.here hx rfl (hb hby at_92) rfl k_) ?_
          show Go pg.tables ev below (T3.setTop (mkF mi 94 #[.val (.int p0), .val (.int p1), .val (.int p2), .val (.int p3), .val (.int p4), .val (.int p5), .val (.int N), .val (.int iA), .val (.int iB), .val (.int iA), .val (.int iD), .val (.int m1), .val (.int m2), .val (.int m3), .val (.ref b1)] [(.int iB), (.int iA), (.ref b1)])) P
          refine Go.st (fun t_ k_ => XS.iload X3.here hx rfl (hb hby at_94) rfl k_) ?_
          show Go pg.tables ev below (T3.setTop (mkF mi 96 #[.val (.int p0), .val (.int p1), .val (.int p2), .val (.int p3), .val (.int p4), .val (.int p5), .val (.int N), .val (.int iA), .val (.int iB), .val (.int iA), .val (.int iD), .val (.int m1), .val (.int m2), .val (.int m3), .val (.ref b1)] [(.int m1), (.int iB), (.int iA), (.ref b1)])) P
          have f37 := (A1.keep K3)
          obtain ⟨cq36, kq36, q36a, q36b, q36c⟩ := isOf hZ e3 f37
          obtain ⟨_, _, ⟨T36, L36, k36, n36⟩, -, X36, ⟨Lc36, hQ36, l36, y36, z36⟩, st36⟩ := X3.virtualBack hx (y := (⟨"com/example/hedge/hedge/automaton/PairMarks", "add", "(III)I"⟩ : MethodName)) (z := (⟨"com/example/hedge/hedge/automaton/PairMarks", "add", "(III)I"⟩ : MethodName)) hown (mvT hZ (hw _ (List.mem_of_getElem? (i := 26) rfl))) (mvT hZ (hw _ (List.mem_of_getElem? (i := 27) rfl))) (notFace_of_selects (args := #[]) (mvT hZ (hw _ (List.mem_of_getElem? (i := 29) rfl)))) (mvT hZ (hw _ (List.mem_of_getElem? (i := 29) rfl))) (mvT hZ (hw _ (List.mem_of_getElem? (i := 28) rfl))) (by decide) (backOf (W := 0) (rmAN0T l Z a0 hw [] b1 iA iB m1 rw tb sz bm kR kT kS kB N  wd [] [] [] [(.int (0 : Int32)), (.int (0 : Int32)), (.int (0 : Int32)), (.int (0 : Int32)), (.int (0 : Int32)), (.int (0 : Int32)), (.int (0 : Int32)), (.int (0 : Int32)), (.int (0 : Int32)), (.int (0 : Int32)), (.int (0 : Int32)), (.int (0 : Int32)), (.int (0 : Int32)), (.int (0 : Int32)), (.int (0 : Int32)), (.int (0 : Int32))] h3 n0 Zs4 f37 g_b1 g_rw g_tb g_sz g_bm ne_o_rw ne_o_tb ne_o_sz ne_o_bm ne_rw_tb ne_rw_sz ne_rw_bm ne_tb_sz ne_tb_bm ne_sz_bm FI0 FI1 FI2 FI3 FI4 FI5 V_rw rfl V_tb V_sz V_bm O_tb O_bm hA.1 hA.2 hwo hN1 hN2 hwd hwd1 hwd2 hBq rfl rfl rfl) hZ (hw _ (List.mem_of_getElem? (i := 30) rfl)) (hw _ (List.mem_of_getElem? (i := 3) rfl)) (by decide) (by decide)) q36a q36c (g := (mkF mi 96 #[.val (.int p0), .val (.int p1), .val (.int p2), .val (.int p3), .val (.int p4), .val (.int p5), .val (.int N), .val (.int iA), .val (.int iB), .val (.int iA), .val (.int iD), .val (.int m1), .val (.int m2), .val (.int m3), .val (.ref b1)] [(.int m1), (.int iB), (.int iA), (.ref b1)])) rfl (by rw [hml]; rfl) (Steps.refl _) (argsL := [(.int iA), (.int iB), (.int m1)]) (rest := []) (lenOf pd_5 rfl) rfl (by show 2 * 0 + _ ≤ _; exact Nat.le_of_eq rfl) (hb hby at_96) (fun _ _ => ⟨rfl, e3, (by decide : 5 + 1 ≤ _), (by decide : 790 + 4 ≤ _)⟩)
          dsimp only [Pt.U, Pt.locs, Pt.cells, Pt.slots] at X36 l36 y36 z36 st36 hQ36
          subst l36 y36 z36
          obtain ⟨h36, e36⟩ : ∃ z, T36.heap = z := ⟨_, rfl⟩
          rw [e36] at hQ36
          obtain ⟨rfl, N36q, K36, x36, kx36, z_x36, g_x36, FB36_0, FB36_1, FB36_2, FB36_3, FB36_4, FB36_5, AR36, AB36, AZ36, AX36⟩ := hQ36
          have N36 := Fr.app N3 N36q
          have Zs38 : n0 ≤ h36.size := Nat.le_trans Zs4 K36.1
          have AS36 : Arv Z h36 rw kR .int (16 : Int32) [(.int iA), (.int (0 : Int32)), (.int (0 : Int32)), (.int (0 : Int32)), (.int (0 : Int32)), (.int (0 : Int32)), (.int (0 : Int32)), (.int (0 : Int32)), (.int (0 : Int32)), (.int (0 : Int32)), (.int (0 : Int32)), (.int (0 : Int32)), (.int (0 : Int32)), (.int (0 : Int32)), (.int (0 : Int32)), (.int (0 : Int32))] (.int (0 : Int32)) := AR36
          have ne_b1_x36 : b1 ≠ x36 := Nat.ne_of_lt (Nat.lt_of_lt_of_le f37.lt z_x36)
          have ne_rw_x36 : rw ≠ x36 := Nat.ne_of_lt (Nat.lt_of_lt_of_le V_rw.lt z_x36)
          have ne_tb_x36 : tb ≠ x36 := Nat.ne_of_lt (Nat.lt_of_lt_of_le V_tb.lt z_x36)
          have ne_sz_x36 : sz ≠ x36 := Nat.ne_of_lt (Nat.lt_of_lt_of_le V_sz.lt z_x36)
          have ne_bm_x36 : bm ≠ x36 := Nat.ne_of_lt (Nat.lt_of_lt_of_le V_bm.lt z_x36)
          refine Go.tr st36 ?_
          show Go pg.tables ev below (T36.setTop (mkF mi 99 #[.val (.int p0), .val (.int p1), .val (.int p2), .val (.int p3), .val (.int p4), .val (.int p5), .val (.int N), .val (.int iA), .val (.int iB), .val (.int iA), .val (.int iD), .val (.int m1), .val (.int m2), .val (.int m3), .val (.ref b1)] [(.int m1)])) P
          refine Go.st (fun t_ k_ => XS.pop X36.here hx rfl (hb hby at_99) rfl rfl k_) ?_
          show Go pg.tables ev below (T36.setTop (mkF mi 100 #[.val (.int p0), .val (.int p1), .val (.int p2), .val (.int p3), .val (.int p4), .val (.int p5), .val (.int N), .val (.int iA), .val (.int iB), .val (.int iA), .val (.int iD), .val (.int m1), .val (.int m2), .val (.int m3), .val (.ref b1)] [])) P
          refine Go.st (fun t_ k_ => XS.aload X36.here hx rfl (hb hby at_100) rfl rfl k_) ?_
          show Go pg.tables ev below (T36.setTop (mkF mi 102 #[.val (.int p0), .val (.int p1), .val (.int p2), .val (.int p3), .val (.int p4), .val (.int p5), .val (.int N), .val (.int iA), .val (.int iB), .val (.int iA), .val (.int iD), .val (.int m1), .val (.int m2), .val (.int m3), .val (.ref b1)] [(.ref b1)])) P
          refine Go.st (fun t_ k_ => XS.iload X36.here hx rfl (hb hby at_102) rfl k_) ?_
          show Go pg.tables ev below (T36.setTop (mkF mi 104 #[.val (.int p0), .val (.int p1), .val (.int p2), .val (.int p3), .val (.int p4), .val (.int p5), .val (.int N), .val (.int iA), .val (.int iB), .val (.int iA), .val (.int iD), .val (.int m1), .val (.int m2), .val (.int m3), .val (.ref b1)] [(.int iA), (.ref b1)])) P
          refine Go.st (fun t_ k_ => XS.iload X36.here hx rfl (hb hby at_104) rfl k_) ?_
          show Go pg.tables ev below (T36.setTop (mkF mi 106 #[.val (.int p0), .val (.int p1), .val (.int p2), .val (.int p3), .val (.int p4), .val (.int p5), .val (.int N), .val (.int iA), .val (.int iB), .val (.int iA), .val (.int iD), .val (.int m1), .val (.int m2), .val (.int m3), .val (.ref b1)] [(.int iD), (.int iA), (.ref b1)])) P
          refine Go.st (fun t_ k_ => XS.iload X36.here hx rfl (hb hby at_106) rfl k_) ?_
          show Go pg.tables ev below (T36.setTop (mkF mi 108 #[.val (.int p0), .val (.int p1), .val (.int p2), .val (.int p3), .val (.int p4), .val (.int p5), .val (.int N), .val (.int iA), .val (.int iB), .val (.int iA), .val (.int iD), .val (.int m1), .val (.int m2), .val (.int m3), .val (.ref b1)] [(.int m2), (.int iD), (.int iA), (.ref b1)])) P
          have f40 := (f37.keep K36)
          have f41 := (V_bm.keep K36 (ninS (Ne.symm ne_o_bm) (ninS (Ne.symm ne_rw_bm) (ninS (Ne.symm ne_tb_bm) (ninS (Ne.symm ne_sz_bm) nin0)))))
          have hkB1 : 0 ≤ iB.toInt ∧ iB.toInt < 256 := own_rng hN2 hBq
          obtain ⟨cq39, kq39, q39a, q39b, q39c⟩ := isOf hZ e36 f40
          obtain ⟨_, _, ⟨T39, L39, k39, n39⟩, -, X39, ⟨Lc39, hQ39, l39, y39, z39⟩, st39⟩ := X36.virtualBack hx (y := (⟨"com/example/hedge/hedge/automaton/PairMarks", "add", "(III)I"⟩ : MethodName)) (z := (⟨"com/example/hedge/hedge/automaton/PairMarks", "add", "(III)I"⟩ : MethodName)) hown (mvT hZ (hw _ (List.mem_of_getElem? (i := 26) rfl))) (mvT hZ (hw _ (List.mem_of_getElem? (i := 27) rfl))) (notFace_of_selects (args := #[]) (mvT hZ (hw _ (List.mem_of_getElem? (i := 29) rfl)))) (mvT hZ (hw _ (List.mem_of_getElem? (i := 29) rfl))) (mvT hZ (hw _ (List.mem_of_getElem? (i := 28) rfl))) (by decide) (backOf (W := 0) (rmAET3 l Z a0 hw [] b1 iA iD m2 tb bm kT kB N ((iA, (.ref x36)) :: []) [] x36 kx36 sz kS ((iA, (.int (1 : Int32))) :: []) ((fKe iB) ||| m1) iB h36 n0 Zs38 f40 FB36_1 FB36_3 AB36 f41 hA.1 hA.2 rfl (own_hit hA.1) FB36_2 AZ36 (own_hit hA.1) AX36 (own_key0 hkB1.1 hkB1.2 hm1.1 hm1.2) (own_key1 hkB1.1 hkB1.2 hm1.1 hm1.2) g_x36 g_sz ne_bm_x36 ne_tb_x36 ne_sz_x36 (Ne.symm ne_sz_bm) ne_tb_sz ne_b1_x36 ne_o_sz hbd hsl) hZ (hw _ (List.mem_of_getElem? (i := 30) rfl)) (hw _ (List.mem_of_getElem? (i := 3) rfl)) (by decide) (by decide)) q39a q39c (g := (mkF mi 108 #[.val (.int p0), .val (.int p1), .val (.int p2), .val (.int p3), .val (.int p4), .val (.int p5), .val (.int N), .val (.int iA), .val (.int iB), .val (.int iA), .val (.int iD), .val (.int m1), .val (.int m2), .val (.int m3), .val (.ref b1)] [(.int m2), (.int iD), (.int iA), (.ref b1)])) rfl (by rw [hml]; rfl) (Steps.refl _) (argsL := [(.int iA), (.int iD), (.int m2)]) (rest := []) (lenOf pd_5 rfl) rfl (by show 2 * 0 + _ ≤ _; exact Nat.le_of_eq rfl) (hb hby at_108) (fun _ _ => ⟨rfl, e36, (by decide : 6 + 0 ≤ _), (by decide : 794 + 0 ≤ _)⟩)
          dsimp only [Pt.U, Pt.locs, Pt.cells, Pt.slots] at X39 l39 y39 z39 st39 hQ39
          subst l39 y39 z39
          obtain ⟨h39, e39⟩ : ∃ z, T39.heap = z := ⟨_, rfl⟩
          rw [e39] at hQ39
          obtain ⟨r39, hs39, rfl, N39q, K39, AZ39⟩ := hQ39
          have N39 := Fr.app N36 N39q
          have Zs42 : n0 ≤ h39.size := Nat.le_trans Zs38 K39.1
          refine Go.tr st39 ?_
          show Go pg.tables ev below (T39.setTop (mkF mi 111 #[.val (.int p0), .val (.int p1), .val (.int p2), .val (.int p3), .val (.int p4), .val (.int p5), .val (.int N), .val (.int iA), .val (.int iB), .val (.int iA), .val (.int iD), .val (.int m1), .val (.int m2), .val (.int m3), .val (.ref b1)] [(.int r39)])) P
          refine Go.st (fun t_ k_ => XS.pop X39.here hx rfl (hb hby at_111) rfl rfl k_) ?_
          show Go pg.tables ev below (T39.setTop (mkF mi 112 #[.val (.int p0), .val (.int p1), .val (.int p2), .val (.int p3), .val (.int p4), .val (.int p5), .val (.int N), .val (.int iA), .val (.int iB), .val (.int iA), .val (.int iD), .val (.int m1), .val (.int m2), .val (.int m3), .val (.ref b1)] [])) P
          refine Go.st (fun t_ k_ => XS.aload X39.here hx rfl (hb hby at_112) rfl rfl k_) ?_
          show Go pg.tables ev below (T39.setTop (mkF mi 114 #[.val (.int p0), .val (.int p1), .val (.int p2), .val (.int p3), .val (.int p4), .val (.int p5), .val (.int N), .val (.int iA), .val (.int iB), .val (.int iA), .val (.int iD), .val (.int m1), .val (.int m2), .val (.int m3), .val (.ref b1)] [(.ref b1)])) P
          have f44 := (f40.keep K39)
          have f45 := (FB36_0.keep K39 (ninS ne_b1_x36 (ninS ne_o_sz nin0)))
          have f46 := (FB36_1.keep K39 (ninS ne_b1_x36 (ninS ne_o_sz nin0)))
          have f47 := (FB36_2.keep K39 (ninS ne_b1_x36 (ninS ne_o_sz nin0)))
          have f48 := (FB36_3.keep K39 (ninS ne_b1_x36 (ninS ne_o_sz nin0)))
          have f49 := (FB36_4.keep K39 (ninS ne_b1_x36 (ninS ne_o_sz nin0)))
          have f50 := (FB36_5.keep K39 (ninS ne_b1_x36 (ninS ne_o_sz nin0)))
          have f51 := (AS36.keep K39 (ninS ne_rw_x36 (ninS ne_rw_sz nin0)))
          have f52 := (AB36.keep K39 (ninS ne_tb_x36 (ninS ne_tb_sz nin0)))
          have f53 := (f41.keep K39 (ninS ne_bm_x36 (ninS (Ne.symm ne_sz_bm) nin0)))
          obtain ⟨cq43, kq43, q43a, q43b, q43c⟩ := isOf hZ e39 f44
          obtain ⟨_, _, ⟨T43, L43, k43, n43⟩, -, X43, ⟨Lc43, hQ43, l43, y43, z43⟩, st43⟩ := X39.virtualBack hx (y := (⟨"com/example/hedge/hedge/automaton/PairMarks", "clear", "()V"⟩ : MethodName)) (z := (⟨"com/example/hedge/hedge/automaton/PairMarks", "clear", "()V"⟩ : MethodName)) hown (mvT hZ (hw _ (List.mem_of_getElem? (i := 52) rfl))) (mvT hZ (hw _ (List.mem_of_getElem? (i := 53) rfl))) (notFace_of_selects (args := #[]) (mvT hZ (hw _ (List.mem_of_getElem? (i := 55) rfl)))) (mvT hZ (hw _ (List.mem_of_getElem? (i := 55) rfl))) (mvT hZ (hw _ (List.mem_of_getElem? (i := 54) rfl))) (by decide) (backOf (W := 0) (rmC1 l Z a0 hw [] b1 rw tb sz bm kR kT kS kB N  wd ((iA, (.ref x36)) :: []) hs39 [] [(.int (0 : Int32)), (.int (0 : Int32)), (.int (0 : Int32)), (.int (0 : Int32)), (.int (0 : Int32)), (.int (0 : Int32)), (.int (0 : Int32)), (.int (0 : Int32)), (.int (0 : Int32)), (.int (0 : Int32)), (.int (0 : Int32)), (.int (0 : Int32)), (.int (0 : Int32)), (.int (0 : Int32)), (.int (0 : Int32))] iA h39 n0 Zs42 f44 g_b1 g_rw g_tb g_sz g_bm ne_o_rw ne_o_tb ne_o_sz ne_o_bm ne_rw_tb ne_rw_sz ne_rw_bm ne_tb_sz ne_tb_bm ne_sz_bm f45 f46 f47 f48 f49 f50 f51 f52 AZ39 f53 O_tb O_bm hA.1 hA.2) hZ (hw _ (List.mem_of_getElem? (i := 56) rfl)) (hw _ (List.mem_of_getElem? (i := 3) rfl)) (by decide) (by decide)) q43a q43c (g := (mkF mi 114 #[.val (.int p0), .val (.int p1), .val (.int p2), .val (.int p3), .val (.int p4), .val (.int p5), .val (.int N), .val (.int iA), .val (.int iB), .val (.int iA), .val (.int iD), .val (.int m1), .val (.int m2), .val (.int m3), .val (.ref b1)] [(.ref b1)])) rfl (by rw [hml]; rfl) (Steps.refl _) (argsL := []) (rest := []) (lenOf pd_6 rfl) rfl (by show 2 * 0 + _ ≤ _; exact Nat.le_of_eq rfl) (hb hby at_114) (fun _ _ => ⟨rfl, e39, (by decide : 6 + 0 ≤ _), (by decide : 794 + 0 ≤ _)⟩)
          dsimp only [Pt.U, Pt.locs, Pt.cells, Pt.slots] at X43 l43 y43 z43 st43 hQ43
          subst l43 y43 z43
          obtain ⟨h43, e43⟩ : ∃ z, T43.heap = z := ⟨_, rfl⟩
          rw [e43] at hQ43
          obtain ⟨rfl, N43q, K43, FB43_0, FB43_1, FB43_2, FB43_3, FB43_4, FB43_5, CT43, CB43, CS43⟩ := hQ43
          have N43 := Fr.app N39 N43q
          have Zs54 : n0 ≤ h43.size := Nat.le_trans Zs42 K43.1
          refine Go.tr st43 ?_
          show Go pg.tables ev below (T43.setTop (mkF mi 117 #[.val (.int p0), .val (.int p1), .val (.int p2), .val (.int p3), .val (.int p4), .val (.int p5), .val (.int N), .val (.int iA), .val (.int iB), .val (.int iA), .val (.int iD), .val (.int m1), .val (.int m2), .val (.int m3), .val (.ref b1)] [])) P
          refine Go.st (fun t_ k_ => XS.aload X43.here hx rfl (hb hby at_117) rfl rfl k_) ?_
          show Go pg.tables ev below (T43.setTop (mkF mi 119 #[.val (.int p0), .val (.int p1), .val (.int p2), .val (.int p3), .val (.int p4), .val (.int p5), .val (.int N), .val (.int iA), .val (.int iB), .val (.int iA), .val (.int iD), .val (.int m1), .val (.int m2), .val (.int m3), .val (.ref b1)] [(.ref b1)])) P
          have f56 := (f44.keep K43)
          obtain ⟨cq55, kq55, q55a, q55b, q55c⟩ := isOf hZ e43 f56
          obtain ⟨_, _, ⟨T55, L55, k55, n55⟩, -, X55, ⟨Lc55, hQ55, l55, y55, z55⟩, st55⟩ := X43.virtualBack hx (y := (⟨"com/example/hedge/hedge/automaton/PairMarks", "rowCount", "()I"⟩ : MethodName)) (z := (⟨"com/example/hedge/hedge/automaton/PairMarks", "rowCount", "()I"⟩ : MethodName)) hown (mvT hZ (hw _ (List.mem_of_getElem? (i := 57) rfl))) (mvT hZ (hw _ (List.mem_of_getElem? (i := 58) rfl))) (notFace_of_selects (args := #[]) (mvT hZ (hw _ (List.mem_of_getElem? (i := 60) rfl)))) (mvT hZ (hw _ (List.mem_of_getElem? (i := 60) rfl))) (mvT hZ (hw _ (List.mem_of_getElem? (i := 59) rfl))) (by decide) (backOf (W := 0) (rmRC l Z a0 hw [] b1 (0 : Int32) h43 n0 Zs54 FB43_5) hZ (hw _ (List.mem_of_getElem? (i := 61) rfl)) (hw _ (List.mem_of_getElem? (i := 3) rfl)) (by decide) (by decide)) q55a q55c (g := (mkF mi 119 #[.val (.int p0), .val (.int p1), .val (.int p2), .val (.int p3), .val (.int p4), .val (.int p5), .val (.int N), .val (.int iA), .val (.int iB), .val (.int iA), .val (.int iD), .val (.int m1), .val (.int m2), .val (.int m3), .val (.ref b1)] [(.ref b1)])) rfl (by rw [hml]; rfl) (Steps.refl _) (argsL := []) (rest := []) (lenOf pd_7 rfl) rfl (by show 2 * 0 + _ ≤ _; exact Nat.le_of_eq rfl) (hb hby at_119) (fun _ _ => ⟨rfl, e43, (by decide : 6 + 0 ≤ _), (by decide : 794 + 0 ≤ _)⟩)
          dsimp only [Pt.U, Pt.locs, Pt.cells, Pt.slots] at X55 l55 y55 z55 st55 hQ55
          subst l55 y55 z55
          obtain ⟨rfl, N55q, e55⟩ := hQ55
          have N55 := Fr.app N43 N55q
          refine Go.tr st55 ?_
          show Go pg.tables ev below (T55.setTop (mkF mi 122 #[.val (.int p0), .val (.int p1), .val (.int p2), .val (.int p3), .val (.int p4), .val (.int p5), .val (.int N), .val (.int iA), .val (.int iB), .val (.int iA), .val (.int iD), .val (.int m1), .val (.int m2), .val (.int m3), .val (.ref b1)] [(.int (0 : Int32))])) P
          refine Go.st (fun t_ k_ => XS.ifYes X55.here hx rfl (pc0 := 122) (pc' := 127) rfl (hb hby at_122) rfl ((if0 _ _).trans (teq rfl).1) (by decide) (by decide) k_) ?_
          show Go pg.tables ev below (T55.setTop (mkF mi 127 #[.val (.int p0), .val (.int p1), .val (.int p2), .val (.int p3), .val (.int p4), .val (.int p5), .val (.int N), .val (.int iA), .val (.int iB), .val (.int iA), .val (.int iD), .val (.int m1), .val (.int m2), .val (.int m3), .val (.ref b1)] [])) P
          refine Go.st (fun t_ k_ => XS.aload X55.here hx rfl (hb hby at_127) rfl rfl k_) ?_
          show Go pg.tables ev below (T55.setTop (mkF mi 129 #[.val (.int p0), .val (.int p1), .val (.int p2), .val (.int p3), .val (.int p4), .val (.int p5), .val (.int N), .val (.int iA), .val (.int iB), .val (.int iA), .val (.int iD), .val (.int m1), .val (.int m2), .val (.int m3), .val (.ref b1)] [(.ref b1)])) P
          refine Go.st (fun t_ k_ => XS.iload X55.here hx rfl (hb hby at_129) rfl k_) ?_
          show Go pg.tables ev below (T55.setTop (mkF mi 131 #[.val (.int p0), .val (.int p1), .val (.int p2), .val (.int p3), .val (.int p4), .val (.int p5), .val (.int N), .val (.int iA), .val (.int iB), .val (.int iA), .val (.int iD), .val (.int m1), .val (.int m2), .val (.int m3), .val (.ref b1)] [(.int iA), (.ref b1)])) P
          refine Go.st (fun t_ k_ => XS.iload X55.here hx rfl (hb hby at_131) rfl k_) ?_
          show Go pg.tables ev below (T55.setTop (mkF mi 133 #[.val (.int p0), .val (.int p1), .val (.int p2), .val (.int p3), .val (.int p4), .val (.int p5), .val (.int N), .val (.int iA), .val (.int iB), .val (.int iA), .val (.int iD), .val (.int m1), .val (.int m2), .val (.int m3), .val (.ref b1)] [(.int iB), (.int iA), (.ref b1)])) P
          obtain ⟨cq57, kq57, q57a, q57b, q57c⟩ := isOf hZ e55 f56
          obtain ⟨_, _, ⟨T57, L57, k57, n57⟩, -, X57, ⟨Lc57, hQ57, l57, y57, z57⟩, st57⟩ := X55.virtualBack hx (y := (⟨"com/example/hedge/hedge/automaton/PairMarks", "get", "(II)I"⟩ : MethodName)) (z := (⟨"com/example/hedge/hedge/automaton/PairMarks", "get", "(II)I"⟩ : MethodName)) hown (mvT hZ (hw _ (List.mem_of_getElem? (i := 62) rfl))) (mvT hZ (hw _ (List.mem_of_getElem? (i := 45) rfl))) (notFace_of_selects (args := #[]) (mvT hZ (hw _ (List.mem_of_getElem? (i := 47) rfl)))) (mvT hZ (hw _ (List.mem_of_getElem? (i := 47) rfl))) (mvT hZ (hw _ (List.mem_of_getElem? (i := 46) rfl))) (by decide) (backOf (W := 0) (rmG0 l Z a0 hw [] b1 iA iB tb bm kT kB N ((iA, .null) :: ((iA, (.ref x36)) :: [])) ((iA, .null) :: []) h43 n0 Zs54 FB43_1 FB43_3 CT43 CB43 hA.1 hA.2 (own_hit hA.1) (own_hit hA.1)) hZ (hw _ (List.mem_of_getElem? (i := 48) rfl)) (hw _ (List.mem_of_getElem? (i := 3) rfl)) (by decide) (by decide)) q57a q57c (g := (mkF mi 133 #[.val (.int p0), .val (.int p1), .val (.int p2), .val (.int p3), .val (.int p4), .val (.int p5), .val (.int N), .val (.int iA), .val (.int iB), .val (.int iA), .val (.int iD), .val (.int m1), .val (.int m2), .val (.int m3), .val (.ref b1)] [(.int iB), (.int iA), (.ref b1)])) rfl (by rw [hml]; rfl) (Steps.refl _) (argsL := [(.int iA), (.int iB)]) (rest := []) (lenOf pd_1 rfl) rfl (by show 2 * 0 + _ ≤ _; exact Nat.le_of_eq rfl) (hb hby at_133) (fun _ _ => ⟨rfl, e55, (by decide : 6 + 0 ≤ _), (by decide : 794 + 0 ≤ _)⟩)
          dsimp only [Pt.U, Pt.locs, Pt.cells, Pt.slots] at X57 l57 y57 z57 st57 hQ57
          subst l57 y57 z57
          obtain ⟨rfl, N57q, e57⟩ := hQ57
          have N57 := Fr.app N55 N57q
          refine Go.tr st57 ?_
          show Go pg.tables ev below (T57.setTop (mkF mi 136 #[.val (.int p0), .val (.int p1), .val (.int p2), .val (.int p3), .val (.int p4), .val (.int p5), .val (.int N), .val (.int iA), .val (.int iB), .val (.int iA), .val (.int iD), .val (.int m1), .val (.int m2), .val (.int m3), .val (.ref b1)] [(.int (0 : Int32))])) P
          refine Go.st (fun t_ k_ => XS.ifYes X57.here hx rfl (pc0 := 136) (pc' := 141) rfl (hb hby at_136) rfl ((if0 _ _).trans (teq rfl).1) (by decide) (by decide) k_) ?_
          show Go pg.tables ev below (T57.setTop (mkF mi 141 #[.val (.int p0), .val (.int p1), .val (.int p2), .val (.int p3), .val (.int p4), .val (.int p5), .val (.int N), .val (.int iA), .val (.int iB), .val (.int iA), .val (.int iD), .val (.int m1), .val (.int m2), .val (.int m3), .val (.ref b1)] [])) P
          refine Go.st (fun t_ k_ => XS.aload X57.here hx rfl (hb hby at_141) rfl rfl k_) ?_
          show Go pg.tables ev below (T57.setTop (mkF mi 143 #[.val (.int p0), .val (.int p1), .val (.int p2), .val (.int p3), .val (.int p4), .val (.int p5), .val (.int N), .val (.int iA), .val (.int iB), .val (.int iA), .val (.int iD), .val (.int m1), .val (.int m2), .val (.int m3), .val (.ref b1)] [(.ref b1)])) P
          refine Go.st (fun t_ k_ => XS.iload X57.here hx rfl (hb hby at_143) rfl k_) ?_
          show Go pg.tables ev below (T57.setTop (mkF mi 145 #[.val (.int p0), .val (.int p1), .val (.int p2), .val (.int p3), .val (.int p4), .val (.int p5), .val (.int N), .val (.int iA), .val (.int iB), .val (.int iA), .val (.int iD), .val (.int m1), .val (.int m2), .val (.int m3), .val (.ref b1)] [(.int iA), (.ref b1)])) P
          refine Go.st (fun t_ k_ => XS.iload X57.here hx rfl (hb hby at_145) rfl k_) ?_
          show Go pg.tables ev below (T57.setTop (mkF mi 147 #[.val (.int p0), .val (.int p1), .val (.int p2), .val (.int p3), .val (.int p4), .val (.int p5), .val (.int N), .val (.int iA), .val (.int iB), .val (.int iA), .val (.int iD), .val (.int m1), .val (.int m2), .val (.int m3), .val (.ref b1)] [(.int iD), (.int iA), (.ref b1)])) P
          obtain ⟨cq58, kq58, q58a, q58b, q58c⟩ := isOf hZ e57 f56
          obtain ⟨_, _, ⟨T58, L58, k58, n58⟩, -, X58, ⟨Lc58, hQ58, l58, y58, z58⟩, st58⟩ := X57.virtualBack hx (y := (⟨"com/example/hedge/hedge/automaton/PairMarks", "get", "(II)I"⟩ : MethodName)) (z := (⟨"com/example/hedge/hedge/automaton/PairMarks", "get", "(II)I"⟩ : MethodName)) hown (mvT hZ (hw _ (List.mem_of_getElem? (i := 62) rfl))) (mvT hZ (hw _ (List.mem_of_getElem? (i := 45) rfl))) (notFace_of_selects (args := #[]) (mvT hZ (hw _ (List.mem_of_getElem? (i := 47) rfl)))) (mvT hZ (hw _ (List.mem_of_getElem? (i := 47) rfl))) (mvT hZ (hw _ (List.mem_of_getElem? (i := 46) rfl))) (by decide) (backOf (W := 0) (rmG0 l Z a0 hw [] b1 iA iD tb bm kT kB N ((iA, .null) :: ((iA, (.ref x36)) :: [])) ((iA, .null) :: []) h43 n0 Zs54 FB43_1 FB43_3 CT43 CB43 hA.1 hA.2 (own_hit hA.1) (own_hit hA.1)) hZ (hw _ (List.mem_of_getElem? (i := 48) rfl)) (hw _ (List.mem_of_getElem? (i := 3) rfl)) (by decide) (by decide)) q58a q58c (g := (mkF mi 147 #[.val (.int p0), .val (.int p1), .val (.int p2), .val (.int p3), .val (.int p4), .val (.int p5), .val (.int N), .val (.int iA), .val (.int iB), .val (.int iA), .val (.int iD), .val (.int m1), .val (.int m2), .val (.int m3), .val (.ref b1)] [(.int iD), (.int iA), (.ref b1)])) rfl (by rw [hml]; rfl) (Steps.refl _) (argsL := [(.int iA), (.int iD)]) (rest := []) (lenOf pd_1 rfl) rfl (by show 2 * 0 + _ ≤ _; exact Nat.le_of_eq rfl) (hb hby at_147) (fun _ _ => ⟨rfl, e57, (by decide : 6 + 0 ≤ _), (by decide : 794 + 0 ≤ _)⟩)
          dsimp only [Pt.U, Pt.locs, Pt.cells, Pt.slots] at X58 l58 y58 z58 st58 hQ58
          subst l58 y58 z58
          obtain ⟨rfl, N58q, e58⟩ := hQ58
          have N58 := Fr.app N57 N58q
          refine Go.tr st58 ?_
          show Go pg.tables ev below (T58.setTop (mkF mi 150 #[.val (.int p0), .val (.int p1), .val (.int p2), .val (.int p3), .val (.int p4), .val (.int p5), .val (.int N), .val (.int iA), .val (.int iB), .val (.int iA), .val (.int iD), .val (.int m1), .val (.int m2), .val (.int m3), .val (.ref b1)] [(.int (0 : Int32))])) P
          refine Go.st (fun t_ k_ => XS.ifYes X58.here hx rfl (pc0 := 150) (pc' := 155) rfl (hb hby at_150) rfl ((if0 _ _).trans (teq rfl).1) (by decide) (by decide) k_) ?_
          show Go pg.tables ev below (T58.setTop (mkF mi 155 #[.val (.int p0), .val (.int p1), .val (.int p2), .val (.int p3), .val (.int p4), .val (.int p5), .val (.int N), .val (.int iA), .val (.int iB), .val (.int iA), .val (.int iD), .val (.int m1), .val (.int m2), .val (.int m3), .val (.ref b1)] [])) P
          refine Go.st (fun t_ k_ => XS.aload X58.here hx rfl (hb hby at_155) rfl rfl k_) ?_
          show Go pg.tables ev below (T58.setTop (mkF mi 157 #[.val (.int p0), .val (.int p1), .val (.int p2), .val (.int p3), .val (.int p4), .val (.int p5), .val (.int N), .val (.int iA), .val (.int iB), .val (.int iA), .val (.int iD), .val (.int m1), .val (.int m2), .val (.int m3), .val (.ref b1)] [(.ref b1)])) P
          refine Go.st (fun t_ k_ => XS.iload X58.here hx rfl (hb hby at_157) rfl k_) ?_
          show Go pg.tables ev below (T58.setTop (mkF mi 159 #[.val (.int p0), .val (.int p1), .val (.int p2), .val (.int p3), .val (.int p4), .val (.int p5), .val (.int N), .val (.int iA), .val (.int iB), .val (.int iA), .val (.int iD), .val (.int m1), .val (.int m2), .val (.int m3), .val (.ref b1)] [(.int iA), (.ref b1)])) P
          refine Go.st (fun t_ k_ => XS.iload X58.here hx rfl (hb hby at_159) rfl k_) ?_
          show Go pg.tables ev below (T58.setTop (mkF mi 161 #[.val (.int p0), .val (.int p1), .val (.int p2), .val (.int p3), .val (.int p4), .val (.int p5), .val (.int N), .val (.int iA), .val (.int iB), .val (.int iA), .val (.int iD), .val (.int m1), .val (.int m2), .val (.int m3), .val (.ref b1)] [(.int iD), (.int iA), (.ref b1)])) P
          refine Go.st (fun t_ k_ => XS.iload X58.here hx rfl (hb hby at_161) rfl k_) ?_
          show Go pg.tables ev below (T58.setTop (mkF mi 163 #[.val (.int p0), .val (.int p1), .val (.int p2), .val (.int p3), .val (.int p4), .val (.int p5), .val (.int N), .val (.int iA), .val (.int iB), .val (.int iA), .val (.int iD), .val (.int m1), .val (.int m2), .val (.int m3), .val (.ref b1)] [(.int m3), (.int iD), (.int iA), (.ref b1)])) P
          have f60 := (f51.keep K43 (ninS (Ne.symm ne_o_rw) (ninS ne_rw_tb (ninS ne_rw_bm (ninS ne_rw_sz nin0)))))
          obtain ⟨cq59, kq59, q59a, q59b, q59c⟩ := isOf hZ e58 f56
          obtain ⟨_, _, ⟨T59, L59, k59, n59⟩, -, X59, ⟨Lc59, hQ59, l59, y59, z59⟩, st59⟩ := X58.virtualBack hx (y := (⟨"com/example/hedge/hedge/automaton/PairMarks", "add", "(III)I"⟩ : MethodName)) (z := (⟨"com/example/hedge/hedge/automaton/PairMarks", "add", "(III)I"⟩ : MethodName)) hown (mvT hZ (hw _ (List.mem_of_getElem? (i := 26) rfl))) (mvT hZ (hw _ (List.mem_of_getElem? (i := 27) rfl))) (notFace_of_selects (args := #[]) (mvT hZ (hw _ (List.mem_of_getElem? (i := 29) rfl)))) (mvT hZ (hw _ (List.mem_of_getElem? (i := 29) rfl))) (mvT hZ (hw _ (List.mem_of_getElem? (i := 28) rfl))) (by decide) (backOf (W := 0) (rmAN0T l Z a0 hw [] b1 iA iD m3 rw tb sz bm kR kT kS kB N  wd ((iA, .null) :: ((iA, (.ref x36)) :: [])) ((iA, (.int (0 : Int32))) :: hs39) ((iA, .null) :: []) [(.int iA), (.int (0 : Int32)), (.int (0 : Int32)), (.int (0 : Int32)), (.int (0 : Int32)), (.int (0 : Int32)), (.int (0 : Int32)), (.int (0 : Int32)), (.int (0 : Int32)), (.int (0 : Int32)), (.int (0 : Int32)), (.int (0 : Int32)), (.int (0 : Int32)), (.int (0 : Int32)), (.int (0 : Int32)), (.int (0 : Int32))] h43 n0 Zs54 f56 g_b1 g_rw g_tb g_sz g_bm ne_o_rw ne_o_tb ne_o_sz ne_o_bm ne_rw_tb ne_rw_sz ne_rw_bm ne_tb_sz ne_tb_bm ne_sz_bm FB43_0 FB43_1 FB43_2 FB43_3 FB43_4 FB43_5 f60 rfl CT43 CS43 CB43 O_tb O_bm hA.1 hA.2 hwo hN1 hN2 hwd hwd1 hwd2 hD (own_hit hA.1) (own_hit hA.1) (own_hit hA.1)) hZ (hw _ (List.mem_of_getElem? (i := 30) rfl)) (hw _ (List.mem_of_getElem? (i := 3) rfl)) (by decide) (by decide)) q59a q59c (g := (mkF mi 163 #[.val (.int p0), .val (.int p1), .val (.int p2), .val (.int p3), .val (.int p4), .val (.int p5), .val (.int N), .val (.int iA), .val (.int iB), .val (.int iA), .val (.int iD), .val (.int m1), .val (.int m2), .val (.int m3), .val (.ref b1)] [(.int m3), (.int iD), (.int iA), (.ref b1)])) rfl (by rw [hml]; rfl) (Steps.refl _) (argsL := [(.int iA), (.int iD), (.int m3)]) (rest := []) (lenOf pd_5 rfl) rfl (by show 2 * 0 + _ ≤ _; exact Nat.le_of_eq rfl) (hb hby at_163) (fun _ _ => ⟨rfl, e58, (by decide : 6 + 1 ≤ _), (by decide : 794 + 4 ≤ _)⟩)
          dsimp only [Pt.U, Pt.locs, Pt.cells, Pt.slots] at X59 l59 y59 z59 st59 hQ59
          subst l59 y59 z59
          obtain ⟨h59, e59⟩ : ∃ z, T59.heap = z := ⟨_, rfl⟩
          rw [e59] at hQ59
          obtain ⟨rfl, N59q, K59, x59, kx59, z_x59, g_x59, FB59_0, FB59_1, FB59_2, FB59_3, FB59_4, FB59_5, AR59, AB59, AZ59, AX59⟩ := hQ59
          have N59 := Fr.app N58 N59q
          have Zs61 : n0 ≤ h59.size := Nat.le_trans Zs54 K59.1
          have AS59 : Arv Z h59 rw kR .int (16 : Int32) [(.int iA), (.int (0 : Int32)), (.int (0 : Int32)), (.int (0 : Int32)), (.int (0 : Int32)), (.int (0 : Int32)), (.int (0 : Int32)), (.int (0 : Int32)), (.int (0 : Int32)), (.int (0 : Int32)), (.int (0 : Int32)), (.int (0 : Int32)), (.int (0 : Int32)), (.int (0 : Int32)), (.int (0 : Int32)), (.int (0 : Int32))] (.int (0 : Int32)) := AR59
          have ne_b1_x59 : b1 ≠ x59 := Nat.ne_of_lt (Nat.lt_of_lt_of_le f56.lt z_x59)
          have ne_rw_x59 : rw ≠ x59 := Nat.ne_of_lt (Nat.lt_of_lt_of_le f60.lt z_x59)
          have ne_tb_x59 : tb ≠ x59 := Nat.ne_of_lt (Nat.lt_of_lt_of_le CT43.lt z_x59)
          have ne_sz_x59 : sz ≠ x59 := Nat.ne_of_lt (Nat.lt_of_lt_of_le CS43.lt z_x59)
          have ne_bm_x59 : bm ≠ x59 := Nat.ne_of_lt (Nat.lt_of_lt_of_le CB43.lt z_x59)
          refine Go.tr st59 ?_
          show Go pg.tables ev below (T59.setTop (mkF mi 166 #[.val (.int p0), .val (.int p1), .val (.int p2), .val (.int p3), .val (.int p4), .val (.int p5), .val (.int N), .val (.int iA), .val (.int iB), .val (.int iA), .val (.int iD), .val (.int m1), .val (.int m2), .val (.int m3), .val (.ref b1)] [(.int m3)])) P
          refine Go.st (fun t_ k_ => XS.iload X59.here hx rfl (hb hby at_166) rfl k_) ?_
          show Go pg.tables ev below (T59.setTop (mkF mi 168 #[.val (.int p0), .val (.int p1), .val (.int p2), .val (.int p3), .val (.int p4), .val (.int p5), .val (.int N), .val (.int iA), .val (.int iB), .val (.int iA), .val (.int iD), .val (.int m1), .val (.int m2), .val (.int m3), .val (.ref b1)] [(.int m3), (.int m3)])) P
          refine Go.st (fun t_ k_ => XS.icmpYes X59.here hx rfl (pc0 := 168) (pc' := 173) rfl (hb hby at_168) rfl (teq rfl).1 (by decide) (by decide) k_) ?_
          show Go pg.tables ev below (T59.setTop (mkF mi 173 #[.val (.int p0), .val (.int p1), .val (.int p2), .val (.int p3), .val (.int p4), .val (.int p5), .val (.int N), .val (.int iA), .val (.int iB), .val (.int iA), .val (.int iD), .val (.int m1), .val (.int m2), .val (.int m3), .val (.ref b1)] [])) P
          refine Go.st (fun t_ k_ => XS.aload X59.here hx rfl (hb hby at_173) rfl rfl k_) ?_
          show Go pg.tables ev below (T59.setTop (mkF mi 175 #[.val (.int p0), .val (.int p1), .val (.int p2), .val (.int p3), .val (.int p4), .val (.int p5), .val (.int N), .val (.int iA), .val (.int iB), .val (.int iA), .val (.int iD), .val (.int m1), .val (.int m2), .val (.int m3), .val (.ref b1)] [(.ref b1)])) P
          have f63 := (f56.keep K59)
          obtain ⟨cq62, kq62, q62a, q62b, q62c⟩ := isOf hZ e59 f63
          obtain ⟨_, _, ⟨T62, L62, k62, n62⟩, -, X62, ⟨Lc62, hQ62, l62, y62, z62⟩, st62⟩ := X59.virtualBack hx (y := (⟨"com/example/hedge/hedge/automaton/PairMarks", "rowCount", "()I"⟩ : MethodName)) (z := (⟨"com/example/hedge/hedge/automaton/PairMarks", "rowCount", "()I"⟩ : MethodName)) hown (mvT hZ (hw _ (List.mem_of_getElem? (i := 57) rfl))) (mvT hZ (hw _ (List.mem_of_getElem? (i := 58) rfl))) (notFace_of_selects (args := #[]) (mvT hZ (hw _ (List.mem_of_getElem? (i := 60) rfl)))) (mvT hZ (hw _ (List.mem_of_getElem? (i := 60) rfl))) (mvT hZ (hw _ (List.mem_of_getElem? (i := 59) rfl))) (by decide) (backOf (W := 0) (rmRC l Z a0 hw [] b1 (1 : Int32) h59 n0 Zs61 FB59_5) hZ (hw _ (List.mem_of_getElem? (i := 61) rfl)) (hw _ (List.mem_of_getElem? (i := 3) rfl)) (by decide) (by decide)) q62a q62c (g := (mkF mi 175 #[.val (.int p0), .val (.int p1), .val (.int p2), .val (.int p3), .val (.int p4), .val (.int p5), .val (.int N), .val (.int iA), .val (.int iB), .val (.int iA), .val (.int iD), .val (.int m1), .val (.int m2), .val (.int m3), .val (.ref b1)] [(.ref b1)])) rfl (by rw [hml]; rfl) (Steps.refl _) (argsL := []) (rest := []) (lenOf pd_7 rfl) rfl (by show 2 * 0 + _ ≤ _; exact Nat.le_of_eq rfl) (hb hby at_175) (fun _ _ => ⟨rfl, e59, (by decide : 7 + 0 ≤ _), (by decide : 798 + 0 ≤ _)⟩)
          dsimp only [Pt.U, Pt.locs, Pt.cells, Pt.slots] at X62 l62 y62 z62 st62 hQ62
          subst l62 y62 z62
          obtain ⟨rfl, N62q, e62⟩ := hQ62
          have N62 := Fr.app N59 N62q
          refine Go.tr st62 ?_
          show Go pg.tables ev below (T62.setTop (mkF mi 178 #[.val (.int p0), .val (.int p1), .val (.int p2), .val (.int p3), .val (.int p4), .val (.int p5), .val (.int N), .val (.int iA), .val (.int iB), .val (.int iA), .val (.int iD), .val (.int m1), .val (.int m2), .val (.int m3), .val (.ref b1)] [(.int (1 : Int32))])) P
          refine Go.st (fun t_ k_ => XS.iconst X62.here hx rfl (hb hby at_178) k_) ?_
          show Go pg.tables ev below (T62.setTop (mkF mi 179 #[.val (.int p0), .val (.int p1), .val (.int p2), .val (.int p3), .val (.int p4), .val (.int p5), .val (.int N), .val (.int iA), .val (.int iB), .val (.int iA), .val (.int iD), .val (.int m1), .val (.int m2), .val (.int m3), .val (.ref b1)] [(.int (1 : Int32)), (.int (1 : Int32))])) P
          refine Go.st (fun t_ k_ => XS.icmpYes X62.here hx rfl (pc0 := 179) (pc' := 184) rfl (hb hby at_179) rfl (teq rfl).1 (by decide) (by decide) k_) ?_
          show Go pg.tables ev below (T62.setTop (mkF mi 184 #[.val (.int p0), .val (.int p1), .val (.int p2), .val (.int p3), .val (.int p4), .val (.int p5), .val (.int N), .val (.int iA), .val (.int iB), .val (.int iA), .val (.int iD), .val (.int m1), .val (.int m2), .val (.int m3), .val (.ref b1)] [])) P
          refine Go.st (fun t_ k_ => XS.aload X62.here hx rfl (hb hby at_184) rfl rfl k_) ?_
          show Go pg.tables ev below (T62.setTop (mkF mi 186 #[.val (.int p0), .val (.int p1), .val (.int p2), .val (.int p3), .val (.int p4), .val (.int p5), .val (.int N), .val (.int iA), .val (.int iB), .val (.int iA), .val (.int iD), .val (.int m1), .val (.int m2), .val (.int m3), .val (.ref b1)] [(.ref b1)])) P
          refine Go.st (fun t_ k_ => XS.iconst X62.here hx rfl (hb hby at_186) k_) ?_
          show Go pg.tables ev below (T62.setTop (mkF mi 187 #[.val (.int p0), .val (.int p1), .val (.int p2), .val (.int p3), .val (.int p4), .val (.int p5), .val (.int N), .val (.int iA), .val (.int iB), .val (.int iA), .val (.int iD), .val (.int m1), .val (.int m2), .val (.int m3), .val (.ref b1)] [(.int (0 : Int32)), (.ref b1)])) P
          obtain ⟨cq64, kq64, q64a, q64b, q64c⟩ := isOf hZ e62 f63
          obtain ⟨_, _, ⟨T64, L64, k64, n64⟩, -, X64, ⟨Lc64, hQ64, l64, y64, z64⟩, st64⟩ := X62.virtualBack hx (y := (⟨"com/example/hedge/hedge/automaton/PairMarks", "row", "(I)I"⟩ : MethodName)) (z := (⟨"com/example/hedge/hedge/automaton/PairMarks", "row", "(I)I"⟩ : MethodName)) hown (mvT hZ (hw _ (List.mem_of_getElem? (i := 63) rfl))) (mvT hZ (hw _ (List.mem_of_getElem? (i := 64) rfl))) (notFace_of_selects (args := #[]) (mvT hZ (hw _ (List.mem_of_getElem? (i := 66) rfl)))) (mvT hZ (hw _ (List.mem_of_getElem? (i := 66) rfl))) (mvT hZ (hw _ (List.mem_of_getElem? (i := 65) rfl))) (by decide) (backOf (W := 0) (rmRo l Z a0 hw [] b1 rw kR iA [(.int (0 : Int32)), (.int (0 : Int32)), (.int (0 : Int32)), (.int (0 : Int32)), (.int (0 : Int32)), (.int (0 : Int32)), (.int (0 : Int32)), (.int (0 : Int32)), (.int (0 : Int32)), (.int (0 : Int32)), (.int (0 : Int32)), (.int (0 : Int32)), (.int (0 : Int32)), (.int (0 : Int32)), (.int (0 : Int32))] h59 n0 Zs61 FB59_0 AS59) hZ (hw _ (List.mem_of_getElem? (i := 67) rfl)) (hw _ (List.mem_of_getElem? (i := 3) rfl)) (by decide) (by decide)) q64a q64c (g := (mkF mi 187 #[.val (.int p0), .val (.int p1), .val (.int p2), .val (.int p3), .val (.int p4), .val (.int p5), .val (.int N), .val (.int iA), .val (.int iB), .val (.int iA), .val (.int iD), .val (.int m1), .val (.int m2), .val (.int m3), .val (.ref b1)] [(.int (0 : Int32)), (.ref b1)])) rfl (by rw [hml]; rfl) (Steps.refl _) (argsL := [(.int (0 : Int32))]) (rest := []) (lenOf pd_2 rfl) rfl (by show 2 * 0 + _ ≤ _; exact Nat.le_of_eq rfl) (hb hby at_187) (fun _ _ => ⟨rfl, e62, (by decide : 7 + 0 ≤ _), (by decide : 798 + 0 ≤ _)⟩)
          dsimp only [Pt.U, Pt.locs, Pt.cells, Pt.slots] at X64 l64 y64 z64 st64 hQ64
          subst l64 y64 z64
          obtain ⟨rfl, N64q, e64⟩ := hQ64
          have N64 := Fr.app N62 N64q
          refine Go.tr st64 ?_
          show Go pg.tables ev below (T64.setTop (mkF mi 190 #[.val (.int p0), .val (.int p1), .val (.int p2), .val (.int p3), .val (.int p4), .val (.int p5), .val (.int N), .val (.int iA), .val (.int iB), .val (.int iA), .val (.int iD), .val (.int m1), .val (.int m2), .val (.int m3), .val (.ref b1)] [(.int iA)])) P
          refine Go.st (fun t_ k_ => XS.iload X64.here hx rfl (hb hby at_190) rfl k_) ?_
          show Go pg.tables ev below (T64.setTop (mkF mi 192 #[.val (.int p0), .val (.int p1), .val (.int p2), .val (.int p3), .val (.int p4), .val (.int p5), .val (.int N), .val (.int iA), .val (.int iB), .val (.int iA), .val (.int iD), .val (.int m1), .val (.int m2), .val (.int m3), .val (.ref b1)] [(.int iA), (.int iA)])) P
          refine Go.st (fun t_ k_ => XS.icmpYes X64.here hx rfl (pc0 := 192) (pc' := 197) rfl (hb hby at_192) rfl (teq rfl).1 (by decide) (by decide) k_) ?_
          show Go pg.tables ev below (T64.setTop (mkF mi 197 #[.val (.int p0), .val (.int p1), .val (.int p2), .val (.int p3), .val (.int p4), .val (.int p5), .val (.int N), .val (.int iA), .val (.int iB), .val (.int iA), .val (.int iD), .val (.int m1), .val (.int m2), .val (.int m3), .val (.ref b1)] [])) P
          refine Go.st (fun t_ k_ => XS.aload X64.here hx rfl (hb hby at_197) rfl rfl k_) ?_
          show Go pg.tables ev below (T64.setTop (mkF mi 199 #[.val (.int p0), .val (.int p1), .val (.int p2), .val (.int p3), .val (.int p4), .val (.int p5), .val (.int N), .val (.int iA), .val (.int iB), .val (.int iA), .val (.int iD), .val (.int m1), .val (.int m2), .val (.int m3), .val (.ref b1)] [(.ref b1)])) P
          refine Go.st (fun t_ k_ => XS.iload X64.here hx rfl (hb hby at_199) rfl k_) ?_
          show Go pg.tables ev below (T64.setTop (mkF mi 201 #[.val (.int p0), .val (.int p1), .val (.int p2), .val (.int p3), .val (.int p4), .val (.int p5), .val (.int N), .val (.int iA), .val (.int iB), .val (.int iA), .val (.int iD), .val (.int m1), .val (.int m2), .val (.int m3), .val (.ref b1)] [(.int iA), (.ref b1)])) P
          refine Go.st (fun t_ k_ => XS.iload X64.here hx rfl (hb hby at_201) rfl k_) ?_
          show Go pg.tables ev below (T64.setTop (mkF mi 203 #[.val (.int p0), .val (.int p1), .val (.int p2), .val (.int p3), .val (.int p4), .val (.int p5), .val (.int N), .val (.int iA), .val (.int iB), .val (.int iA), .val (.int iD), .val (.int m1), .val (.int m2), .val (.int m3), .val (.ref b1)] [(.int iD), (.int iA), (.ref b1)])) P
          have f66 := (CB43.keep K59 (ninS (Ne.symm ne_o_bm) (ninS (Ne.symm ne_rw_bm) (ninS (Ne.symm ne_tb_bm) (ninS (Ne.symm ne_sz_bm) nin0)))))
          have hkD1 : 0 ≤ iD.toInt ∧ iD.toInt < 256 := own_rng hN2 hD
          obtain ⟨cq65, kq65, q65a, q65b, q65c⟩ := isOf hZ e64 f63
          obtain ⟨_, _, ⟨T65, L65, k65, n65⟩, -, X65, ⟨Lc65, hQ65, l65, y65, z65⟩, st65⟩ := X64.virtualBack hx (y := (⟨"com/example/hedge/hedge/automaton/PairMarks", "get", "(II)I"⟩ : MethodName)) (z := (⟨"com/example/hedge/hedge/automaton/PairMarks", "get", "(II)I"⟩ : MethodName)) hown (mvT hZ (hw _ (List.mem_of_getElem? (i := 62) rfl))) (mvT hZ (hw _ (List.mem_of_getElem? (i := 45) rfl))) (notFace_of_selects (args := #[]) (mvT hZ (hw _ (List.mem_of_getElem? (i := 47) rfl)))) (mvT hZ (hw _ (List.mem_of_getElem? (i := 47) rfl))) (mvT hZ (hw _ (List.mem_of_getElem? (i := 46) rfl))) (by decide) (backOf (W := 0) (rmGT l Z a0 hw [] b1 iA iD tb bm kT kB N ((iA, (.ref x59)) :: ((iA, .null) :: ((iA, (.ref x36)) :: []))) ((iA, .null) :: []) x59 kx59 [((fSl iD (3 : Int32)), (.int ((fKe iD) ||| m3)))] ((fKe iD) ||| m3) h59 n0 Zs61 FB59_1 FB59_3 AB59 f66 hA.1 hA.2 (own_hit hA.1) (own_hit hA.1) AX59 (own_hit (own_slot iD).1) (own_key0 hkD1.1 hkD1.2 hm3.1 hm3.2) (own_key1 hkD1.1 hkD1.2 hm3.1 hm3.2)) hZ (hw _ (List.mem_of_getElem? (i := 48) rfl)) (hw _ (List.mem_of_getElem? (i := 3) rfl)) (by decide) (by decide)) q65a q65c (g := (mkF mi 203 #[.val (.int p0), .val (.int p1), .val (.int p2), .val (.int p3), .val (.int p4), .val (.int p5), .val (.int N), .val (.int iA), .val (.int iB), .val (.int iA), .val (.int iD), .val (.int m1), .val (.int m2), .val (.int m3), .val (.ref b1)] [(.int iD), (.int iA), (.ref b1)])) rfl (by rw [hml]; rfl) (Steps.refl _) (argsL := [(.int iA), (.int iD)]) (rest := []) (lenOf pd_1 rfl) rfl (by show 2 * 0 + _ ≤ _; exact Nat.le_of_eq rfl) (hb hby at_203) (fun _ _ => ⟨rfl, e64, (by decide : 7 + 0 ≤ _), (by decide : 798 + 0 ≤ _)⟩)
          dsimp only [Pt.U, Pt.locs, Pt.cells, Pt.slots] at X65 l65 y65 z65 st65 hQ65
          subst l65 y65 z65
          obtain ⟨rfl, N65q, e65⟩ := hQ65
          have N65 := Fr.app N64 N65q
          refine Go.tr st65 ?_
          show Go pg.tables ev below (T65.setTop (mkF mi 206 #[.val (.int p0), .val (.int p1), .val (.int p2), .val (.int p3), .val (.int p4), .val (.int p5), .val (.int N), .val (.int iA), .val (.int iB), .val (.int iA), .val (.int iD), .val (.int m1), .val (.int m2), .val (.int m3), .val (.ref b1)] [(.int (((fKe iD) ||| m3) &&& (3 : Int32)))])) P
          refine Go.st (fun t_ k_ => XS.iload X65.here hx rfl (hb hby at_206) rfl k_) ?_
          show Go pg.tables ev below (T65.setTop (mkF mi 208 #[.val (.int p0), .val (.int p1), .val (.int p2), .val (.int p3), .val (.int p4), .val (.int p5), .val (.int N), .val (.int iA), .val (.int iB), .val (.int iA), .val (.int iD), .val (.int m1), .val (.int m2), .val (.int m3), .val (.ref b1)] [(.int m3), (.int (((fKe iD) ||| m3) &&& (3 : Int32)))])) P
          refine Go.st (fun t_ k_ => XS.icmpNo X65.here hx rfl (hb hby at_208) rfl (teq (own_key2 hkD1.1 hkD1.2 hm3.1 hm3.2)).2 k_) ?_
          show Go pg.tables ev below (T65.setTop (mkF mi 211 #[.val (.int p0), .val (.int p1), .val (.int p2), .val (.int p3), .val (.int p4), .val (.int p5), .val (.int N), .val (.int iA), .val (.int iB), .val (.int iA), .val (.int iD), .val (.int m1), .val (.int m2), .val (.int m3), .val (.ref b1)] [])) P
          refine Go.st (fun t_ k_ => XS.iconst X65.here hx rfl (hb hby at_211) k_) ?_
          show Go pg.tables ev below (T65.setTop (mkF mi 212 #[.val (.int p0), .val (.int p1), .val (.int p2), .val (.int p3), .val (.int p4), .val (.int p5), .val (.int N), .val (.int iA), .val (.int iB), .val (.int iA), .val (.int iD), .val (.int m1), .val (.int m2), .val (.int m3), .val (.ref b1)] [(.int (1 : Int32))])) P
          refine Go.st (fun t_ k_ => XS.goto X65.here hx rfl (pc0 := 212) (pc' := 216) rfl (hb hby at_212) (by decide) (by decide) k_) ?_
          show Go pg.tables ev below (T65.setTop (mkF mi 216 #[.val (.int p0), .val (.int p1), .val (.int p2), .val (.int p3), .val (.int p4), .val (.int p5), .val (.int N), .val (.int iA), .val (.int iB), .val (.int iA), .val (.int iD), .val (.int m1), .val (.int m2), .val (.int m3), .val (.ref b1)] [(.int (1 : Int32))])) P
          obtain ⟨fs, hr, hrun, hended, hW, hsame⟩ := X65.leave (v := some (.int (1 : Int32))) (fun h => by rw [Bd.returns] at h; cases h) (BodyLoose.notSynchronized Bd)
          refine ⟨_, _, ?_, hP _ _ ⟨hrun, hended, _, _, rfl, ?_, ⟨_, rfl⟩, hW, hsame.mono (by decide) (by decide)⟩⟩
          · exact retN X65 hx (t := .boolean) Bd.returns (by simp) (hb hby at_216) hr
          · show (some (.int (1 : Int32)) : Option Value) = some (.int 1) ∧ Fr n0 _
            exact ⟨rfl, N65⟩
        · show Go pg.tables ev below (T3.setTop (mkF mi 88 #[.val (.int p0), .val (.int p1), .val (.int p2), .val (.int p3), .val (.int p4), .val (.int p5), .val (.int N), .val (.int iA), .val (.int iB), .val (.int iA), .val (.int iD), .val (.int m1), .val (.int m2), .val (.int m3), .val (.ref b1)] [])) P
          refine Go.st (fun t_ k_ => XS.aload X3.here hx rfl (hb hby at_88) rfl rfl k_) ?_
          show Go pg.tables ev below (T3.setTop (mkF mi 90 #[.val (.int p0), .val (.int p1), .val (.int p2), .val (.int p3), .val (.int p4), .val (.int p5), .val (.int N), .val (.int iA), .val (.int iB), .val (.int iA), .val (.int iD), .val (.int m1), .val (.int m2), .val (.int m3), .val (.ref b1)] [(.ref b1)])) P
          refine Go.st (fun t_ k_ => XS.iload X3.here hx rfl (hb hby at_90) rfl k_) ?_
          show Go pg.tables ev below (T3.setTop (mkF mi 92 #[.val (.int p0), .val (.int p1), .val (.int p2), .val (.int p3), .val (.int p4), .val (.int p5), .val (.int N), .val (.int iA), .val (.int iB), .val (.int iA), .val (.int iD), .val (.int m1), .val (.int m2), .val (.int m3), .val (.ref b1)] [(.int iA), (.ref b1)])) P
          refine Go.st (fun t_ k_ => XS.iload X3.here hx rfl (hb hby at_92) rfl k_) ?_
          show Go pg.tables ev below (T3.setTop (mkF mi 94 #[.val (.int p0), .val (.int p1), .val (.int p2), .val (.int p3), .val (.int p4), .val (.int p5), .val (.int N), .val (.int iA), .val (.int iB), .val (.int iA), .val (.int iD), .val (.int m1), .val (.int m2), .val (.int m3), .val (.ref b1)] [(.int iB), (.int iA), (.ref b1)])) P
          refine Go.st (fun t_ k_ => XS.iload X3.here hx rfl (hb hby at_94) rfl k_) ?_
          show Go pg.tables ev below (T3.setTop (mkF mi 96 #[.val (.int p0), .val (.int p1), .val (.int p2), .val (.int p3), .val (.int p4), .val (.int p5), .val (.int N), .val (.int iA), .val (.int iB), .val (.int iA), .val (.int iD), .val (.int m1), .val (.int m2), .val (.int m3), .val (.ref b1)] [(.int m1), (.int iB), (.int iA), (.ref b1)])) P
          have f68 := (A1.keep K3)
          obtain ⟨cq67, kq67, q67a, q67b, q67c⟩ := isOf hZ e3 f68
          obtain ⟨_, _, ⟨T67, L67, k67, n67⟩, -, X67, ⟨Lc67, hQ67, l67, y67, z67⟩, st67⟩ := X3.virtualBack hx (y := (⟨"com/example/hedge/hedge/automaton/PairMarks", "add", "(III)I"⟩ : MethodName)) (z := (⟨"com/example/hedge/hedge/automaton/PairMarks", "add", "(III)I"⟩ : MethodName)) hown (mvT hZ (hw _ (List.mem_of_getElem? (i := 26) rfl))) (mvT hZ (hw _ (List.mem_of_getElem? (i := 27) rfl))) (notFace_of_selects (args := #[]) (mvT hZ (hw _ (List.mem_of_getElem? (i := 29) rfl)))) (mvT hZ (hw _ (List.mem_of_getElem? (i := 29) rfl))) (mvT hZ (hw _ (List.mem_of_getElem? (i := 28) rfl))) (by decide) (backOf (W := 0) (rmAN0T l Z a0 hw [] b1 iA iB m1 rw tb sz bm kR kT kS kB N  wd [] [] [] [(.int (0 : Int32)), (.int (0 : Int32)), (.int (0 : Int32)), (.int (0 : Int32)), (.int (0 : Int32)), (.int (0 : Int32)), (.int (0 : Int32)), (.int (0 : Int32)), (.int (0 : Int32)), (.int (0 : Int32)), (.int (0 : Int32)), (.int (0 : Int32)), (.int (0 : Int32)), (.int (0 : Int32)), (.int (0 : Int32)), (.int (0 : Int32))] h3 n0 Zs4 f68 g_b1 g_rw g_tb g_sz g_bm ne_o_rw ne_o_tb ne_o_sz ne_o_bm ne_rw_tb ne_rw_sz ne_rw_bm ne_tb_sz ne_tb_bm ne_sz_bm FI0 FI1 FI2 FI3 FI4 FI5 V_rw rfl V_tb V_sz V_bm O_tb O_bm hA.1 hA.2 hwo hN1 hN2 hwd hwd1 hwd2 hBq rfl rfl rfl) hZ (hw _ (List.mem_of_getElem? (i := 30) rfl)) (hw _ (List.mem_of_getElem? (i := 3) rfl)) (by decide) (by decide)) q67a q67c (g := (mkF mi 96 #[.val (.int p0), .val (.int p1), .val (.int p2), .val (.int p3), .val (.int p4), .val (.int p5), .val (.int N), .val (.int iA), .val (.int iB), .val (.int iA), .val (.int iD), .val (.int m1), .val (.int m2), .val (.int m3), .val (.ref b1)] [(.int m1), (.int iB), (.int iA), (.ref b1)])) rfl (by rw [hml]; rfl) (Steps.refl _) (argsL := [(.int iA), (.int iB), (.int m1)]) (rest := []) (lenOf pd_5 rfl) rfl (by show 2 * 0 + _ ≤ _; exact Nat.le_of_eq rfl) (hb hby at_96) (fun _ _ => ⟨rfl, e3, (by decide : 5 + 1 ≤ _), (by decide : 790 + 4 ≤ _)⟩)
          dsimp only [Pt.U, Pt.locs, Pt.cells, Pt.slots] at X67 l67 y67 z67 st67 hQ67
          subst l67 y67 z67
          obtain ⟨h67, e67⟩ : ∃ z, T67.heap = z := ⟨_, rfl⟩
          rw [e67] at hQ67
          obtain ⟨rfl, N67q, K67, x67, kx67, z_x67, g_x67, FB67_0, FB67_1, FB67_2, FB67_3, FB67_4, FB67_5, AR67, AB67, AZ67, AX67⟩ := hQ67
          have N67 := Fr.app N3 N67q
          have Zs69 : n0 ≤ h67.size := Nat.le_trans Zs4 K67.1
          have AS67 : Arv Z h67 rw kR .int (16 : Int32) [(.int iA), (.int (0 : Int32)), (.int (0 : Int32)), (.int (0 : Int32)), (.int (0 : Int32)), (.int (0 : Int32)), (.int (0 : Int32)), (.int (0 : Int32)), (.int (0 : Int32)), (.int (0 : Int32)), (.int (0 : Int32)), (.int (0 : Int32)), (.int (0 : Int32)), (.int (0 : Int32)), (.int (0 : Int32)), (.int (0 : Int32))] (.int (0 : Int32)) := AR67
          have ne_b1_x67 : b1 ≠ x67 := Nat.ne_of_lt (Nat.lt_of_lt_of_le f68.lt z_x67)
          have ne_rw_x67 : rw ≠ x67 := Nat.ne_of_lt (Nat.lt_of_lt_of_le V_rw.lt z_x67)
          have ne_tb_x67 : tb ≠ x67 := Nat.ne_of_lt (Nat.lt_of_lt_of_le V_tb.lt z_x67)
          have ne_sz_x67 : sz ≠ x67 := Nat.ne_of_lt (Nat.lt_of_lt_of_le V_sz.lt z_x67)
          have ne_bm_x67 : bm ≠ x67 := Nat.ne_of_lt (Nat.lt_of_lt_of_le V_bm.lt z_x67)
          refine Go.tr st67 ?_
          show Go pg.tables ev below (T67.setTop (mkF mi 99 #[.val (.int p0), .val (.int p1), .val (.int p2), .val (.int p3), .val (.int p4), .val (.int p5), .val (.int N), .val (.int iA), .val (.int iB), .val (.int iA), .val (.int iD), .val (.int m1), .val (.int m2), .val (.int m3), .val (.ref b1)] [(.int m1)])) P
          refine Go.st (fun t_ k_ => XS.pop X67.here hx rfl (hb hby at_99) rfl rfl k_) ?_
          show Go pg.tables ev below (T67.setTop (mkF mi 100 #[.val (.int p0), .val (.int p1), .val (.int p2), .val (.int p3), .val (.int p4), .val (.int p5), .val (.int N), .val (.int iA), .val (.int iB), .val (.int iA), .val (.int iD), .val (.int m1), .val (.int m2), .val (.int m3), .val (.ref b1)] [])) P
          refine Go.st (fun t_ k_ => XS.aload X67.here hx rfl (hb hby at_100) rfl rfl k_) ?_
          show Go pg.tables ev below (T67.setTop (mkF mi 102 #[.val (.int p0), .val (.int p1), .val (.int p2), .val (.int p3), .val (.int p4), .val (.int p5), .val (.int N), .val (.int iA), .val (.int iB), .val (.int iA), .val (.int iD), .val (.int m1), .val (.int m2), .val (.int m3), .val (.ref b1)] [(.ref b1)])) P
          refine Go.st (fun t_ k_ => XS.iload X67.here hx rfl (hb hby at_102) rfl k_) ?_
          show Go pg.tables ev below (T67.setTop (mkF mi 104 #[.val (.int p0), .val (.int p1), .val (.int p2), .val (.int p3), .val (.int p4), .val (.int p5), .val (.int N), .val (.int iA), .val (.int iB), .val (.int iA), .val (.int iD), .val (.int m1), .val (.int m2), .val (.int m3), .val (.ref b1)] [(.int iA), (.ref b1)])) P
          refine Go.st (fun t_ k_ => XS.iload X67.here hx rfl (hb hby at_104) rfl k_) ?_
          show Go pg.tables ev below (T67.setTop (mkF mi 106 #[.val (.int p0), .val (.int p1), .val (.int p2), .val (.int p3), .val (.int p4), .val (.int p5), .val (.int N), .val (.int iA), .val (.int iB), .val (.int iA), .val (.int iD), .val (.int m1), .val (.int m2), .val (.int m3), .val (.ref b1)] [(.int iD), (.int iA), (.ref b1)])) P
          refine Go.st (fun t_ k_ => XS.iload X67.here hx rfl (hb hby at_106) rfl k_) ?_
          show Go pg.tables ev below (T67.setTop (mkF mi 108 #[.val (.int p0), .val (.int p1), .val (.int p2), .val (.int p3), .val (.int p4), .val (.int p5), .val (.int N), .val (.int iA), .val (.int iB), .val (.int iA), .val (.int iD), .val (.int m1), .val (.int m2), .val (.int m3), .val (.ref b1)] [(.int m2), (.int iD), (.int iA), (.ref b1)])) P
          have f71 := (f68.keep K67)
          have f72 := (V_bm.keep K67 (ninS (Ne.symm ne_o_bm) (ninS (Ne.symm ne_rw_bm) (ninS (Ne.symm ne_tb_bm) (ninS (Ne.symm ne_sz_bm) nin0)))))
          have hkB1 : 0 ≤ iB.toInt ∧ iB.toInt < 256 := own_rng hN2 hBq
          obtain ⟨cq70, kq70, q70a, q70b, q70c⟩ := isOf hZ e67 f71
          obtain ⟨_, _, ⟨T70, L70, k70, n70⟩, -, X70, ⟨Lc70, hQ70, l70, y70, z70⟩, st70⟩ := X67.virtualBack hx (y := (⟨"com/example/hedge/hedge/automaton/PairMarks", "add", "(III)I"⟩ : MethodName)) (z := (⟨"com/example/hedge/hedge/automaton/PairMarks", "add", "(III)I"⟩ : MethodName)) hown (mvT hZ (hw _ (List.mem_of_getElem? (i := 26) rfl))) (mvT hZ (hw _ (List.mem_of_getElem? (i := 27) rfl))) (notFace_of_selects (args := #[]) (mvT hZ (hw _ (List.mem_of_getElem? (i := 29) rfl)))) (mvT hZ (hw _ (List.mem_of_getElem? (i := 29) rfl))) (mvT hZ (hw _ (List.mem_of_getElem? (i := 28) rfl))) (by decide) (backOf (W := 0) (rmAET2 l Z a0 hw [] b1 iA iD m2 tb bm kT kB N ((iA, (.ref x67)) :: []) [] x67 kx67 sz kS ((iA, (.int (1 : Int32))) :: []) ((fKe iB) ||| m1) iB h67 n0 Zs69 f71 FB67_1 FB67_3 AB67 f72 hA.1 hA.2 rfl (own_hit hA.1) FB67_2 AZ67 (own_hit hA.1) AX67 (own_key0 hkB1.1 hkB1.2 hm1.1 hm1.2) (own_key1 hkB1.1 hkB1.2 hm1.1 hm1.2) g_x67 g_sz ne_bm_x67 ne_tb_x67 ne_sz_x67 (Ne.symm ne_sz_bm) ne_tb_sz ne_b1_x67 ne_o_sz hbd hsl) hZ (hw _ (List.mem_of_getElem? (i := 30) rfl)) (hw _ (List.mem_of_getElem? (i := 3) rfl)) (by decide) (by decide)) q70a q70c (g := (mkF mi 108 #[.val (.int p0), .val (.int p1), .val (.int p2), .val (.int p3), .val (.int p4), .val (.int p5), .val (.int N), .val (.int iA), .val (.int iB), .val (.int iA), .val (.int iD), .val (.int m1), .val (.int m2), .val (.int m3), .val (.ref b1)] [(.int m2), (.int iD), (.int iA), (.ref b1)])) rfl (by rw [hml]; rfl) (Steps.refl _) (argsL := [(.int iA), (.int iD), (.int m2)]) (rest := []) (lenOf pd_5 rfl) rfl (by show 2 * 0 + _ ≤ _; exact Nat.le_of_eq rfl) (hb hby at_108) (fun _ _ => ⟨rfl, e67, (by decide : 6 + 0 ≤ _), (by decide : 794 + 0 ≤ _)⟩)
          dsimp only [Pt.U, Pt.locs, Pt.cells, Pt.slots] at X70 l70 y70 z70 st70 hQ70
          subst l70 y70 z70
          obtain ⟨h70, e70⟩ : ∃ z, T70.heap = z := ⟨_, rfl⟩
          rw [e70] at hQ70
          obtain ⟨r70, hs70, rfl, N70q, K70, AZ70⟩ := hQ70
          have N70 := Fr.app N67 N70q
          have Zs73 : n0 ≤ h70.size := Nat.le_trans Zs69 K70.1
          refine Go.tr st70 ?_
          show Go pg.tables ev below (T70.setTop (mkF mi 111 #[.val (.int p0), .val (.int p1), .val (.int p2), .val (.int p3), .val (.int p4), .val (.int p5), .val (.int N), .val (.int iA), .val (.int iB), .val (.int iA), .val (.int iD), .val (.int m1), .val (.int m2), .val (.int m3), .val (.ref b1)] [(.int r70)])) P
          refine Go.st (fun t_ k_ => XS.pop X70.here hx rfl (hb hby at_111) rfl rfl k_) ?_
          show Go pg.tables ev below (T70.setTop (mkF mi 112 #[.val (.int p0), .val (.int p1), .val (.int p2), .val (.int p3), .val (.int p4), .val (.int p5), .val (.int N), .val (.int iA), .val (.int iB), .val (.int iA), .val (.int iD), .val (.int m1), .val (.int m2), .val (.int m3), .val (.ref b1)] [])) P
          refine Go.st (fun t_ k_ => XS.aload X70.here hx rfl (hb hby at_112) rfl rfl k_) ?_
          show Go pg.tables ev below (T70.setTop (mkF mi 114 #[.val (.int p0), .val (.int p1), .val (.int p2), .val (.int p3), .val (.int p4), .val (.int p5), .val (.int N), .val (.int iA), .val (.int iB), .val (.int iA), .val (.int iD), .val (.int m1), .val (.int m2), .val (.int m3), .val (.ref b1)] [(.ref b1)])) P
          have f75 := (f71.keep K70)
          have f76 := (FB67_0.keep K70 (ninS ne_b1_x67 (ninS ne_o_sz nin0)))
          have f77 := (FB67_1.keep K70 (ninS ne_b1_x67 (ninS ne_o_sz nin0)))
          have f78 := (FB67_2.keep K70 (ninS ne_b1_x67 (ninS ne_o_sz nin0)))
          have f79 := (FB67_3.keep K70 (ninS ne_b1_x67 (ninS ne_o_sz nin0)))
          have f80 := (FB67_4.keep K70 (ninS ne_b1_x67 (ninS ne_o_sz nin0)))
          have f81 := (FB67_5.keep K70 (ninS ne_b1_x67 (ninS ne_o_sz nin0)))
          have f82 := (AS67.keep K70 (ninS ne_rw_x67 (ninS ne_rw_sz nin0)))
          have f83 := (AB67.keep K70 (ninS ne_tb_x67 (ninS ne_tb_sz nin0)))
          have f84 := (f72.keep K70 (ninS ne_bm_x67 (ninS (Ne.symm ne_sz_bm) nin0)))
          obtain ⟨cq74, kq74, q74a, q74b, q74c⟩ := isOf hZ e70 f75
          obtain ⟨_, _, ⟨T74, L74, k74, n74⟩, -, X74, ⟨Lc74, hQ74, l74, y74, z74⟩, st74⟩ := X70.virtualBack hx (y := (⟨"com/example/hedge/hedge/automaton/PairMarks", "clear", "()V"⟩ : MethodName)) (z := (⟨"com/example/hedge/hedge/automaton/PairMarks", "clear", "()V"⟩ : MethodName)) hown (mvT hZ (hw _ (List.mem_of_getElem? (i := 52) rfl))) (mvT hZ (hw _ (List.mem_of_getElem? (i := 53) rfl))) (notFace_of_selects (args := #[]) (mvT hZ (hw _ (List.mem_of_getElem? (i := 55) rfl)))) (mvT hZ (hw _ (List.mem_of_getElem? (i := 55) rfl))) (mvT hZ (hw _ (List.mem_of_getElem? (i := 54) rfl))) (by decide) (backOf (W := 0) (rmC1 l Z a0 hw [] b1 rw tb sz bm kR kT kS kB N  wd ((iA, (.ref x67)) :: []) hs70 [] [(.int (0 : Int32)), (.int (0 : Int32)), (.int (0 : Int32)), (.int (0 : Int32)), (.int (0 : Int32)), (.int (0 : Int32)), (.int (0 : Int32)), (.int (0 : Int32)), (.int (0 : Int32)), (.int (0 : Int32)), (.int (0 : Int32)), (.int (0 : Int32)), (.int (0 : Int32)), (.int (0 : Int32)), (.int (0 : Int32))] iA h70 n0 Zs73 f75 g_b1 g_rw g_tb g_sz g_bm ne_o_rw ne_o_tb ne_o_sz ne_o_bm ne_rw_tb ne_rw_sz ne_rw_bm ne_tb_sz ne_tb_bm ne_sz_bm f76 f77 f78 f79 f80 f81 f82 f83 AZ70 f84 O_tb O_bm hA.1 hA.2) hZ (hw _ (List.mem_of_getElem? (i := 56) rfl)) (hw _ (List.mem_of_getElem? (i := 3) rfl)) (by decide) (by decide)) q74a q74c (g := (mkF mi 114 #[.val (.int p0), .val (.int p1), .val (.int p2), .val (.int p3), .val (.int p4), .val (.int p5), .val (.int N), .val (.int iA), .val (.int iB), .val (.int iA), .val (.int iD), .val (.int m1), .val (.int m2), .val (.int m3), .val (.ref b1)] [(.ref b1)])) rfl (by rw [hml]; rfl) (Steps.refl _) (argsL := []) (rest := []) (lenOf pd_6 rfl) rfl (by show 2 * 0 + _ ≤ _; exact Nat.le_of_eq rfl) (hb hby at_114) (fun _ _ => ⟨rfl, e70, (by decide : 6 + 0 ≤ _), (by decide : 794 + 0 ≤ _)⟩)
          dsimp only [Pt.U, Pt.locs, Pt.cells, Pt.slots] at X74 l74 y74 z74 st74 hQ74
          subst l74 y74 z74
          obtain ⟨h74, e74⟩ : ∃ z, T74.heap = z := ⟨_, rfl⟩
          rw [e74] at hQ74
          obtain ⟨rfl, N74q, K74, FB74_0, FB74_1, FB74_2, FB74_3, FB74_4, FB74_5, CT74, CB74, CS74⟩ := hQ74
          have N74 := Fr.app N70 N74q
          have Zs85 : n0 ≤ h74.size := Nat.le_trans Zs73 K74.1
          refine Go.tr st74 ?_
          show Go pg.tables ev below (T74.setTop (mkF mi 117 #[.val (.int p0), .val (.int p1), .val (.int p2), .val (.int p3), .val (.int p4), .val (.int p5), .val (.int N), .val (.int iA), .val (.int iB), .val (.int iA), .val (.int iD), .val (.int m1), .val (.int m2), .val (.int m3), .val (.ref b1)] [])) P
          refine Go.st (fun t_ k_ => XS.aload X74.here hx rfl (hb hby at_117) rfl rfl k_) ?_
          show Go pg.tables ev below (T74.setTop (mkF mi 119 #[.val (.int p0), .val (.int p1), .val (.int p2), .val (.int p3), .val (.int p4), .val (.int p5), .val (.int N), .val (.int iA), .val (.int iB), .val (.int iA), .val (.int iD), .val (.int m1), .val (.int m2), .val (.int m3), .val (.ref b1)] [(.ref b1)])) P
          have f87 := (f75.keep K74)
          obtain ⟨cq86, kq86, q86a, q86b, q86c⟩ := isOf hZ e74 f87
          obtain ⟨_, _, ⟨T86, L86, k86, n86⟩, -, X86, ⟨Lc86, hQ86, l86, y86, z86⟩, st86⟩ := X74.virtualBack hx (y := (⟨"com/example/hedge/hedge/automaton/PairMarks", "rowCount", "()I"⟩ : MethodName)) (z := (⟨"com/example/hedge/hedge/automaton/PairMarks", "rowCount", "()I"⟩ : MethodName)) hown (mvT hZ (hw _ (List.mem_of_getElem? (i := 57) rfl))) (mvT hZ (hw _ (List.mem_of_getElem? (i := 58) rfl))) (notFace_of_selects (args := #[]) (mvT hZ (hw _ (List.mem_of_getElem? (i := 60) rfl)))) (mvT hZ (hw _ (List.mem_of_getElem? (i := 60) rfl))) (mvT hZ (hw _ (List.mem_of_getElem? (i := 59) rfl))) (by decide) (backOf (W := 0) (rmRC l Z a0 hw [] b1 (0 : Int32) h74 n0 Zs85 FB74_5) hZ (hw _ (List.mem_of_getElem? (i := 61) rfl)) (hw _ (List.mem_of_getElem? (i := 3) rfl)) (by decide) (by decide)) q86a q86c (g := (mkF mi 119 #[.val (.int p0), .val (.int p1), .val (.int p2), .val (.int p3), .val (.int p4), .val (.int p5), .val (.int N), .val (.int iA), .val (.int iB), .val (.int iA), .val (.int iD), .val (.int m1), .val (.int m2), .val (.int m3), .val (.ref b1)] [(.ref b1)])) rfl (by rw [hml]; rfl) (Steps.refl _) (argsL := []) (rest := []) (lenOf pd_7 rfl) rfl (by show 2 * 0 + _ ≤ _; exact Nat.le_of_eq rfl) (hb hby at_119) (fun _ _ => ⟨rfl, e74, (by decide : 6 + 0 ≤ _), (by decide : 794 + 0 ≤ _)⟩)
          dsimp only [Pt.U, Pt.locs, Pt.cells, Pt.slots] at X86 l86 y86 z86 st86 hQ86
          subst l86 y86 z86
          obtain ⟨rfl, N86q, e86⟩ := hQ86
          have N86 := Fr.app N74 N86q
          refine Go.tr st86 ?_
          show Go pg.tables ev below (T86.setTop (mkF mi 122 #[.val (.int p0), .val (.int p1), .val (.int p2), .val (.int p3), .val (.int p4), .val (.int p5), .val (.int N), .val (.int iA), .val (.int iB), .val (.int iA), .val (.int iD), .val (.int m1), .val (.int m2), .val (.int m3), .val (.ref b1)] [(.int (0 : Int32))])) P
          refine Go.st (fun t_ k_ => XS.ifYes X86.here hx rfl (pc0 := 122) (pc' := 127) rfl (hb hby at_122) rfl ((if0 _ _).trans (teq rfl).1) (by decide) (by decide) k_) ?_
          show Go pg.tables ev below (T86.setTop (mkF mi 127 #[.val (.int p0), .val (.int p1), .val (.int p2), .val (.int p3), .val (.int p4), .val (.int p5), .val (.int N), .val (.int iA), .val (.int iB), .val (.int iA), .val (.int iD), .val (.int m1), .val (.int m2), .val (.int m3), .val (.ref b1)] [])) P
          refine Go.st (fun t_ k_ => XS.aload X86.here hx rfl (hb hby at_127) rfl rfl k_) ?_
          show Go pg.tables ev below (T86.setTop (mkF mi 129 #[.val (.int p0), .val (.int p1), .val (.int p2), .val (.int p3), .val (.int p4), .val (.int p5), .val (.int N), .val (.int iA), .val (.int iB), .val (.int iA), .val (.int iD), .val (.int m1), .val (.int m2), .val (.int m3), .val (.ref b1)] [(.ref b1)])) P
          refine Go.st (fun t_ k_ => XS.iload X86.here hx rfl (hb hby at_129) rfl k_) ?_
          show Go pg.tables ev below (T86.setTop (mkF mi 131 #[.val (.int p0), .val (.int p1), .val (.int p2), .val (.int p3), .val (.int p4), .val (.int p5), .val (.int N), .val (.int iA), .val (.int iB), .val (.int iA), .val (.int iD), .val (.int m1), .val (.int m2), .val (.int m3), .val (.ref b1)] [(.int iA), (.ref b1)])) P
          refine Go.st (fun t_ k_ => XS.iload X86.here hx rfl (hb hby at_131) rfl k_) ?_
          show Go pg.tables ev below (T86.setTop (mkF mi 133 #[.val (.int p0), .val (.int p1), .val (.int p2), .val (.int p3), .val (.int p4), .val (.int p5), .val (.int N), .val (.int iA), .val (.int iB), .val (.int iA), .val (.int iD), .val (.int m1), .val (.int m2), .val (.int m3), .val (.ref b1)] [(.int iB), (.int iA), (.ref b1)])) P
          obtain ⟨cq88, kq88, q88a, q88b, q88c⟩ := isOf hZ e86 f87
          obtain ⟨_, _, ⟨T88, L88, k88, n88⟩, -, X88, ⟨Lc88, hQ88, l88, y88, z88⟩, st88⟩ := X86.virtualBack hx (y := (⟨"com/example/hedge/hedge/automaton/PairMarks", "get", "(II)I"⟩ : MethodName)) (z := (⟨"com/example/hedge/hedge/automaton/PairMarks", "get", "(II)I"⟩ : MethodName)) hown (mvT hZ (hw _ (List.mem_of_getElem? (i := 62) rfl))) (mvT hZ (hw _ (List.mem_of_getElem? (i := 45) rfl))) (notFace_of_selects (args := #[]) (mvT hZ (hw _ (List.mem_of_getElem? (i := 47) rfl)))) (mvT hZ (hw _ (List.mem_of_getElem? (i := 47) rfl))) (mvT hZ (hw _ (List.mem_of_getElem? (i := 46) rfl))) (by decide) (backOf (W := 0) (rmG0 l Z a0 hw [] b1 iA iB tb bm kT kB N ((iA, .null) :: ((iA, (.ref x67)) :: [])) ((iA, .null) :: []) h74 n0 Zs85 FB74_1 FB74_3 CT74 CB74 hA.1 hA.2 (own_hit hA.1) (own_hit hA.1)) hZ (hw _ (List.mem_of_getElem? (i := 48) rfl)) (hw _ (List.mem_of_getElem? (i := 3) rfl)) (by decide) (by decide)) q88a q88c (g := (mkF mi 133 #[.val (.int p0), .val (.int p1), .val (.int p2), .val (.int p3), .val (.int p4), .val (.int p5), .val (.int N), .val (.int iA), .val (.int iB), .val (.int iA), .val (.int iD), .val (.int m1), .val (.int m2), .val (.int m3), .val (.ref b1)] [(.int iB), (.int iA), (.ref b1)])) rfl (by rw [hml]; rfl) (Steps.refl _) (argsL := [(.int iA), (.int iB)]) (rest := []) (lenOf pd_1 rfl) rfl (by show 2 * 0 + _ ≤ _; exact Nat.le_of_eq rfl) (hb hby at_133) (fun _ _ => ⟨rfl, e86, (by decide : 6 + 0 ≤ _), (by decide : 794 + 0 ≤ _)⟩)
          dsimp only [Pt.U, Pt.locs, Pt.cells, Pt.slots] at X88 l88 y88 z88 st88 hQ88
          subst l88 y88 z88
          obtain ⟨rfl, N88q, e88⟩ := hQ88
          have N88 := Fr.app N86 N88q
          refine Go.tr st88 ?_
          show Go pg.tables ev below (T88.setTop (mkF mi 136 #[.val (.int p0), .val (.int p1), .val (.int p2), .val (.int p3), .val (.int p4), .val (.int p5), .val (.int N), .val (.int iA), .val (.int iB), .val (.int iA), .val (.int iD), .val (.int m1), .val (.int m2), .val (.int m3), .val (.ref b1)] [(.int (0 : Int32))])) P
          refine Go.st (fun t_ k_ => XS.ifYes X88.here hx rfl (pc0 := 136) (pc' := 141) rfl (hb hby at_136) rfl ((if0 _ _).trans (teq rfl).1) (by decide) (by decide) k_) ?_
          show Go pg.tables ev below (T88.setTop (mkF mi 141 #[.val (.int p0), .val (.int p1), .val (.int p2), .val (.int p3), .val (.int p4), .val (.int p5), .val (.int N), .val (.int iA), .val (.int iB), .val (.int iA), .val (.int iD), .val (.int m1), .val (.int m2), .val (.int m3), .val (.ref b1)] [])) P
          refine Go.st (fun t_ k_ => XS.aload X88.here hx rfl (hb hby at_141) rfl rfl k_) ?_
          show Go pg.tables ev below (T88.setTop (mkF mi 143 #[.val (.int p0), .val (.int p1), .val (.int p2), .val (.int p3), .val (.int p4), .val (.int p5), .val (.int N), .val (.int iA), .val (.int iB), .val (.int iA), .val (.int iD), .val (.int m1), .val (.int m2), .val (.int m3), .val (.ref b1)] [(.ref b1)])) P
          refine Go.st (fun t_ k_ => XS.iload X88.here hx rfl (hb hby at_143) rfl k_) ?_
          show Go pg.tables ev below (T88.setTop (mkF mi 145 #[.val (.int p0), .val (.int p1), .val (.int p2), .val (.int p3), .val (.int p4), .val (.int p5), .val (.int N), .val (.int iA), .val (.int iB), .val (.int iA), .val (.int iD), .val (.int m1), .val (.int m2), .val (.int m3), .val (.ref b1)] [(.int iA), (.ref b1)])) P
          refine Go.st (fun t_ k_ => XS.iload X88.here hx rfl (hb hby at_145) rfl k_) ?_
          show Go pg.tables ev below (T88.setTop (mkF mi 147 #[.val (.int p0), .val (.int p1), .val (.int p2), .val (.int p3), .val (.int p4), .val (.int p5), .val (.int N), .val (.int iA), .val (.int iB), .val (.int iA), .val (.int iD), .val (.int m1), .val (.int m2), .val (.int m3), .val (.ref b1)] [(.int iD), (.int iA), (.ref b1)])) P
          obtain ⟨cq89, kq89, q89a, q89b, q89c⟩ := isOf hZ e88 f87
          obtain ⟨_, _, ⟨T89, L89, k89, n89⟩, -, X89, ⟨Lc89, hQ89, l89, y89, z89⟩, st89⟩ := X88.virtualBack hx (y := (⟨"com/example/hedge/hedge/automaton/PairMarks", "get", "(II)I"⟩ : MethodName)) (z := (⟨"com/example/hedge/hedge/automaton/PairMarks", "get", "(II)I"⟩ : MethodName)) hown (mvT hZ (hw _ (List.mem_of_getElem? (i := 62) rfl))) (mvT hZ (hw _ (List.mem_of_getElem? (i := 45) rfl))) (notFace_of_selects (args := #[]) (mvT hZ (hw _ (List.mem_of_getElem? (i := 47) rfl)))) (mvT hZ (hw _ (List.mem_of_getElem? (i := 47) rfl))) (mvT hZ (hw _ (List.mem_of_getElem? (i := 46) rfl))) (by decide) (backOf (W := 0) (rmG0 l Z a0 hw [] b1 iA iD tb bm kT kB N ((iA, .null) :: ((iA, (.ref x67)) :: [])) ((iA, .null) :: []) h74 n0 Zs85 FB74_1 FB74_3 CT74 CB74 hA.1 hA.2 (own_hit hA.1) (own_hit hA.1)) hZ (hw _ (List.mem_of_getElem? (i := 48) rfl)) (hw _ (List.mem_of_getElem? (i := 3) rfl)) (by decide) (by decide)) q89a q89c (g := (mkF mi 147 #[.val (.int p0), .val (.int p1), .val (.int p2), .val (.int p3), .val (.int p4), .val (.int p5), .val (.int N), .val (.int iA), .val (.int iB), .val (.int iA), .val (.int iD), .val (.int m1), .val (.int m2), .val (.int m3), .val (.ref b1)] [(.int iD), (.int iA), (.ref b1)])) rfl (by rw [hml]; rfl) (Steps.refl _) (argsL := [(.int iA), (.int iD)]) (rest := []) (lenOf pd_1 rfl) rfl (by show 2 * 0 + _ ≤ _; exact Nat.le_of_eq rfl) (hb hby at_147) (fun _ _ => ⟨rfl, e88, (by decide : 6 + 0 ≤ _), (by decide : 794 + 0 ≤ _)⟩)
          dsimp only [Pt.U, Pt.locs, Pt.cells, Pt.slots] at X89 l89 y89 z89 st89 hQ89
          subst l89 y89 z89
          obtain ⟨rfl, N89q, e89⟩ := hQ89
          have N89 := Fr.app N88 N89q
          refine Go.tr st89 ?_
          show Go pg.tables ev below (T89.setTop (mkF mi 150 #[.val (.int p0), .val (.int p1), .val (.int p2), .val (.int p3), .val (.int p4), .val (.int p5), .val (.int N), .val (.int iA), .val (.int iB), .val (.int iA), .val (.int iD), .val (.int m1), .val (.int m2), .val (.int m3), .val (.ref b1)] [(.int (0 : Int32))])) P
          refine Go.st (fun t_ k_ => XS.ifYes X89.here hx rfl (pc0 := 150) (pc' := 155) rfl (hb hby at_150) rfl ((if0 _ _).trans (teq rfl).1) (by decide) (by decide) k_) ?_
          show Go pg.tables ev below (T89.setTop (mkF mi 155 #[.val (.int p0), .val (.int p1), .val (.int p2), .val (.int p3), .val (.int p4), .val (.int p5), .val (.int N), .val (.int iA), .val (.int iB), .val (.int iA), .val (.int iD), .val (.int m1), .val (.int m2), .val (.int m3), .val (.ref b1)] [])) P
          refine Go.st (fun t_ k_ => XS.aload X89.here hx rfl (hb hby at_155) rfl rfl k_) ?_
          show Go pg.tables ev below (T89.setTop (mkF mi 157 #[.val (.int p0), .val (.int p1), .val (.int p2), .val (.int p3), .val (.int p4), .val (.int p5), .val (.int N), .val (.int iA), .val (.int iB), .val (.int iA), .val (.int iD), .val (.int m1), .val (.int m2), .val (.int m3), .val (.ref b1)] [(.ref b1)])) P
          refine Go.st (fun t_ k_ => XS.iload X89.here hx rfl (hb hby at_157) rfl k_) ?_
          show Go pg.tables ev below (T89.setTop (mkF mi 159 #[.val (.int p0), .val (.int p1), .val (.int p2), .val (.int p3), .val (.int p4), .val (.int p5), .val (.int N), .val (.int iA), .val (.int iB), .val (.int iA), .val (.int iD), .val (.int m1), .val (.int m2), .val (.int m3), .val (.ref b1)] [(.int iA), (.ref b1)])) P
          refine Go.st (fun t_ k_ => XS.iload X89.here hx rfl (hb hby at_159) rfl k_) ?_
          show Go pg.tables ev below (T89.setTop (mkF mi 161 #[.val (.int p0), .val (.int p1), .val (.int p2), .val (.int p3), .val (.int p4), .val (.int p5), .val (.int N), .val (.int iA), .val (.int iB), .val (.int iA), .val (.int iD), .val (.int m1), .val (.int m2), .val (.int m3), .val (.ref b1)] [(.int iD), (.int iA), (.ref b1)])) P
          refine Go.st (fun t_ k_ => XS.iload X89.here hx rfl (hb hby at_161) rfl k_) ?_
          show Go pg.tables ev below (T89.setTop (mkF mi 163 #[.val (.int p0), .val (.int p1), .val (.int p2), .val (.int p3), .val (.int p4), .val (.int p5), .val (.int N), .val (.int iA), .val (.int iB), .val (.int iA), .val (.int iD), .val (.int m1), .val (.int m2), .val (.int m3), .val (.ref b1)] [(.int m3), (.int iD), (.int iA), (.ref b1)])) P
          have f91 := (f82.keep K74 (ninS (Ne.symm ne_o_rw) (ninS ne_rw_tb (ninS ne_rw_bm (ninS ne_rw_sz nin0)))))
          obtain ⟨cq90, kq90, q90a, q90b, q90c⟩ := isOf hZ e89 f87
          obtain ⟨_, _, ⟨T90, L90, k90, n90⟩, -, X90, ⟨Lc90, hQ90, l90, y90, z90⟩, st90⟩ := X89.virtualBack hx (y := (⟨"com/example/hedge/hedge/automaton/PairMarks", "add", "(III)I"⟩ : MethodName)) (z := (⟨"com/example/hedge/hedge/automaton/PairMarks", "add", "(III)I"⟩ : MethodName)) hown (mvT hZ (hw _ (List.mem_of_getElem? (i := 26) rfl))) (mvT hZ (hw _ (List.mem_of_getElem? (i := 27) rfl))) (notFace_of_selects (args := #[]) (mvT hZ (hw _ (List.mem_of_getElem? (i := 29) rfl)))) (mvT hZ (hw _ (List.mem_of_getElem? (i := 29) rfl))) (mvT hZ (hw _ (List.mem_of_getElem? (i := 28) rfl))) (by decide) (backOf (W := 0) (rmAN0T l Z a0 hw [] b1 iA iD m3 rw tb sz bm kR kT kS kB N  wd ((iA, .null) :: ((iA, (.ref x67)) :: [])) ((iA, (.int (0 : Int32))) :: hs70) ((iA, .null) :: []) [(.int iA), (.int (0 : Int32)), (.int (0 : Int32)), (.int (0 : Int32)), (.int (0 : Int32)), (.int (0 : Int32)), (.int (0 : Int32)), (.int (0 : Int32)), (.int (0 : Int32)), (.int (0 : Int32)), (.int (0 : Int32)), (.int (0 : Int32)), (.int (0 : Int32)), (.int (0 : Int32)), (.int (0 : Int32)), (.int (0 : Int32))] h74 n0 Zs85 f87 g_b1 g_rw g_tb g_sz g_bm ne_o_rw ne_o_tb ne_o_sz ne_o_bm ne_rw_tb ne_rw_sz ne_rw_bm ne_tb_sz ne_tb_bm ne_sz_bm FB74_0 FB74_1 FB74_2 FB74_3 FB74_4 FB74_5 f91 rfl CT74 CS74 CB74 O_tb O_bm hA.1 hA.2 hwo hN1 hN2 hwd hwd1 hwd2 hD (own_hit hA.1) (own_hit hA.1) (own_hit hA.1)) hZ (hw _ (List.mem_of_getElem? (i := 30) rfl)) (hw _ (List.mem_of_getElem? (i := 3) rfl)) (by decide) (by decide)) q90a q90c (g := (mkF mi 163 #[.val (.int p0), .val (.int p1), .val (.int p2), .val (.int p3), .val (.int p4), .val (.int p5), .val (.int N), .val (.int iA), .val (.int iB), .val (.int iA), .val (.int iD), .val (.int m1), .val (.int m2), .val (.int m3), .val (.ref b1)] [(.int m3), (.int iD), (.int iA), (.ref b1)])) rfl (by rw [hml]; rfl) (Steps.refl _) (argsL := [(.int iA), (.int iD), (.int m3)]) (rest := []) (lenOf pd_5 rfl) rfl (by show 2 * 0 + _ ≤ _; exact Nat.le_of_eq rfl) (hb hby at_163) (fun _ _ => ⟨rfl, e89, (by decide : 6 + 1 ≤ _), (by decide : 794 + 4 ≤ _)⟩)
          dsimp only [Pt.U, Pt.locs, Pt.cells, Pt.slots] at X90 l90 y90 z90 st90 hQ90
          subst l90 y90 z90
          obtain ⟨h90, e90⟩ : ∃ z, T90.heap = z := ⟨_, rfl⟩
          rw [e90] at hQ90
          obtain ⟨rfl, N90q, K90, x90, kx90, z_x90, g_x90, FB90_0, FB90_1, FB90_2, FB90_3, FB90_4, FB90_5, AR90, AB90, AZ90, AX90⟩ := hQ90
          have N90 := Fr.app N89 N90q
          have Zs92 : n0 ≤ h90.size := Nat.le_trans Zs85 K90.1
          have AS90 : Arv Z h90 rw kR .int (16 : Int32) [(.int iA), (.int (0 : Int32)), (.int (0 : Int32)), (.int (0 : Int32)), (.int (0 : Int32)), (.int (0 : Int32)), (.int (0 : Int32)), (.int (0 : Int32)), (.int (0 : Int32)), (.int (0 : Int32)), (.int (0 : Int32)), (.int (0 : Int32)), (.int (0 : Int32)), (.int (0 : Int32)), (.int (0 : Int32)), (.int (0 : Int32))] (.int (0 : Int32)) := AR90
          have ne_b1_x90 : b1 ≠ x90 := Nat.ne_of_lt (Nat.lt_of_lt_of_le f87.lt z_x90)
          have ne_rw_x90 : rw ≠ x90 := Nat.ne_of_lt (Nat.lt_of_lt_of_le f91.lt z_x90)
          have ne_tb_x90 : tb ≠ x90 := Nat.ne_of_lt (Nat.lt_of_lt_of_le CT74.lt z_x90)
          have ne_sz_x90 : sz ≠ x90 := Nat.ne_of_lt (Nat.lt_of_lt_of_le CS74.lt z_x90)
          have ne_bm_x90 : bm ≠ x90 := Nat.ne_of_lt (Nat.lt_of_lt_of_le CB74.lt z_x90)
          refine Go.tr st90 ?_
          show Go pg.tables ev below (T90.setTop (mkF mi 166 #[.val (.int p0), .val (.int p1), .val (.int p2), .val (.int p3), .val (.int p4), .val (.int p5), .val (.int N), .val (.int iA), .val (.int iB), .val (.int iA), .val (.int iD), .val (.int m1), .val (.int m2), .val (.int m3), .val (.ref b1)] [(.int m3)])) P
          refine Go.st (fun t_ k_ => XS.iload X90.here hx rfl (hb hby at_166) rfl k_) ?_
          show Go pg.tables ev below (T90.setTop (mkF mi 168 #[.val (.int p0), .val (.int p1), .val (.int p2), .val (.int p3), .val (.int p4), .val (.int p5), .val (.int N), .val (.int iA), .val (.int iB), .val (.int iA), .val (.int iD), .val (.int m1), .val (.int m2), .val (.int m3), .val (.ref b1)] [(.int m3), (.int m3)])) P
          refine Go.st (fun t_ k_ => XS.icmpYes X90.here hx rfl (pc0 := 168) (pc' := 173) rfl (hb hby at_168) rfl (teq rfl).1 (by decide) (by decide) k_) ?_
          show Go pg.tables ev below (T90.setTop (mkF mi 173 #[.val (.int p0), .val (.int p1), .val (.int p2), .val (.int p3), .val (.int p4), .val (.int p5), .val (.int N), .val (.int iA), .val (.int iB), .val (.int iA), .val (.int iD), .val (.int m1), .val (.int m2), .val (.int m3), .val (.ref b1)] [])) P
          refine Go.st (fun t_ k_ => XS.aload X90.here hx rfl (hb hby at_173) rfl rfl k_) ?_
          show Go pg.tables ev below (T90.setTop (mkF mi 175 #[.val (.int p0), .val (.int p1), .val (.int p2), .val (.int p3), .val (.int p4), .val (.int p5), .val (.int N), .val (.int iA), .val (.int iB), .val (.int iA), .val (.int iD), .val (.int m1), .val (.int m2), .val (.int m3), .val (.ref b1)] [(.ref b1)])) P
          have f94 := (f87.keep K90)
          obtain ⟨cq93, kq93, q93a, q93b, q93c⟩ := isOf hZ e90 f94
          obtain ⟨_, _, ⟨T93, L93, k93, n93⟩, -, X93, ⟨Lc93, hQ93, l93, y93, z93⟩, st93⟩ := X90.virtualBack hx (y := (⟨"com/example/hedge/hedge/automaton/PairMarks", "rowCount", "()I"⟩ : MethodName)) (z := (⟨"com/example/hedge/hedge/automaton/PairMarks", "rowCount", "()I"⟩ : MethodName)) hown (mvT hZ (hw _ (List.mem_of_getElem? (i := 57) rfl))) (mvT hZ (hw _ (List.mem_of_getElem? (i := 58) rfl))) (notFace_of_selects (args := #[]) (mvT hZ (hw _ (List.mem_of_getElem? (i := 60) rfl)))) (mvT hZ (hw _ (List.mem_of_getElem? (i := 60) rfl))) (mvT hZ (hw _ (List.mem_of_getElem? (i := 59) rfl))) (by decide) (backOf (W := 0) (rmRC l Z a0 hw [] b1 (1 : Int32) h90 n0 Zs92 FB90_5) hZ (hw _ (List.mem_of_getElem? (i := 61) rfl)) (hw _ (List.mem_of_getElem? (i := 3) rfl)) (by decide) (by decide)) q93a q93c (g := (mkF mi 175 #[.val (.int p0), .val (.int p1), .val (.int p2), .val (.int p3), .val (.int p4), .val (.int p5), .val (.int N), .val (.int iA), .val (.int iB), .val (.int iA), .val (.int iD), .val (.int m1), .val (.int m2), .val (.int m3), .val (.ref b1)] [(.ref b1)])) rfl (by rw [hml]; rfl) (Steps.refl _) (argsL := []) (rest := []) (lenOf pd_7 rfl) rfl (by show 2 * 0 + _ ≤ _; exact Nat.le_of_eq rfl) (hb hby at_175) (fun _ _ => ⟨rfl, e90, (by decide : 7 + 0 ≤ _), (by decide : 798 + 0 ≤ _)⟩)
          dsimp only [Pt.U, Pt.locs, Pt.cells, Pt.slots] at X93 l93 y93 z93 st93 hQ93
          subst l93 y93 z93
          obtain ⟨rfl, N93q, e93⟩ := hQ93
          have N93 := Fr.app N90 N93q
          refine Go.tr st93 ?_
          show Go pg.tables ev below (T93.setTop (mkF mi 178 #[.val (.int p0), .val (.int p1), .val (.int p2), .val (.int p3), .val (.int p4), .val (.int p5), .val (.int N), .val (.int iA), .val (.int iB), .val (.int iA), .val (.int iD), .val (.int m1), .val (.int m2), .val (.int m3), .val (.ref b1)] [(.int (1 : Int32))])) P
          refine Go.st (fun t_ k_ => XS.iconst X93.here hx rfl (hb hby at_178) k_) ?_
          show Go pg.tables ev below (T93.setTop (mkF mi 179 #[.val (.int p0), .val (.int p1), .val (.int p2), .val (.int p3), .val (.int p4), .val (.int p5), .val (.int N), .val (.int iA), .val (.int iB), .val (.int iA), .val (.int iD), .val (.int m1), .val (.int m2), .val (.int m3), .val (.ref b1)] [(.int (1 : Int32)), (.int (1 : Int32))])) P
          refine Go.st (fun t_ k_ => XS.icmpYes X93.here hx rfl (pc0 := 179) (pc' := 184) rfl (hb hby at_179) rfl (teq rfl).1 (by decide) (by decide) k_) ?_
          show Go pg.tables ev below (T93.setTop (mkF mi 184 #[.val (.int p0), .val (.int p1), .val (.int p2), .val (.int p3), .val (.int p4), .val (.int p5), .val (.int N), .val (.int iA), .val (.int iB), .val (.int iA), .val (.int iD), .val (.int m1), .val (.int m2), .val (.int m3), .val (.ref b1)] [])) P
          refine Go.st (fun t_ k_ => XS.aload X93.here hx rfl (hb hby at_184) rfl rfl k_) ?_
          show Go pg.tables ev below (T93.setTop (mkF mi 186 #[.val (.int p0), .val (.int p1), .val (.int p2), .val (.int p3), .val (.int p4), .val (.int p5), .val (.int N), .val (.int iA), .val (.int iB), .val (.int iA), .val (.int iD), .val (.int m1), .val (.int m2), .val (.int m3), .val (.ref b1)] [(.ref b1)])) P
          refine Go.st (fun t_ k_ => XS.iconst X93.here hx rfl (hb hby at_186) k_) ?_
          show Go pg.tables ev below (T93.setTop (mkF mi 187 #[.val (.int p0), .val (.int p1), .val (.int p2), .val (.int p3), .val (.int p4), .val (.int p5), .val (.int N), .val (.int iA), .val (.int iB), .val (.int iA), .val (.int iD), .val (.int m1), .val (.int m2), .val (.int m3), .val (.ref b1)] [(.int (0 : Int32)), (.ref b1)])) P
          obtain ⟨cq95, kq95, q95a, q95b, q95c⟩ := isOf hZ e93 f94
          obtain ⟨_, _, ⟨T95, L95, k95, n95⟩, -, X95, ⟨Lc95, hQ95, l95, y95, z95⟩, st95⟩ := X93.virtualBack hx (y := (⟨"com/example/hedge/hedge/automaton/PairMarks", "row", "(I)I"⟩ : MethodName)) (z := (⟨"com/example/hedge/hedge/automaton/PairMarks", "row", "(I)I"⟩ : MethodName)) hown (mvT hZ (hw _ (List.mem_of_getElem? (i := 63) rfl))) (mvT hZ (hw _ (List.mem_of_getElem? (i := 64) rfl))) (notFace_of_selects (args := #[]) (mvT hZ (hw _ (List.mem_of_getElem? (i := 66) rfl)))) (mvT hZ (hw _ (List.mem_of_getElem? (i := 66) rfl))) (mvT hZ (hw _ (List.mem_of_getElem? (i := 65) rfl))) (by decide) (backOf (W := 0) (rmRo l Z a0 hw [] b1 rw kR iA [(.int (0 : Int32)), (.int (0 : Int32)), (.int (0 : Int32)), (.int (0 : Int32)), (.int (0 : Int32)), (.int (0 : Int32)), (.int (0 : Int32)), (.int (0 : Int32)), (.int (0 : Int32)), (.int (0 : Int32)), (.int (0 : Int32)), (.int (0 : Int32)), (.int (0 : Int32)), (.int (0 : Int32)), (.int (0 : Int32))] h90 n0 Zs92 FB90_0 AS90) hZ (hw _ (List.mem_of_getElem? (i := 67) rfl)) (hw _ (List.mem_of_getElem? (i := 3) rfl)) (by decide) (by decide)) q95a q95c (g := (mkF mi 187 #[.val (.int p0), .val (.int p1), .val (.int p2), .val (.int p3), .val (.int p4), .val (.int p5), .val (.int N), .val (.int iA), .val (.int iB), .val (.int iA), .val (.int iD), .val (.int m1), .val (.int m2), .val (.int m3), .val (.ref b1)] [(.int (0 : Int32)), (.ref b1)])) rfl (by rw [hml]; rfl) (Steps.refl _) (argsL := [(.int (0 : Int32))]) (rest := []) (lenOf pd_2 rfl) rfl (by show 2 * 0 + _ ≤ _; exact Nat.le_of_eq rfl) (hb hby at_187) (fun _ _ => ⟨rfl, e93, (by decide : 7 + 0 ≤ _), (by decide : 798 + 0 ≤ _)⟩)
          dsimp only [Pt.U, Pt.locs, Pt.cells, Pt.slots] at X95 l95 y95 z95 st95 hQ95
          subst l95 y95 z95
          obtain ⟨rfl, N95q, e95⟩ := hQ95
          have N95 := Fr.app N93 N95q
          refine Go.tr st95 ?_
          show Go pg.tables ev below (T95.setTop (mkF mi 190 #[.val (.int p0), .val (.int p1), .val (.int p2), .val (.int p3), .val (.int p4), .val (.int p5), .val (.int N), .val (.int iA), .val (.int iB), .val (.int iA), .val (.int iD), .val (.int m1), .val (.int m2), .val (.int m3), .val (.ref b1)] [(.int iA)])) P
          refine Go.st (fun t_ k_ => XS.iload X95.here hx rfl (hb hby at_190) rfl k_) ?_
          show Go pg.tables ev below (T95.setTop (mkF mi 192 #[.val (.int p0), .val (.int p1), .val (.int p2), .val (.int p3), .val (.int p4), .val (.int p5), .val (.int N), .val (.int iA), .val (.int iB), .val (.int iA), .val (.int iD), .val (.int m1), .val (.int m2), .val (.int m3), .val (.ref b1)] [(.int iA), (.int iA)])) P
          refine Go.st (fun t_ k_ => XS.icmpYes X95.here hx rfl (pc0 := 192) (pc' := 197) rfl (hb hby at_192) rfl (teq rfl).1 (by decide) (by decide) k_) ?_
          show Go pg.tables ev below (T95.setTop (mkF mi 197 #[.val (.int p0), .val (.int p1), .val (.int p2), .val (.int p3), .val (.int p4), .val (.int p5), .val (.int N), .val (.int iA), .val (.int iB), .val (.int iA), .val (.int iD), .val (.int m1), .val (.int m2), .val (.int m3), .val (.ref b1)] [])) P
          refine Go.st (fun t_ k_ => XS.aload X95.here hx rfl (hb hby at_197) rfl rfl k_) ?_
          show Go pg.tables ev below (T95.setTop (mkF mi 199 #[.val (.int p0), .val (.int p1), .val (.int p2), .val (.int p3), .val (.int p4), .val (.int p5), .val (.int N), .val (.int iA), .val (.int iB), .val (.int iA), .val (.int iD), .val (.int m1), .val (.int m2), .val (.int m3), .val (.ref b1)] [(.ref b1)])) P
          refine Go.st (fun t_ k_ => XS.iload X95.here hx rfl (hb hby at_199) rfl k_) ?_
          show Go pg.tables ev below (T95.setTop (mkF mi 201 #[.val (.int p0), .val (.int p1), .val (.int p2), .val (.int p3), .val (.int p4), .val (.int p5), .val (.int N), .val (.int iA), .val (.int iB), .val (.int iA), .val (.int iD), .val (.int m1), .val (.int m2), .val (.int m3), .val (.ref b1)] [(.int iA), (.ref b1)])) P
          refine Go.st (fun t_ k_ => XS.iload X95.here hx rfl (hb hby at_201) rfl k_) ?_
          show Go pg.tables ev below (T95.setTop (mkF mi 203 #[.val (.int p0), .val (.int p1), .val (.int p2), .val (.int p3), .val (.int p4), .val (.int p5), .val (.int N), .val (.int iA), .val (.int iB), .val (.int iA), .val (.int iD), .val (.int m1), .val (.int m2), .val (.int m3), .val (.ref b1)] [(.int iD), (.int iA), (.ref b1)])) P
          have f97 := (CB74.keep K90 (ninS (Ne.symm ne_o_bm) (ninS (Ne.symm ne_rw_bm) (ninS (Ne.symm ne_tb_bm) (ninS (Ne.symm ne_sz_bm) nin0)))))
          have hkD1 : 0 ≤ iD.toInt ∧ iD.toInt < 256 := own_rng hN2 hD
          obtain ⟨cq96, kq96, q96a, q96b, q96c⟩ := isOf hZ e95 f94
          obtain ⟨_, _, ⟨T96, L96, k96, n96⟩, -, X96, ⟨Lc96, hQ96, l96, y96, z96⟩, st96⟩ := X95.virtualBack hx (y := (⟨"com/example/hedge/hedge/automaton/PairMarks", "get", "(II)I"⟩ : MethodName)) (z := (⟨"com/example/hedge/hedge/automaton/PairMarks", "get", "(II)I"⟩ : MethodName)) hown (mvT hZ (hw _ (List.mem_of_getElem? (i := 62) rfl))) (mvT hZ (hw _ (List.mem_of_getElem? (i := 45) rfl))) (notFace_of_selects (args := #[]) (mvT hZ (hw _ (List.mem_of_getElem? (i := 47) rfl)))) (mvT hZ (hw _ (List.mem_of_getElem? (i := 47) rfl))) (mvT hZ (hw _ (List.mem_of_getElem? (i := 46) rfl))) (by decide) (backOf (W := 0) (rmGT l Z a0 hw [] b1 iA iD tb bm kT kB N ((iA, (.ref x90)) :: ((iA, .null) :: ((iA, (.ref x67)) :: []))) ((iA, .null) :: []) x90 kx90 [((fSl iD (3 : Int32)), (.int ((fKe iD) ||| m3)))] ((fKe iD) ||| m3) h90 n0 Zs92 FB90_1 FB90_3 AB90 f97 hA.1 hA.2 (own_hit hA.1) (own_hit hA.1) AX90 (own_hit (own_slot iD).1) (own_key0 hkD1.1 hkD1.2 hm3.1 hm3.2) (own_key1 hkD1.1 hkD1.2 hm3.1 hm3.2)) hZ (hw _ (List.mem_of_getElem? (i := 48) rfl)) (hw _ (List.mem_of_getElem? (i := 3) rfl)) (by decide) (by decide)) q96a q96c (g := (mkF mi 203 #[.val (.int p0), .val (.int p1), .val (.int p2), .val (.int p3), .val (.int p4), .val (.int p5), .val (.int N), .val (.int iA), .val (.int iB), .val (.int iA), .val (.int iD), .val (.int m1), .val (.int m2), .val (.int m3), .val (.ref b1)] [(.int iD), (.int iA), (.ref b1)])) rfl (by rw [hml]; rfl) (Steps.refl _) (argsL := [(.int iA), (.int iD)]) (rest := []) (lenOf pd_1 rfl) rfl (by show 2 * 0 + _ ≤ _; exact Nat.le_of_eq rfl) (hb hby at_203) (fun _ _ => ⟨rfl, e95, (by decide : 7 + 0 ≤ _), (by decide : 798 + 0 ≤ _)⟩)
          dsimp only [Pt.U, Pt.locs, Pt.cells, Pt.slots] at X96 l96 y96 z96 st96 hQ96
          subst l96 y96 z96
          obtain ⟨rfl, N96q, e96⟩ := hQ96
          have N96 := Fr.app N95 N96q
          refine Go.tr st96 ?_
          show Go pg.tables ev below (T96.setTop (mkF mi 206 #[.val (.int p0), .val (.int p1), .val (.int p2), .val (.int p3), .val (.int p4), .val (.int p5), .val (.int N), .val (.int iA), .val (.int iB), .val (.int iA), .val (.int iD), .val (.int m1), .val (.int m2), .val (.int m3), .val (.ref b1)] [(.int (((fKe iD) ||| m3) &&& (3 : Int32)))])) P
          refine Go.st (fun t_ k_ => XS.iload X96.here hx rfl (hb hby at_206) rfl k_) ?_
          show Go pg.tables ev below (T96.setTop (mkF mi 208 #[.val (.int p0), .val (.int p1), .val (.int p2), .val (.int p3), .val (.int p4), .val (.int p5), .val (.int N), .val (.int iA), .val (.int iB), .val (.int iA), .val (.int iD), .val (.int m1), .val (.int m2), .val (.int m3), .val (.ref b1)] [(.int m3), (.int (((fKe iD) ||| m3) &&& (3 : Int32)))])) P
          refine Go.st (fun t_ k_ => XS.icmpNo X96.here hx rfl (hb hby at_208) rfl (teq (own_key2 hkD1.1 hkD1.2 hm3.1 hm3.2)).2 k_) ?_
          show Go pg.tables ev below (T96.setTop (mkF mi 211 #[.val (.int p0), .val (.int p1), .val (.int p2), .val (.int p3), .val (.int p4), .val (.int p5), .val (.int N), .val (.int iA), .val (.int iB), .val (.int iA), .val (.int iD), .val (.int m1), .val (.int m2), .val (.int m3), .val (.ref b1)] [])) P
          refine Go.st (fun t_ k_ => XS.iconst X96.here hx rfl (hb hby at_211) k_) ?_
          show Go pg.tables ev below (T96.setTop (mkF mi 212 #[.val (.int p0), .val (.int p1), .val (.int p2), .val (.int p3), .val (.int p4), .val (.int p5), .val (.int N), .val (.int iA), .val (.int iB), .val (.int iA), .val (.int iD), .val (.int m1), .val (.int m2), .val (.int m3), .val (.ref b1)] [(.int (1 : Int32))])) P
          refine Go.st (fun t_ k_ => XS.goto X96.here hx rfl (pc0 := 212) (pc' := 216) rfl (hb hby at_212) (by decide) (by decide) k_) ?_
          show Go pg.tables ev below (T96.setTop (mkF mi 216 #[.val (.int p0), .val (.int p1), .val (.int p2), .val (.int p3), .val (.int p4), .val (.int p5), .val (.int N), .val (.int iA), .val (.int iB), .val (.int iA), .val (.int iD), .val (.int m1), .val (.int m2), .val (.int m3), .val (.ref b1)] [(.int (1 : Int32))])) P
          obtain ⟨fs, hr, hrun, hended, hW, hsame⟩ := X96.leave (v := some (.int (1 : Int32))) (fun h => by rw [Bd.returns] at h; cases h) (BodyLoose.notSynchronized Bd)
          refine ⟨_, _, ?_, hP _ _ ⟨hrun, hended, _, _, rfl, ?_, ⟨_, rfl⟩, hW, hsame.mono (by decide) (by decide)⟩⟩
          · exact retN X96 hx (t := .boolean) Bd.returns (by simp) (hb hby at_216) hr
          · show (some (.int (1 : Int32)) : Option Value) = some (.int 1) ∧ Fr n0 _
            exact ⟨rfl, N96⟩
    · show Go pg.tables ev below (T3.setTop (mkF mi 88 #[.val (.int p0), .val (.int p1), .val (.int p2), .val (.int p3), .val (.int p4), .val (.int p5), .val (.int N), .val (.int iA), .val (.int iB), .val (.int iC), .val (.int iD), .val (.int m1), .val (.int m2), .val (.int m3), .val (.ref b1)] [])) P
      refine Go.st (fun t_ k_ => XS.aload X3.here hx rfl (hb hby at_88) rfl rfl k_) ?_
      show Go pg.tables ev below (T3.setTop (mkF mi 90 #[.val (.int p0), .val (.int p1), .val (.int p2), .val (.int p3), .val (.int p4), .val (.int p5), .val (.int N), .val (.int iA), .val (.int iB), .val (.int iC), .val (.int iD), .val (.int m1), .val (.int m2), .val (.int m3), .val (.ref b1)] [(.ref b1)])) P
      refine Go.st (fun t_ k_ => XS.iload X3.here hx rfl (hb hby at_90) rfl k_) ?_
      show Go pg.tables ev below (T3.setTop (mkF mi 92 #[.val (.int p0), .val (.int p1), .val (.int p2), .val (.int p3), .val (.int p4), .val (.int p5), .val (.int N), .val (.int iA), .val (.int iB), .val (.int iC), .val (.int iD), .val (.int m1), .val (.int m2), .val (.int m3), .val (.ref b1)] [(.int iA), (.ref b1)])) P
      refine Go.st (fun t_ k_ => XS.iload X3.here hx rfl (hb hby at_92) rfl k_) ?_
      show Go pg.tables ev below (T3.setTop (mkF mi 94 #[.val (.int p0), .val (.int p1), .val (.int p2), .val (.int p3), .val (.int p4), .val (.int p5), .val (.int N), .val (.int iA), .val (.int iB), .val (.int iC), .val (.int iD), .val (.int m1), .val (.int m2), .val (.int m3), .val (.ref b1)] [(.int iB), (.int iA), (.ref b1)])) P
      refine Go.st (fun t_ k_ => XS.iload X3.here hx rfl (hb hby at_94) rfl k_) ?_
      show Go pg.tables ev below (T3.setTop (mkF mi 96 #[.val (.int p0), .val (.int p1), .val (.int p2), .val (.int p3), .val (.int p4), .val (.int p5), .val (.int N), .val (.int iA), .val (.int iB), .val (.int iC), .val (.int iD), .val (.int m1), .val (.int m2), .val (.int m3), .val (.ref b1)] [(.int m1), (.int iB), (.int iA), (.ref b1)])) P
      have f99 := (A1.keep K3)
      obtain ⟨cq98, kq98, q98a, q98b, q98c⟩ := isOf hZ e3 f99
      obtain ⟨_, _, ⟨T98, L98, k98, n98⟩, -, X98, ⟨Lc98, hQ98, l98, y98, z98⟩, st98⟩ := X3.virtualBack hx (y := (⟨"com/example/hedge/hedge/automaton/PairMarks", "add", "(III)I"⟩ : MethodName)) (z := (⟨"com/example/hedge/hedge/automaton/PairMarks", "add", "(III)I"⟩ : MethodName)) hown (mvT hZ (hw _ (List.mem_of_getElem? (i := 26) rfl))) (mvT hZ (hw _ (List.mem_of_getElem? (i := 27) rfl))) (notFace_of_selects (args := #[]) (mvT hZ (hw _ (List.mem_of_getElem? (i := 29) rfl)))) (mvT hZ (hw _ (List.mem_of_getElem? (i := 29) rfl))) (mvT hZ (hw _ (List.mem_of_getElem? (i := 28) rfl))) (by decide) (backOf (W := 0) (rmAN0T l Z a0 hw [] b1 iA iB m1 rw tb sz bm kR kT kS kB N  wd [] [] [] [(.int (0 : Int32)), (.int (0 : Int32)), (.int (0 : Int32)), (.int (0 : Int32)), (.int (0 : Int32)), (.int (0 : Int32)), (.int (0 : Int32)), (.int (0 : Int32)), (.int (0 : Int32)), (.int (0 : Int32)), (.int (0 : Int32)), (.int (0 : Int32)), (.int (0 : Int32)), (.int (0 : Int32)), (.int (0 : Int32)), (.int (0 : Int32))] h3 n0 Zs4 f99 g_b1 g_rw g_tb g_sz g_bm ne_o_rw ne_o_tb ne_o_sz ne_o_bm ne_rw_tb ne_rw_sz ne_rw_bm ne_tb_sz ne_tb_bm ne_sz_bm FI0 FI1 FI2 FI3 FI4 FI5 V_rw rfl V_tb V_sz V_bm O_tb O_bm hA.1 hA.2 hwo hN1 hN2 hwd hwd1 hwd2 hBq rfl rfl rfl) hZ (hw _ (List.mem_of_getElem? (i := 30) rfl)) (hw _ (List.mem_of_getElem? (i := 3) rfl)) (by decide) (by decide)) q98a q98c (g := (mkF mi 96 #[.val (.int p0), .val (.int p1), .val (.int p2), .val (.int p3), .val (.int p4), .val (.int p5), .val (.int N), .val (.int iA), .val (.int iB), .val (.int iC), .val (.int iD), .val (.int m1), .val (.int m2), .val (.int m3), .val (.ref b1)] [(.int m1), (.int iB), (.int iA), (.ref b1)])) rfl (by rw [hml]; rfl) (Steps.refl _) (argsL := [(.int iA), (.int iB), (.int m1)]) (rest := []) (lenOf pd_5 rfl) rfl (by show 2 * 0 + _ ≤ _; exact Nat.le_of_eq rfl) (hb hby at_96) (fun _ _ => ⟨rfl, e3, (by decide : 5 + 1 ≤ _), (by decide : 790 + 4 ≤ _)⟩)
      dsimp only [Pt.U, Pt.locs, Pt.cells, Pt.slots] at X98 l98 y98 z98 st98 hQ98
      subst l98 y98 z98
      obtain ⟨h98, e98⟩ : ∃ z, T98.heap = z := ⟨_, rfl⟩
      rw [e98] at hQ98
      obtain ⟨rfl, N98q, K98, x98, kx98, z_x98, g_x98, FB98_0, FB98_1, FB98_2, FB98_3, FB98_4, FB98_5, AR98, AB98, AZ98, AX98⟩ := hQ98
      have N98 := Fr.app N3 N98q
      have Zs100 : n0 ≤ h98.size := Nat.le_trans Zs4 K98.1
      have AS98 : Arv Z h98 rw kR .int (16 : Int32) [(.int iA), (.int (0 : Int32)), (.int (0 : Int32)), (.int (0 : Int32)), (.int (0 : Int32)), (.int (0 : Int32)), (.int (0 : Int32)), (.int (0 : Int32)), (.int (0 : Int32)), (.int (0 : Int32)), (.int (0 : Int32)), (.int (0 : Int32)), (.int (0 : Int32)), (.int (0 : Int32)), (.int (0 : Int32)), (.int (0 : Int32))] (.int (0 : Int32)) := AR98
      have ne_b1_x98 : b1 ≠ x98 := Nat.ne_of_lt (Nat.lt_of_lt_of_le f99.lt z_x98)
      have ne_rw_x98 : rw ≠ x98 := Nat.ne_of_lt (Nat.lt_of_lt_of_le V_rw.lt z_x98)
      have ne_tb_x98 : tb ≠ x98 := Nat.ne_of_lt (Nat.lt_of_lt_of_le V_tb.lt z_x98)
      have ne_sz_x98 : sz ≠ x98 := Nat.ne_of_lt (Nat.lt_of_lt_of_le V_sz.lt z_x98)
      have ne_bm_x98 : bm ≠ x98 := Nat.ne_of_lt (Nat.lt_of_lt_of_le V_bm.lt z_x98)
      refine Go.tr st98 ?_
      show Go pg.tables ev below (T98.setTop (mkF mi 99 #[.val (.int p0), .val (.int p1), .val (.int p2), .val (.int p3), .val (.int p4), .val (.int p5), .val (.int N), .val (.int iA), .val (.int iB), .val (.int iC), .val (.int iD), .val (.int m1), .val (.int m2), .val (.int m3), .val (.ref b1)] [(.int m1)])) P
      refine Go.st (fun t_ k_ => XS.pop X98.here hx rfl (hb hby at_99) rfl rfl k_) ?_
      show Go pg.tables ev below (T98.setTop (mkF mi 100 #[.val (.int p0), .val (.int p1), .val (.int p2), .val (.int p3), .val (.int p4), .val (.int p5), .val (.int N), .val (.int iA), .val (.int iB), .val (.int iC), .val (.int iD), .val (.int m1), .val (.int m2), .val (.int m3), .val (.ref b1)] [])) P
      refine Go.st (fun t_ k_ => XS.aload X98.here hx rfl (hb hby at_100) rfl rfl k_) ?_
      show Go pg.tables ev below (T98.setTop (mkF mi 102 #[.val (.int p0), .val (.int p1), .val (.int p2), .val (.int p3), .val (.int p4), .val (.int p5), .val (.int N), .val (.int iA), .val (.int iB), .val (.int iC), .val (.int iD), .val (.int m1), .val (.int m2), .val (.int m3), .val (.ref b1)] [(.ref b1)])) P
      refine Go.st (fun t_ k_ => XS.iload X98.here hx rfl (hb hby at_102) rfl k_) ?_
      show Go pg.tables ev below (T98.setTop (mkF mi 104 #[.val (.int p0), .val (.int p1), .val (.int p2), .val (.int p3), .val (.int p4), .val (.int p5), .val (.int N), .val (.int iA), .val (.int iB), .val (.int iC), .val (.int iD), .val (.int m1), .val (.int m2), .val (.int m3), .val (.ref b1)] [(.int iC), (.ref b1)])) P
      refine Go.st (fun t_ k_ => XS.iload X98.here hx rfl (hb hby at_104) rfl k_) ?_
      show Go pg.tables ev below (T98.setTop (mkF mi 106 #[.val (.int p0), .val (.int p1), .val (.int p2), .val (.int p3), .val (.int p4), .val (.int p5), .val (.int N), .val (.int iA), .val (.int iB), .val (.int iC), .val (.int iD), .val (.int m1), .val (.int m2), .val (.int m3), .val (.ref b1)] [(.int iD), (.int iC), (.ref b1)])) P
      refine Go.st (fun t_ k_ => XS.iload X98.here hx rfl (hb hby at_106) rfl k_) ?_
      show Go pg.tables ev below (T98.setTop (mkF mi 108 #[.val (.int p0), .val (.int p1), .val (.int p2), .val (.int p3), .val (.int p4), .val (.int p5), .val (.int N), .val (.int iA), .val (.int iB), .val (.int iC), .val (.int iD), .val (.int m1), .val (.int m2), .val (.int m3), .val (.ref b1)] [(.int m2), (.int iD), (.int iC), (.ref b1)])) P
      have f102 := (f99.keep K98)
      have f103 := (V_bm.keep K98 (ninS (Ne.symm ne_o_bm) (ninS (Ne.symm ne_rw_bm) (ninS (Ne.symm ne_tb_bm) (ninS (Ne.symm ne_sz_bm) nin0)))))
      obtain ⟨cq101, kq101, q101a, q101b, q101c⟩ := isOf hZ e98 f102
      obtain ⟨_, _, ⟨T101, L101, k101, n101⟩, -, X101, ⟨Lc101, hQ101, l101, y101, z101⟩, st101⟩ := X98.virtualBack hx (y := (⟨"com/example/hedge/hedge/automaton/PairMarks", "add", "(III)I"⟩ : MethodName)) (z := (⟨"com/example/hedge/hedge/automaton/PairMarks", "add", "(III)I"⟩ : MethodName)) hown (mvT hZ (hw _ (List.mem_of_getElem? (i := 26) rfl))) (mvT hZ (hw _ (List.mem_of_getElem? (i := 27) rfl))) (notFace_of_selects (args := #[]) (mvT hZ (hw _ (List.mem_of_getElem? (i := 29) rfl)))) (mvT hZ (hw _ (List.mem_of_getElem? (i := 29) rfl))) (mvT hZ (hw _ (List.mem_of_getElem? (i := 28) rfl))) (by decide) (backOf (W := 0) (rmAN1T l Z a0 hw [] b1 iC iD m2 rw tb sz bm kR kT kS kB N  wd ((iA, (.ref x98)) :: []) ((iA, (.int (1 : Int32))) :: []) [] [(.int iA), (.int (0 : Int32)), (.int (0 : Int32)), (.int (0 : Int32)), (.int (0 : Int32)), (.int (0 : Int32)), (.int (0 : Int32)), (.int (0 : Int32)), (.int (0 : Int32)), (.int (0 : Int32)), (.int (0 : Int32)), (.int (0 : Int32)), (.int (0 : Int32)), (.int (0 : Int32)), (.int (0 : Int32)), (.int (0 : Int32))] h98 n0 Zs100 f102 g_b1 g_rw g_tb g_sz g_bm ne_o_rw ne_o_tb ne_o_sz ne_o_bm ne_rw_tb ne_rw_sz ne_rw_bm ne_tb_sz ne_tb_bm ne_sz_bm FB98_0 FB98_1 FB98_2 FB98_3 FB98_4 FB98_5 AS98 rfl AB98 AZ98 f103 O_tb O_bm hCq.1 hCq.2 hwo hN1 hN2 hwd hwd1 hwd2 hD rfl (getH_miss hCq.1 (fun q => hac q.symm) rfl) (getH_miss hCq.1 (fun q => hac q.symm) rfl)) hZ (hw _ (List.mem_of_getElem? (i := 30) rfl)) (hw _ (List.mem_of_getElem? (i := 3) rfl)) (by decide) (by decide)) q101a q101c (g := (mkF mi 108 #[.val (.int p0), .val (.int p1), .val (.int p2), .val (.int p3), .val (.int p4), .val (.int p5), .val (.int N), .val (.int iA), .val (.int iB), .val (.int iC), .val (.int iD), .val (.int m1), .val (.int m2), .val (.int m3), .val (.ref b1)] [(.int m2), (.int iD), (.int iC), (.ref b1)])) rfl (by rw [hml]; rfl) (Steps.refl _) (argsL := [(.int iC), (.int iD), (.int m2)]) (rest := []) (lenOf pd_5 rfl) rfl (by show 2 * 0 + _ ≤ _; exact Nat.le_of_eq rfl) (hb hby at_108) (fun _ _ => ⟨rfl, e98, (by decide : 6 + 1 ≤ _), (by decide : 794 + 4 ≤ _)⟩)
      dsimp only [Pt.U, Pt.locs, Pt.cells, Pt.slots] at X101 l101 y101 z101 st101 hQ101
      subst l101 y101 z101
      obtain ⟨h101, e101⟩ : ∃ z, T101.heap = z := ⟨_, rfl⟩
      rw [e101] at hQ101
      obtain ⟨rfl, N101q, K101, x101, kx101, z_x101, g_x101, FB101_0, FB101_1, FB101_2, FB101_3, FB101_4, FB101_5, AR101, AB101, AZ101, AX101⟩ := hQ101
      have N101 := Fr.app N98 N101q
      have Zs104 : n0 ≤ h101.size := Nat.le_trans Zs100 K101.1
      have AS101 : Arv Z h101 rw kR .int (16 : Int32) [(.int iA), (.int iC), (.int (0 : Int32)), (.int (0 : Int32)), (.int (0 : Int32)), (.int (0 : Int32)), (.int (0 : Int32)), (.int (0 : Int32)), (.int (0 : Int32)), (.int (0 : Int32)), (.int (0 : Int32)), (.int (0 : Int32)), (.int (0 : Int32)), (.int (0 : Int32)), (.int (0 : Int32)), (.int (0 : Int32))] (.int (0 : Int32)) := AR101
      have ne_b1_x101 : b1 ≠ x101 := Nat.ne_of_lt (Nat.lt_of_lt_of_le f102.lt z_x101)
      have ne_rw_x101 : rw ≠ x101 := Nat.ne_of_lt (Nat.lt_of_lt_of_le AS98.lt z_x101)
      have ne_tb_x101 : tb ≠ x101 := Nat.ne_of_lt (Nat.lt_of_lt_of_le AB98.lt z_x101)
      have ne_sz_x101 : sz ≠ x101 := Nat.ne_of_lt (Nat.lt_of_lt_of_le AZ98.lt z_x101)
      have ne_bm_x101 : bm ≠ x101 := Nat.ne_of_lt (Nat.lt_of_lt_of_le f103.lt z_x101)
      have ne_x98_x101 : x98 ≠ x101 := Nat.ne_of_lt (Nat.lt_of_lt_of_le AX98.lt z_x101)
      refine Go.tr st101 ?_
      show Go pg.tables ev below (T101.setTop (mkF mi 111 #[.val (.int p0), .val (.int p1), .val (.int p2), .val (.int p3), .val (.int p4), .val (.int p5), .val (.int N), .val (.int iA), .val (.int iB), .val (.int iC), .val (.int iD), .val (.int m1), .val (.int m2), .val (.int m3), .val (.ref b1)] [(.int m2)])) P
      refine Go.st (fun t_ k_ => XS.pop X101.here hx rfl (hb hby at_111) rfl rfl k_) ?_
      show Go pg.tables ev below (T101.setTop (mkF mi 112 #[.val (.int p0), .val (.int p1), .val (.int p2), .val (.int p3), .val (.int p4), .val (.int p5), .val (.int N), .val (.int iA), .val (.int iB), .val (.int iC), .val (.int iD), .val (.int m1), .val (.int m2), .val (.int m3), .val (.ref b1)] [])) P
      refine Go.st (fun t_ k_ => XS.aload X101.here hx rfl (hb hby at_112) rfl rfl k_) ?_
      show Go pg.tables ev below (T101.setTop (mkF mi 114 #[.val (.int p0), .val (.int p1), .val (.int p2), .val (.int p3), .val (.int p4), .val (.int p5), .val (.int N), .val (.int iA), .val (.int iB), .val (.int iC), .val (.int iD), .val (.int m1), .val (.int m2), .val (.int m3), .val (.ref b1)] [(.ref b1)])) P
      have f106 := (f102.keep K101)
      have f107 := (f103.keep K101 (ninS (Ne.symm ne_o_bm) (ninS (Ne.symm ne_rw_bm) (ninS (Ne.symm ne_tb_bm) (ninS (Ne.symm ne_sz_bm) nin0)))))
      obtain ⟨cq105, kq105, q105a, q105b, q105c⟩ := isOf hZ e101 f106
      obtain ⟨_, _, ⟨T105, L105, k105, n105⟩, -, X105, ⟨Lc105, hQ105, l105, y105, z105⟩, st105⟩ := X101.virtualBack hx (y := (⟨"com/example/hedge/hedge/automaton/PairMarks", "clear", "()V"⟩ : MethodName)) (z := (⟨"com/example/hedge/hedge/automaton/PairMarks", "clear", "()V"⟩ : MethodName)) hown (mvT hZ (hw _ (List.mem_of_getElem? (i := 52) rfl))) (mvT hZ (hw _ (List.mem_of_getElem? (i := 53) rfl))) (notFace_of_selects (args := #[]) (mvT hZ (hw _ (List.mem_of_getElem? (i := 55) rfl)))) (mvT hZ (hw _ (List.mem_of_getElem? (i := 55) rfl))) (mvT hZ (hw _ (List.mem_of_getElem? (i := 54) rfl))) (by decide) (backOf (W := 0) (rmC2 l Z a0 hw [] b1 rw tb sz bm kR kT kS kB N  wd ((iC, (.ref x101)) :: ((iA, (.ref x98)) :: [])) ((iC, (.int (1 : Int32))) :: ((iA, (.int (1 : Int32))) :: [])) [] [(.int (0 : Int32)), (.int (0 : Int32)), (.int (0 : Int32)), (.int (0 : Int32)), (.int (0 : Int32)), (.int (0 : Int32)), (.int (0 : Int32)), (.int (0 : Int32)), (.int (0 : Int32)), (.int (0 : Int32)), (.int (0 : Int32)), (.int (0 : Int32)), (.int (0 : Int32)), (.int (0 : Int32))] iA iC h101 n0 Zs104 f106 g_b1 g_rw g_tb g_sz g_bm ne_o_rw ne_o_tb ne_o_sz ne_o_bm ne_rw_tb ne_rw_sz ne_rw_bm ne_tb_sz ne_tb_bm ne_sz_bm FB101_0 FB101_1 FB101_2 FB101_3 FB101_4 FB101_5 AS101 AB101 AZ101 f107 O_tb O_bm hA.1 hA.2 hCq.1 hCq.2) hZ (hw _ (List.mem_of_getElem? (i := 56) rfl)) (hw _ (List.mem_of_getElem? (i := 3) rfl)) (by decide) (by decide)) q105a q105c (g := (mkF mi 114 #[.val (.int p0), .val (.int p1), .val (.int p2), .val (.int p3), .val (.int p4), .val (.int p5), .val (.int N), .val (.int iA), .val (.int iB), .val (.int iC), .val (.int iD), .val (.int m1), .val (.int m2), .val (.int m3), .val (.ref b1)] [(.ref b1)])) rfl (by rw [hml]; rfl) (Steps.refl _) (argsL := []) (rest := []) (lenOf pd_6 rfl) rfl (by show 2 * 0 + _ ≤ _; exact Nat.le_of_eq rfl) (hb hby at_114) (fun _ _ => ⟨rfl, e101, (by decide : 7 + 0 ≤ _), (by decide : 798 + 0 ≤ _)⟩)
      dsimp only [Pt.U, Pt.locs, Pt.cells, Pt.slots] at X105 l105 y105 z105 st105 hQ105
      subst l105 y105 z105
      obtain ⟨h105, e105⟩ : ∃ z, T105.heap = z := ⟨_, rfl⟩
      rw [e105] at hQ105
      obtain ⟨rfl, N105q, K105, FB105_0, FB105_1, FB105_2, FB105_3, FB105_4, FB105_5, CT105, CB105, CS105⟩ := hQ105
      have N105 := Fr.app N101 N105q
      have Zs108 : n0 ≤ h105.size := Nat.le_trans Zs104 K105.1
      refine Go.tr st105 ?_
      show Go pg.tables ev below (T105.setTop (mkF mi 117 #[.val (.int p0), .val (.int p1), .val (.int p2), .val (.int p3), .val (.int p4), .val (.int p5), .val (.int N), .val (.int iA), .val (.int iB), .val (.int iC), .val (.int iD), .val (.int m1), .val (.int m2), .val (.int m3), .val (.ref b1)] [])) P
      refine Go.st (fun t_ k_ => XS.aload X105.here hx rfl (hb hby at_117) rfl rfl k_) ?_
      show Go pg.tables ev below (T105.setTop (mkF mi 119 #[.val (.int p0), .val (.int p1), .val (.int p2), .val (.int p3), .val (.int p4), .val (.int p5), .val (.int N), .val (.int iA), .val (.int iB), .val (.int iC), .val (.int iD), .val (.int m1), .val (.int m2), .val (.int m3), .val (.ref b1)] [(.ref b1)])) P
      have f110 := (f106.keep K105)
      obtain ⟨cq109, kq109, q109a, q109b, q109c⟩ := isOf hZ e105 f110
      obtain ⟨_, _, ⟨T109, L109, k109, n109⟩, -, X109, ⟨Lc109, hQ109, l109, y109, z109⟩, st109⟩ := X105.virtualBack hx (y := (⟨"com/example/hedge/hedge/automaton/PairMarks", "rowCount", "()I"⟩ : MethodName)) (z := (⟨"com/example/hedge/hedge/automaton/PairMarks", "rowCount", "()I"⟩ : MethodName)) hown (mvT hZ (hw _ (List.mem_of_getElem? (i := 57) rfl))) (mvT hZ (hw _ (List.mem_of_getElem? (i := 58) rfl))) (notFace_of_selects (args := #[]) (mvT hZ (hw _ (List.mem_of_getElem? (i := 60) rfl)))) (mvT hZ (hw _ (List.mem_of_getElem? (i := 60) rfl))) (mvT hZ (hw _ (List.mem_of_getElem? (i := 59) rfl))) (by decide) (backOf (W := 0) (rmRC l Z a0 hw [] b1 (0 : Int32) h105 n0 Zs108 FB105_5) hZ (hw _ (List.mem_of_getElem? (i := 61) rfl)) (hw _ (List.mem_of_getElem? (i := 3) rfl)) (by decide) (by decide)) q109a q109c (g := (mkF mi 119 #[.val (.int p0), .val (.int p1), .val (.int p2), .val (.int p3), .val (.int p4), .val (.int p5), .val (.int N), .val (.int iA), .val (.int iB), .val (.int iC), .val (.int iD), .val (.int m1), .val (.int m2), .val (.int m3), .val (.ref b1)] [(.ref b1)])) rfl (by rw [hml]; rfl) (Steps.refl _) (argsL := []) (rest := []) (lenOf pd_7 rfl) rfl (by show 2 * 0 + _ ≤ _; exact Nat.le_of_eq rfl) (hb hby at_119) (fun _ _ => ⟨rfl, e105, (by decide : 7 + 0 ≤ _), (by decide : 798 + 0 ≤ _)⟩)
      dsimp only [Pt.U, Pt.locs, Pt.cells, Pt.slots] at X109 l109 y109 z109 st109 hQ109
      subst l109 y109 z109
      obtain ⟨rfl, N109q, e109⟩ := hQ109
      have N109 := Fr.app N105 N109q
      refine Go.tr st109 ?_
      show Go pg.tables ev below (T109.setTop (mkF mi 122 #[.val (.int p0), .val (.int p1), .val (.int p2), .val (.int p3), .val (.int p4), .val (.int p5), .val (.int N), .val (.int iA), .val (.int iB), .val (.int iC), .val (.int iD), .val (.int m1), .val (.int m2), .val (.int m3), .val (.ref b1)] [(.int (0 : Int32))])) P
      refine Go.st (fun t_ k_ => XS.ifYes X109.here hx rfl (pc0 := 122) (pc' := 127) rfl (hb hby at_122) rfl ((if0 _ _).trans (teq rfl).1) (by decide) (by decide) k_) ?_
      show Go pg.tables ev below (T109.setTop (mkF mi 127 #[.val (.int p0), .val (.int p1), .val (.int p2), .val (.int p3), .val (.int p4), .val (.int p5), .val (.int N), .val (.int iA), .val (.int iB), .val (.int iC), .val (.int iD), .val (.int m1), .val (.int m2), .val (.int m3), .val (.ref b1)] [])) P
      refine Go.st (fun t_ k_ => XS.aload X109.here hx rfl (hb hby at_127) rfl rfl k_) ?_
      show Go pg.tables ev below (T109.setTop (mkF mi 129 #[.val (.int p0), .val (.int p1), .val (.int p2), .val (.int p3), .val (.int p4), .val (.int p5), .val (.int N), .val (.int iA), .val (.int iB), .val (.int iC), .val (.int iD), .val (.int m1), .val (.int m2), .val (.int m3), .val (.ref b1)] [(.ref b1)])) P
      refine Go.st (fun t_ k_ => XS.iload X109.here hx rfl (hb hby at_129) rfl k_) ?_
      show Go pg.tables ev below (T109.setTop (mkF mi 131 #[.val (.int p0), .val (.int p1), .val (.int p2), .val (.int p3), .val (.int p4), .val (.int p5), .val (.int N), .val (.int iA), .val (.int iB), .val (.int iC), .val (.int iD), .val (.int m1), .val (.int m2), .val (.int m3), .val (.ref b1)] [(.int iA), (.ref b1)])) P
      refine Go.st (fun t_ k_ => XS.iload X109.here hx rfl (hb hby at_131) rfl k_) ?_
      show Go pg.tables ev below (T109.setTop (mkF mi 133 #[.val (.int p0), .val (.int p1), .val (.int p2), .val (.int p3), .val (.int p4), .val (.int p5), .val (.int N), .val (.int iA), .val (.int iB), .val (.int iC), .val (.int iD), .val (.int m1), .val (.int m2), .val (.int m3), .val (.ref b1)] [(.int iB), (.int iA), (.ref b1)])) P
      obtain ⟨cq111, kq111, q111a, q111b, q111c⟩ := isOf hZ e109 f110
      obtain ⟨_, _, ⟨T111, L111, k111, n111⟩, -, X111, ⟨Lc111, hQ111, l111, y111, z111⟩, st111⟩ := X109.virtualBack hx (y := (⟨"com/example/hedge/hedge/automaton/PairMarks", "get", "(II)I"⟩ : MethodName)) (z := (⟨"com/example/hedge/hedge/automaton/PairMarks", "get", "(II)I"⟩ : MethodName)) hown (mvT hZ (hw _ (List.mem_of_getElem? (i := 62) rfl))) (mvT hZ (hw _ (List.mem_of_getElem? (i := 45) rfl))) (notFace_of_selects (args := #[]) (mvT hZ (hw _ (List.mem_of_getElem? (i := 47) rfl)))) (mvT hZ (hw _ (List.mem_of_getElem? (i := 47) rfl))) (mvT hZ (hw _ (List.mem_of_getElem? (i := 46) rfl))) (by decide) (backOf (W := 0) (rmG0 l Z a0 hw [] b1 iA iB tb bm kT kB N ((iC, .null) :: ((iA, .null) :: ((iC, (.ref x101)) :: ((iA, (.ref x98)) :: [])))) ((iC, .null) :: ((iA, .null) :: [])) h105 n0 Zs108 FB105_1 FB105_3 CT105 CB105 hA.1 hA.2 (getH_miss hA.1 hac (own_hit hA.1)) (getH_miss hA.1 hac (own_hit hA.1))) hZ (hw _ (List.mem_of_getElem? (i := 48) rfl)) (hw _ (List.mem_of_getElem? (i := 3) rfl)) (by decide) (by decide)) q111a q111c (g := (mkF mi 133 #[.val (.int p0), .val (.int p1), .val (.int p2), .val (.int p3), .val (.int p4), .val (.int p5), .val (.int N), .val (.int iA), .val (.int iB), .val (.int iC), .val (.int iD), .val (.int m1), .val (.int m2), .val (.int m3), .val (.ref b1)] [(.int iB), (.int iA), (.ref b1)])) rfl (by rw [hml]; rfl) (Steps.refl _) (argsL := [(.int iA), (.int iB)]) (rest := []) (lenOf pd_1 rfl) rfl (by show 2 * 0 + _ ≤ _; exact Nat.le_of_eq rfl) (hb hby at_133) (fun _ _ => ⟨rfl, e109, (by decide : 7 + 0 ≤ _), (by decide : 798 + 0 ≤ _)⟩)
      dsimp only [Pt.U, Pt.locs, Pt.cells, Pt.slots] at X111 l111 y111 z111 st111 hQ111
      subst l111 y111 z111
      obtain ⟨rfl, N111q, e111⟩ := hQ111
      have N111 := Fr.app N109 N111q
      refine Go.tr st111 ?_
      show Go pg.tables ev below (T111.setTop (mkF mi 136 #[.val (.int p0), .val (.int p1), .val (.int p2), .val (.int p3), .val (.int p4), .val (.int p5), .val (.int N), .val (.int iA), .val (.int iB), .val (.int iC), .val (.int iD), .val (.int m1), .val (.int m2), .val (.int m3), .val (.ref b1)] [(.int (0 : Int32))])) P
      refine Go.st (fun t_ k_ => XS.ifYes X111.here hx rfl (pc0 := 136) (pc' := 141) rfl (hb hby at_136) rfl ((if0 _ _).trans (teq rfl).1) (by decide) (by decide) k_) ?_
      show Go pg.tables ev below (T111.setTop (mkF mi 141 #[.val (.int p0), .val (.int p1), .val (.int p2), .val (.int p3), .val (.int p4), .val (.int p5), .val (.int N), .val (.int iA), .val (.int iB), .val (.int iC), .val (.int iD), .val (.int m1), .val (.int m2), .val (.int m3), .val (.ref b1)] [])) P
      refine Go.st (fun t_ k_ => XS.aload X111.here hx rfl (hb hby at_141) rfl rfl k_) ?_
      show Go pg.tables ev below (T111.setTop (mkF mi 143 #[.val (.int p0), .val (.int p1), .val (.int p2), .val (.int p3), .val (.int p4), .val (.int p5), .val (.int N), .val (.int iA), .val (.int iB), .val (.int iC), .val (.int iD), .val (.int m1), .val (.int m2), .val (.int m3), .val (.ref b1)] [(.ref b1)])) P
      refine Go.st (fun t_ k_ => XS.iload X111.here hx rfl (hb hby at_143) rfl k_) ?_
      show Go pg.tables ev below (T111.setTop (mkF mi 145 #[.val (.int p0), .val (.int p1), .val (.int p2), .val (.int p3), .val (.int p4), .val (.int p5), .val (.int N), .val (.int iA), .val (.int iB), .val (.int iC), .val (.int iD), .val (.int m1), .val (.int m2), .val (.int m3), .val (.ref b1)] [(.int iC), (.ref b1)])) P
      refine Go.st (fun t_ k_ => XS.iload X111.here hx rfl (hb hby at_145) rfl k_) ?_
      show Go pg.tables ev below (T111.setTop (mkF mi 147 #[.val (.int p0), .val (.int p1), .val (.int p2), .val (.int p3), .val (.int p4), .val (.int p5), .val (.int N), .val (.int iA), .val (.int iB), .val (.int iC), .val (.int iD), .val (.int m1), .val (.int m2), .val (.int m3), .val (.ref b1)] [(.int iD), (.int iC), (.ref b1)])) P
      obtain ⟨cq112, kq112, q112a, q112b, q112c⟩ := isOf hZ e111 f110
      obtain ⟨_, _, ⟨T112, L112, k112, n112⟩, -, X112, ⟨Lc112, hQ112, l112, y112, z112⟩, st112⟩ := X111.virtualBack hx (y := (⟨"com/example/hedge/hedge/automaton/PairMarks", "get", "(II)I"⟩ : MethodName)) (z := (⟨"com/example/hedge/hedge/automaton/PairMarks", "get", "(II)I"⟩ : MethodName)) hown (mvT hZ (hw _ (List.mem_of_getElem? (i := 62) rfl))) (mvT hZ (hw _ (List.mem_of_getElem? (i := 45) rfl))) (notFace_of_selects (args := #[]) (mvT hZ (hw _ (List.mem_of_getElem? (i := 47) rfl)))) (mvT hZ (hw _ (List.mem_of_getElem? (i := 47) rfl))) (mvT hZ (hw _ (List.mem_of_getElem? (i := 46) rfl))) (by decide) (backOf (W := 0) (rmG0 l Z a0 hw [] b1 iC iD tb bm kT kB N ((iC, .null) :: ((iA, .null) :: ((iC, (.ref x101)) :: ((iA, (.ref x98)) :: [])))) ((iC, .null) :: ((iA, .null) :: [])) h105 n0 Zs108 FB105_1 FB105_3 CT105 CB105 hCq.1 hCq.2 (own_hit hCq.1) (own_hit hCq.1)) hZ (hw _ (List.mem_of_getElem? (i := 48) rfl)) (hw _ (List.mem_of_getElem? (i := 3) rfl)) (by decide) (by decide)) q112a q112c (g := (mkF mi 147 #[.val (.int p0), .val (.int p1), .val (.int p2), .val (.int p3), .val (.int p4), .val (.int p5), .val (.int N), .val (.int iA), .val (.int iB), .val (.int iC), .val (.int iD), .val (.int m1), .val (.int m2), .val (.int m3), .val (.ref b1)] [(.int iD), (.int iC), (.ref b1)])) rfl (by rw [hml]; rfl) (Steps.refl _) (argsL := [(.int iC), (.int iD)]) (rest := []) (lenOf pd_1 rfl) rfl (by show 2 * 0 + _ ≤ _; exact Nat.le_of_eq rfl) (hb hby at_147) (fun _ _ => ⟨rfl, e111, (by decide : 7 + 0 ≤ _), (by decide : 798 + 0 ≤ _)⟩)
      dsimp only [Pt.U, Pt.locs, Pt.cells, Pt.slots] at X112 l112 y112 z112 st112 hQ112
      subst l112 y112 z112
      obtain ⟨rfl, N112q, e112⟩ := hQ112
      have N112 := Fr.app N111 N112q
      refine Go.tr st112 ?_
      show Go pg.tables ev below (T112.setTop (mkF mi 150 #[.val (.int p0), .val (.int p1), .val (.int p2), .val (.int p3), .val (.int p4), .val (.int p5), .val (.int N), .val (.int iA), .val (.int iB), .val (.int iC), .val (.int iD), .val (.int m1), .val (.int m2), .val (.int m3), .val (.ref b1)] [(.int (0 : Int32))])) P
      refine Go.st (fun t_ k_ => XS.ifYes X112.here hx rfl (pc0 := 150) (pc' := 155) rfl (hb hby at_150) rfl ((if0 _ _).trans (teq rfl).1) (by decide) (by decide) k_) ?_
      show Go pg.tables ev below (T112.setTop (mkF mi 155 #[.val (.int p0), .val (.int p1), .val (.int p2), .val (.int p3), .val (.int p4), .val (.int p5), .val (.int N), .val (.int iA), .val (.int iB), .val (.int iC), .val (.int iD), .val (.int m1), .val (.int m2), .val (.int m3), .val (.ref b1)] [])) P
      refine Go.st (fun t_ k_ => XS.aload X112.here hx rfl (hb hby at_155) rfl rfl k_) ?_
      show Go pg.tables ev below (T112.setTop (mkF mi 157 #[.val (.int p0), .val (.int p1), .val (.int p2), .val (.int p3), .val (.int p4), .val (.int p5), .val (.int N), .val (.int iA), .val (.int iB), .val (.int iC), .val (.int iD), .val (.int m1), .val (.int m2), .val (.int m3), .val (.ref b1)] [(.ref b1)])) P
      refine Go.st (fun t_ k_ => XS.iload X112.here hx rfl (hb hby at_157) rfl k_) ?_
      show Go pg.tables ev below (T112.setTop (mkF mi 159 #[.val (.int p0), .val (.int p1), .val (.int p2), .val (.int p3), .val (.int p4), .val (.int p5), .val (.int N), .val (.int iA), .val (.int iB), .val (.int iC), .val (.int iD), .val (.int m1), .val (.int m2), .val (.int m3), .val (.ref b1)] [(.int iC), (.ref b1)])) P
      refine Go.st (fun t_ k_ => XS.iload X112.here hx rfl (hb hby at_159) rfl k_) ?_
      show Go pg.tables ev below (T112.setTop (mkF mi 161 #[.val (.int p0), .val (.int p1), .val (.int p2), .val (.int p3), .val (.int p4), .val (.int p5), .val (.int N), .val (.int iA), .val (.int iB), .val (.int iC), .val (.int iD), .val (.int m1), .val (.int m2), .val (.int m3), .val (.ref b1)] [(.int iD), (.int iC), (.ref b1)])) P
      refine Go.st (fun t_ k_ => XS.iload X112.here hx rfl (hb hby at_161) rfl k_) ?_
      show Go pg.tables ev below (T112.setTop (mkF mi 163 #[.val (.int p0), .val (.int p1), .val (.int p2), .val (.int p3), .val (.int p4), .val (.int p5), .val (.int N), .val (.int iA), .val (.int iB), .val (.int iC), .val (.int iD), .val (.int m1), .val (.int m2), .val (.int m3), .val (.ref b1)] [(.int m3), (.int iD), (.int iC), (.ref b1)])) P
      have f114 := (AS101.keep K105 (ninS (Ne.symm ne_o_rw) (ninS ne_rw_tb (ninS ne_rw_bm (ninS ne_rw_sz nin0)))))
      obtain ⟨cq113, kq113, q113a, q113b, q113c⟩ := isOf hZ e112 f110
      obtain ⟨_, _, ⟨T113, L113, k113, n113⟩, -, X113, ⟨Lc113, hQ113, l113, y113, z113⟩, st113⟩ := X112.virtualBack hx (y := (⟨"com/example/hedge/hedge/automaton/PairMarks", "add", "(III)I"⟩ : MethodName)) (z := (⟨"com/example/hedge/hedge/automaton/PairMarks", "add", "(III)I"⟩ : MethodName)) hown (mvT hZ (hw _ (List.mem_of_getElem? (i := 26) rfl))) (mvT hZ (hw _ (List.mem_of_getElem? (i := 27) rfl))) (notFace_of_selects (args := #[]) (mvT hZ (hw _ (List.mem_of_getElem? (i := 29) rfl)))) (mvT hZ (hw _ (List.mem_of_getElem? (i := 29) rfl))) (mvT hZ (hw _ (List.mem_of_getElem? (i := 28) rfl))) (by decide) (backOf (W := 0) (rmAN0T l Z a0 hw [] b1 iC iD m3 rw tb sz bm kR kT kS kB N  wd ((iC, .null) :: ((iA, .null) :: ((iC, (.ref x101)) :: ((iA, (.ref x98)) :: [])))) ((iC, (.int (0 : Int32))) :: ((iA, (.int (0 : Int32))) :: ((iC, (.int (1 : Int32))) :: ((iA, (.int (1 : Int32))) :: [])))) ((iC, .null) :: ((iA, .null) :: [])) [(.int iA), (.int iC), (.int (0 : Int32)), (.int (0 : Int32)), (.int (0 : Int32)), (.int (0 : Int32)), (.int (0 : Int32)), (.int (0 : Int32)), (.int (0 : Int32)), (.int (0 : Int32)), (.int (0 : Int32)), (.int (0 : Int32)), (.int (0 : Int32)), (.int (0 : Int32)), (.int (0 : Int32)), (.int (0 : Int32))] h105 n0 Zs108 f110 g_b1 g_rw g_tb g_sz g_bm ne_o_rw ne_o_tb ne_o_sz ne_o_bm ne_rw_tb ne_rw_sz ne_rw_bm ne_tb_sz ne_tb_bm ne_sz_bm FB105_0 FB105_1 FB105_2 FB105_3 FB105_4 FB105_5 f114 rfl CT105 CS105 CB105 O_tb O_bm hCq.1 hCq.2 hwo hN1 hN2 hwd hwd1 hwd2 hD (own_hit hCq.1) (own_hit hCq.1) (own_hit hCq.1)) hZ (hw _ (List.mem_of_getElem? (i := 30) rfl)) (hw _ (List.mem_of_getElem? (i := 3) rfl)) (by decide) (by decide)) q113a q113c (g := (mkF mi 163 #[.val (.int p0), .val (.int p1), .val (.int p2), .val (.int p3), .val (.int p4), .val (.int p5), .val (.int N), .val (.int iA), .val (.int iB), .val (.int iC), .val (.int iD), .val (.int m1), .val (.int m2), .val (.int m3), .val (.ref b1)] [(.int m3), (.int iD), (.int iC), (.ref b1)])) rfl (by rw [hml]; rfl) (Steps.refl _) (argsL := [(.int iC), (.int iD), (.int m3)]) (rest := []) (lenOf pd_5 rfl) rfl (by show 2 * 0 + _ ≤ _; exact Nat.le_of_eq rfl) (hb hby at_163) (fun _ _ => ⟨rfl, e112, (by decide : 7 + 1 ≤ _), (by decide : 798 + 4 ≤ _)⟩)
      dsimp only [Pt.U, Pt.locs, Pt.cells, Pt.slots] at X113 l113 y113 z113 st113 hQ113
      subst l113 y113 z113
      have f115 := ((AX98.keep K101 (ninS (Ne.symm ne_b1_x98) (ninS (Ne.symm ne_rw_x98) (ninS (Ne.symm ne_tb_x98) (ninS (Ne.symm ne_sz_x98) nin0))))).keep K105 (ninS (Ne.symm ne_b1_x98) (ninS (Ne.symm ne_tb_x98) (ninS (Ne.symm ne_bm_x98) (ninS (Ne.symm ne_sz_x98) nin0)))))
      have f116 := (AX101.keep K105 (ninS (Ne.symm ne_b1_x101) (ninS (Ne.symm ne_tb_x101) (ninS (Ne.symm ne_bm_x101) (ninS (Ne.symm ne_sz_x101) nin0)))))
      obtain ⟨h113, e113⟩ : ∃ z, T113.heap = z := ⟨_, rfl⟩
      rw [e113] at hQ113
      obtain ⟨rfl, N113q, K113, x113, kx113, z_x113, g_x113, FB113_0, FB113_1, FB113_2, FB113_3, FB113_4, FB113_5, AR113, AB113, AZ113, AX113⟩ := hQ113
      have N113 := Fr.app N112 N113q
      have Zs117 : n0 ≤ h113.size := Nat.le_trans Zs108 K113.1
      have AS113 : Arv Z h113 rw kR .int (16 : Int32) [(.int iC), (.int iC), (.int (0 : Int32)), (.int (0 : Int32)), (.int (0 : Int32)), (.int (0 : Int32)), (.int (0 : Int32)), (.int (0 : Int32)), (.int (0 : Int32)), (.int (0 : Int32)), (.int (0 : Int32)), (.int (0 : Int32)), (.int (0 : Int32)), (.int (0 : Int32)), (.int (0 : Int32)), (.int (0 : Int32))] (.int (0 : Int32)) := AR113
      have ne_b1_x113 : b1 ≠ x113 := Nat.ne_of_lt (Nat.lt_of_lt_of_le f110.lt z_x113)
      have ne_rw_x113 : rw ≠ x113 := Nat.ne_of_lt (Nat.lt_of_lt_of_le f114.lt z_x113)
      have ne_tb_x113 : tb ≠ x113 := Nat.ne_of_lt (Nat.lt_of_lt_of_le CT105.lt z_x113)
      have ne_sz_x113 : sz ≠ x113 := Nat.ne_of_lt (Nat.lt_of_lt_of_le CS105.lt z_x113)
      have ne_bm_x113 : bm ≠ x113 := Nat.ne_of_lt (Nat.lt_of_lt_of_le CB105.lt z_x113)
      have ne_x98_x113 : x98 ≠ x113 := Nat.ne_of_lt (Nat.lt_of_lt_of_le f115.lt z_x113)
      have ne_x101_x113 : x101 ≠ x113 := Nat.ne_of_lt (Nat.lt_of_lt_of_le f116.lt z_x113)
      refine Go.tr st113 ?_
      show Go pg.tables ev below (T113.setTop (mkF mi 166 #[.val (.int p0), .val (.int p1), .val (.int p2), .val (.int p3), .val (.int p4), .val (.int p5), .val (.int N), .val (.int iA), .val (.int iB), .val (.int iC), .val (.int iD), .val (.int m1), .val (.int m2), .val (.int m3), .val (.ref b1)] [(.int m3)])) P
      refine Go.st (fun t_ k_ => XS.iload X113.here hx rfl (hb hby at_166) rfl k_) ?_
      show Go pg.tables ev below (T113.setTop (mkF mi 168 #[.val (.int p0), .val (.int p1), .val (.int p2), .val (.int p3), .val (.int p4), .val (.int p5), .val (.int N), .val (.int iA), .val (.int iB), .val (.int iC), .val (.int iD), .val (.int m1), .val (.int m2), .val (.int m3), .val (.ref b1)] [(.int m3), (.int m3)])) P
      refine Go.st (fun t_ k_ => XS.icmpYes X113.here hx rfl (pc0 := 168) (pc' := 173) rfl (hb hby at_168) rfl (teq rfl).1 (by decide) (by decide) k_) ?_
      show Go pg.tables ev below (T113.setTop (mkF mi 173 #[.val (.int p0), .val (.int p1), .val (.int p2), .val (.int p3), .val (.int p4), .val (.int p5), .val (.int N), .val (.int iA), .val (.int iB), .val (.int iC), .val (.int iD), .val (.int m1), .val (.int m2), .val (.int m3), .val (.ref b1)] [])) P
      refine Go.st (fun t_ k_ => XS.aload X113.here hx rfl (hb hby at_173) rfl rfl k_) ?_
      show Go pg.tables ev below (T113.setTop (mkF mi 175 #[.val (.int p0), .val (.int p1), .val (.int p2), .val (.int p3), .val (.int p4), .val (.int p5), .val (.int N), .val (.int iA), .val (.int iB), .val (.int iC), .val (.int iD), .val (.int m1), .val (.int m2), .val (.int m3), .val (.ref b1)] [(.ref b1)])) P
      have f119 := (f110.keep K113)
      obtain ⟨cq118, kq118, q118a, q118b, q118c⟩ := isOf hZ e113 f119
      obtain ⟨_, _, ⟨T118, L118, k118, n118⟩, -, X118, ⟨Lc118, hQ118, l118, y118, z118⟩, st118⟩ := X113.virtualBack hx (y := (⟨"com/example/hedge/hedge/automaton/PairMarks", "rowCount", "()I"⟩ : MethodName)) (z := (⟨"com/example/hedge/hedge/automaton/PairMarks", "rowCount", "()I"⟩ : MethodName)) hown (mvT hZ (hw _ (List.mem_of_getElem? (i := 57) rfl))) (mvT hZ (hw _ (List.mem_of_getElem? (i := 58) rfl))) (notFace_of_selects (args := #[]) (mvT hZ (hw _ (List.mem_of_getElem? (i := 60) rfl)))) (mvT hZ (hw _ (List.mem_of_getElem? (i := 60) rfl))) (mvT hZ (hw _ (List.mem_of_getElem? (i := 59) rfl))) (by decide) (backOf (W := 0) (rmRC l Z a0 hw [] b1 (1 : Int32) h113 n0 Zs117 FB113_5) hZ (hw _ (List.mem_of_getElem? (i := 61) rfl)) (hw _ (List.mem_of_getElem? (i := 3) rfl)) (by decide) (by decide)) q118a q118c (g := (mkF mi 175 #[.val (.int p0), .val (.int p1), .val (.int p2), .val (.int p3), .val (.int p4), .val (.int p5), .val (.int N), .val (.int iA), .val (.int iB), .val (.int iC), .val (.int iD), .val (.int m1), .val (.int m2), .val (.int m3), .val (.ref b1)] [(.ref b1)])) rfl (by rw [hml]; rfl) (Steps.refl _) (argsL := []) (rest := []) (lenOf pd_7 rfl) rfl (by show 2 * 0 + _ ≤ _; exact Nat.le_of_eq rfl) (hb hby at_175) (fun _ _ => ⟨rfl, e113, (by decide : 8 + 0 ≤ _), (by decide : 802 + 0 ≤ _)⟩)
      dsimp only [Pt.U, Pt.locs, Pt.cells, Pt.slots] at X118 l118 y118 z118 st118 hQ118
      subst l118 y118 z118
      obtain ⟨rfl, N118q, e118⟩ := hQ118
      have N118 := Fr.app N113 N118q
      refine Go.tr st118 ?_
      show Go pg.tables ev below (T118.setTop (mkF mi 178 #[.val (.int p0), .val (.int p1), .val (.int p2), .val (.int p3), .val (.int p4), .val (.int p5), .val (.int N), .val (.int iA), .val (.int iB), .val (.int iC), .val (.int iD), .val (.int m1), .val (.int m2), .val (.int m3), .val (.ref b1)] [(.int (1 : Int32))])) P
      refine Go.st (fun t_ k_ => XS.iconst X118.here hx rfl (hb hby at_178) k_) ?_
      show Go pg.tables ev below (T118.setTop (mkF mi 179 #[.val (.int p0), .val (.int p1), .val (.int p2), .val (.int p3), .val (.int p4), .val (.int p5), .val (.int N), .val (.int iA), .val (.int iB), .val (.int iC), .val (.int iD), .val (.int m1), .val (.int m2), .val (.int m3), .val (.ref b1)] [(.int (1 : Int32)), (.int (1 : Int32))])) P
      refine Go.st (fun t_ k_ => XS.icmpYes X118.here hx rfl (pc0 := 179) (pc' := 184) rfl (hb hby at_179) rfl (teq rfl).1 (by decide) (by decide) k_) ?_
      show Go pg.tables ev below (T118.setTop (mkF mi 184 #[.val (.int p0), .val (.int p1), .val (.int p2), .val (.int p3), .val (.int p4), .val (.int p5), .val (.int N), .val (.int iA), .val (.int iB), .val (.int iC), .val (.int iD), .val (.int m1), .val (.int m2), .val (.int m3), .val (.ref b1)] [])) P
      refine Go.st (fun t_ k_ => XS.aload X118.here hx rfl (hb hby at_184) rfl rfl k_) ?_
      show Go pg.tables ev below (T118.setTop (mkF mi 186 #[.val (.int p0), .val (.int p1), .val (.int p2), .val (.int p3), .val (.int p4), .val (.int p5), .val (.int N), .val (.int iA), .val (.int iB), .val (.int iC), .val (.int iD), .val (.int m1), .val (.int m2), .val (.int m3), .val (.ref b1)] [(.ref b1)])) P
      refine Go.st (fun t_ k_ => XS.iconst X118.here hx rfl (hb hby at_186) k_) ?_
      show Go pg.tables ev below (T118.setTop (mkF mi 187 #[.val (.int p0), .val (.int p1), .val (.int p2), .val (.int p3), .val (.int p4), .val (.int p5), .val (.int N), .val (.int iA), .val (.int iB), .val (.int iC), .val (.int iD), .val (.int m1), .val (.int m2), .val (.int m3), .val (.ref b1)] [(.int (0 : Int32)), (.ref b1)])) P
      obtain ⟨cq120, kq120, q120a, q120b, q120c⟩ := isOf hZ e118 f119
      obtain ⟨_, _, ⟨T120, L120, k120, n120⟩, -, X120, ⟨Lc120, hQ120, l120, y120, z120⟩, st120⟩ := X118.virtualBack hx (y := (⟨"com/example/hedge/hedge/automaton/PairMarks", "row", "(I)I"⟩ : MethodName)) (z := (⟨"com/example/hedge/hedge/automaton/PairMarks", "row", "(I)I"⟩ : MethodName)) hown (mvT hZ (hw _ (List.mem_of_getElem? (i := 63) rfl))) (mvT hZ (hw _ (List.mem_of_getElem? (i := 64) rfl))) (notFace_of_selects (args := #[]) (mvT hZ (hw _ (List.mem_of_getElem? (i := 66) rfl)))) (mvT hZ (hw _ (List.mem_of_getElem? (i := 66) rfl))) (mvT hZ (hw _ (List.mem_of_getElem? (i := 65) rfl))) (by decide) (backOf (W := 0) (rmRo l Z a0 hw [] b1 rw kR iC [(.int iC), (.int (0 : Int32)), (.int (0 : Int32)), (.int (0 : Int32)), (.int (0 : Int32)), (.int (0 : Int32)), (.int (0 : Int32)), (.int (0 : Int32)), (.int (0 : Int32)), (.int (0 : Int32)), (.int (0 : Int32)), (.int (0 : Int32)), (.int (0 : Int32)), (.int (0 : Int32)), (.int (0 : Int32))] h113 n0 Zs117 FB113_0 AS113) hZ (hw _ (List.mem_of_getElem? (i := 67) rfl)) (hw _ (List.mem_of_getElem? (i := 3) rfl)) (by decide) (by decide)) q120a q120c (g := (mkF mi 187 #[.val (.int p0), .val (.int p1), .val (.int p2), .val (.int p3), .val (.int p4), .val (.int p5), .val (.int N), .val (.int iA), .val (.int iB), .val (.int iC), .val (.int iD), .val (.int m1), .val (.int m2), .val (.int m3), .val (.ref b1)] [(.int (0 : Int32)), (.ref b1)])) rfl (by rw [hml]; rfl) (Steps.refl _) (argsL := [(.int (0 : Int32))]) (rest := []) (lenOf pd_2 rfl) rfl (by show 2 * 0 + _ ≤ _; exact Nat.le_of_eq rfl) (hb hby at_187) (fun _ _ => ⟨rfl, e118, (by decide : 8 + 0 ≤ _), (by decide : 802 + 0 ≤ _)⟩)
      dsimp only [Pt.U, Pt.locs, Pt.cells, Pt.slots] at X120 l120 y120 z120 st120 hQ120
      subst l120 y120 z120
      obtain ⟨rfl, N120q, e120⟩ := hQ120
      have N120 := Fr.app N118 N120q
      refine Go.tr st120 ?_
      show Go pg.tables ev below (T120.setTop (mkF mi 190 #[.val (.int p0), .val (.int p1), .val (.int p2), .val (.int p3), .val (.int p4), .val (.int p5), .val (.int N), .val (.int iA), .val (.int iB), .val (.int iC), .val (.int iD), .val (.int m1), .val (.int m2), .val (.int m3), .val (.ref b1)] [(.int iC)])) P
      refine Go.st (fun t_ k_ => XS.iload X120.here hx rfl (hb hby at_190) rfl k_) ?_
      show Go pg.tables ev below (T120.setTop (mkF mi 192 #[.val (.int p0), .val (.int p1), .val (.int p2), .val (.int p3), .val (.int p4), .val (.int p5), .val (.int N), .val (.int iA), .val (.int iB), .val (.int iC), .val (.int iD), .val (.int m1), .val (.int m2), .val (.int m3), .val (.ref b1)] [(.int iC), (.int iC)])) P
      refine Go.st (fun t_ k_ => XS.icmpYes X120.here hx rfl (pc0 := 192) (pc' := 197) rfl (hb hby at_192) rfl (teq rfl).1 (by decide) (by decide) k_) ?_
      show Go pg.tables ev below (T120.setTop (mkF mi 197 #[.val (.int p0), .val (.int p1), .val (.int p2), .val (.int p3), .val (.int p4), .val (.int p5), .val (.int N), .val (.int iA), .val (.int iB), .val (.int iC), .val (.int iD), .val (.int m1), .val (.int m2), .val (.int m3), .val (.ref b1)] [])) P
      refine Go.st (fun t_ k_ => XS.aload X120.here hx rfl (hb hby at_197) rfl rfl k_) ?_
      show Go pg.tables ev below (T120.setTop (mkF mi 199 #[.val (.int p0), .val (.int p1), .val (.int p2), .val (.int p3), .val (.int p4), .val (.int p5), .val (.int N), .val (.int iA), .val (.int iB), .val (.int iC), .val (.int iD), .val (.int m1), .val (.int m2), .val (.int m3), .val (.ref b1)] [(.ref b1)])) P
      refine Go.st (fun t_ k_ => XS.iload X120.here hx rfl (hb hby at_199) rfl k_) ?_
      show Go pg.tables ev below (T120.setTop (mkF mi 201 #[.val (.int p0), .val (.int p1), .val (.int p2), .val (.int p3), .val (.int p4), .val (.int p5), .val (.int N), .val (.int iA), .val (.int iB), .val (.int iC), .val (.int iD), .val (.int m1), .val (.int m2), .val (.int m3), .val (.ref b1)] [(.int iC), (.ref b1)])) P
      refine Go.st (fun t_ k_ => XS.iload X120.here hx rfl (hb hby at_201) rfl k_) ?_
      show Go pg.tables ev below (T120.setTop (mkF mi 203 #[.val (.int p0), .val (.int p1), .val (.int p2), .val (.int p3), .val (.int p4), .val (.int p5), .val (.int N), .val (.int iA), .val (.int iB), .val (.int iC), .val (.int iD), .val (.int m1), .val (.int m2), .val (.int m3), .val (.ref b1)] [(.int iD), (.int iC), (.ref b1)])) P
      have f122 := (CB105.keep K113 (ninS (Ne.symm ne_o_bm) (ninS (Ne.symm ne_rw_bm) (ninS (Ne.symm ne_tb_bm) (ninS (Ne.symm ne_sz_bm) nin0)))))
      have hkD1 : 0 ≤ iD.toInt ∧ iD.toInt < 256 := own_rng hN2 hD
      obtain ⟨cq121, kq121, q121a, q121b, q121c⟩ := isOf hZ e120 f119
      obtain ⟨_, _, ⟨T121, L121, k121, n121⟩, -, X121, ⟨Lc121, hQ121, l121, y121, z121⟩, st121⟩ := X120.virtualBack hx (y := (⟨"com/example/hedge/hedge/automaton/PairMarks", "get", "(II)I"⟩ : MethodName)) (z := (⟨"com/example/hedge/hedge/automaton/PairMarks", "get", "(II)I"⟩ : MethodName)) hown (mvT hZ (hw _ (List.mem_of_getElem? (i := 62) rfl))) (mvT hZ (hw _ (List.mem_of_getElem? (i := 45) rfl))) (notFace_of_selects (args := #[]) (mvT hZ (hw _ (List.mem_of_getElem? (i := 47) rfl)))) (mvT hZ (hw _ (List.mem_of_getElem? (i := 47) rfl))) (mvT hZ (hw _ (List.mem_of_getElem? (i := 46) rfl))) (by decide) (backOf (W := 0) (rmGT l Z a0 hw [] b1 iC iD tb bm kT kB N ((iC, (.ref x113)) :: ((iC, .null) :: ((iA, .null) :: ((iC, (.ref x101)) :: ((iA, (.ref x98)) :: []))))) ((iC, .null) :: ((iA, .null) :: [])) x113 kx113 [((fSl iD (3 : Int32)), (.int ((fKe iD) ||| m3)))] ((fKe iD) ||| m3) h113 n0 Zs117 FB113_1 FB113_3 AB113 f122 hCq.1 hCq.2 (own_hit hCq.1) (own_hit hCq.1) AX113 (own_hit (own_slot iD).1) (own_key0 hkD1.1 hkD1.2 hm3.1 hm3.2) (own_key1 hkD1.1 hkD1.2 hm3.1 hm3.2)) hZ (hw _ (List.mem_of_getElem? (i := 48) rfl)) (hw _ (List.mem_of_getElem? (i := 3) rfl)) (by decide) (by decide)) q121a q121c (g := (mkF mi 203 #[.val (.int p0), .val (.int p1), .val (.int p2), .val (.int p3), .val (.int p4), .val (.int p5), .val (.int N), .val (.int iA), .val (.int iB), .val (.int iC), .val (.int iD), .val (.int m1), .val (.int m2), .val (.int m3), .val (.ref b1)] [(.int iD), (.int iC), (.ref b1)])) rfl (by rw [hml]; rfl) (Steps.refl _) (argsL := [(.int iC), (.int iD)]) (rest := []) (lenOf pd_1 rfl) rfl (by show 2 * 0 + _ ≤ _; exact Nat.le_of_eq rfl) (hb hby at_203) (fun _ _ => ⟨rfl, e120, (by decide : 8 + 0 ≤ _), (by decide : 802 + 0 ≤ _)⟩)
      dsimp only [Pt.U, Pt.locs, Pt.cells, Pt.slots] at X121 l121 y121 z121 st121 hQ121
      subst l121 y121 z121
      obtain ⟨rfl, N121q, e121⟩ := hQ121
      have N121 := Fr.app N120 N121q
      refine Go.tr st121 ?_
      show Go pg.tables ev below (T121.setTop (mkF mi 206 #[.val (.int p0), .val (.int p1), .val (.int p2), .val (.int p3), .val (.int p4), .val (.int p5), .val (.int N), .val (.int iA), .val (.int iB), .val (.int iC), .val (.int iD), .val (.int m1), .val (.int m2), .val (.int m3), .val (.ref b1)] [(.int (((fKe iD) ||| m3) &&& (3 : Int32)))])) P
      refine Go.st (fun t_ k_ => XS.iload X121.here hx rfl (hb hby at_206) rfl k_) ?_
      show Go pg.tables ev below (T121.setTop (mkF mi 208 #[.val (.int p0), .val (.int p1), .val (.int p2), .val (.int p3), .val (.int p4), .val (.int p5), .val (.int N), .val (.int iA), .val (.int iB), .val (.int iC), .val (.int iD), .val (.int m1), .val (.int m2), .val (.int m3), .val (.ref b1)] [(.int m3), (.int (((fKe iD) ||| m3) &&& (3 : Int32)))])) P
      refine Go.st (fun t_ k_ => XS.icmpNo X121.here hx rfl (hb hby at_208) rfl (teq (own_key2 hkD1.1 hkD1.2 hm3.1 hm3.2)).2 k_) ?_
      show Go pg.tables ev below (T121.setTop (mkF mi 211 #[.val (.int p0), .val (.int p1), .val (.int p2), .val (.int p3), .val (.int p4), .val (.int p5), .val (.int N), .val (.int iA), .val (.int iB), .val (.int iC), .val (.int iD), .val (.int m1), .val (.int m2), .val (.int m3), .val (.ref b1)] [])) P
      refine Go.st (fun t_ k_ => XS.iconst X121.here hx rfl (hb hby at_211) k_) ?_
      show Go pg.tables ev below (T121.setTop (mkF mi 212 #[.val (.int p0), .val (.int p1), .val (.int p2), .val (.int p3), .val (.int p4), .val (.int p5), .val (.int N), .val (.int iA), .val (.int iB), .val (.int iC), .val (.int iD), .val (.int m1), .val (.int m2), .val (.int m3), .val (.ref b1)] [(.int (1 : Int32))])) P
      refine Go.st (fun t_ k_ => XS.goto X121.here hx rfl (pc0 := 212) (pc' := 216) rfl (hb hby at_212) (by decide) (by decide) k_) ?_
      show Go pg.tables ev below (T121.setTop (mkF mi 216 #[.val (.int p0), .val (.int p1), .val (.int p2), .val (.int p3), .val (.int p4), .val (.int p5), .val (.int N), .val (.int iA), .val (.int iB), .val (.int iC), .val (.int iD), .val (.int m1), .val (.int m2), .val (.int m3), .val (.ref b1)] [(.int (1 : Int32))])) P
      obtain ⟨fs, hr, hrun, hended, hW, hsame⟩ := X121.leave (v := some (.int (1 : Int32))) (fun h => by rw [Bd.returns] at h; cases h) (BodyLoose.notSynchronized Bd)
      refine ⟨_, _, ?_, hP _ _ ⟨hrun, hended, _, _, rfl, ?_, ⟨_, rfl⟩, hW, hsame.mono (by decide) (by decide)⟩⟩
      · exact retN X121 hx (t := .boolean) Bd.returns (by simp) (hb hby at_216) hr
      · show (some (.int (1 : Int32)) : Option Value) = some (.int 1) ∧ Fr n0 _
        exact ⟨rfl, N121⟩
  · by_cases hac : iA = iC
    · subst hac
      show Go pg.tables ev below (T3.setTop (mkF mi 88 #[.val (.int p0), .val (.int p1), .val (.int p2), .val (.int p3), .val (.int p4), .val (.int p5), .val (.int N), .val (.int iA), .val (.int iB), .val (.int iA), .val (.int iD), .val (.int m1), .val (.int m2), .val (.int m3), .val (.ref b1)] [])) P
      refine Go.st (fun t_ k_ => XS.aload X3.here hx rfl (hb hby at_88) rfl rfl k_) ?_
      show Go pg.tables ev below (T3.setTop (mkF mi 90 #[.val (.int p0), .val (.int p1), .val (.int p2), .val (.int p3), .val (.int p4), .val (.int p5), .val (.int N), .val (.int iA), .val (.int iB), .val (.int iA), .val (.int iD), .val (.int m1), .val (.int m2), .val (.int m3), .val (.ref b1)] [(.ref b1)])) P
      refine Go.st (fun t_ k_ => XS.iload X3.here hx rfl (hb hby at_90) rfl k_) ?_
      show Go pg.tables ev below (T3.setTop (mkF mi 92 #[.val (.int p0), .val (.int p1), .val (.int p2), .val (.int p3), .val (.int p4), .val (.int p5), .val (.int N), .val (.int iA), .val (.int iB), .val (.int iA), .val (.int iD), .val (.int m1), .val (.int m2), .val (.int m3), .val (.ref b1)] [(.int iA), (.ref b1)])) P
      refine Go.st (fun t_ k_ => XS.iload X3.here hx rfl (hb hby at_92) rfl k_) ?_
      show Go pg.tables ev below (T3.setTop (mkF mi 94 #[.val (.int p0), .val (.int p1), .val (.int p2), .val (.int p3), .val (.int p4), .val (.int p5), .val (.int N), .val (.int iA), .val (.int iB), .val (.int iA), .val (.int iD), .val (.int m1), .val (.int m2), .val (.int m3), .val (.ref b1)] [(.int iB), (.int iA), (.ref b1)])) P
      refine Go.st (fun t_ k_ => XS.iload X3.here hx rfl (hb hby at_94) rfl k_) ?_
      show Go pg.tables ev below (T3.setTop (mkF mi 96 #[.val (.int p0), .val (.int p1), .val (.int p2), .val (.int p3), .val (.int p4), .val (.int p5), .val (.int N), .val (.int iA), .val (.int iB), .val (.int iA), .val (.int iD), .val (.int m1), .val (.int m2), .val (.int m3), .val (.ref b1)] [(.int m1), (.int iB), (.int iA), (.ref b1)])) P
      have f124 := (A1.keep K3)
      obtain ⟨cq123, kq123, q123a, q123b, q123c⟩ := isOf hZ e3 f124
      obtain ⟨_, _, ⟨T123, L123, k123, n123⟩, -, X123, ⟨Lc123, hQ123, l123, y123, z123⟩, st123⟩ := X3.virtualBack hx (y := (⟨"com/example/hedge/hedge/automaton/PairMarks", "add", "(III)I"⟩ : MethodName)) (z := (⟨"com/example/hedge/hedge/automaton/PairMarks", "add", "(III)I"⟩ : MethodName)) hown (mvT hZ (hw _ (List.mem_of_getElem? (i := 26) rfl))) (mvT hZ (hw _ (List.mem_of_getElem? (i := 27) rfl))) (notFace_of_selects (args := #[]) (mvT hZ (hw _ (List.mem_of_getElem? (i := 29) rfl)))) (mvT hZ (hw _ (List.mem_of_getElem? (i := 29) rfl))) (mvT hZ (hw _ (List.mem_of_getElem? (i := 28) rfl))) (by decide) (backOf (W := 0) (rmAN0B l Z a0 hw [] b1 iA iB m1 rw tb sz bm kR kT kS kB N  wd [] [] [] [(.int (0 : Int32)), (.int (0 : Int32)), (.int (0 : Int32)), (.int (0 : Int32)), (.int (0 : Int32)), (.int (0 : Int32)), (.int (0 : Int32)), (.int (0 : Int32)), (.int (0 : Int32)), (.int (0 : Int32)), (.int (0 : Int32)), (.int (0 : Int32)), (.int (0 : Int32)), (.int (0 : Int32)), (.int (0 : Int32)), (.int (0 : Int32))] h3 n0 Zs4 f124 g_b1 g_rw g_tb g_sz g_bm ne_o_rw ne_o_tb ne_o_sz ne_o_bm ne_rw_tb ne_rw_sz ne_rw_bm ne_tb_sz ne_tb_bm ne_sz_bm FI0 FI1 FI2 FI3 FI4 FI5 V_rw rfl V_tb V_sz V_bm O_tb O_bm hA.1 hA.2 hwo hN1 hN2 hwd hwd1 hwd2 hBq rfl rfl rfl) hZ (hw _ (List.mem_of_getElem? (i := 30) rfl)) (hw _ (List.mem_of_getElem? (i := 3) rfl)) (by decide) (by decide)) q123a q123c (g := (mkF mi 96 #[.val (.int p0), .val (.int p1), .val (.int p2), .val (.int p3), .val (.int p4), .val (.int p5), .val (.int N), .val (.int iA), .val (.int iB), .val (.int iA), .val (.int iD), .val (.int m1), .val (.int m2), .val (.int m3), .val (.ref b1)] [(.int m1), (.int iB), (.int iA), (.ref b1)])) rfl (by rw [hml]; rfl) (Steps.refl _) (argsL := [(.int iA), (.int iB), (.int m1)]) (rest := []) (lenOf pd_5 rfl) rfl (by show 2 * 0 + _ ≤ _; exact Nat.le_of_eq rfl) (hb hby at_96) (fun _ _ => ⟨rfl, e3, (by decide : 5 + 1 ≤ _), (by decide : 790 + 8 ≤ _)⟩)
      dsimp only [Pt.U, Pt.locs, Pt.cells, Pt.slots] at X123 l123 y123 z123 st123 hQ123
      subst l123 y123 z123
      obtain ⟨h123, e123⟩ : ∃ z, T123.heap = z := ⟨_, rfl⟩
      rw [e123] at hQ123
      obtain ⟨rfl, N123q, K123, x123, kx123, z_x123, g_x123, FB123_0, FB123_1, FB123_2, FB123_3, FB123_4, FB123_5, AR123, AB123, AX123⟩ := hQ123
      have N123 := Fr.app N3 N123q
      have Zs125 : n0 ≤ h123.size := Nat.le_trans Zs4 K123.1
      have AS123 : Arv Z h123 rw kR .int (16 : Int32) [(.int iA), (.int (0 : Int32)), (.int (0 : Int32)), (.int (0 : Int32)), (.int (0 : Int32)), (.int (0 : Int32)), (.int (0 : Int32)), (.int (0 : Int32)), (.int (0 : Int32)), (.int (0 : Int32)), (.int (0 : Int32)), (.int (0 : Int32)), (.int (0 : Int32)), (.int (0 : Int32)), (.int (0 : Int32)), (.int (0 : Int32))] (.int (0 : Int32)) := AR123
      have ne_b1_x123 : b1 ≠ x123 := Nat.ne_of_lt (Nat.lt_of_lt_of_le f124.lt z_x123)
      have ne_rw_x123 : rw ≠ x123 := Nat.ne_of_lt (Nat.lt_of_lt_of_le V_rw.lt z_x123)
      have ne_tb_x123 : tb ≠ x123 := Nat.ne_of_lt (Nat.lt_of_lt_of_le V_tb.lt z_x123)
      have ne_sz_x123 : sz ≠ x123 := Nat.ne_of_lt (Nat.lt_of_lt_of_le V_sz.lt z_x123)
      have ne_bm_x123 : bm ≠ x123 := Nat.ne_of_lt (Nat.lt_of_lt_of_le V_bm.lt z_x123)
      refine Go.tr st123 ?_
      show Go pg.tables ev below (T123.setTop (mkF mi 99 #[.val (.int p0), .val (.int p1), .val (.int p2), .val (.int p3), .val (.int p4), .val (.int p5), .val (.int N), .val (.int iA), .val (.int iB), .val (.int iA), .val (.int iD), .val (.int m1), .val (.int m2), .val (.int m3), .val (.ref b1)] [(.int m1)])) P
      refine Go.st (fun t_ k_ => XS.pop X123.here hx rfl (hb hby at_99) rfl rfl k_) ?_
      show Go pg.tables ev below (T123.setTop (mkF mi 100 #[.val (.int p0), .val (.int p1), .val (.int p2), .val (.int p3), .val (.int p4), .val (.int p5), .val (.int N), .val (.int iA), .val (.int iB), .val (.int iA), .val (.int iD), .val (.int m1), .val (.int m2), .val (.int m3), .val (.ref b1)] [])) P
      refine Go.st (fun t_ k_ => XS.aload X123.here hx rfl (hb hby at_100) rfl rfl k_) ?_
      show Go pg.tables ev below (T123.setTop (mkF mi 102 #[.val (.int p0), .val (.int p1), .val (.int p2), .val (.int p3), .val (.int p4), .val (.int p5), .val (.int N), .val (.int iA), .val (.int iB), .val (.int iA), .val (.int iD), .val (.int m1), .val (.int m2), .val (.int m3), .val (.ref b1)] [(.ref b1)])) P
      refine Go.st (fun t_ k_ => XS.iload X123.here hx rfl (hb hby at_102) rfl k_) ?_
      show Go pg.tables ev below (T123.setTop (mkF mi 104 #[.val (.int p0), .val (.int p1), .val (.int p2), .val (.int p3), .val (.int p4), .val (.int p5), .val (.int N), .val (.int iA), .val (.int iB), .val (.int iA), .val (.int iD), .val (.int m1), .val (.int m2), .val (.int m3), .val (.ref b1)] [(.int iA), (.ref b1)])) P
      refine Go.st (fun t_ k_ => XS.iload X123.here hx rfl (hb hby at_104) rfl k_) ?_
      show Go pg.tables ev below (T123.setTop (mkF mi 106 #[.val (.int p0), .val (.int p1), .val (.int p2), .val (.int p3), .val (.int p4), .val (.int p5), .val (.int N), .val (.int iA), .val (.int iB), .val (.int iA), .val (.int iD), .val (.int m1), .val (.int m2), .val (.int m3), .val (.ref b1)] [(.int iD), (.int iA), (.ref b1)])) P
      refine Go.st (fun t_ k_ => XS.iload X123.here hx rfl (hb hby at_106) rfl k_) ?_
      show Go pg.tables ev below (T123.setTop (mkF mi 108 #[.val (.int p0), .val (.int p1), .val (.int p2), .val (.int p3), .val (.int p4), .val (.int p5), .val (.int N), .val (.int iA), .val (.int iB), .val (.int iA), .val (.int iD), .val (.int m1), .val (.int m2), .val (.int m3), .val (.ref b1)] [(.int m2), (.int iD), (.int iA), (.ref b1)])) P
      have f127 := (f124.keep K123)
      have f128 := (V_tb.keep K123 (ninS (Ne.symm ne_o_tb) (ninS (Ne.symm ne_rw_tb) (ninS ne_tb_bm nin0))))
      obtain ⟨cq126, kq126, q126a, q126b, q126c⟩ := isOf hZ e123 f127
      obtain ⟨_, _, ⟨T126, L126, k126, n126⟩, -, X126, ⟨Lc126, hQ126, l126, y126, z126⟩, st126⟩ := X123.virtualBack hx (y := (⟨"com/example/hedge/hedge/automaton/PairMarks", "add", "(III)I"⟩ : MethodName)) (z := (⟨"com/example/hedge/hedge/automaton/PairMarks", "add", "(III)I"⟩ : MethodName)) hown (mvT hZ (hw _ (List.mem_of_getElem? (i := 26) rfl))) (mvT hZ (hw _ (List.mem_of_getElem? (i := 27) rfl))) (notFace_of_selects (args := #[]) (mvT hZ (hw _ (List.mem_of_getElem? (i := 29) rfl)))) (mvT hZ (hw _ (List.mem_of_getElem? (i := 29) rfl))) (mvT hZ (hw _ (List.mem_of_getElem? (i := 28) rfl))) (by decide) (backOf (W := 0) (rmAEB l Z a0 hw [] b1 iA iD m2 tb bm kT kB N [] ((iA, (.ref x123)) :: []) x123 kx123 wd [(((iB.toUInt32 >>> ((5 : Int32) &&& 31).toUInt32).toInt32), (.long (fPu m1 iB)))] h123 n0 Zs125 f127 FB123_1 FB123_3 f128 AB123 hA.1 hA.2 (own_hit hA.1) AX123 (own_bit hN1 hN2 hwd hD) g_x123 ne_bm_x123 ne_tb_x123) hZ (hw _ (List.mem_of_getElem? (i := 30) rfl)) (hw _ (List.mem_of_getElem? (i := 3) rfl)) (by decide) (by decide)) q126a q126c (g := (mkF mi 108 #[.val (.int p0), .val (.int p1), .val (.int p2), .val (.int p3), .val (.int p4), .val (.int p5), .val (.int N), .val (.int iA), .val (.int iB), .val (.int iA), .val (.int iD), .val (.int m1), .val (.int m2), .val (.int m3), .val (.ref b1)] [(.int m2), (.int iD), (.int iA), (.ref b1)])) rfl (by rw [hml]; rfl) (Steps.refl _) (argsL := [(.int iA), (.int iD), (.int m2)]) (rest := []) (lenOf pd_5 rfl) rfl (by show 2 * 0 + _ ≤ _; exact Nat.le_of_eq rfl) (hb hby at_108) (fun _ _ => ⟨rfl, e123, (by decide : 6 + 0 ≤ _), (by decide : 798 + 0 ≤ _)⟩)
      dsimp only [Pt.U, Pt.locs, Pt.cells, Pt.slots] at X126 l126 y126 z126 st126 hQ126
      subst l126 y126 z126
      obtain ⟨h126, e126⟩ : ∃ z, T126.heap = z := ⟨_, rfl⟩
      rw [e126] at hQ126
      obtain ⟨r126, rfl, N126q, K126⟩ := hQ126
      have N126 := Fr.app N123 N126q
      have Zs129 : n0 ≤ h126.size := Nat.le_trans Zs125 K126.1
      refine Go.tr st126 ?_
      show Go pg.tables ev below (T126.setTop (mkF mi 111 #[.val (.int p0), .val (.int p1), .val (.int p2), .val (.int p3), .val (.int p4), .val (.int p5), .val (.int N), .val (.int iA), .val (.int iB), .val (.int iA), .val (.int iD), .val (.int m1), .val (.int m2), .val (.int m3), .val (.ref b1)] [(.int r126)])) P
      refine Go.st (fun t_ k_ => XS.pop X126.here hx rfl (hb hby at_111) rfl rfl k_) ?_
      show Go pg.tables ev below (T126.setTop (mkF mi 112 #[.val (.int p0), .val (.int p1), .val (.int p2), .val (.int p3), .val (.int p4), .val (.int p5), .val (.int N), .val (.int iA), .val (.int iB), .val (.int iA), .val (.int iD), .val (.int m1), .val (.int m2), .val (.int m3), .val (.ref b1)] [])) P
      refine Go.st (fun t_ k_ => XS.aload X126.here hx rfl (hb hby at_112) rfl rfl k_) ?_
      show Go pg.tables ev below (T126.setTop (mkF mi 114 #[.val (.int p0), .val (.int p1), .val (.int p2), .val (.int p3), .val (.int p4), .val (.int p5), .val (.int N), .val (.int iA), .val (.int iB), .val (.int iA), .val (.int iD), .val (.int m1), .val (.int m2), .val (.int m3), .val (.ref b1)] [(.ref b1)])) P
      have f131 := (f127.keep K126)
      have f132 := (FB123_0.keep K126 (ninS ne_b1_x123 nin0))
      have f133 := (FB123_1.keep K126 (ninS ne_b1_x123 nin0))
      have f134 := (FB123_2.keep K126 (ninS ne_b1_x123 nin0))
      have f135 := (FB123_3.keep K126 (ninS ne_b1_x123 nin0))
      have f136 := (FB123_4.keep K126 (ninS ne_b1_x123 nin0))
      have f137 := (FB123_5.keep K126 (ninS ne_b1_x123 nin0))
      have f138 := (AS123.keep K126 (ninS ne_rw_x123 nin0))
      have f139 := (f128.keep K126 (ninS ne_tb_x123 nin0))
      have f140 := ((V_sz.keep K123 (ninS (Ne.symm ne_o_sz) (ninS (Ne.symm ne_rw_sz) (ninS ne_sz_bm nin0)))).keep K126 (ninS ne_sz_x123 nin0))
      have f141 := (AB123.keep K126 (ninS ne_bm_x123 nin0))
      obtain ⟨cq130, kq130, q130a, q130b, q130c⟩ := isOf hZ e126 f131
      obtain ⟨_, _, ⟨T130, L130, k130, n130⟩, -, X130, ⟨Lc130, hQ130, l130, y130, z130⟩, st130⟩ := X126.virtualBack hx (y := (⟨"com/example/hedge/hedge/automaton/PairMarks", "clear", "()V"⟩ : MethodName)) (z := (⟨"com/example/hedge/hedge/automaton/PairMarks", "clear", "()V"⟩ : MethodName)) hown (mvT hZ (hw _ (List.mem_of_getElem? (i := 52) rfl))) (mvT hZ (hw _ (List.mem_of_getElem? (i := 53) rfl))) (notFace_of_selects (args := #[]) (mvT hZ (hw _ (List.mem_of_getElem? (i := 55) rfl)))) (mvT hZ (hw _ (List.mem_of_getElem? (i := 55) rfl))) (mvT hZ (hw _ (List.mem_of_getElem? (i := 54) rfl))) (by decide) (backOf (W := 0) (rmC1 l Z a0 hw [] b1 rw tb sz bm kR kT kS kB N  wd [] [] ((iA, (.ref x123)) :: []) [(.int (0 : Int32)), (.int (0 : Int32)), (.int (0 : Int32)), (.int (0 : Int32)), (.int (0 : Int32)), (.int (0 : Int32)), (.int (0 : Int32)), (.int (0 : Int32)), (.int (0 : Int32)), (.int (0 : Int32)), (.int (0 : Int32)), (.int (0 : Int32)), (.int (0 : Int32)), (.int (0 : Int32)), (.int (0 : Int32))] iA h126 n0 Zs129 f131 g_b1 g_rw g_tb g_sz g_bm ne_o_rw ne_o_tb ne_o_sz ne_o_bm ne_rw_tb ne_rw_sz ne_rw_bm ne_tb_sz ne_tb_bm ne_sz_bm f132 f133 f134 f135 f136 f137 f138 f139 f140 f141 O_tb O_bm hA.1 hA.2) hZ (hw _ (List.mem_of_getElem? (i := 56) rfl)) (hw _ (List.mem_of_getElem? (i := 3) rfl)) (by decide) (by decide)) q130a q130c (g := (mkF mi 114 #[.val (.int p0), .val (.int p1), .val (.int p2), .val (.int p3), .val (.int p4), .val (.int p5), .val (.int N), .val (.int iA), .val (.int iB), .val (.int iA), .val (.int iD), .val (.int m1), .val (.int m2), .val (.int m3), .val (.ref b1)] [(.ref b1)])) rfl (by rw [hml]; rfl) (Steps.refl _) (argsL := []) (rest := []) (lenOf pd_6 rfl) rfl (by show 2 * 0 + _ ≤ _; exact Nat.le_of_eq rfl) (hb hby at_114) (fun _ _ => ⟨rfl, e126, (by decide : 6 + 0 ≤ _), (by decide : 798 + 0 ≤ _)⟩)
      dsimp only [Pt.U, Pt.locs, Pt.cells, Pt.slots] at X130 l130 y130 z130 st130 hQ130
      subst l130 y130 z130
      obtain ⟨h130, e130⟩ : ∃ z, T130.heap = z := ⟨_, rfl⟩
      rw [e130] at hQ130
      obtain ⟨rfl, N130q, K130, FB130_0, FB130_1, FB130_2, FB130_3, FB130_4, FB130_5, CT130, CB130, CS130⟩ := hQ130
      have N130 := Fr.app N126 N130q
      have Zs142 : n0 ≤ h130.size := Nat.le_trans Zs129 K130.1
      refine Go.tr st130 ?_
      show Go pg.tables ev below (T130.setTop (mkF mi 117 #[.val (.int p0), .val (.int p1), .val (.int p2), .val (.int p3), .val (.int p4), .val (.int p5), .val (.int N), .val (.int iA), .val (.int iB), .val (.int iA), .val (.int iD), .val (.int m1), .val (.int m2), .val (.int m3), .val (.ref b1)] [])) P
      refine Go.st (fun t_ k_ => XS.aload X130.here hx rfl (hb hby at_117) rfl rfl k_) ?_
      show Go pg.tables ev below (T130.setTop (mkF mi 119 #[.val (.int p0), .val (.int p1), .val (.int p2), .val (.int p3), .val (.int p4), .val (.int p5), .val (.int N), .val (.int iA), .val (.int iB), .val (.int iA), .val (.int iD), .val (.int m1), .val (.int m2), .val (.int m3), .val (.ref b1)] [(.ref b1)])) P
      have f144 := (f131.keep K130)
      obtain ⟨cq143, kq143, q143a, q143b, q143c⟩ := isOf hZ e130 f144
      obtain ⟨_, _, ⟨T143, L143, k143, n143⟩, -, X143, ⟨Lc143, hQ143, l143, y143, z143⟩, st143⟩ := X130.virtualBack hx (y := (⟨"com/example/hedge/hedge/automaton/PairMarks", "rowCount", "()I"⟩ : MethodName)) (z := (⟨"com/example/hedge/hedge/automaton/PairMarks", "rowCount", "()I"⟩ : MethodName)) hown (mvT hZ (hw _ (List.mem_of_getElem? (i := 57) rfl))) (mvT hZ (hw _ (List.mem_of_getElem? (i := 58) rfl))) (notFace_of_selects (args := #[]) (mvT hZ (hw _ (List.mem_of_getElem? (i := 60) rfl)))) (mvT hZ (hw _ (List.mem_of_getElem? (i := 60) rfl))) (mvT hZ (hw _ (List.mem_of_getElem? (i := 59) rfl))) (by decide) (backOf (W := 0) (rmRC l Z a0 hw [] b1 (0 : Int32) h130 n0 Zs142 FB130_5) hZ (hw _ (List.mem_of_getElem? (i := 61) rfl)) (hw _ (List.mem_of_getElem? (i := 3) rfl)) (by decide) (by decide)) q143a q143c (g := (mkF mi 119 #[.val (.int p0), .val (.int p1), .val (.int p2), .val (.int p3), .val (.int p4), .val (.int p5), .val (.int N), .val (.int iA), .val (.int iB), .val (.int iA), .val (.int iD), .val (.int m1), .val (.int m2), .val (.int m3), .val (.ref b1)] [(.ref b1)])) rfl (by rw [hml]; rfl) (Steps.refl _) (argsL := []) (rest := []) (lenOf pd_7 rfl) rfl (by show 2 * 0 + _ ≤ _; exact Nat.le_of_eq rfl) (hb hby at_119) (fun _ _ => ⟨rfl, e130, (by decide : 6 + 0 ≤ _), (by decide : 798 + 0 ≤ _)⟩)
      dsimp only [Pt.U, Pt.locs, Pt.cells, Pt.slots] at X143 l143 y143 z143 st143 hQ143
      subst l143 y143 z143
      obtain ⟨rfl, N143q, e143⟩ := hQ143
      have N143 := Fr.app N130 N143q
      refine Go.tr st143 ?_
      show Go pg.tables ev below (T143.setTop (mkF mi 122 #[.val (.int p0), .val (.int p1), .val (.int p2), .val (.int p3), .val (.int p4), .val (.int p5), .val (.int N), .val (.int iA), .val (.int iB), .val (.int iA), .val (.int iD), .val (.int m1), .val (.int m2), .val (.int m3), .val (.ref b1)] [(.int (0 : Int32))])) P
      refine Go.st (fun t_ k_ => XS.ifYes X143.here hx rfl (pc0 := 122) (pc' := 127) rfl (hb hby at_122) rfl ((if0 _ _).trans (teq rfl).1) (by decide) (by decide) k_) ?_
      show Go pg.tables ev below (T143.setTop (mkF mi 127 #[.val (.int p0), .val (.int p1), .val (.int p2), .val (.int p3), .val (.int p4), .val (.int p5), .val (.int N), .val (.int iA), .val (.int iB), .val (.int iA), .val (.int iD), .val (.int m1), .val (.int m2), .val (.int m3), .val (.ref b1)] [])) P
      refine Go.st (fun t_ k_ => XS.aload X143.here hx rfl (hb hby at_127) rfl rfl k_) ?_
      show Go pg.tables ev below (T143.setTop (mkF mi 129 #[.val (.int p0), .val (.int p1), .val (.int p2), .val (.int p3), .val (.int p4), .val (.int p5), .val (.int N), .val (.int iA), .val (.int iB), .val (.int iA), .val (.int iD), .val (.int m1), .val (.int m2), .val (.int m3), .val (.ref b1)] [(.ref b1)])) P
      refine Go.st (fun t_ k_ => XS.iload X143.here hx rfl (hb hby at_129) rfl k_) ?_
      show Go pg.tables ev below (T143.setTop (mkF mi 131 #[.val (.int p0), .val (.int p1), .val (.int p2), .val (.int p3), .val (.int p4), .val (.int p5), .val (.int N), .val (.int iA), .val (.int iB), .val (.int iA), .val (.int iD), .val (.int m1), .val (.int m2), .val (.int m3), .val (.ref b1)] [(.int iA), (.ref b1)])) P
      refine Go.st (fun t_ k_ => XS.iload X143.here hx rfl (hb hby at_131) rfl k_) ?_
      show Go pg.tables ev below (T143.setTop (mkF mi 133 #[.val (.int p0), .val (.int p1), .val (.int p2), .val (.int p3), .val (.int p4), .val (.int p5), .val (.int N), .val (.int iA), .val (.int iB), .val (.int iA), .val (.int iD), .val (.int m1), .val (.int m2), .val (.int m3), .val (.ref b1)] [(.int iB), (.int iA), (.ref b1)])) P
      obtain ⟨cq145, kq145, q145a, q145b, q145c⟩ := isOf hZ e143 f144
      obtain ⟨_, _, ⟨T145, L145, k145, n145⟩, -, X145, ⟨Lc145, hQ145, l145, y145, z145⟩, st145⟩ := X143.virtualBack hx (y := (⟨"com/example/hedge/hedge/automaton/PairMarks", "get", "(II)I"⟩ : MethodName)) (z := (⟨"com/example/hedge/hedge/automaton/PairMarks", "get", "(II)I"⟩ : MethodName)) hown (mvT hZ (hw _ (List.mem_of_getElem? (i := 62) rfl))) (mvT hZ (hw _ (List.mem_of_getElem? (i := 45) rfl))) (notFace_of_selects (args := #[]) (mvT hZ (hw _ (List.mem_of_getElem? (i := 47) rfl)))) (mvT hZ (hw _ (List.mem_of_getElem? (i := 47) rfl))) (mvT hZ (hw _ (List.mem_of_getElem? (i := 46) rfl))) (by decide) (backOf (W := 0) (rmG0 l Z a0 hw [] b1 iA iB tb bm kT kB N ((iA, .null) :: []) ((iA, .null) :: ((iA, (.ref x123)) :: [])) h130 n0 Zs142 FB130_1 FB130_3 CT130 CB130 hA.1 hA.2 (own_hit hA.1) (own_hit hA.1)) hZ (hw _ (List.mem_of_getElem? (i := 48) rfl)) (hw _ (List.mem_of_getElem? (i := 3) rfl)) (by decide) (by decide)) q145a q145c (g := (mkF mi 133 #[.val (.int p0), .val (.int p1), .val (.int p2), .val (.int p3), .val (.int p4), .val (.int p5), .val (.int N), .val (.int iA), .val (.int iB), .val (.int iA), .val (.int iD), .val (.int m1), .val (.int m2), .val (.int m3), .val (.ref b1)] [(.int iB), (.int iA), (.ref b1)])) rfl (by rw [hml]; rfl) (Steps.refl _) (argsL := [(.int iA), (.int iB)]) (rest := []) (lenOf pd_1 rfl) rfl (by show 2 * 0 + _ ≤ _; exact Nat.le_of_eq rfl) (hb hby at_133) (fun _ _ => ⟨rfl, e143, (by decide : 6 + 0 ≤ _), (by decide : 798 + 0 ≤ _)⟩)
      dsimp only [Pt.U, Pt.locs, Pt.cells, Pt.slots] at X145 l145 y145 z145 st145 hQ145
      subst l145 y145 z145
      obtain ⟨rfl, N145q, e145⟩ := hQ145
      have N145 := Fr.app N143 N145q
      refine Go.tr st145 ?_
      show Go pg.tables ev below (T145.setTop (mkF mi 136 #[.val (.int p0), .val (.int p1), .val (.int p2), .val (.int p3), .val (.int p4), .val (.int p5), .val (.int N), .val (.int iA), .val (.int iB), .val (.int iA), .val (.int iD), .val (.int m1), .val (.int m2), .val (.int m3), .val (.ref b1)] [(.int (0 : Int32))])) P
      refine Go.st (fun t_ k_ => XS.ifYes X145.here hx rfl (pc0 := 136) (pc' := 141) rfl (hb hby at_136) rfl ((if0 _ _).trans (teq rfl).1) (by decide) (by decide) k_) ?_
      show Go pg.tables ev below (T145.setTop (mkF mi 141 #[.val (.int p0), .val (.int p1), .val (.int p2), .val (.int p3), .val (.int p4), .val (.int p5), .val (.int N), .val (.int iA), .val (.int iB), .val (.int iA), .val (.int iD), .val (.int m1), .val (.int m2), .val (.int m3), .val (.ref b1)] [])) P
      refine Go.st (fun t_ k_ => XS.aload X145.here hx rfl (hb hby at_141) rfl rfl k_) ?_
      show Go pg.tables ev below (T145.setTop (mkF mi 143 #[.val (.int p0), .val (.int p1), .val (.int p2), .val (.int p3), .val (.int p4), .val (.int p5), .val (.int N), .val (.int iA), .val (.int iB), .val (.int iA), .val (.int iD), .val (.int m1), .val (.int m2), .val (.int m3), .val (.ref b1)] [(.ref b1)])) P
      refine Go.st (fun t_ k_ => XS.iload X145.here hx rfl (hb hby at_143) rfl k_) ?_
      show Go pg.tables ev below (T145.setTop (mkF mi 145 #[.val (.int p0), .val (.int p1), .val (.int p2), .val (.int p3), .val (.int p4), .val (.int p5), .val (.int N), .val (.int iA), .val (.int iB), .val (.int iA), .val (.int iD), .val (.int m1), .val (.int m2), .val (.int m3), .val (.ref b1)] [(.int iA), (.ref b1)])) P
      refine Go.st (fun t_ k_ => XS.iload X145.here hx rfl (hb hby at_145) rfl k_) ?_
      show Go pg.tables ev below (T145.setTop (mkF mi 147 #[.val (.int p0), .val (.int p1), .val (.int p2), .val (.int p3), .val (.int p4), .val (.int p5), .val (.int N), .val (.int iA), .val (.int iB), .val (.int iA), .val (.int iD), .val (.int m1), .val (.int m2), .val (.int m3), .val (.ref b1)] [(.int iD), (.int iA), (.ref b1)])) P
      obtain ⟨cq146, kq146, q146a, q146b, q146c⟩ := isOf hZ e145 f144
      obtain ⟨_, _, ⟨T146, L146, k146, n146⟩, -, X146, ⟨Lc146, hQ146, l146, y146, z146⟩, st146⟩ := X145.virtualBack hx (y := (⟨"com/example/hedge/hedge/automaton/PairMarks", "get", "(II)I"⟩ : MethodName)) (z := (⟨"com/example/hedge/hedge/automaton/PairMarks", "get", "(II)I"⟩ : MethodName)) hown (mvT hZ (hw _ (List.mem_of_getElem? (i := 62) rfl))) (mvT hZ (hw _ (List.mem_of_getElem? (i := 45) rfl))) (notFace_of_selects (args := #[]) (mvT hZ (hw _ (List.mem_of_getElem? (i := 47) rfl)))) (mvT hZ (hw _ (List.mem_of_getElem? (i := 47) rfl))) (mvT hZ (hw _ (List.mem_of_getElem? (i := 46) rfl))) (by decide) (backOf (W := 0) (rmG0 l Z a0 hw [] b1 iA iD tb bm kT kB N ((iA, .null) :: []) ((iA, .null) :: ((iA, (.ref x123)) :: [])) h130 n0 Zs142 FB130_1 FB130_3 CT130 CB130 hA.1 hA.2 (own_hit hA.1) (own_hit hA.1)) hZ (hw _ (List.mem_of_getElem? (i := 48) rfl)) (hw _ (List.mem_of_getElem? (i := 3) rfl)) (by decide) (by decide)) q146a q146c (g := (mkF mi 147 #[.val (.int p0), .val (.int p1), .val (.int p2), .val (.int p3), .val (.int p4), .val (.int p5), .val (.int N), .val (.int iA), .val (.int iB), .val (.int iA), .val (.int iD), .val (.int m1), .val (.int m2), .val (.int m3), .val (.ref b1)] [(.int iD), (.int iA), (.ref b1)])) rfl (by rw [hml]; rfl) (Steps.refl _) (argsL := [(.int iA), (.int iD)]) (rest := []) (lenOf pd_1 rfl) rfl (by show 2 * 0 + _ ≤ _; exact Nat.le_of_eq rfl) (hb hby at_147) (fun _ _ => ⟨rfl, e145, (by decide : 6 + 0 ≤ _), (by decide : 798 + 0 ≤ _)⟩)
      dsimp only [Pt.U, Pt.locs, Pt.cells, Pt.slots] at X146 l146 y146 z146 st146 hQ146
      subst l146 y146 z146
      obtain ⟨rfl, N146q, e146⟩ := hQ146
      have N146 := Fr.app N145 N146q
      refine Go.tr st146 ?_
      show Go pg.tables ev below (T146.setTop (mkF mi 150 #[.val (.int p0), .val (.int p1), .val (.int p2), .val (.int p3), .val (.int p4), .val (.int p5), .val (.int N), .val (.int iA), .val (.int iB), .val (.int iA), .val (.int iD), .val (.int m1), .val (.int m2), .val (.int m3), .val (.ref b1)] [(.int (0 : Int32))])) P
      refine Go.st (fun t_ k_ => XS.ifYes X146.here hx rfl (pc0 := 150) (pc' := 155) rfl (hb hby at_150) rfl ((if0 _ _).trans (teq rfl).1) (by decide) (by decide) k_) ?_
      show Go pg.tables ev below (T146.setTop (mkF mi 155 #[.val (.int p0), .val (.int p1), .val (.int p2), .val (.int p3), .val (.int p4), .val (.int p5), .val (.int N), .val (.int iA), .val (.int iB), .val (.int iA), .val (.int iD), .val (.int m1), .val (.int m2), .val (.int m3), .val (.ref b1)] [])) P
      refine Go.st (fun t_ k_ => XS.aload X146.here hx rfl (hb hby at_155) rfl rfl k_) ?_
      show Go pg.tables ev below (T146.setTop (mkF mi 157 #[.val (.int p0), .val (.int p1), .val (.int p2), .val (.int p3), .val (.int p4), .val (.int p5), .val (.int N), .val (.int iA), .val (.int iB), .val (.int iA), .val (.int iD), .val (.int m1), .val (.int m2), .val (.int m3), .val (.ref b1)] [(.ref b1)])) P
      refine Go.st (fun t_ k_ => XS.iload X146.here hx rfl (hb hby at_157) rfl k_) ?_
      show Go pg.tables ev below (T146.setTop (mkF mi 159 #[.val (.int p0), .val (.int p1), .val (.int p2), .val (.int p3), .val (.int p4), .val (.int p5), .val (.int N), .val (.int iA), .val (.int iB), .val (.int iA), .val (.int iD), .val (.int m1), .val (.int m2), .val (.int m3), .val (.ref b1)] [(.int iA), (.ref b1)])) P
      refine Go.st (fun t_ k_ => XS.iload X146.here hx rfl (hb hby at_159) rfl k_) ?_
      show Go pg.tables ev below (T146.setTop (mkF mi 161 #[.val (.int p0), .val (.int p1), .val (.int p2), .val (.int p3), .val (.int p4), .val (.int p5), .val (.int N), .val (.int iA), .val (.int iB), .val (.int iA), .val (.int iD), .val (.int m1), .val (.int m2), .val (.int m3), .val (.ref b1)] [(.int iD), (.int iA), (.ref b1)])) P
      refine Go.st (fun t_ k_ => XS.iload X146.here hx rfl (hb hby at_161) rfl k_) ?_
      show Go pg.tables ev below (T146.setTop (mkF mi 163 #[.val (.int p0), .val (.int p1), .val (.int p2), .val (.int p3), .val (.int p4), .val (.int p5), .val (.int N), .val (.int iA), .val (.int iB), .val (.int iA), .val (.int iD), .val (.int m1), .val (.int m2), .val (.int m3), .val (.ref b1)] [(.int m3), (.int iD), (.int iA), (.ref b1)])) P
      have f148 := (f138.keep K130 (ninS (Ne.symm ne_o_rw) (ninS ne_rw_tb (ninS ne_rw_bm (ninS ne_rw_sz nin0)))))
      obtain ⟨cq147, kq147, q147a, q147b, q147c⟩ := isOf hZ e146 f144
      obtain ⟨_, _, ⟨T147, L147, k147, n147⟩, -, X147, ⟨Lc147, hQ147, l147, y147, z147⟩, st147⟩ := X146.virtualBack hx (y := (⟨"com/example/hedge/hedge/automaton/PairMarks", "add", "(III)I"⟩ : MethodName)) (z := (⟨"com/example/hedge/hedge/automaton/PairMarks", "add", "(III)I"⟩ : MethodName)) hown (mvT hZ (hw _ (List.mem_of_getElem? (i := 26) rfl))) (mvT hZ (hw _ (List.mem_of_getElem? (i := 27) rfl))) (notFace_of_selects (args := #[]) (mvT hZ (hw _ (List.mem_of_getElem? (i := 29) rfl)))) (mvT hZ (hw _ (List.mem_of_getElem? (i := 29) rfl))) (mvT hZ (hw _ (List.mem_of_getElem? (i := 28) rfl))) (by decide) (backOf (W := 0) (rmAN0B l Z a0 hw [] b1 iA iD m3 rw tb sz bm kR kT kS kB N  wd ((iA, .null) :: []) ((iA, (.int (0 : Int32))) :: []) ((iA, .null) :: ((iA, (.ref x123)) :: [])) [(.int iA), (.int (0 : Int32)), (.int (0 : Int32)), (.int (0 : Int32)), (.int (0 : Int32)), (.int (0 : Int32)), (.int (0 : Int32)), (.int (0 : Int32)), (.int (0 : Int32)), (.int (0 : Int32)), (.int (0 : Int32)), (.int (0 : Int32)), (.int (0 : Int32)), (.int (0 : Int32)), (.int (0 : Int32)), (.int (0 : Int32))] h130 n0 Zs142 f144 g_b1 g_rw g_tb g_sz g_bm ne_o_rw ne_o_tb ne_o_sz ne_o_bm ne_rw_tb ne_rw_sz ne_rw_bm ne_tb_sz ne_tb_bm ne_sz_bm FB130_0 FB130_1 FB130_2 FB130_3 FB130_4 FB130_5 f148 rfl CT130 CS130 CB130 O_tb O_bm hA.1 hA.2 hwo hN1 hN2 hwd hwd1 hwd2 hD (own_hit hA.1) (own_hit hA.1) (own_hit hA.1)) hZ (hw _ (List.mem_of_getElem? (i := 30) rfl)) (hw _ (List.mem_of_getElem? (i := 3) rfl)) (by decide) (by decide)) q147a q147c (g := (mkF mi 163 #[.val (.int p0), .val (.int p1), .val (.int p2), .val (.int p3), .val (.int p4), .val (.int p5), .val (.int N), .val (.int iA), .val (.int iB), .val (.int iA), .val (.int iD), .val (.int m1), .val (.int m2), .val (.int m3), .val (.ref b1)] [(.int m3), (.int iD), (.int iA), (.ref b1)])) rfl (by rw [hml]; rfl) (Steps.refl _) (argsL := [(.int iA), (.int iD), (.int m3)]) (rest := []) (lenOf pd_5 rfl) rfl (by show 2 * 0 + _ ≤ _; exact Nat.le_of_eq rfl) (hb hby at_163) (fun _ _ => ⟨rfl, e146, (by decide : 6 + 1 ≤ _), (by decide : 798 + 8 ≤ _)⟩)
      dsimp only [Pt.U, Pt.locs, Pt.cells, Pt.slots] at X147 l147 y147 z147 st147 hQ147
      subst l147 y147 z147
      obtain ⟨h147, e147⟩ : ∃ z, T147.heap = z := ⟨_, rfl⟩
      rw [e147] at hQ147
      obtain ⟨rfl, N147q, K147, x147, kx147, z_x147, g_x147, FB147_0, FB147_1, FB147_2, FB147_3, FB147_4, FB147_5, AR147, AB147, AX147⟩ := hQ147
      have N147 := Fr.app N146 N147q
      have Zs149 : n0 ≤ h147.size := Nat.le_trans Zs142 K147.1
      have AS147 : Arv Z h147 rw kR .int (16 : Int32) [(.int iA), (.int (0 : Int32)), (.int (0 : Int32)), (.int (0 : Int32)), (.int (0 : Int32)), (.int (0 : Int32)), (.int (0 : Int32)), (.int (0 : Int32)), (.int (0 : Int32)), (.int (0 : Int32)), (.int (0 : Int32)), (.int (0 : Int32)), (.int (0 : Int32)), (.int (0 : Int32)), (.int (0 : Int32)), (.int (0 : Int32))] (.int (0 : Int32)) := AR147
      have ne_b1_x147 : b1 ≠ x147 := Nat.ne_of_lt (Nat.lt_of_lt_of_le f144.lt z_x147)
      have ne_rw_x147 : rw ≠ x147 := Nat.ne_of_lt (Nat.lt_of_lt_of_le f148.lt z_x147)
      have ne_tb_x147 : tb ≠ x147 := Nat.ne_of_lt (Nat.lt_of_lt_of_le CT130.lt z_x147)
      have ne_sz_x147 : sz ≠ x147 := Nat.ne_of_lt (Nat.lt_of_lt_of_le CS130.lt z_x147)
      have ne_bm_x147 : bm ≠ x147 := Nat.ne_of_lt (Nat.lt_of_lt_of_le CB130.lt z_x147)
      refine Go.tr st147 ?_
      show Go pg.tables ev below (T147.setTop (mkF mi 166 #[.val (.int p0), .val (.int p1), .val (.int p2), .val (.int p3), .val (.int p4), .val (.int p5), .val (.int N), .val (.int iA), .val (.int iB), .val (.int iA), .val (.int iD), .val (.int m1), .val (.int m2), .val (.int m3), .val (.ref b1)] [(.int m3)])) P
      refine Go.st (fun t_ k_ => XS.iload X147.here hx rfl (hb hby at_166) rfl k_) ?_
      show Go pg.tables ev below (T147.setTop (mkF mi 168 #[.val (.int p0), .val (.int p1), .val (.int p2), .val (.int p3), .val (.int p4), .val (.int p5), .val (.int N), .val (.int iA), .val (.int iB), .val (.int iA), .val (.int iD), .val (.int m1), .val (.int m2), .val (.int m3), .val (.ref b1)] [(.int m3), (.int m3)])) P
      refine Go.st (fun t_ k_ => XS.icmpYes X147.here hx rfl (pc0 := 168) (pc' := 173) rfl (hb hby at_168) rfl (teq rfl).1 (by decide) (by decide) k_) ?_
      show Go pg.tables ev below (T147.setTop (mkF mi 173 #[.val (.int p0), .val (.int p1), .val (.int p2), .val (.int p3), .val (.int p4), .val (.int p5), .val (.int N), .val (.int iA), .val (.int iB), .val (.int iA), .val (.int iD), .val (.int m1), .val (.int m2), .val (.int m3), .val (.ref b1)] [])) P
      refine Go.st (fun t_ k_ => XS.aload X147.here hx rfl (hb hby at_173) rfl rfl k_) ?_
      show Go pg.tables ev below (T147.setTop (mkF mi 175 #[.val (.int p0), .val (.int p1), .val (.int p2), .val (.int p3), .val (.int p4), .val (.int p5), .val (.int N), .val (.int iA), .val (.int iB), .val (.int iA), .val (.int iD), .val (.int m1), .val (.int m2), .val (.int m3), .val (.ref b1)] [(.ref b1)])) P
      have f151 := (f144.keep K147)
      obtain ⟨cq150, kq150, q150a, q150b, q150c⟩ := isOf hZ e147 f151
      obtain ⟨_, _, ⟨T150, L150, k150, n150⟩, -, X150, ⟨Lc150, hQ150, l150, y150, z150⟩, st150⟩ := X147.virtualBack hx (y := (⟨"com/example/hedge/hedge/automaton/PairMarks", "rowCount", "()I"⟩ : MethodName)) (z := (⟨"com/example/hedge/hedge/automaton/PairMarks", "rowCount", "()I"⟩ : MethodName)) hown (mvT hZ (hw _ (List.mem_of_getElem? (i := 57) rfl))) (mvT hZ (hw _ (List.mem_of_getElem? (i := 58) rfl))) (notFace_of_selects (args := #[]) (mvT hZ (hw _ (List.mem_of_getElem? (i := 60) rfl)))) (mvT hZ (hw _ (List.mem_of_getElem? (i := 60) rfl))) (mvT hZ (hw _ (List.mem_of_getElem? (i := 59) rfl))) (by decide) (backOf (W := 0) (rmRC l Z a0 hw [] b1 (1 : Int32) h147 n0 Zs149 FB147_5) hZ (hw _ (List.mem_of_getElem? (i := 61) rfl)) (hw _ (List.mem_of_getElem? (i := 3) rfl)) (by decide) (by decide)) q150a q150c (g := (mkF mi 175 #[.val (.int p0), .val (.int p1), .val (.int p2), .val (.int p3), .val (.int p4), .val (.int p5), .val (.int N), .val (.int iA), .val (.int iB), .val (.int iA), .val (.int iD), .val (.int m1), .val (.int m2), .val (.int m3), .val (.ref b1)] [(.ref b1)])) rfl (by rw [hml]; rfl) (Steps.refl _) (argsL := []) (rest := []) (lenOf pd_7 rfl) rfl (by show 2 * 0 + _ ≤ _; exact Nat.le_of_eq rfl) (hb hby at_175) (fun _ _ => ⟨rfl, e147, (by decide : 7 + 0 ≤ _), (by decide : 806 + 0 ≤ _)⟩)
      dsimp only [Pt.U, Pt.locs, Pt.cells, Pt.slots] at X150 l150 y150 z150 st150 hQ150
      subst l150 y150 z150
      obtain ⟨rfl, N150q, e150⟩ := hQ150
      have N150 := Fr.app N147 N150q
      refine Go.tr st150 ?_
      show Go pg.tables ev below (T150.setTop (mkF mi 178 #[.val (.int p0), .val (.int p1), .val (.int p2), .val (.int p3), .val (.int p4), .val (.int p5), .val (.int N), .val (.int iA), .val (.int iB), .val (.int iA), .val (.int iD), .val (.int m1), .val (.int m2), .val (.int m3), .val (.ref b1)] [(.int (1 : Int32))])) P
      refine Go.st (fun t_ k_ => XS.iconst X150.here hx rfl (hb hby at_178) k_) ?_
      show Go pg.tables ev below (T150.setTop (mkF mi 179 #[.val (.int p0), .val (.int p1), .val (.int p2), .val (.int p3), .val (.int p4), .val (.int p5), .val (.int N), .val (.int iA), .val (.int iB), .val (.int iA), .val (.int iD), .val (.int m1), .val (.int m2), .val (.int m3), .val (.ref b1)] [(.int (1 : Int32)), (.int (1 : Int32))])) P
      refine Go.st (fun t_ k_ => XS.icmpYes X150.here hx rfl (pc0 := 179) (pc' := 184) rfl (hb hby at_179) rfl (teq rfl).1 (by decide) (by decide) k_) ?_
      show Go pg.tables ev below (T150.setTop (mkF mi 184 #[.val (.int p0), .val (.int p1), .val (.int p2), .val (.int p3), .val (.int p4), .val (.int p5), .val (.int N), .val (.int iA), .val (.int iB), .val (.int iA), .val (.int iD), .val (.int m1), .val (.int m2), .val (.int m3), .val (.ref b1)] [])) P
      refine Go.st (fun t_ k_ => XS.aload X150.here hx rfl (hb hby at_184) rfl rfl k_) ?_
      show Go pg.tables ev below (T150.setTop (mkF mi 186 #[.val (.int p0), .val (.int p1), .val (.int p2), .val (.int p3), .val (.int p4), .val (.int p5), .val (.int N), .val (.int iA), .val (.int iB), .val (.int iA), .val (.int iD), .val (.int m1), .val (.int m2), .val (.int m3), .val (.ref b1)] [(.ref b1)])) P
      refine Go.st (fun t_ k_ => XS.iconst X150.here hx rfl (hb hby at_186) k_) ?_
      show Go pg.tables ev below (T150.setTop (mkF mi 187 #[.val (.int p0), .val (.int p1), .val (.int p2), .val (.int p3), .val (.int p4), .val (.int p5), .val (.int N), .val (.int iA), .val (.int iB), .val (.int iA), .val (.int iD), .val (.int m1), .val (.int m2), .val (.int m3), .val (.ref b1)] [(.int (0 : Int32)), (.ref b1)])) P
      obtain ⟨cq152, kq152, q152a, q152b, q152c⟩ := isOf hZ e150 f151
      obtain ⟨_, _, ⟨T152, L152, k152, n152⟩, -, X152, ⟨Lc152, hQ152, l152, y152, z152⟩, st152⟩ := X150.virtualBack hx (y := (⟨"com/example/hedge/hedge/automaton/PairMarks", "row", "(I)I"⟩ : MethodName)) (z := (⟨"com/example/hedge/hedge/automaton/PairMarks", "row", "(I)I"⟩ : MethodName)) hown (mvT hZ (hw _ (List.mem_of_getElem? (i := 63) rfl))) (mvT hZ (hw _ (List.mem_of_getElem? (i := 64) rfl))) (notFace_of_selects (args := #[]) (mvT hZ (hw _ (List.mem_of_getElem? (i := 66) rfl)))) (mvT hZ (hw _ (List.mem_of_getElem? (i := 66) rfl))) (mvT hZ (hw _ (List.mem_of_getElem? (i := 65) rfl))) (by decide) (backOf (W := 0) (rmRo l Z a0 hw [] b1 rw kR iA [(.int (0 : Int32)), (.int (0 : Int32)), (.int (0 : Int32)), (.int (0 : Int32)), (.int (0 : Int32)), (.int (0 : Int32)), (.int (0 : Int32)), (.int (0 : Int32)), (.int (0 : Int32)), (.int (0 : Int32)), (.int (0 : Int32)), (.int (0 : Int32)), (.int (0 : Int32)), (.int (0 : Int32)), (.int (0 : Int32))] h147 n0 Zs149 FB147_0 AS147) hZ (hw _ (List.mem_of_getElem? (i := 67) rfl)) (hw _ (List.mem_of_getElem? (i := 3) rfl)) (by decide) (by decide)) q152a q152c (g := (mkF mi 187 #[.val (.int p0), .val (.int p1), .val (.int p2), .val (.int p3), .val (.int p4), .val (.int p5), .val (.int N), .val (.int iA), .val (.int iB), .val (.int iA), .val (.int iD), .val (.int m1), .val (.int m2), .val (.int m3), .val (.ref b1)] [(.int (0 : Int32)), (.ref b1)])) rfl (by rw [hml]; rfl) (Steps.refl _) (argsL := [(.int (0 : Int32))]) (rest := []) (lenOf pd_2 rfl) rfl (by show 2 * 0 + _ ≤ _; exact Nat.le_of_eq rfl) (hb hby at_187) (fun _ _ => ⟨rfl, e150, (by decide : 7 + 0 ≤ _), (by decide : 806 + 0 ≤ _)⟩)
      dsimp only [Pt.U, Pt.locs, Pt.cells, Pt.slots] at X152 l152 y152 z152 st152 hQ152
      subst l152 y152 z152
      obtain ⟨rfl, N152q, e152⟩ := hQ152
      have N152 := Fr.app N150 N152q
      refine Go.tr st152 ?_
      show Go pg.tables ev below (T152.setTop (mkF mi 190 #[.val (.int p0), .val (.int p1), .val (.int p2), .val (.int p3), .val (.int p4), .val (.int p5), .val (.int N), .val (.int iA), .val (.int iB), .val (.int iA), .val (.int iD), .val (.int m1), .val (.int m2), .val (.int m3), .val (.ref b1)] [(.int iA)])) P
      refine Go.st (fun t_ k_ => XS.iload X152.here hx rfl (hb hby at_190) rfl k_) ?_
      show Go pg.tables ev below (T152.setTop (mkF mi 192 #[.val (.int p0), .val (.int p1), .val (.int p2), .val (.int p3), .val (.int p4), .val (.int p5), .val (.int N), .val (.int iA), .val (.int iB), .val (.int iA), .val (.int iD), .val (.int m1), .val (.int m2), .val (.int m3), .val (.ref b1)] [(.int iA), (.int iA)])) P
      refine Go.st (fun t_ k_ => XS.icmpYes X152.here hx rfl (pc0 := 192) (pc' := 197) rfl (hb hby at_192) rfl (teq rfl).1 (by decide) (by decide) k_) ?_
      show Go pg.tables ev below (T152.setTop (mkF mi 197 #[.val (.int p0), .val (.int p1), .val (.int p2), .val (.int p3), .val (.int p4), .val (.int p5), .val (.int N), .val (.int iA), .val (.int iB), .val (.int iA), .val (.int iD), .val (.int m1), .val (.int m2), .val (.int m3), .val (.ref b1)] [])) P
      refine Go.st (fun t_ k_ => XS.aload X152.here hx rfl (hb hby at_197) rfl rfl k_) ?_
      show Go pg.tables ev below (T152.setTop (mkF mi 199 #[.val (.int p0), .val (.int p1), .val (.int p2), .val (.int p3), .val (.int p4), .val (.int p5), .val (.int N), .val (.int iA), .val (.int iB), .val (.int iA), .val (.int iD), .val (.int m1), .val (.int m2), .val (.int m3), .val (.ref b1)] [(.ref b1)])) P
      refine Go.st (fun t_ k_ => XS.iload X152.here hx rfl (hb hby at_199) rfl k_) ?_
      show Go pg.tables ev below (T152.setTop (mkF mi 201 #[.val (.int p0), .val (.int p1), .val (.int p2), .val (.int p3), .val (.int p4), .val (.int p5), .val (.int N), .val (.int iA), .val (.int iB), .val (.int iA), .val (.int iD), .val (.int m1), .val (.int m2), .val (.int m3), .val (.ref b1)] [(.int iA), (.ref b1)])) P
      refine Go.st (fun t_ k_ => XS.iload X152.here hx rfl (hb hby at_201) rfl k_) ?_
      show Go pg.tables ev below (T152.setTop (mkF mi 203 #[.val (.int p0), .val (.int p1), .val (.int p2), .val (.int p3), .val (.int p4), .val (.int p5), .val (.int N), .val (.int iA), .val (.int iB), .val (.int iA), .val (.int iD), .val (.int m1), .val (.int m2), .val (.int m3), .val (.ref b1)] [(.int iD), (.int iA), (.ref b1)])) P
      have f154 := (CT130.keep K147 (ninS (Ne.symm ne_o_tb) (ninS (Ne.symm ne_rw_tb) (ninS ne_tb_bm nin0))))
      obtain ⟨cq153, kq153, q153a, q153b, q153c⟩ := isOf hZ e152 f151
      obtain ⟨_, _, ⟨T153, L153, k153, n153⟩, -, X153, ⟨Lc153, hQ153, l153, y153, z153⟩, st153⟩ := X152.virtualBack hx (y := (⟨"com/example/hedge/hedge/automaton/PairMarks", "get", "(II)I"⟩ : MethodName)) (z := (⟨"com/example/hedge/hedge/automaton/PairMarks", "get", "(II)I"⟩ : MethodName)) hown (mvT hZ (hw _ (List.mem_of_getElem? (i := 62) rfl))) (mvT hZ (hw _ (List.mem_of_getElem? (i := 45) rfl))) (notFace_of_selects (args := #[]) (mvT hZ (hw _ (List.mem_of_getElem? (i := 47) rfl)))) (mvT hZ (hw _ (List.mem_of_getElem? (i := 47) rfl))) (mvT hZ (hw _ (List.mem_of_getElem? (i := 46) rfl))) (by decide) (backOf (W := 0) (rmGB l Z a0 hw [] b1 iA iD tb bm kT kB N ((iA, .null) :: []) ((iA, (.ref x147)) :: ((iA, .null) :: ((iA, (.ref x123)) :: []))) x147 kx147 wd [(((iD.toUInt32 >>> ((5 : Int32) &&& 31).toUInt32).toInt32), (.long (fPu m3 iD)))] (fPu m3 iD) h147 n0 Zs149 FB147_1 FB147_3 f154 AB147 hA.1 hA.2 (own_hit hA.1) AX147 (own_bit hN1 hN2 hwd hD) (own_hit (own_bit hN1 hN2 hwd hD).1)) hZ (hw _ (List.mem_of_getElem? (i := 48) rfl)) (hw _ (List.mem_of_getElem? (i := 3) rfl)) (by decide) (by decide)) q153a q153c (g := (mkF mi 203 #[.val (.int p0), .val (.int p1), .val (.int p2), .val (.int p3), .val (.int p4), .val (.int p5), .val (.int N), .val (.int iA), .val (.int iB), .val (.int iA), .val (.int iD), .val (.int m1), .val (.int m2), .val (.int m3), .val (.ref b1)] [(.int iD), (.int iA), (.ref b1)])) rfl (by rw [hml]; rfl) (Steps.refl _) (argsL := [(.int iA), (.int iD)]) (rest := []) (lenOf pd_1 rfl) rfl (by show 2 * 0 + _ ≤ _; exact Nat.le_of_eq rfl) (hb hby at_203) (fun _ _ => ⟨rfl, e152, (by decide : 7 + 0 ≤ _), (by decide : 806 + 0 ≤ _)⟩)
      dsimp only [Pt.U, Pt.locs, Pt.cells, Pt.slots] at X153 l153 y153 z153 st153 hQ153
      subst l153 y153 z153
      obtain ⟨rfl, N153q, e153⟩ := hQ153
      have N153 := Fr.app N152 N153q
      refine Go.tr st153 ?_
      show Go pg.tables ev below (T153.setTop (mkF mi 206 #[.val (.int p0), .val (.int p1), .val (.int p2), .val (.int p3), .val (.int p4), .val (.int p5), .val (.int N), .val (.int iA), .val (.int iB), .val (.int iA), .val (.int iD), .val (.int m1), .val (.int m2), .val (.int m3), .val (.ref b1)] [(.int (fGt (fPu m3 iD) iD))])) P
      refine Go.st (fun t_ k_ => XS.iload X153.here hx rfl (hb hby at_206) rfl k_) ?_
      show Go pg.tables ev below (T153.setTop (mkF mi 208 #[.val (.int p0), .val (.int p1), .val (.int p2), .val (.int p3), .val (.int p4), .val (.int p5), .val (.int N), .val (.int iA), .val (.int iB), .val (.int iA), .val (.int iD), .val (.int m1), .val (.int m2), .val (.int m3), .val (.ref b1)] [(.int m3), (.int (fGt (fPu m3 iD) iD))])) P
      refine Go.st (fun t_ k_ => XS.icmpNo X153.here hx rfl (hb hby at_208) rfl (teq (own_final hm3.1 hm3.2)).2 k_) ?_
      show Go pg.tables ev below (T153.setTop (mkF mi 211 #[.val (.int p0), .val (.int p1), .val (.int p2), .val (.int p3), .val (.int p4), .val (.int p5), .val (.int N), .val (.int iA), .val (.int iB), .val (.int iA), .val (.int iD), .val (.int m1), .val (.int m2), .val (.int m3), .val (.ref b1)] [])) P
      refine Go.st (fun t_ k_ => XS.iconst X153.here hx rfl (hb hby at_211) k_) ?_
      show Go pg.tables ev below (T153.setTop (mkF mi 212 #[.val (.int p0), .val (.int p1), .val (.int p2), .val (.int p3), .val (.int p4), .val (.int p5), .val (.int N), .val (.int iA), .val (.int iB), .val (.int iA), .val (.int iD), .val (.int m1), .val (.int m2), .val (.int m3), .val (.ref b1)] [(.int (1 : Int32))])) P
      refine Go.st (fun t_ k_ => XS.goto X153.here hx rfl (pc0 := 212) (pc' := 216) rfl (hb hby at_212) (by decide) (by decide) k_) ?_
      show Go pg.tables ev below (T153.setTop (mkF mi 216 #[.val (.int p0), .val (.int p1), .val (.int p2), .val (.int p3), .val (.int p4), .val (.int p5), .val (.int N), .val (.int iA), .val (.int iB), .val (.int iA), .val (.int iD), .val (.int m1), .val (.int m2), .val (.int m3), .val (.ref b1)] [(.int (1 : Int32))])) P
      obtain ⟨fs, hr, hrun, hended, hW, hsame⟩ := X153.leave (v := some (.int (1 : Int32))) (fun h => by rw [Bd.returns] at h; cases h) (BodyLoose.notSynchronized Bd)
      refine ⟨_, _, ?_, hP _ _ ⟨hrun, hended, _, _, rfl, ?_, ⟨_, rfl⟩, hW, hsame.mono (by decide) (by decide)⟩⟩
      · exact retN X153 hx (t := .boolean) Bd.returns (by simp) (hb hby at_216) hr
      · show (some (.int (1 : Int32)) : Option Value) = some (.int 1) ∧ Fr n0 _
        exact ⟨rfl, N153⟩
    · show Go pg.tables ev below (T3.setTop (mkF mi 88 #[.val (.int p0), .val (.int p1), .val (.int p2), .val (.int p3), .val (.int p4), .val (.int p5), .val (.int N), .val (.int iA), .val (.int iB), .val (.int iC), .val (.int iD), .val (.int m1), .val (.int m2), .val (.int m3), .val (.ref b1)] [])) P
      refine Go.st (fun t_ k_ => XS.aload X3.here hx rfl (hb hby at_88) rfl rfl k_) ?_
      show Go pg.tables ev below (T3.setTop (mkF mi 90 #[.val (.int p0), .val (.int p1), .val (.int p2), .val (.int p3), .val (.int p4), .val (.int p5), .val (.int N), .val (.int iA), .val (.int iB), .val (.int iC), .val (.int iD), .val (.int m1), .val (.int m2), .val (.int m3), .val (.ref b1)] [(.ref b1)])) P
      refine Go.st (fun t_ k_ => XS.iload X3.here hx rfl (hb hby at_90) rfl k_) ?_
      show Go pg.tables ev below (T3.setTop (mkF mi 92 #[.val (.int p0), .val (.int p1), .val (.int p2), .val (.int p3), .val (.int p4), .val (.int p5), .val (.int N), .val (.int iA), .val (.int iB), .val (.int iC), .val (.int iD), .val (.int m1), .val (.int m2), .val (.int m3), .val (.ref b1)] [(.int iA), (.ref b1)])) P
      refine Go.st (fun t_ k_ => XS.iload X3.here hx rfl (hb hby at_92) rfl k_) ?_
      show Go pg.tables ev below (T3.setTop (mkF mi 94 #[.val (.int p0), .val (.int p1), .val (.int p2), .val (.int p3), .val (.int p4), .val (.int p5), .val (.int N), .val (.int iA), .val (.int iB), .val (.int iC), .val (.int iD), .val (.int m1), .val (.int m2), .val (.int m3), .val (.ref b1)] [(.int iB), (.int iA), (.ref b1)])) P
      refine Go.st (fun t_ k_ => XS.iload X3.here hx rfl (hb hby at_94) rfl k_) ?_
      show Go pg.tables ev below (T3.setTop (mkF mi 96 #[.val (.int p0), .val (.int p1), .val (.int p2), .val (.int p3), .val (.int p4), .val (.int p5), .val (.int N), .val (.int iA), .val (.int iB), .val (.int iC), .val (.int iD), .val (.int m1), .val (.int m2), .val (.int m3), .val (.ref b1)] [(.int m1), (.int iB), (.int iA), (.ref b1)])) P
      have f156 := (A1.keep K3)
      obtain ⟨cq155, kq155, q155a, q155b, q155c⟩ := isOf hZ e3 f156
      obtain ⟨_, _, ⟨T155, L155, k155, n155⟩, -, X155, ⟨Lc155, hQ155, l155, y155, z155⟩, st155⟩ := X3.virtualBack hx (y := (⟨"com/example/hedge/hedge/automaton/PairMarks", "add", "(III)I"⟩ : MethodName)) (z := (⟨"com/example/hedge/hedge/automaton/PairMarks", "add", "(III)I"⟩ : MethodName)) hown (mvT hZ (hw _ (List.mem_of_getElem? (i := 26) rfl))) (mvT hZ (hw _ (List.mem_of_getElem? (i := 27) rfl))) (notFace_of_selects (args := #[]) (mvT hZ (hw _ (List.mem_of_getElem? (i := 29) rfl)))) (mvT hZ (hw _ (List.mem_of_getElem? (i := 29) rfl))) (mvT hZ (hw _ (List.mem_of_getElem? (i := 28) rfl))) (by decide) (backOf (W := 0) (rmAN0B l Z a0 hw [] b1 iA iB m1 rw tb sz bm kR kT kS kB N  wd [] [] [] [(.int (0 : Int32)), (.int (0 : Int32)), (.int (0 : Int32)), (.int (0 : Int32)), (.int (0 : Int32)), (.int (0 : Int32)), (.int (0 : Int32)), (.int (0 : Int32)), (.int (0 : Int32)), (.int (0 : Int32)), (.int (0 : Int32)), (.int (0 : Int32)), (.int (0 : Int32)), (.int (0 : Int32)), (.int (0 : Int32)), (.int (0 : Int32))] h3 n0 Zs4 f156 g_b1 g_rw g_tb g_sz g_bm ne_o_rw ne_o_tb ne_o_sz ne_o_bm ne_rw_tb ne_rw_sz ne_rw_bm ne_tb_sz ne_tb_bm ne_sz_bm FI0 FI1 FI2 FI3 FI4 FI5 V_rw rfl V_tb V_sz V_bm O_tb O_bm hA.1 hA.2 hwo hN1 hN2 hwd hwd1 hwd2 hBq rfl rfl rfl) hZ (hw _ (List.mem_of_getElem? (i := 30) rfl)) (hw _ (List.mem_of_getElem? (i := 3) rfl)) (by decide) (by decide)) q155a q155c (g := (mkF mi 96 #[.val (.int p0), .val (.int p1), .val (.int p2), .val (.int p3), .val (.int p4), .val (.int p5), .val (.int N), .val (.int iA), .val (.int iB), .val (.int iC), .val (.int iD), .val (.int m1), .val (.int m2), .val (.int m3), .val (.ref b1)] [(.int m1), (.int iB), (.int iA), (.ref b1)])) rfl (by rw [hml]; rfl) (Steps.refl _) (argsL := [(.int iA), (.int iB), (.int m1)]) (rest := []) (lenOf pd_5 rfl) rfl (by show 2 * 0 + _ ≤ _; exact Nat.le_of_eq rfl) (hb hby at_96) (fun _ _ => ⟨rfl, e3, (by decide : 5 + 1 ≤ _), (by decide : 790 + 8 ≤ _)⟩)
      dsimp only [Pt.U, Pt.locs, Pt.cells, Pt.slots] at X155 l155 y155 z155 st155 hQ155
      subst l155 y155 z155
      obtain ⟨h155, e155⟩ : ∃ z, T155.heap = z := ⟨_, rfl⟩
      rw [e155] at hQ155
      obtain ⟨rfl, N155q, K155, x155, kx155, z_x155, g_x155, FB155_0, FB155_1, FB155_2, FB155_3, FB155_4, FB155_5, AR155, AB155, AX155⟩ := hQ155
      have N155 := Fr.app N3 N155q
      have Zs157 : n0 ≤ h155.size := Nat.le_trans Zs4 K155.1
      have AS155 : Arv Z h155 rw kR .int (16 : Int32) [(.int iA), (.int (0 : Int32)), (.int (0 : Int32)), (.int (0 : Int32)), (.int (0 : Int32)), (.int (0 : Int32)), (.int (0 : Int32)), (.int (0 : Int32)), (.int (0 : Int32)), (.int (0 : Int32)), (.int (0 : Int32)), (.int (0 : Int32)), (.int (0 : Int32)), (.int (0 : Int32)), (.int (0 : Int32)), (.int (0 : Int32))] (.int (0 : Int32)) := AR155
      have ne_b1_x155 : b1 ≠ x155 := Nat.ne_of_lt (Nat.lt_of_lt_of_le f156.lt z_x155)
      have ne_rw_x155 : rw ≠ x155 := Nat.ne_of_lt (Nat.lt_of_lt_of_le V_rw.lt z_x155)
      have ne_tb_x155 : tb ≠ x155 := Nat.ne_of_lt (Nat.lt_of_lt_of_le V_tb.lt z_x155)
      have ne_sz_x155 : sz ≠ x155 := Nat.ne_of_lt (Nat.lt_of_lt_of_le V_sz.lt z_x155)
      have ne_bm_x155 : bm ≠ x155 := Nat.ne_of_lt (Nat.lt_of_lt_of_le V_bm.lt z_x155)
      refine Go.tr st155 ?_
      show Go pg.tables ev below (T155.setTop (mkF mi 99 #[.val (.int p0), .val (.int p1), .val (.int p2), .val (.int p3), .val (.int p4), .val (.int p5), .val (.int N), .val (.int iA), .val (.int iB), .val (.int iC), .val (.int iD), .val (.int m1), .val (.int m2), .val (.int m3), .val (.ref b1)] [(.int m1)])) P
      refine Go.st (fun t_ k_ => XS.pop X155.here hx rfl (hb hby at_99) rfl rfl k_) ?_
      show Go pg.tables ev below (T155.setTop (mkF mi 100 #[.val (.int p0), .val (.int p1), .val (.int p2), .val (.int p3), .val (.int p4), .val (.int p5), .val (.int N), .val (.int iA), .val (.int iB), .val (.int iC), .val (.int iD), .val (.int m1), .val (.int m2), .val (.int m3), .val (.ref b1)] [])) P
      refine Go.st (fun t_ k_ => XS.aload X155.here hx rfl (hb hby at_100) rfl rfl k_) ?_
      show Go pg.tables ev below (T155.setTop (mkF mi 102 #[.val (.int p0), .val (.int p1), .val (.int p2), .val (.int p3), .val (.int p4), .val (.int p5), .val (.int N), .val (.int iA), .val (.int iB), .val (.int iC), .val (.int iD), .val (.int m1), .val (.int m2), .val (.int m3), .val (.ref b1)] [(.ref b1)])) P
      refine Go.st (fun t_ k_ => XS.iload X155.here hx rfl (hb hby at_102) rfl k_) ?_
      show Go pg.tables ev below (T155.setTop (mkF mi 104 #[.val (.int p0), .val (.int p1), .val (.int p2), .val (.int p3), .val (.int p4), .val (.int p5), .val (.int N), .val (.int iA), .val (.int iB), .val (.int iC), .val (.int iD), .val (.int m1), .val (.int m2), .val (.int m3), .val (.ref b1)] [(.int iC), (.ref b1)])) P
      refine Go.st (fun t_ k_ => XS.iload X155.here hx rfl (hb hby at_104) rfl k_) ?_
      show Go pg.tables ev below (T155.setTop (mkF mi 106 #[.val (.int p0), .val (.int p1), .val (.int p2), .val (.int p3), .val (.int p4), .val (.int p5), .val (.int N), .val (.int iA), .val (.int iB), .val (.int iC), .val (.int iD), .val (.int m1), .val (.int m2), .val (.int m3), .val (.ref b1)] [(.int iD), (.int iC), (.ref b1)])) P
      refine Go.st (fun t_ k_ => XS.iload X155.here hx rfl (hb hby at_106) rfl k_) ?_
      show Go pg.tables ev below (T155.setTop (mkF mi 108 #[.val (.int p0), .val (.int p1), .val (.int p2), .val (.int p3), .val (.int p4), .val (.int p5), .val (.int N), .val (.int iA), .val (.int iB), .val (.int iC), .val (.int iD), .val (.int m1), .val (.int m2), .val (.int m3), .val (.ref b1)] [(.int m2), (.int iD), (.int iC), (.ref b1)])) P
      have f159 := (f156.keep K155)
      have f160 := (V_tb.keep K155 (ninS (Ne.symm ne_o_tb) (ninS (Ne.symm ne_rw_tb) (ninS ne_tb_bm nin0))))
      have f161 := (V_sz.keep K155 (ninS (Ne.symm ne_o_sz) (ninS (Ne.symm ne_rw_sz) (ninS ne_sz_bm nin0))))
      obtain ⟨cq158, kq158, q158a, q158b, q158c⟩ := isOf hZ e155 f159
      obtain ⟨_, _, ⟨T158, L158, k158, n158⟩, -, X158, ⟨Lc158, hQ158, l158, y158, z158⟩, st158⟩ := X155.virtualBack hx (y := (⟨"com/example/hedge/hedge/automaton/PairMarks", "add", "(III)I"⟩ : MethodName)) (z := (⟨"com/example/hedge/hedge/automaton/PairMarks", "add", "(III)I"⟩ : MethodName)) hown (mvT hZ (hw _ (List.mem_of_getElem? (i := 26) rfl))) (mvT hZ (hw _ (List.mem_of_getElem? (i := 27) rfl))) (notFace_of_selects (args := #[]) (mvT hZ (hw _ (List.mem_of_getElem? (i := 29) rfl)))) (mvT hZ (hw _ (List.mem_of_getElem? (i := 29) rfl))) (mvT hZ (hw _ (List.mem_of_getElem? (i := 28) rfl))) (by decide) (backOf (W := 0) (rmAN1B l Z a0 hw [] b1 iC iD m2 rw tb sz bm kR kT kS kB N  wd [] [] ((iA, (.ref x155)) :: []) [(.int iA), (.int (0 : Int32)), (.int (0 : Int32)), (.int (0 : Int32)), (.int (0 : Int32)), (.int (0 : Int32)), (.int (0 : Int32)), (.int (0 : Int32)), (.int (0 : Int32)), (.int (0 : Int32)), (.int (0 : Int32)), (.int (0 : Int32)), (.int (0 : Int32)), (.int (0 : Int32)), (.int (0 : Int32)), (.int (0 : Int32))] h155 n0 Zs157 f159 g_b1 g_rw g_tb g_sz g_bm ne_o_rw ne_o_tb ne_o_sz ne_o_bm ne_rw_tb ne_rw_sz ne_rw_bm ne_tb_sz ne_tb_bm ne_sz_bm FB155_0 FB155_1 FB155_2 FB155_3 FB155_4 FB155_5 AS155 rfl f160 f161 AB155 O_tb O_bm hCq.1 hCq.2 hwo hN1 hN2 hwd hwd1 hwd2 hD (getH_miss hCq.1 (fun q => hac q.symm) rfl) rfl rfl) hZ (hw _ (List.mem_of_getElem? (i := 30) rfl)) (hw _ (List.mem_of_getElem? (i := 3) rfl)) (by decide) (by decide)) q158a q158c (g := (mkF mi 108 #[.val (.int p0), .val (.int p1), .val (.int p2), .val (.int p3), .val (.int p4), .val (.int p5), .val (.int N), .val (.int iA), .val (.int iB), .val (.int iC), .val (.int iD), .val (.int m1), .val (.int m2), .val (.int m3), .val (.ref b1)] [(.int m2), (.int iD), (.int iC), (.ref b1)])) rfl (by rw [hml]; rfl) (Steps.refl _) (argsL := [(.int iC), (.int iD), (.int m2)]) (rest := []) (lenOf pd_5 rfl) rfl (by show 2 * 0 + _ ≤ _; exact Nat.le_of_eq rfl) (hb hby at_108) (fun _ _ => ⟨rfl, e155, (by decide : 6 + 1 ≤ _), (by decide : 798 + 8 ≤ _)⟩)
      dsimp only [Pt.U, Pt.locs, Pt.cells, Pt.slots] at X158 l158 y158 z158 st158 hQ158
      subst l158 y158 z158
      obtain ⟨h158, e158⟩ : ∃ z, T158.heap = z := ⟨_, rfl⟩
      rw [e158] at hQ158
      obtain ⟨rfl, N158q, K158, x158, kx158, z_x158, g_x158, FB158_0, FB158_1, FB158_2, FB158_3, FB158_4, FB158_5, AR158, AB158, AX158⟩ := hQ158
      have N158 := Fr.app N155 N158q
      have Zs162 : n0 ≤ h158.size := Nat.le_trans Zs157 K158.1
      have AS158 : Arv Z h158 rw kR .int (16 : Int32) [(.int iA), (.int iC), (.int (0 : Int32)), (.int (0 : Int32)), (.int (0 : Int32)), (.int (0 : Int32)), (.int (0 : Int32)), (.int (0 : Int32)), (.int (0 : Int32)), (.int (0 : Int32)), (.int (0 : Int32)), (.int (0 : Int32)), (.int (0 : Int32)), (.int (0 : Int32)), (.int (0 : Int32)), (.int (0 : Int32))] (.int (0 : Int32)) := AR158
      have ne_b1_x158 : b1 ≠ x158 := Nat.ne_of_lt (Nat.lt_of_lt_of_le f159.lt z_x158)
      have ne_rw_x158 : rw ≠ x158 := Nat.ne_of_lt (Nat.lt_of_lt_of_le AS155.lt z_x158)
      have ne_tb_x158 : tb ≠ x158 := Nat.ne_of_lt (Nat.lt_of_lt_of_le f160.lt z_x158)
      have ne_sz_x158 : sz ≠ x158 := Nat.ne_of_lt (Nat.lt_of_lt_of_le f161.lt z_x158)
      have ne_bm_x158 : bm ≠ x158 := Nat.ne_of_lt (Nat.lt_of_lt_of_le AB155.lt z_x158)
      have ne_x155_x158 : x155 ≠ x158 := Nat.ne_of_lt (Nat.lt_of_lt_of_le AX155.lt z_x158)
      refine Go.tr st158 ?_
      show Go pg.tables ev below (T158.setTop (mkF mi 111 #[.val (.int p0), .val (.int p1), .val (.int p2), .val (.int p3), .val (.int p4), .val (.int p5), .val (.int N), .val (.int iA), .val (.int iB), .val (.int iC), .val (.int iD), .val (.int m1), .val (.int m2), .val (.int m3), .val (.ref b1)] [(.int m2)])) P
      refine Go.st (fun t_ k_ => XS.pop X158.here hx rfl (hb hby at_111) rfl rfl k_) ?_
      show Go pg.tables ev below (T158.setTop (mkF mi 112 #[.val (.int p0), .val (.int p1), .val (.int p2), .val (.int p3), .val (.int p4), .val (.int p5), .val (.int N), .val (.int iA), .val (.int iB), .val (.int iC), .val (.int iD), .val (.int m1), .val (.int m2), .val (.int m3), .val (.ref b1)] [])) P
      refine Go.st (fun t_ k_ => XS.aload X158.here hx rfl (hb hby at_112) rfl rfl k_) ?_
      show Go pg.tables ev below (T158.setTop (mkF mi 114 #[.val (.int p0), .val (.int p1), .val (.int p2), .val (.int p3), .val (.int p4), .val (.int p5), .val (.int N), .val (.int iA), .val (.int iB), .val (.int iC), .val (.int iD), .val (.int m1), .val (.int m2), .val (.int m3), .val (.ref b1)] [(.ref b1)])) P
      have f164 := (f159.keep K158)
      have f165 := (f160.keep K158 (ninS (Ne.symm ne_o_tb) (ninS (Ne.symm ne_rw_tb) (ninS ne_tb_bm nin0))))
      have f166 := (f161.keep K158 (ninS (Ne.symm ne_o_sz) (ninS (Ne.symm ne_rw_sz) (ninS ne_sz_bm nin0))))
      obtain ⟨cq163, kq163, q163a, q163b, q163c⟩ := isOf hZ e158 f164
      obtain ⟨_, _, ⟨T163, L163, k163, n163⟩, -, X163, ⟨Lc163, hQ163, l163, y163, z163⟩, st163⟩ := X158.virtualBack hx (y := (⟨"com/example/hedge/hedge/automaton/PairMarks", "clear", "()V"⟩ : MethodName)) (z := (⟨"com/example/hedge/hedge/automaton/PairMarks", "clear", "()V"⟩ : MethodName)) hown (mvT hZ (hw _ (List.mem_of_getElem? (i := 52) rfl))) (mvT hZ (hw _ (List.mem_of_getElem? (i := 53) rfl))) (notFace_of_selects (args := #[]) (mvT hZ (hw _ (List.mem_of_getElem? (i := 55) rfl)))) (mvT hZ (hw _ (List.mem_of_getElem? (i := 55) rfl))) (mvT hZ (hw _ (List.mem_of_getElem? (i := 54) rfl))) (by decide) (backOf (W := 0) (rmC2 l Z a0 hw [] b1 rw tb sz bm kR kT kS kB N  wd [] [] ((iC, (.ref x158)) :: ((iA, (.ref x155)) :: [])) [(.int (0 : Int32)), (.int (0 : Int32)), (.int (0 : Int32)), (.int (0 : Int32)), (.int (0 : Int32)), (.int (0 : Int32)), (.int (0 : Int32)), (.int (0 : Int32)), (.int (0 : Int32)), (.int (0 : Int32)), (.int (0 : Int32)), (.int (0 : Int32)), (.int (0 : Int32)), (.int (0 : Int32))] iA iC h158 n0 Zs162 f164 g_b1 g_rw g_tb g_sz g_bm ne_o_rw ne_o_tb ne_o_sz ne_o_bm ne_rw_tb ne_rw_sz ne_rw_bm ne_tb_sz ne_tb_bm ne_sz_bm FB158_0 FB158_1 FB158_2 FB158_3 FB158_4 FB158_5 AS158 f165 f166 AB158 O_tb O_bm hA.1 hA.2 hCq.1 hCq.2) hZ (hw _ (List.mem_of_getElem? (i := 56) rfl)) (hw _ (List.mem_of_getElem? (i := 3) rfl)) (by decide) (by decide)) q163a q163c (g := (mkF mi 114 #[.val (.int p0), .val (.int p1), .val (.int p2), .val (.int p3), .val (.int p4), .val (.int p5), .val (.int N), .val (.int iA), .val (.int iB), .val (.int iC), .val (.int iD), .val (.int m1), .val (.int m2), .val (.int m3), .val (.ref b1)] [(.ref b1)])) rfl (by rw [hml]; rfl) (Steps.refl _) (argsL := []) (rest := []) (lenOf pd_6 rfl) rfl (by show 2 * 0 + _ ≤ _; exact Nat.le_of_eq rfl) (hb hby at_114) (fun _ _ => ⟨rfl, e158, (by decide : 7 + 0 ≤ _), (by decide : 806 + 0 ≤ _)⟩)
      dsimp only [Pt.U, Pt.locs, Pt.cells, Pt.slots] at X163 l163 y163 z163 st163 hQ163
      subst l163 y163 z163
      obtain ⟨h163, e163⟩ : ∃ z, T163.heap = z := ⟨_, rfl⟩
      rw [e163] at hQ163
      obtain ⟨rfl, N163q, K163, FB163_0, FB163_1, FB163_2, FB163_3, FB163_4, FB163_5, CT163, CB163, CS163⟩ := hQ163
      have N163 := Fr.app N158 N163q
      have Zs167 : n0 ≤ h163.size := Nat.le_trans Zs162 K163.1
      refine Go.tr st163 ?_
      show Go pg.tables ev below (T163.setTop (mkF mi 117 #[.val (.int p0), .val (.int p1), .val (.int p2), .val (.int p3), .val (.int p4), .val (.int p5), .val (.int N), .val (.int iA), .val (.int iB), .val (.int iC), .val (.int iD), .val (.int m1), .val (.int m2), .val (.int m3), .val (.ref b1)] [])) P
      refine Go.st (fun t_ k_ => XS.aload X163.here hx rfl (hb hby at_117) rfl rfl k_) ?_
      show Go pg.tables ev below (T163.setTop (mkF mi 119 #[.val (.int p0), .val (.int p1), .val (.int p2), .val (.int p3), .val (.int p4), .val (.int p5), .val (.int N), .val (.int iA), .val (.int iB), .val (.int iC), .val (.int iD), .val (.int m1), .val (.int m2), .val (.int m3), .val (.ref b1)] [(.ref b1)])) P
      have f169 := (f164.keep K163)
      obtain ⟨cq168, kq168, q168a, q168b, q168c⟩ := isOf hZ e163 f169
      obtain ⟨_, _, ⟨T168, L168, k168, n168⟩, -, X168, ⟨Lc168, hQ168, l168, y168, z168⟩, st168⟩ := X163.virtualBack hx (y := (⟨"com/example/hedge/hedge/automaton/PairMarks", "rowCount", "()I"⟩ : MethodName)) (z := (⟨"com/example/hedge/hedge/automaton/PairMarks", "rowCount", "()I"⟩ : MethodName)) hown (mvT hZ (hw _ (List.mem_of_getElem? (i := 57) rfl))) (mvT hZ (hw _ (List.mem_of_getElem? (i := 58) rfl))) (notFace_of_selects (args := #[]) (mvT hZ (hw _ (List.mem_of_getElem? (i := 60) rfl)))) (mvT hZ (hw _ (List.mem_of_getElem? (i := 60) rfl))) (mvT hZ (hw _ (List.mem_of_getElem? (i := 59) rfl))) (by decide) (backOf (W := 0) (rmRC l Z a0 hw [] b1 (0 : Int32) h163 n0 Zs167 FB163_5) hZ (hw _ (List.mem_of_getElem? (i := 61) rfl)) (hw _ (List.mem_of_getElem? (i := 3) rfl)) (by decide) (by decide)) q168a q168c (g := (mkF mi 119 #[.val (.int p0), .val (.int p1), .val (.int p2), .val (.int p3), .val (.int p4), .val (.int p5), .val (.int N), .val (.int iA), .val (.int iB), .val (.int iC), .val (.int iD), .val (.int m1), .val (.int m2), .val (.int m3), .val (.ref b1)] [(.ref b1)])) rfl (by rw [hml]; rfl) (Steps.refl _) (argsL := []) (rest := []) (lenOf pd_7 rfl) rfl (by show 2 * 0 + _ ≤ _; exact Nat.le_of_eq rfl) (hb hby at_119) (fun _ _ => ⟨rfl, e163, (by decide : 7 + 0 ≤ _), (by decide : 806 + 0 ≤ _)⟩)
      dsimp only [Pt.U, Pt.locs, Pt.cells, Pt.slots] at X168 l168 y168 z168 st168 hQ168
      subst l168 y168 z168
      obtain ⟨rfl, N168q, e168⟩ := hQ168
      have N168 := Fr.app N163 N168q
      refine Go.tr st168 ?_
      show Go pg.tables ev below (T168.setTop (mkF mi 122 #[.val (.int p0), .val (.int p1), .val (.int p2), .val (.int p3), .val (.int p4), .val (.int p5), .val (.int N), .val (.int iA), .val (.int iB), .val (.int iC), .val (.int iD), .val (.int m1), .val (.int m2), .val (.int m3), .val (.ref b1)] [(.int (0 : Int32))])) P
      refine Go.st (fun t_ k_ => XS.ifYes X168.here hx rfl (pc0 := 122) (pc' := 127) rfl (hb hby at_122) rfl ((if0 _ _).trans (teq rfl).1) (by decide) (by decide) k_) ?_
      show Go pg.tables ev below (T168.setTop (mkF mi 127 #[.val (.int p0), .val (.int p1), .val (.int p2), .val (.int p3), .val (.int p4), .val (.int p5), .val (.int N), .val (.int iA), .val (.int iB), .val (.int iC), .val (.int iD), .val (.int m1), .val (.int m2), .val (.int m3), .val (.ref b1)] [])) P
      refine Go.st (fun t_ k_ => XS.aload X168.here hx rfl (hb hby at_127) rfl rfl k_) ?_
      show Go pg.tables ev below (T168.setTop (mkF mi 129 #[.val (.int p0), .val (.int p1), .val (.int p2), .val (.int p3), .val (.int p4), .val (.int p5), .val (.int N), .val (.int iA), .val (.int iB), .val (.int iC), .val (.int iD), .val (.int m1), .val (.int m2), .val (.int m3), .val (.ref b1)] [(.ref b1)])) P
      refine Go.st (fun t_ k_ => XS.iload X168.here hx rfl (hb hby at_129) rfl k_) ?_
      show Go pg.tables ev below (T168.setTop (mkF mi 131 #[.val (.int p0), .val (.int p1), .val (.int p2), .val (.int p3), .val (.int p4), .val (.int p5), .val (.int N), .val (.int iA), .val (.int iB), .val (.int iC), .val (.int iD), .val (.int m1), .val (.int m2), .val (.int m3), .val (.ref b1)] [(.int iA), (.ref b1)])) P
      refine Go.st (fun t_ k_ => XS.iload X168.here hx rfl (hb hby at_131) rfl k_) ?_
      show Go pg.tables ev below (T168.setTop (mkF mi 133 #[.val (.int p0), .val (.int p1), .val (.int p2), .val (.int p3), .val (.int p4), .val (.int p5), .val (.int N), .val (.int iA), .val (.int iB), .val (.int iC), .val (.int iD), .val (.int m1), .val (.int m2), .val (.int m3), .val (.ref b1)] [(.int iB), (.int iA), (.ref b1)])) P
      obtain ⟨cq170, kq170, q170a, q170b, q170c⟩ := isOf hZ e168 f169
      obtain ⟨_, _, ⟨T170, L170, k170, n170⟩, -, X170, ⟨Lc170, hQ170, l170, y170, z170⟩, st170⟩ := X168.virtualBack hx (y := (⟨"com/example/hedge/hedge/automaton/PairMarks", "get", "(II)I"⟩ : MethodName)) (z := (⟨"com/example/hedge/hedge/automaton/PairMarks", "get", "(II)I"⟩ : MethodName)) hown (mvT hZ (hw _ (List.mem_of_getElem? (i := 62) rfl))) (mvT hZ (hw _ (List.mem_of_getElem? (i := 45) rfl))) (notFace_of_selects (args := #[]) (mvT hZ (hw _ (List.mem_of_getElem? (i := 47) rfl)))) (mvT hZ (hw _ (List.mem_of_getElem? (i := 47) rfl))) (mvT hZ (hw _ (List.mem_of_getElem? (i := 46) rfl))) (by decide) (backOf (W := 0) (rmG0 l Z a0 hw [] b1 iA iB tb bm kT kB N ((iC, .null) :: ((iA, .null) :: [])) ((iC, .null) :: ((iA, .null) :: ((iC, (.ref x158)) :: ((iA, (.ref x155)) :: [])))) h163 n0 Zs167 FB163_1 FB163_3 CT163 CB163 hA.1 hA.2 (getH_miss hA.1 hac (own_hit hA.1)) (getH_miss hA.1 hac (own_hit hA.1))) hZ (hw _ (List.mem_of_getElem? (i := 48) rfl)) (hw _ (List.mem_of_getElem? (i := 3) rfl)) (by decide) (by decide)) q170a q170c (g := (mkF mi 133 #[.val (.int p0), .val (.int p1), .val (.int p2), .val (.int p3), .val (.int p4), .val (.int p5), .val (.int N), .val (.int iA), .val (.int iB), .val (.int iC), .val (.int iD), .val (.int m1), .val (.int m2), .val (.int m3), .val (.ref b1)] [(.int iB), (.int iA), (.ref b1)])) rfl (by rw [hml]; rfl) (Steps.refl _) (argsL := [(.int iA), (.int iB)]) (rest := []) (lenOf pd_1 rfl) rfl (by show 2 * 0 + _ ≤ _; exact Nat.le_of_eq rfl) (hb hby at_133) (fun _ _ => ⟨rfl, e168, (by decide : 7 + 0 ≤ _), (by decide : 806 + 0 ≤ _)⟩)
      dsimp only [Pt.U, Pt.locs, Pt.cells, Pt.slots] at X170 l170 y170 z170 st170 hQ170
      subst l170 y170 z170
      obtain ⟨rfl, N170q, e170⟩ := hQ170
      have N170 := Fr.app N168 N170q
      refine Go.tr st170 ?_
      show Go pg.tables ev below (T170.setTop (mkF mi 136 #[.val (.int p0), .val (.int p1), .val (.int p2), .val (.int p3), .val (.int p4), .val (.int p5), .val (.int N), .val (.int iA), .val (.int iB), .val (.int iC), .val (.int iD), .val (.int m1), .val (.int m2), .val (.int m3), .val (.ref b1)] [(.int (0 : Int32))])) P
      refine Go.st (fun t_ k_ => XS.ifYes X170.here hx rfl (pc0 := 136) (pc' := 141) rfl (hb hby at_136) rfl ((if0 _ _).trans (teq rfl).1) (by decide) (by decide) k_) ?_
      show Go pg.tables ev below (T170.setTop (mkF mi 141 #[.val (.int p0), .val (.int p1), .val (.int p2), .val (.int p3), .val (.int p4), .val (.int p5), .val (.int N), .val (.int iA), .val (.int iB), .val (.int iC), .val (.int iD), .val (.int m1), .val (.int m2), .val (.int m3), .val (.ref b1)] [])) P
      refine Go.st (fun t_ k_ => XS.aload X170.here hx rfl (hb hby at_141) rfl rfl k_) ?_
      show Go pg.tables ev below (T170.setTop (mkF mi 143 #[.val (.int p0), .val (.int p1), .val (.int p2), .val (.int p3), .val (.int p4), .val (.int p5), .val (.int N), .val (.int iA), .val (.int iB), .val (.int iC), .val (.int iD), .val (.int m1), .val (.int m2), .val (.int m3), .val (.ref b1)] [(.ref b1)])) P
      refine Go.st (fun t_ k_ => XS.iload X170.here hx rfl (hb hby at_143) rfl k_) ?_
      show Go pg.tables ev below (T170.setTop (mkF mi 145 #[.val (.int p0), .val (.int p1), .val (.int p2), .val (.int p3), .val (.int p4), .val (.int p5), .val (.int N), .val (.int iA), .val (.int iB), .val (.int iC), .val (.int iD), .val (.int m1), .val (.int m2), .val (.int m3), .val (.ref b1)] [(.int iC), (.ref b1)])) P
      refine Go.st (fun t_ k_ => XS.iload X170.here hx rfl (hb hby at_145) rfl k_) ?_
      show Go pg.tables ev below (T170.setTop (mkF mi 147 #[.val (.int p0), .val (.int p1), .val (.int p2), .val (.int p3), .val (.int p4), .val (.int p5), .val (.int N), .val (.int iA), .val (.int iB), .val (.int iC), .val (.int iD), .val (.int m1), .val (.int m2), .val (.int m3), .val (.ref b1)] [(.int iD), (.int iC), (.ref b1)])) P
      obtain ⟨cq171, kq171, q171a, q171b, q171c⟩ := isOf hZ e170 f169
      obtain ⟨_, _, ⟨T171, L171, k171, n171⟩, -, X171, ⟨Lc171, hQ171, l171, y171, z171⟩, st171⟩ := X170.virtualBack hx (y := (⟨"com/example/hedge/hedge/automaton/PairMarks", "get", "(II)I"⟩ : MethodName)) (z := (⟨"com/example/hedge/hedge/automaton/PairMarks", "get", "(II)I"⟩ : MethodName)) hown (mvT hZ (hw _ (List.mem_of_getElem? (i := 62) rfl))) (mvT hZ (hw _ (List.mem_of_getElem? (i := 45) rfl))) (notFace_of_selects (args := #[]) (mvT hZ (hw _ (List.mem_of_getElem? (i := 47) rfl)))) (mvT hZ (hw _ (List.mem_of_getElem? (i := 47) rfl))) (mvT hZ (hw _ (List.mem_of_getElem? (i := 46) rfl))) (by decide) (backOf (W := 0) (rmG0 l Z a0 hw [] b1 iC iD tb bm kT kB N ((iC, .null) :: ((iA, .null) :: [])) ((iC, .null) :: ((iA, .null) :: ((iC, (.ref x158)) :: ((iA, (.ref x155)) :: [])))) h163 n0 Zs167 FB163_1 FB163_3 CT163 CB163 hCq.1 hCq.2 (own_hit hCq.1) (own_hit hCq.1)) hZ (hw _ (List.mem_of_getElem? (i := 48) rfl)) (hw _ (List.mem_of_getElem? (i := 3) rfl)) (by decide) (by decide)) q171a q171c (g := (mkF mi 147 #[.val (.int p0), .val (.int p1), .val (.int p2), .val (.int p3), .val (.int p4), .val (.int p5), .val (.int N), .val (.int iA), .val (.int iB), .val (.int iC), .val (.int iD), .val (.int m1), .val (.int m2), .val (.int m3), .val (.ref b1)] [(.int iD), (.int iC), (.ref b1)])) rfl (by rw [hml]; rfl) (Steps.refl _) (argsL := [(.int iC), (.int iD)]) (rest := []) (lenOf pd_1 rfl) rfl (by show 2 * 0 + _ ≤ _; exact Nat.le_of_eq rfl) (hb hby at_147) (fun _ _ => ⟨rfl, e170, (by decide : 7 + 0 ≤ _), (by decide : 806 + 0 ≤ _)⟩)
      dsimp only [Pt.U, Pt.locs, Pt.cells, Pt.slots] at X171 l171 y171 z171 st171 hQ171
      subst l171 y171 z171
      obtain ⟨rfl, N171q, e171⟩ := hQ171
      have N171 := Fr.app N170 N171q
      refine Go.tr st171 ?_
      show Go pg.tables ev below (T171.setTop (mkF mi 150 #[.val (.int p0), .val (.int p1), .val (.int p2), .val (.int p3), .val (.int p4), .val (.int p5), .val (.int N), .val (.int iA), .val (.int iB), .val (.int iC), .val (.int iD), .val (.int m1), .val (.int m2), .val (.int m3), .val (.ref b1)] [(.int (0 : Int32))])) P
      refine Go.st (fun t_ k_ => XS.ifYes X171.here hx rfl (pc0 := 150) (pc' := 155) rfl (hb hby at_150) rfl ((if0 _ _).trans (teq rfl).1) (by decide) (by decide) k_) ?_
      show Go pg.tables ev below (T171.setTop (mkF mi 155 #[.val (.int p0), .val (.int p1), .val (.int p2), .val (.int p3), .val (.int p4), .val (.int p5), .val (.int N), .val (.int iA), .val (.int iB), .val (.int iC), .val (.int iD), .val (.int m1), .val (.int m2), .val (.int m3), .val (.ref b1)] [])) P
      refine Go.st (fun t_ k_ => XS.aload X171.here hx rfl (hb hby at_155) rfl rfl k_) ?_
      show Go pg.tables ev below (T171.setTop (mkF mi 157 #[.val (.int p0), .val (.int p1), .val (.int p2), .val (.int p3), .val (.int p4), .val (.int p5), .val (.int N), .val (.int iA), .val (.int iB), .val (.int iC), .val (.int iD), .val (.int m1), .val (.int m2), .val (.int m3), .val (.ref b1)] [(.ref b1)])) P
      refine Go.st (fun t_ k_ => XS.iload X171.here hx rfl (hb hby at_157) rfl k_) ?_
      show Go pg.tables ev below (T171.setTop (mkF mi 159 #[.val (.int p0), .val (.int p1), .val (.int p2), .val (.int p3), .val (.int p4), .val (.int p5), .val (.int N), .val (.int iA), .val (.int iB), .val (.int iC), .val (.int iD), .val (.int m1), .val (.int m2), .val (.int m3), .val (.ref b1)] [(.int iC), (.ref b1)])) P
      refine Go.st (fun t_ k_ => XS.iload X171.here hx rfl (hb hby at_159) rfl k_) ?_
      show Go pg.tables ev below (T171.setTop (mkF mi 161 #[.val (.int p0), .val (.int p1), .val (.int p2), .val (.int p3), .val (.int p4), .val (.int p5), .val (.int N), .val (.int iA), .val (.int iB), .val (.int iC), .val (.int iD), .val (.int m1), .val (.int m2), .val (.int m3), .val (.ref b1)] [(.int iD), (.int iC), (.ref b1)])) P
      refine Go.st (fun t_ k_ => XS.iload X171.here hx rfl (hb hby at_161) rfl k_) ?_
      show Go pg.tables ev below (T171.setTop (mkF mi 163 #[.val (.int p0), .val (.int p1), .val (.int p2), .val (.int p3), .val (.int p4), .val (.int p5), .val (.int N), .val (.int iA), .val (.int iB), .val (.int iC), .val (.int iD), .val (.int m1), .val (.int m2), .val (.int m3), .val (.ref b1)] [(.int m3), (.int iD), (.int iC), (.ref b1)])) P
      have f173 := (AS158.keep K163 (ninS (Ne.symm ne_o_rw) (ninS ne_rw_tb (ninS ne_rw_bm (ninS ne_rw_sz nin0)))))
      obtain ⟨cq172, kq172, q172a, q172b, q172c⟩ := isOf hZ e171 f169
      obtain ⟨_, _, ⟨T172, L172, k172, n172⟩, -, X172, ⟨Lc172, hQ172, l172, y172, z172⟩, st172⟩ := X171.virtualBack hx (y := (⟨"com/example/hedge/hedge/automaton/PairMarks", "add", "(III)I"⟩ : MethodName)) (z := (⟨"com/example/hedge/hedge/automaton/PairMarks", "add", "(III)I"⟩ : MethodName)) hown (mvT hZ (hw _ (List.mem_of_getElem? (i := 26) rfl))) (mvT hZ (hw _ (List.mem_of_getElem? (i := 27) rfl))) (notFace_of_selects (args := #[]) (mvT hZ (hw _ (List.mem_of_getElem? (i := 29) rfl)))) (mvT hZ (hw _ (List.mem_of_getElem? (i := 29) rfl))) (mvT hZ (hw _ (List.mem_of_getElem? (i := 28) rfl))) (by decide) (backOf (W := 0) (rmAN0B l Z a0 hw [] b1 iC iD m3 rw tb sz bm kR kT kS kB N  wd ((iC, .null) :: ((iA, .null) :: [])) ((iC, (.int (0 : Int32))) :: ((iA, (.int (0 : Int32))) :: [])) ((iC, .null) :: ((iA, .null) :: ((iC, (.ref x158)) :: ((iA, (.ref x155)) :: [])))) [(.int iA), (.int iC), (.int (0 : Int32)), (.int (0 : Int32)), (.int (0 : Int32)), (.int (0 : Int32)), (.int (0 : Int32)), (.int (0 : Int32)), (.int (0 : Int32)), (.int (0 : Int32)), (.int (0 : Int32)), (.int (0 : Int32)), (.int (0 : Int32)), (.int (0 : Int32)), (.int (0 : Int32)), (.int (0 : Int32))] h163 n0 Zs167 f169 g_b1 g_rw g_tb g_sz g_bm ne_o_rw ne_o_tb ne_o_sz ne_o_bm ne_rw_tb ne_rw_sz ne_rw_bm ne_tb_sz ne_tb_bm ne_sz_bm FB163_0 FB163_1 FB163_2 FB163_3 FB163_4 FB163_5 f173 rfl CT163 CS163 CB163 O_tb O_bm hCq.1 hCq.2 hwo hN1 hN2 hwd hwd1 hwd2 hD (own_hit hCq.1) (own_hit hCq.1) (own_hit hCq.1)) hZ (hw _ (List.mem_of_getElem? (i := 30) rfl)) (hw _ (List.mem_of_getElem? (i := 3) rfl)) (by decide) (by decide)) q172a q172c (g := (mkF mi 163 #[.val (.int p0), .val (.int p1), .val (.int p2), .val (.int p3), .val (.int p4), .val (.int p5), .val (.int N), .val (.int iA), .val (.int iB), .val (.int iC), .val (.int iD), .val (.int m1), .val (.int m2), .val (.int m3), .val (.ref b1)] [(.int m3), (.int iD), (.int iC), (.ref b1)])) rfl (by rw [hml]; rfl) (Steps.refl _) (argsL := [(.int iC), (.int iD), (.int m3)]) (rest := []) (lenOf pd_5 rfl) rfl (by show 2 * 0 + _ ≤ _; exact Nat.le_of_eq rfl) (hb hby at_163) (fun _ _ => ⟨rfl, e171, (by decide : 7 + 1 ≤ _), (by decide : 806 + 8 ≤ _)⟩)
      dsimp only [Pt.U, Pt.locs, Pt.cells, Pt.slots] at X172 l172 y172 z172 st172 hQ172
      subst l172 y172 z172
      have f174 := ((AX155.keep K158 (ninS (Ne.symm ne_b1_x155) (ninS (Ne.symm ne_rw_x155) (ninS (Ne.symm ne_bm_x155) nin0)))).keep K163 (ninS (Ne.symm ne_b1_x155) (ninS (Ne.symm ne_tb_x155) (ninS (Ne.symm ne_bm_x155) (ninS (Ne.symm ne_sz_x155) nin0)))))
      have f175 := (AX158.keep K163 (ninS (Ne.symm ne_b1_x158) (ninS (Ne.symm ne_tb_x158) (ninS (Ne.symm ne_bm_x158) (ninS (Ne.symm ne_sz_x158) nin0)))))
      obtain ⟨h172, e172⟩ : ∃ z, T172.heap = z := ⟨_, rfl⟩
      rw [e172] at hQ172
      obtain ⟨rfl, N172q, K172, x172, kx172, z_x172, g_x172, FB172_0, FB172_1, FB172_2, FB172_3, FB172_4, FB172_5, AR172, AB172, AX172⟩ := hQ172
      have N172 := Fr.app N171 N172q
      have Zs176 : n0 ≤ h172.size := Nat.le_trans Zs167 K172.1
      have AS172 : Arv Z h172 rw kR .int (16 : Int32) [(.int iC), (.int iC), (.int (0 : Int32)), (.int (0 : Int32)), (.int (0 : Int32)), (.int (0 : Int32)), (.int (0 : Int32)), (.int (0 : Int32)), (.int (0 : Int32)), (.int (0 : Int32)), (.int (0 : Int32)), (.int (0 : Int32)), (.int (0 : Int32)), (.int (0 : Int32)), (.int (0 : Int32)), (.int (0 : Int32))] (.int (0 : Int32)) := AR172
      have ne_b1_x172 : b1 ≠ x172 := Nat.ne_of_lt (Nat.lt_of_lt_of_le f169.lt z_x172)
      have ne_rw_x172 : rw ≠ x172 := Nat.ne_of_lt (Nat.lt_of_lt_of_le f173.lt z_x172)
      have ne_tb_x172 : tb ≠ x172 := Nat.ne_of_lt (Nat.lt_of_lt_of_le CT163.lt z_x172)
      have ne_sz_x172 : sz ≠ x172 := Nat.ne_of_lt (Nat.lt_of_lt_of_le CS163.lt z_x172)
      have ne_bm_x172 : bm ≠ x172 := Nat.ne_of_lt (Nat.lt_of_lt_of_le CB163.lt z_x172)
      have ne_x155_x172 : x155 ≠ x172 := Nat.ne_of_lt (Nat.lt_of_lt_of_le f174.lt z_x172)
      have ne_x158_x172 : x158 ≠ x172 := Nat.ne_of_lt (Nat.lt_of_lt_of_le f175.lt z_x172)
      refine Go.tr st172 ?_
      show Go pg.tables ev below (T172.setTop (mkF mi 166 #[.val (.int p0), .val (.int p1), .val (.int p2), .val (.int p3), .val (.int p4), .val (.int p5), .val (.int N), .val (.int iA), .val (.int iB), .val (.int iC), .val (.int iD), .val (.int m1), .val (.int m2), .val (.int m3), .val (.ref b1)] [(.int m3)])) P
      refine Go.st (fun t_ k_ => XS.iload X172.here hx rfl (hb hby at_166) rfl k_) ?_
      show Go pg.tables ev below (T172.setTop (mkF mi 168 #[.val (.int p0), .val (.int p1), .val (.int p2), .val (.int p3), .val (.int p4), .val (.int p5), .val (.int N), .val (.int iA), .val (.int iB), .val (.int iC), .val (.int iD), .val (.int m1), .val (.int m2), .val (.int m3), .val (.ref b1)] [(.int m3), (.int m3)])) P
      refine Go.st (fun t_ k_ => XS.icmpYes X172.here hx rfl (pc0 := 168) (pc' := 173) rfl (hb hby at_168) rfl (teq rfl).1 (by decide) (by decide) k_) ?_
      show Go pg.tables ev below (T172.setTop (mkF mi 173 #[.val (.int p0), .val (.int p1), .val (.int p2), .val (.int p3), .val (.int p4), .val (.int p5), .val (.int N), .val (.int iA), .val (.int iB), .val (.int iC), .val (.int iD), .val (.int m1), .val (.int m2), .val (.int m3), .val (.ref b1)] [])) P
      refine Go.st (fun t_ k_ => XS.aload X172.here hx rfl (hb hby at_173) rfl rfl k_) ?_
      show Go pg.tables ev below (T172.setTop (mkF mi 175 #[.val (.int p0), .val (.int p1), .val (.int p2), .val (.int p3), .val (.int p4), .val (.int p5), .val (.int N), .val (.int iA), .val (.int iB), .val (.int iC), .val (.int iD), .val (.int m1), .val (.int m2), .val (.int m3), .val (.ref b1)] [(.ref b1)])) P
      have f178 := (f169.keep K172)
      obtain ⟨cq177, kq177, q177a, q177b, q177c⟩ := isOf hZ e172 f178
      obtain ⟨_, _, ⟨T177, L177, k177, n177⟩, -, X177, ⟨Lc177, hQ177, l177, y177, z177⟩, st177⟩ := X172.virtualBack hx (y := (⟨"com/example/hedge/hedge/automaton/PairMarks", "rowCount", "()I"⟩ : MethodName)) (z := (⟨"com/example/hedge/hedge/automaton/PairMarks", "rowCount", "()I"⟩ : MethodName)) hown (mvT hZ (hw _ (List.mem_of_getElem? (i := 57) rfl))) (mvT hZ (hw _ (List.mem_of_getElem? (i := 58) rfl))) (notFace_of_selects (args := #[]) (mvT hZ (hw _ (List.mem_of_getElem? (i := 60) rfl)))) (mvT hZ (hw _ (List.mem_of_getElem? (i := 60) rfl))) (mvT hZ (hw _ (List.mem_of_getElem? (i := 59) rfl))) (by decide) (backOf (W := 0) (rmRC l Z a0 hw [] b1 (1 : Int32) h172 n0 Zs176 FB172_5) hZ (hw _ (List.mem_of_getElem? (i := 61) rfl)) (hw _ (List.mem_of_getElem? (i := 3) rfl)) (by decide) (by decide)) q177a q177c (g := (mkF mi 175 #[.val (.int p0), .val (.int p1), .val (.int p2), .val (.int p3), .val (.int p4), .val (.int p5), .val (.int N), .val (.int iA), .val (.int iB), .val (.int iC), .val (.int iD), .val (.int m1), .val (.int m2), .val (.int m3), .val (.ref b1)] [(.ref b1)])) rfl (by rw [hml]; rfl) (Steps.refl _) (argsL := []) (rest := []) (lenOf pd_7 rfl) rfl (by show 2 * 0 + _ ≤ _; exact Nat.le_of_eq rfl) (hb hby at_175) (fun _ _ => ⟨rfl, e172, (by decide : 8 + 0 ≤ _), (by decide : 814 + 0 ≤ _)⟩)
      dsimp only [Pt.U, Pt.locs, Pt.cells, Pt.slots] at X177 l177 y177 z177 st177 hQ177
      subst l177 y177 z177
      obtain ⟨rfl, N177q, e177⟩ := hQ177
      have N177 := Fr.app N172 N177q
      refine Go.tr st177 ?_
      show Go pg.tables ev below (T177.setTop (mkF mi 178 #[.val (.int p0), .val (.int p1), .val (.int p2), .val (.int p3), .val (.int p4), .val (.int p5), .val (.int N), .val (.int iA), .val (.int iB), .val (.int iC), .val (.int iD), .val (.int m1), .val (.int m2), .val (.int m3), .val (.ref b1)] [(.int (1 : Int32))])) P
      refine Go.st (fun t_ k_ => XS.iconst X177.here hx rfl (hb hby at_178) k_) ?_
      show Go pg.tables ev below (T177.setTop (mkF mi 179 #[.val (.int p0), .val (.int p1), .val (.int p2), .val (.int p3), .val (.int p4), .val (.int p5), .val (.int N), .val (.int iA), .val (.int iB), .val (.int iC), .val (.int iD), .val (.int m1), .val (.int m2), .val (.int m3), .val (.ref b1)] [(.int (1 : Int32)), (.int (1 : Int32))])) P
      refine Go.st (fun t_ k_ => XS.icmpYes X177.here hx rfl (pc0 := 179) (pc' := 184) rfl (hb hby at_179) rfl (teq rfl).1 (by decide) (by decide) k_) ?_
      show Go pg.tables ev below (T177.setTop (mkF mi 184 #[.val (.int p0), .val (.int p1), .val (.int p2), .val (.int p3), .val (.int p4), .val (.int p5), .val (.int N), .val (.int iA), .val (.int iB), .val (.int iC), .val (.int iD), .val (.int m1), .val (.int m2), .val (.int m3), .val (.ref b1)] [])) P
      refine Go.st (fun t_ k_ => XS.aload X177.here hx rfl (hb hby at_184) rfl rfl k_) ?_
      show Go pg.tables ev below (T177.setTop (mkF mi 186 #[.val (.int p0), .val (.int p1), .val (.int p2), .val (.int p3), .val (.int p4), .val (.int p5), .val (.int N), .val (.int iA), .val (.int iB), .val (.int iC), .val (.int iD), .val (.int m1), .val (.int m2), .val (.int m3), .val (.ref b1)] [(.ref b1)])) P
      refine Go.st (fun t_ k_ => XS.iconst X177.here hx rfl (hb hby at_186) k_) ?_
      show Go pg.tables ev below (T177.setTop (mkF mi 187 #[.val (.int p0), .val (.int p1), .val (.int p2), .val (.int p3), .val (.int p4), .val (.int p5), .val (.int N), .val (.int iA), .val (.int iB), .val (.int iC), .val (.int iD), .val (.int m1), .val (.int m2), .val (.int m3), .val (.ref b1)] [(.int (0 : Int32)), (.ref b1)])) P
      obtain ⟨cq179, kq179, q179a, q179b, q179c⟩ := isOf hZ e177 f178
      obtain ⟨_, _, ⟨T179, L179, k179, n179⟩, -, X179, ⟨Lc179, hQ179, l179, y179, z179⟩, st179⟩ := X177.virtualBack hx (y := (⟨"com/example/hedge/hedge/automaton/PairMarks", "row", "(I)I"⟩ : MethodName)) (z := (⟨"com/example/hedge/hedge/automaton/PairMarks", "row", "(I)I"⟩ : MethodName)) hown (mvT hZ (hw _ (List.mem_of_getElem? (i := 63) rfl))) (mvT hZ (hw _ (List.mem_of_getElem? (i := 64) rfl))) (notFace_of_selects (args := #[]) (mvT hZ (hw _ (List.mem_of_getElem? (i := 66) rfl)))) (mvT hZ (hw _ (List.mem_of_getElem? (i := 66) rfl))) (mvT hZ (hw _ (List.mem_of_getElem? (i := 65) rfl))) (by decide) (backOf (W := 0) (rmRo l Z a0 hw [] b1 rw kR iC [(.int iC), (.int (0 : Int32)), (.int (0 : Int32)), (.int (0 : Int32)), (.int (0 : Int32)), (.int (0 : Int32)), (.int (0 : Int32)), (.int (0 : Int32)), (.int (0 : Int32)), (.int (0 : Int32)), (.int (0 : Int32)), (.int (0 : Int32)), (.int (0 : Int32)), (.int (0 : Int32)), (.int (0 : Int32))] h172 n0 Zs176 FB172_0 AS172) hZ (hw _ (List.mem_of_getElem? (i := 67) rfl)) (hw _ (List.mem_of_getElem? (i := 3) rfl)) (by decide) (by decide)) q179a q179c (g := (mkF mi 187 #[.val (.int p0), .val (.int p1), .val (.int p2), .val (.int p3), .val (.int p4), .val (.int p5), .val (.int N), .val (.int iA), .val (.int iB), .val (.int iC), .val (.int iD), .val (.int m1), .val (.int m2), .val (.int m3), .val (.ref b1)] [(.int (0 : Int32)), (.ref b1)])) rfl (by rw [hml]; rfl) (Steps.refl _) (argsL := [(.int (0 : Int32))]) (rest := []) (lenOf pd_2 rfl) rfl (by show 2 * 0 + _ ≤ _; exact Nat.le_of_eq rfl) (hb hby at_187) (fun _ _ => ⟨rfl, e177, (by decide : 8 + 0 ≤ _), (by decide : 814 + 0 ≤ _)⟩)
      dsimp only [Pt.U, Pt.locs, Pt.cells, Pt.slots] at X179 l179 y179 z179 st179 hQ179
      subst l179 y179 z179
      obtain ⟨rfl, N179q, e179⟩ := hQ179
      have N179 := Fr.app N177 N179q
      refine Go.tr st179 ?_
      show Go pg.tables ev below (T179.setTop (mkF mi 190 #[.val (.int p0), .val (.int p1), .val (.int p2), .val (.int p3), .val (.int p4), .val (.int p5), .val (.int N), .val (.int iA), .val (.int iB), .val (.int iC), .val (.int iD), .val (.int m1), .val (.int m2), .val (.int m3), .val (.ref b1)] [(.int iC)])) P
      refine Go.st (fun t_ k_ => XS.iload X179.here hx rfl (hb hby at_190) rfl k_) ?_
      show Go pg.tables ev below (T179.setTop (mkF mi 192 #[.val (.int p0), .val (.int p1), .val (.int p2), .val (.int p3), .val (.int p4), .val (.int p5), .val (.int N), .val (.int iA), .val (.int iB), .val (.int iC), .val (.int iD), .val (.int m1), .val (.int m2), .val (.int m3), .val (.ref b1)] [(.int iC), (.int iC)])) P
      refine Go.st (fun t_ k_ => XS.icmpYes X179.here hx rfl (pc0 := 192) (pc' := 197) rfl (hb hby at_192) rfl (teq rfl).1 (by decide) (by decide) k_) ?_
      show Go pg.tables ev below (T179.setTop (mkF mi 197 #[.val (.int p0), .val (.int p1), .val (.int p2), .val (.int p3), .val (.int p4), .val (.int p5), .val (.int N), .val (.int iA), .val (.int iB), .val (.int iC), .val (.int iD), .val (.int m1), .val (.int m2), .val (.int m3), .val (.ref b1)] [])) P
      refine Go.st (fun t_ k_ => XS.aload X179.here hx rfl (hb hby at_197) rfl rfl k_) ?_
      show Go pg.tables ev below (T179.setTop (mkF mi 199 #[.val (.int p0), .val (.int p1), .val (.int p2), .val (.int p3), .val (.int p4), .val (.int p5), .val (.int N), .val (.int iA), .val (.int iB), .val (.int iC), .val (.int iD), .val (.int m1), .val (.int m2), .val (.int m3), .val (.ref b1)] [(.ref b1)])) P
      refine Go.st (fun t_ k_ => XS.iload X179.here hx rfl (hb hby at_199) rfl k_) ?_
      show Go pg.tables ev below (T179.setTop (mkF mi 201 #[.val (.int p0), .val (.int p1), .val (.int p2), .val (.int p3), .val (.int p4), .val (.int p5), .val (.int N), .val (.int iA), .val (.int iB), .val (.int iC), .val (.int iD), .val (.int m1), .val (.int m2), .val (.int m3), .val (.ref b1)] [(.int iC), (.ref b1)])) P
      refine Go.st (fun t_ k_ => XS.iload X179.here hx rfl (hb hby at_201) rfl k_) ?_
      show Go pg.tables ev below (T179.setTop (mkF mi 203 #[.val (.int p0), .val (.int p1), .val (.int p2), .val (.int p3), .val (.int p4), .val (.int p5), .val (.int N), .val (.int iA), .val (.int iB), .val (.int iC), .val (.int iD), .val (.int m1), .val (.int m2), .val (.int m3), .val (.ref b1)] [(.int iD), (.int iC), (.ref b1)])) P
      have f181 := (CT163.keep K172 (ninS (Ne.symm ne_o_tb) (ninS (Ne.symm ne_rw_tb) (ninS ne_tb_bm nin0))))
      obtain ⟨cq180, kq180, q180a, q180b, q180c⟩ := isOf hZ e179 f178
      obtain ⟨_, _, ⟨T180, L180, k180, n180⟩, -, X180, ⟨Lc180, hQ180, l180, y180, z180⟩, st180⟩ := X179.virtualBack hx (y := (⟨"com/example/hedge/hedge/automaton/PairMarks", "get", "(II)I"⟩ : MethodName)) (z := (⟨"com/example/hedge/hedge/automaton/PairMarks", "get", "(II)I"⟩ : MethodName)) hown (mvT hZ (hw _ (List.mem_of_getElem? (i := 62) rfl))) (mvT hZ (hw _ (List.mem_of_getElem? (i := 45) rfl))) (notFace_of_selects (args := #[]) (mvT hZ (hw _ (List.mem_of_getElem? (i := 47) rfl)))) (mvT hZ (hw _ (List.mem_of_getElem? (i := 47) rfl))) (mvT hZ (hw _ (List.mem_of_getElem? (i := 46) rfl))) (by decide) (backOf (W := 0) (rmGB l Z a0 hw [] b1 iC iD tb bm kT kB N ((iC, .null) :: ((iA, .null) :: [])) ((iC, (.ref x172)) :: ((iC, .null) :: ((iA, .null) :: ((iC, (.ref x158)) :: ((iA, (.ref x155)) :: []))))) x172 kx172 wd [(((iD.toUInt32 >>> ((5 : Int32) &&& 31).toUInt32).toInt32), (.long (fPu m3 iD)))] (fPu m3 iD) h172 n0 Zs176 FB172_1 FB172_3 f181 AB172 hCq.1 hCq.2 (own_hit hCq.1) AX172 (own_bit hN1 hN2 hwd hD) (own_hit (own_bit hN1 hN2 hwd hD).1)) hZ (hw _ (List.mem_of_getElem? (i := 48) rfl)) (hw _ (List.mem_of_getElem? (i := 3) rfl)) (by decide) (by decide)) q180a q180c (g := (mkF mi 203 #[.val (.int p0), .val (.int p1), .val (.int p2), .val (.int p3), .val (.int p4), .val (.int p5), .val (.int N), .val (.int iA), .val (.int iB), .val (.int iC), .val (.int iD), .val (.int m1), .val (.int m2), .val (.int m3), .val (.ref b1)] [(.int iD), (.int iC), (.ref b1)])) rfl (by rw [hml]; rfl) (Steps.refl _) (argsL := [(.int iC), (.int iD)]) (rest := []) (lenOf pd_1 rfl) rfl (by show 2 * 0 + _ ≤ _; exact Nat.le_of_eq rfl) (hb hby at_203) (fun _ _ => ⟨rfl, e179, (by decide : 8 + 0 ≤ _), (by decide : 814 + 0 ≤ _)⟩)
      dsimp only [Pt.U, Pt.locs, Pt.cells, Pt.slots] at X180 l180 y180 z180 st180 hQ180
      subst l180 y180 z180
      obtain ⟨rfl, N180q, e180⟩ := hQ180
      have N180 := Fr.app N179 N180q
      refine Go.tr st180 ?_
      show Go pg.tables ev below (T180.setTop (mkF mi 206 #[.val (.int p0), .val (.int p1), .val (.int p2), .val (.int p3), .val (.int p4), .val (.int p5), .val (.int N), .val (.int iA), .val (.int iB), .val (.int iC), .val (.int iD), .val (.int m1), .val (.int m2), .val (.int m3), .val (.ref b1)] [(.int (fGt (fPu m3 iD) iD))])) P
      refine Go.st (fun t_ k_ => XS.iload X180.here hx rfl (hb hby at_206) rfl k_) ?_
      show Go pg.tables ev below (T180.setTop (mkF mi 208 #[.val (.int p0), .val (.int p1), .val (.int p2), .val (.int p3), .val (.int p4), .val (.int p5), .val (.int N), .val (.int iA), .val (.int iB), .val (.int iC), .val (.int iD), .val (.int m1), .val (.int m2), .val (.int m3), .val (.ref b1)] [(.int m3), (.int (fGt (fPu m3 iD) iD))])) P
      refine Go.st (fun t_ k_ => XS.icmpNo X180.here hx rfl (hb hby at_208) rfl (teq (own_final hm3.1 hm3.2)).2 k_) ?_
      show Go pg.tables ev below (T180.setTop (mkF mi 211 #[.val (.int p0), .val (.int p1), .val (.int p2), .val (.int p3), .val (.int p4), .val (.int p5), .val (.int N), .val (.int iA), .val (.int iB), .val (.int iC), .val (.int iD), .val (.int m1), .val (.int m2), .val (.int m3), .val (.ref b1)] [])) P
      refine Go.st (fun t_ k_ => XS.iconst X180.here hx rfl (hb hby at_211) k_) ?_
      show Go pg.tables ev below (T180.setTop (mkF mi 212 #[.val (.int p0), .val (.int p1), .val (.int p2), .val (.int p3), .val (.int p4), .val (.int p5), .val (.int N), .val (.int iA), .val (.int iB), .val (.int iC), .val (.int iD), .val (.int m1), .val (.int m2), .val (.int m3), .val (.ref b1)] [(.int (1 : Int32))])) P
      refine Go.st (fun t_ k_ => XS.goto X180.here hx rfl (pc0 := 212) (pc' := 216) rfl (hb hby at_212) (by decide) (by decide) k_) ?_
      show Go pg.tables ev below (T180.setTop (mkF mi 216 #[.val (.int p0), .val (.int p1), .val (.int p2), .val (.int p3), .val (.int p4), .val (.int p5), .val (.int N), .val (.int iA), .val (.int iB), .val (.int iC), .val (.int iD), .val (.int m1), .val (.int m2), .val (.int m3), .val (.ref b1)] [(.int (1 : Int32))])) P
      obtain ⟨fs, hr, hrun, hended, hW, hsame⟩ := X180.leave (v := some (.int (1 : Int32))) (fun h => by rw [Bd.returns] at h; cases h) (BodyLoose.notSynchronized Bd)
      refine ⟨_, _, ?_, hP _ _ ⟨hrun, hended, _, _, rfl, ?_, ⟨_, rfl⟩, hW, hsame.mono (by decide) (by decide)⟩⟩
      · exact retN X180 hx (t := .boolean) Bd.returns (by simp) (hb hby at_216) hr
      · show (some (.int (1 : Int32)) : Option Value) = some (.int 1) ∧ Fr n0 _
        exact ⟨rfl, N180⟩
set_option maxRecDepth 65536 in
set_option maxHeartbeats 40000000 in
theorem comes_1 {Post : Tables → Env → Array Value → State → Outcome → State → Prop} (hpost : ∀ tb e args s v u, (limb_1_1.after args s (.returned v) u = true ∧ limb_1_2.after args s (.returned v) u = true ∧ True) → FrameEnd s (.returned v) u (Jvm.fieldLocs frame_1_writes args s ++ Jvm.arrayLocs frame_1_arrays args s ++ Jvm.staticLocs frame_1_statics s) 24 1728 → Post tb e args s (.returned v) u) :
    ArmFor flags0 classFile x code maxLocals ret World_1 tables_1 room_1 Calls_1 rest_1 Pre_1 Post := by
  intro l hfl _ _ p e ha hc hk s m args below hf hA hF happ hP
  obtain ⟨hcalls, hrest, hpre⟩ := hP
  obtain ⟨-, -, -, hnamed, -, -, -, hat⟩ := (Spec.applies_iff hf).mp happ
  obtain ⟨hg, hn⟩ := and_e (Cond.before_iff.mp (show (Jvm.Cond.and given_1 narrow_1).before args s = true from hpre))
  obtain ⟨g1, g2⟩ := and_e hg
  obtain ⟨g3, g4⟩ := and_e g2
  obtain ⟨g5, g6⟩ := and_e g4
  obtain ⟨g7, g8⟩ := and_e g6
  obtain ⟨g9, g10⟩ := and_e g8
  obtain ⟨g11, g12⟩ := and_e g10
  obtain ⟨w0, w1, w2, w3, w4, w5, rfl⟩ : ∃ w0 w1 w2 w3 w4 w5 : Value, args = #[w0, w1, w2, w3, w4, w5] := by
    have hs : args.size = 6 := by simpa [Cond.value, given_1] using g1
    obtain ⟨L⟩ := args
    match L, hs with
    | [w0, w1, w2, w3, w4, w5], _ => exact ⟨w0, w1, w2, w3, w4, w5, rfl⟩
  have hw := fun d (hd : d ∈ tables_1) => atoms_spec (ws := Jvm.Cond.code x code maxLocals ret :: tables_1) hat d (List.mem_cons_of_mem _ hd)
  have hfit : Fit s := fun {y c} hc i hi => by
    obtain ⟨ha, rfl⟩ := Array.getElem?_eq_some_iff.mp hc
    have q := List.all_eq_true.mp ((Array.all_eq_true_iff_forall_mem.mp hF) _ (Array.getElem_mem ha)) i (List.mem_range.mpr hi)
    simpa [Array.getElem?_eq_getElem hi] using q
  obtain ⟨i0, ei0⟩ := is_v g3
  obtain rfl : w0 = (.int i0) := Option.some.inj ei0
  obtain ⟨i1, ei1⟩ := is_v g5
  obtain rfl : w1 = (.int i1) := Option.some.inj ei1
  obtain ⟨i2, ei2⟩ := is_v g7
  obtain rfl : w2 = (.int i2) := Option.some.inj ei2
  obtain ⟨i3, ei3⟩ := is_v g9
  obtain rfl : w3 = (.int i3) := Option.some.inj ei3
  obtain ⟨i4, ei4⟩ := is_v g11
  obtain rfl : w4 = (.int i4) := Option.some.inj ei4
  obtain ⟨i5, ei5⟩ := is_v g12
  obtain rfl : w5 = (.int i5) := Option.some.inj ei5
  obtain ⟨n, o, h1, h2, h3, _, L, rfl, ⟨rfl, N⟩, hq⟩ := rm0 l s _ hw tables_1 i0 i1 i2 i3 i4 i5  s.heap s.heap.size (Nat.le_refl _)  p e ha hc hk s m _ below hf ((Spec.applies_iff_loose hf).mp happ).1 ⟨rfl, State.Warmed39.refl s, rfl⟩ trivial
  refine ⟨n, _, h1, h2, h3, hpost _ _ _ _ _ _ ⟨Cond.after_iff.mpr rfl, Cond.after_iff.mpr (eq_i res_at (Term.int_eval (1)) rfl), trivial⟩ ⟨hq.1, hq.2.1, (hq.2.2.sift fun y hy => Or.inr (N y hy)).mono (by decide) (by decide)⟩⟩
theorem main_1_1 : Claimed_1_1 := comes_1 fun _ _ _ _ _ _ h hF => ⟨h.1, hF⟩
theorem main_1_2 : Claimed_1_2 := comes_1 fun _ _ _ _ _ _ h hF => ⟨h.2.1, hF⟩
end Jvm.Pilot.@@N@@
namespace Jvm.Pilot.@@N@@
open Jvm Jvm.ClassFile Sem Op Lib Jvm.Free Jvm.Stand Jvm.Pilot.@@N@@.Jvm.D
/-! MADE BY PROGRAM (witnessworld.py) out of the Statement's table words and the real class files: 11 classes; the members and pool entries that the words name. The judged class is class 1, her method 1. -/
namespace start1
open Jvm.ClassFile
def u (s : String) : CpInfo := .utf8 (stringToUtf16 s)
/-- a pool by its gaps: so many unusable entries, then the entry; so many at the end -/
def gap : Nat → List CpInfo → List CpInfo
  | 0, r => r
  | n + 1, r => .unusable :: gap n r
def poolList (es : List (Nat × CpInfo)) (last : Nat) : List CpInfo := es.foldr (fun e r => gap e.1 (e.2 :: r)) (gap last [])
def pool (es : List (Nat × CpInfo)) (last : Nat) : Array CpInfo := ⟨poolList es last⟩
def fileOf (pool : Array CpInfo) (this : Nat) (attrs : Array Attribute := #[]) (ms : Array MethodInfo := #[]) (fl : Nat := 33) (sup : Nat := 0) (ifs : Array Nat := #[]) (fds : Array FieldInfo := #[]) : ClassFile where
  minorVersion := 0
  majorVersion := 65
  constantPool := pool
  accessFlags := fl
  thisClass := this
  superClass := sup
  interfaces := ifs
  fields := fds
  methods := ms
  attributes := attrs
def plain (name : String) (sup : Option ClassId) : Class where
  name := name
  kind := .ordinary
  loader := none
  accessFlags := 33
  super := sup
  interfaces := #[]
  cf := none
  fields := #[]
  methods := #[]
  instanceTypes := #[]
  staticTypes := #[]
  resolved := #[]
  callSites := []
  init := .initialized
  statics := none
  mirror := none

def pool0 : Array CpInfo := pool [(5, u "<init>"), (0, u "()V"), (1, .class_ 10), (1, u "java/lang/Object")] 113

def k0c0 : Code := { maxStack := 0, maxLocals := 1, code := object_method_1_code, exceptionTable := #[], attributes := #[] }
def k0m0 : Method := { name := "<init>", desc := "()V", sig := { parameters := [], returnType := none }, accessFlags := 1, code := some k0c0 }
/-- java/lang/Object -/
def k0 : Class := { plain "java/lang/Object" none with
  accessFlags := 33
  interfaces := #[]
  cf := some (fileOf pool0 8 #[] #[{ accessFlags := 1, nameIndex := 5, descriptorIndex := 6, attributes := #[] }] 33 0 #[] #[])
  fields := #[]
  methods := #[k0m0]
  instanceTypes := #[]
  staticTypes := #[]
  resolved := Array.replicate 124 none
  statics := none }

def pool1 : Array CpInfo := pool [(2, .class_ 4), (1, u "java/lang/Object"), (0, u "<init>"), (0, u "()V"), (0, .integer 2147483647), (0, .class_ 9), (0, u "com/example/hedge/hedge/automaton/PairMarks"), (0, .methodref 8 11), (0, .nameAndType 5 12), (0, u "(I)V"), (0, .methodref 8 14), (0, .nameAndType 15 16), (0, u "add"), (0, u "(III)I"), (0, .methodref 8 18), (0, .nameAndType 19 6), (0, u "clear"), (0, .methodref 8 21), (0, .nameAndType 22 23), (0, u "rowCount"), (0, u "()I"), (0, .methodref 8 25), (0, .nameAndType 26 27), (0, u "get"), (0, u "(II)I"), (0, .methodref 8 29), (0, .nameAndType 30 31), (0, u "row"), (0, u "(I)I"), (0, .class_ 33), (0, u "com/example/hedge/hedge/automaton/PairMarksClearPinLaw"), (2, u "law"), (0, u "(IIIIII)Z")] 3

def k1m0 : Method := { name := "<init>", desc := "()V", sig := { parameters := [], returnType := none }, accessFlags := 1, code := none }
def k1c1 : Code := { maxStack := 4, maxLocals := 15, code := code, exceptionTable := #[], attributes := #[] }
def k1m1 : Method := { name := "law", desc := "(IIIIII)Z", sig := { parameters := [.int, .int, .int, .int, .int, .int], returnType := some .boolean }, accessFlags := 9, code := some k1c1 }
/-- com/example/hedge/hedge/automaton/PairMarksClearPinLaw -/
def k1 : Class := { plain "com/example/hedge/hedge/automaton/PairMarksClearPinLaw" (some 0) with
  accessFlags := 49
  interfaces := #[]
  cf := some (fileOf pool1 32 #[] #[{ accessFlags := 1, nameIndex := 5, descriptorIndex := 6, attributes := #[] }, { accessFlags := 9, nameIndex := 36, descriptorIndex := 37, attributes := #[] }] 49 2 #[] #[])
  fields := #[]
  methods := #[k1m0, k1m1]
  instanceTypes := #[]
  staticTypes := #[]
  resolved := Array.replicate 41 none
  statics := none }

def pool2 : Array CpInfo := pool [(1, .methodref 2 3), (0, .class_ 4), (0, .nameAndType 5 6), (0, u "java/lang/Object"), (0, u "<init>"), (0, u "()V"), (0, .fieldref 8 9), (0, .class_ 10), (0, .nameAndType 11 12), (0, u "com/example/hedge/hedge/automaton/PairMarks"), (0, u "rows"), (0, u "[I"), (2, .integer 536870911), (9, .fieldref 8 26), (0, .nameAndType 27 28), (0, u "words"), (0, u "I"), (0, .class_ 12), (0, .fieldref 8 31), (0, .nameAndType 32 33), (0, u "tables"), (0, u "[[I"), (0, .fieldref 8 35), (0, .nameAndType 36 12), (0, u "sizes"), (0, .class_ 38), (0, u "[J"), (0, .fieldref 8 40), (0, .nameAndType 41 42), (0, u "bitmaps"), (0, u "[[J"), (0, .methodref 8 44), (0, .nameAndType 45 46), (0, u "shift"), (0, u "(I)I"), (0, .methodref 8 48), (0, .nameAndType 49 50), (0, u "find"), (0, u "([II)I"), (0, .methodref 8 52), (0, .nameAndType 53 54), (0, u "begin"), (0, u "(I)V"), (0, .methodref 8 56), (0, .nameAndType 57 58), (0, u "get"), (0, u "(II)I"), (0, .methodref 8 60), (0, .nameAndType 61 46), (0, u "key"), (22, .class_ 86), (1, u "com/example/hedge/hedge/automaton/PairMarks$Test"), (1, .methodref 8 89), (0, .nameAndType 90 46), (0, u "secondOf"), (0, .fieldref 8 92), (0, .nameAndType 93 28), (0, u "rowCount"), (6, .methodref 8 101), (0, .nameAndType 102 103), (0, u "isWorthABitmap"), (0, u "(I)Z"), (0, .methodref 8 105), (0, .nameAndType 106 58), (0, u "slot"), (0, .long 2), (1, .integer 2654435769), (1, .class_ 113), (1, u "com/example/hedge/hedge/automaton/PairMarks$Each"), (2, u "MARKS"), (2, u "SMALLEST"), (4, u "add"), (0, u "(III)I"), (3, u "()I"), (0, u "row"), (0, u "clear")] 33

def k2c0 : Code := { maxStack := 3, maxLocals := 2, code := prog_37_method_1_code, exceptionTable := #[], attributes := #[] }
def k2m0 : Method := { name := "<init>", desc := "(I)V", sig := { parameters := [.int], returnType := none }, accessFlags := 0, code := some k2c0 }
def k2c1 : Code := { maxStack := 3, maxLocals := 6, code := prog_37_method_2_code, exceptionTable := #[], attributes := #[] }
def k2m1 : Method := { name := "get", desc := "(II)I", sig := { parameters := [.int, .int], returnType := some .int }, accessFlags := 0, code := some k2c1 }
def k2c2 : Code := { maxStack := 7, maxLocals := 8, code := prog_37_method_3_code, exceptionTable := #[], attributes := #[] }
def k2m2 : Method := { name := "add", desc := "(III)I", sig := { parameters := [.int, .int, .int], returnType := some .int }, accessFlags := 0, code := some k2c2 }
def k2c3 : Code := { maxStack := 1, maxLocals := 1, code := prog_37_method_7_code, exceptionTable := #[], attributes := #[] }
def k2m3 : Method := { name := "rowCount", desc := "()I", sig := { parameters := [], returnType := some .int }, accessFlags := 0, code := some k2c3 }
def k2c4 : Code := { maxStack := 2, maxLocals := 2, code := prog_37_method_8_code, exceptionTable := #[], attributes := #[] }
def k2m4 : Method := { name := "row", desc := "(I)I", sig := { parameters := [.int], returnType := some .int }, accessFlags := 0, code := some k2c4 }
def k2c5 : Code := { maxStack := 3, maxLocals := 3, code := prog_37_method_9_code, exceptionTable := #[], attributes := #[] }
def k2m5 : Method := { name := "clear", desc := "()V", sig := { parameters := [], returnType := none }, accessFlags := 0, code := some k2c5 }
def k2c6 : Code := { maxStack := 5, maxLocals := 2, code := prog_37_method_10_code, exceptionTable := #[], attributes := #[] }
def k2m6 : Method := { name := "begin", desc := "(I)V", sig := { parameters := [.int], returnType := none }, accessFlags := 2, code := some k2c6 }
def k2c7 : Code := { maxStack := 4, maxLocals := 2, code := prog_37_method_12_code, exceptionTable := #[], attributes := #[] }
def k2m7 : Method := { name := "isWorthABitmap", desc := "(I)Z", sig := { parameters := [.int], returnType := some .boolean }, accessFlags := 2, code := some k2c7 }
def k2c8 : Code := { maxStack := 2, maxLocals := 4, code := prog_37_method_13_code, exceptionTable := #[], attributes := #[] }
def k2m8 : Method := { name := "find", desc := "([II)I", sig := { parameters := [(.array .int), .int], returnType := some .int }, accessFlags := 10, code := some k2c8 }
def k2c9 : Code := { maxStack := 2, maxLocals := 1, code := prog_37_method_14_code, exceptionTable := #[], attributes := #[] }
def k2m9 : Method := { name := "key", desc := "(I)I", sig := { parameters := [.int], returnType := some .int }, accessFlags := 10, code := some k2c9 }
def k2c10 : Code := { maxStack := 2, maxLocals := 1, code := prog_37_method_15_code, exceptionTable := #[], attributes := #[] }
def k2m10 : Method := { name := "secondOf", desc := "(I)I", sig := { parameters := [.int], returnType := some .int }, accessFlags := 10, code := some k2c10 }
def k2c11 : Code := { maxStack := 2, maxLocals := 1, code := prog_37_method_16_code, exceptionTable := #[], attributes := #[] }
def k2m11 : Method := { name := "shift", desc := "(I)I", sig := { parameters := [.int], returnType := some .int }, accessFlags := 10, code := some k2c11 }
def k2c12 : Code := { maxStack := 3, maxLocals := 3, code := prog_37_method_17_code, exceptionTable := #[], attributes := #[] }
def k2m12 : Method := { name := "slot", desc := "(II)I", sig := { parameters := [.int, .int], returnType := some .int }, accessFlags := 10, code := some k2c12 }
/-- com/example/hedge/hedge/automaton/PairMarks -/
def k2 : Class := { plain "com/example/hedge/hedge/automaton/PairMarks" (some 0) with
  accessFlags := 48
  interfaces := #[]
  cf := some (fileOf pool2 8 #[.nestMembers #[84, 111]] #[{ accessFlags := 0, nameIndex := 5, descriptorIndex := 54, attributes := #[] }, { accessFlags := 0, nameIndex := 57, descriptorIndex := 58, attributes := #[] }, { accessFlags := 0, nameIndex := 124, descriptorIndex := 125, attributes := #[] }, { accessFlags := 0, nameIndex := 93, descriptorIndex := 129, attributes := #[] }, { accessFlags := 0, nameIndex := 130, descriptorIndex := 46, attributes := #[] }, { accessFlags := 0, nameIndex := 131, descriptorIndex := 6, attributes := #[] }, { accessFlags := 2, nameIndex := 53, descriptorIndex := 54, attributes := #[] }, { accessFlags := 2, nameIndex := 102, descriptorIndex := 103, attributes := #[] }, { accessFlags := 10, nameIndex := 49, descriptorIndex := 50, attributes := #[] }, { accessFlags := 10, nameIndex := 61, descriptorIndex := 46, attributes := #[] }, { accessFlags := 10, nameIndex := 90, descriptorIndex := 46, attributes := #[] }, { accessFlags := 10, nameIndex := 45, descriptorIndex := 46, attributes := #[] }, { accessFlags := 10, nameIndex := 106, descriptorIndex := 58, attributes := #[] }] 48 2 #[] #[{ accessFlags := 26, nameIndex := 116, descriptorIndex := 28, attributes := #[] }, { accessFlags := 26, nameIndex := 119, descriptorIndex := 28, attributes := #[] }, { accessFlags := 18, nameIndex := 27, descriptorIndex := 28, attributes := #[] }, { accessFlags := 18, nameIndex := 32, descriptorIndex := 33, attributes := #[] }, { accessFlags := 18, nameIndex := 36, descriptorIndex := 12, attributes := #[] }, { accessFlags := 18, nameIndex := 41, descriptorIndex := 42, attributes := #[] }, { accessFlags := 2, nameIndex := 11, descriptorIndex := 12, attributes := #[] }, { accessFlags := 2, nameIndex := 93, descriptorIndex := 28, attributes := #[] }])
  fields := #[{ name := "MARKS", type := .int, accessFlags := 26, slot := 0, constantValue := 0 }, { name := "SMALLEST", type := .int, accessFlags := 26, slot := 1, constantValue := 0 }, { name := "words", type := .int, accessFlags := 18, slot := 0, constantValue := 0 }, { name := "tables", type := (.array (.array .int)), accessFlags := 18, slot := 1, constantValue := 0 }, { name := "sizes", type := (.array .int), accessFlags := 18, slot := 2, constantValue := 0 }, { name := "bitmaps", type := (.array (.array .long)), accessFlags := 18, slot := 3, constantValue := 0 }, { name := "rows", type := (.array .int), accessFlags := 2, slot := 4, constantValue := 0 }, { name := "rowCount", type := .int, accessFlags := 2, slot := 5, constantValue := 0 }]
  methods := #[k2m0, k2m1, k2m2, k2m3, k2m4, k2m5, k2m6, k2m7, k2m8, k2m9, k2m10, k2m11, k2m12]
  instanceTypes := #[.int, (.array (.array .int)), (.array .int), (.array (.array .long)), (.array .int), .int]
  staticTypes := #[.int, .int]
  resolved := Array.replicate 165 none
  statics := none }

def pool3 : Array CpInfo := pool [(1, u "java/lang/Cloneable"), (0, .class_ 1), (0, u "java/lang/Object"), (0, .class_ 3)] 3

/-- java/lang/Cloneable -/
def k3 : Class := { plain "java/lang/Cloneable" (some 0) with
  accessFlags := 1537
  interfaces := #[]
  cf := some (fileOf pool3 2 #[] #[] 1537 4 #[] #[])
  fields := #[]
  methods := #[]
  instanceTypes := #[]
  staticTypes := #[]
  resolved := Array.replicate 8 none
  statics := none }

def pool4 : Array CpInfo := pool [(1, u "java/io/Serializable"), (0, .class_ 1), (0, u "java/lang/Object"), (0, .class_ 3)] 3

/-- java/io/Serializable -/
def k4 : Class := { plain "java/io/Serializable" (some 0) with
  accessFlags := 1537
  interfaces := #[]
  cf := some (fileOf pool4 2 #[] #[] 1537 4 #[] #[])
  fields := #[]
  methods := #[]
  instanceTypes := #[]
  staticTypes := #[]
  resolved := Array.replicate 8 none
  statics := none }

/-- the primitive byte -/
def k5 : Class := { plain "byte" none with kind := .primitive 'B', accessFlags := 0x411 }
/-- [B -/
def k6 : Class := { plain "[B" (some 0) with kind := .array 5 .byte, interfaces := #[3, 4], accessFlags := 1041 }

/-- the primitive int -/
def k7 : Class := { plain "int" none with kind := .primitive 'I', accessFlags := 0x411 }
/-- [I -/
def k8 : Class := { plain "[I" (some 0) with kind := .array 7 .int, interfaces := #[3, 4], accessFlags := 1041 }

/-- the primitive long -/
def k9 : Class := { plain "long" none with kind := .primitive 'J', accessFlags := 0x411 }
/-- [J -/
def k10 : Class := { plain "[J" (some 0) with kind := .array 9 .long, interfaces := #[3, 4], accessFlags := 1041 }

def k11 : Class := { plain "[[I" (some 0) with kind := .array 8 (.array .int), interfaces := #[3, 4], accessFlags := 1041 }
def k12 : Class := { plain "[[J" (some 0) with kind := .array 10 (.array .long), interfaces := #[3, 4], accessFlags := 1041 }
def heap : Heap := #[]
def classes : Array Class := #[k0, k1, k2, k3, k4, k5, k6, k7, k8, k9, k10, k11, k12]
def interned : List (Array UInt16 × Addr) := []
def slotsUsed : Nat := 0
def theMethod : MethodId := ⟨1, 1⟩
def args0 : Array Value := #[.int 3, .int 5, .int 6, .int 7, .int 8, .int 9]
def aboutOver (below : List Frame) : State where
  vm := { classes := classes, interned := interned.toArray }
  heap := heap
  slotsUsed := slotsUsed
  threads := #[{ frames := .invoking theMethod args0 :: below }]
def below0 : List Frame := [.native { method := ⟨0, 0⟩, args := #[] }]
def about1 : State := aboutOver below0
def p0 : Program := .bare "" "" ""
def e0 : Env := launch0.env 0 0 0
theorem w_frames : about1.frames = Frame.invoking theMethod args0 :: below0 := rfl
set_option maxRecDepth 65536 in
theorem w_args : argsFit about1.vm theMethod args0 = true := by decide +kernel
set_option maxRecDepth 65536 in
theorem w_heap : heapFits about1 = true := by decide +kernel
set_option maxRecDepth 65536 in
theorem w_runnable : about1.curStatus? = some .runnable := by decide +kernel
set_option maxRecDepth 65536 in
theorem w_alone : about1.alone = true := by decide +kernel
set_option maxRecDepth 65536 in
theorem w_named : about1.methodNamed? x = some theMethod := by decide +kernel
set_option maxRecDepth 65536 in
theorem w_hears : about1.hears theMethod below0 = true := by decide +kernel
set_option maxRecDepth 65536 in
theorem w_ripe : about1.ripe theMethod args0 below0 = true := by decide +kernel
theorem w_running : about1.status = .running := rfl
set_option maxRecDepth 65536 in
theorem w_room : about1.hasRoom e0.platform room_1 = true :=
  launch0.hasRoom_least _ room_1 (by decide +kernel) (by decide +kernel) (by decide +kernel) (by decide +kernel) (by decide +kernel) (by decide +kernel)
theorem allAtoms_all (ts : List Jvm.Cond) (a : Array Jvm.Value) (st : Jvm.State) : (allAtoms ts).before a st = ts.all (fun c => c.before a st) := by
  induction ts with
  | nil => rfl
  | cons c t ih =>
    show (Jvm.Cond.and c (allAtoms t)).before a st = _
    rw [Jvm.Cond.before_and, ih, List.all_cons]
def words1 : List Jvm.Cond := Jvm.Cond.code x code maxLocals ret :: tables_1
/-- a 'code' word, met by the world's own term for the bytes: nothing is compared byte by byte -/
theorem code_word {y : MethodName} {bytes : ByteArray} {mx : Nat} {rt : Option FieldType} {a : Array Value} {s : State} {m : MethodId} {meth : Method} {c : Code} (h1 : s.methodNamed? y = some m) (h2 : s.vm.method? m = some meth) (h3 : meth.code = some c) (h4 : c.code = bytes)
    (h5 : (c.maxLocals == mx && c.exceptionTable.isEmpty && decide (c.maxStack ≤ mostOperands) && decide (meth.sig.returnType = rt) && !meth.locks && decide (parseMethodDescriptor y.desc = some meth.sig)) = true) : (Jvm.Cond.code y bytes mx rt).before a s = true := by
  simp only [Bool.and_eq_true, beq_iff_eq, Bool.not_eq_true', decide_eq_true_eq] at h5
  obtain ⟨⟨⟨⟨⟨g1, g2⟩, g3⟩, g4⟩, g5⟩, g6⟩ := h5
  simp [Cond.before, Cond.holds, Cond.value, h1, h2, h3, h4, g1, g2, g3, g4, g5, g6]
def isCode : Jvm.Cond → Bool
  | .code _ _ _ _ => true
  | _ => false
theorem all_split {L : List Jvm.Cond} {P : Jvm.Cond → Bool} (h1 : L.all (fun c => isCode c || P c) = true) (h2 : ∀ c ∈ L.filter isCode, P c = true) : L.all P = true := by
  refine List.all_eq_true.mpr fun c hc => ?_
  have h := List.all_eq_true.mp h1 c hc
  rcases Bool.eq_false_or_eq_true (isCode c) with hi | hi
  · exact h2 c (List.mem_filter.mpr ⟨hc, hi⟩)
  · simpa [hi] using h
set_option maxRecDepth 65536 in
theorem w_c0 : (Jvm.Cond.code x code maxLocals ret).before args0 about1 = true := code_word (m := ⟨1, 1⟩) (meth := k1m1) (c := k1c1) (by decide +kernel) rfl rfl rfl (by decide +kernel)
set_option maxRecDepth 65536 in
theorem w_c1 : (Jvm.Cond.code ({ cls := "com/example/hedge/hedge/automaton/PairMarks", name := "<init>", desc := "(I)V" } : Jvm.MethodName) prog_37_method_1_code (2 : Nat) (Option.none : Option Jvm.ClassFile.FieldType)).before args0 about1 = true := code_word (m := ⟨2, 0⟩) (meth := k2m0) (c := k2c0) (by decide +kernel) rfl rfl rfl (by decide +kernel)
set_option maxRecDepth 65536 in
theorem w_c2 : (Jvm.Cond.code ({ cls := "java/lang/Object", name := "<init>", desc := "()V" } : Jvm.MethodName) object_method_1_code (1 : Nat) (Option.none : Option Jvm.ClassFile.FieldType)).before args0 about1 = true := code_word (m := ⟨0, 0⟩) (meth := k0m0) (c := k0c0) (by decide +kernel) rfl rfl rfl (by decide +kernel)
set_option maxRecDepth 65536 in
theorem w_c3 : (Jvm.Cond.code ({ cls := "com/example/hedge/hedge/automaton/PairMarks", name := "add", desc := "(III)I" } : Jvm.MethodName) prog_37_method_3_code (8 : Nat) (Option.some Jvm.ClassFile.FieldType.int)).before args0 about1 = true := code_word (m := ⟨2, 2⟩) (meth := k2m2) (c := k2c2) (by decide +kernel) rfl rfl rfl (by decide +kernel)
set_option maxRecDepth 65536 in
theorem w_c4 : (Jvm.Cond.code ({ cls := "com/example/hedge/hedge/automaton/PairMarks", name := "begin", desc := "(I)V" } : Jvm.MethodName) prog_37_method_10_code (2 : Nat) (Option.none : Option Jvm.ClassFile.FieldType)).before args0 about1 = true := code_word (m := ⟨2, 6⟩) (meth := k2m6) (c := k2c6) (by decide +kernel) rfl rfl rfl (by decide +kernel)
set_option maxRecDepth 65536 in
theorem w_c5 : (Jvm.Cond.code ({ cls := "com/example/hedge/hedge/automaton/PairMarks", name := "isWorthABitmap", desc := "(I)Z" } : Jvm.MethodName) prog_37_method_12_code (2 : Nat) (Option.some Jvm.ClassFile.FieldType.boolean)).before args0 about1 = true := code_word (m := ⟨2, 7⟩) (meth := k2m7) (c := k2c7) (by decide +kernel) rfl rfl rfl (by decide +kernel)
set_option maxRecDepth 65536 in
theorem w_c6 : (Jvm.Cond.code ({ cls := "com/example/hedge/hedge/automaton/PairMarks", name := "get", desc := "(II)I" } : Jvm.MethodName) prog_37_method_2_code (6 : Nat) (Option.some Jvm.ClassFile.FieldType.int)).before args0 about1 = true := code_word (m := ⟨2, 1⟩) (meth := k2m1) (c := k2c1) (by decide +kernel) rfl rfl rfl (by decide +kernel)
set_option maxRecDepth 65536 in
theorem w_c7 : (Jvm.Cond.code ({ cls := "com/example/hedge/hedge/automaton/PairMarks", name := "shift", desc := "(I)I" } : Jvm.MethodName) prog_37_method_16_code (1 : Nat) (Option.some Jvm.ClassFile.FieldType.int)).before args0 about1 = true := code_word (m := ⟨2, 11⟩) (meth := k2m11) (c := k2c11) (by decide +kernel) rfl rfl rfl (by decide +kernel)
set_option maxRecDepth 65536 in
theorem w_c8 : (Jvm.Cond.code ({ cls := "com/example/hedge/hedge/automaton/PairMarks", name := "clear", desc := "()V" } : Jvm.MethodName) prog_37_method_9_code (3 : Nat) (Option.none : Option Jvm.ClassFile.FieldType)).before args0 about1 = true := code_word (m := ⟨2, 5⟩) (meth := k2m5) (c := k2c5) (by decide +kernel) rfl rfl rfl (by decide +kernel)
set_option maxRecDepth 65536 in
theorem w_c9 : (Jvm.Cond.code ({ cls := "com/example/hedge/hedge/automaton/PairMarks", name := "rowCount", desc := "()I" } : Jvm.MethodName) prog_37_method_7_code (1 : Nat) (Option.some Jvm.ClassFile.FieldType.int)).before args0 about1 = true := code_word (m := ⟨2, 3⟩) (meth := k2m3) (c := k2c3) (by decide +kernel) rfl rfl rfl (by decide +kernel)
set_option maxRecDepth 65536 in
theorem w_c10 : (Jvm.Cond.code ({ cls := "com/example/hedge/hedge/automaton/PairMarks", name := "row", desc := "(I)I" } : Jvm.MethodName) prog_37_method_8_code (2 : Nat) (Option.some Jvm.ClassFile.FieldType.int)).before args0 about1 = true := code_word (m := ⟨2, 4⟩) (meth := k2m4) (c := k2c4) (by decide +kernel) rfl rfl rfl (by decide +kernel)
set_option maxRecDepth 65536 in
theorem w_c11 : (Jvm.Cond.code ({ cls := "com/example/hedge/hedge/automaton/PairMarks", name := "find", desc := "([II)I" } : Jvm.MethodName) prog_37_method_13_code (4 : Nat) (Option.some Jvm.ClassFile.FieldType.int)).before args0 about1 = true := code_word (m := ⟨2, 8⟩) (meth := k2m8) (c := k2c8) (by decide +kernel) rfl rfl rfl (by decide +kernel)
set_option maxRecDepth 65536 in
theorem w_c12 : (Jvm.Cond.code ({ cls := "com/example/hedge/hedge/automaton/PairMarks", name := "slot", desc := "(II)I" } : Jvm.MethodName) prog_37_method_17_code (3 : Nat) (Option.some Jvm.ClassFile.FieldType.int)).before args0 about1 = true := code_word (m := ⟨2, 12⟩) (meth := k2m12) (c := k2c12) (by decide +kernel) rfl rfl rfl (by decide +kernel)
set_option maxRecDepth 65536 in
theorem w_c13 : (Jvm.Cond.code ({ cls := "com/example/hedge/hedge/automaton/PairMarks", name := "key", desc := "(I)I" } : Jvm.MethodName) prog_37_method_14_code (1 : Nat) (Option.some Jvm.ClassFile.FieldType.int)).before args0 about1 = true := code_word (m := ⟨2, 9⟩) (meth := k2m9) (c := k2c9) (by decide +kernel) rfl rfl rfl (by decide +kernel)
set_option maxRecDepth 65536 in
theorem w_c14 : (Jvm.Cond.code ({ cls := "com/example/hedge/hedge/automaton/PairMarks", name := "secondOf", desc := "(I)I" } : Jvm.MethodName) prog_37_method_15_code (1 : Nat) (Option.some Jvm.ClassFile.FieldType.int)).before args0 about1 = true := code_word (m := ⟨2, 10⟩) (meth := k2m10) (c := k2c10) (by decide +kernel) rfl rfl rfl (by decide +kernel)
def codes1 : List Jvm.Cond := [Jvm.Cond.code x code maxLocals ret, Jvm.Cond.code ({ cls := "com/example/hedge/hedge/automaton/PairMarks", name := "<init>", desc := "(I)V" } : Jvm.MethodName) prog_37_method_1_code (2 : Nat) (Option.none : Option Jvm.ClassFile.FieldType), Jvm.Cond.code ({ cls := "java/lang/Object", name := "<init>", desc := "()V" } : Jvm.MethodName) object_method_1_code (1 : Nat) (Option.none : Option Jvm.ClassFile.FieldType), Jvm.Cond.code ({ cls := "com/example/hedge/hedge/automaton/PairMarks", name := "add", desc := "(III)I" } : Jvm.MethodName) prog_37_method_3_code (8 : Nat) (Option.some Jvm.ClassFile.FieldType.int), Jvm.Cond.code ({ cls := "com/example/hedge/hedge/automaton/PairMarks", name := "begin", desc := "(I)V" } : Jvm.MethodName) prog_37_method_10_code (2 : Nat) (Option.none : Option Jvm.ClassFile.FieldType), Jvm.Cond.code ({ cls := "com/example/hedge/hedge/automaton/PairMarks", name := "isWorthABitmap", desc := "(I)Z" } : Jvm.MethodName) prog_37_method_12_code (2 : Nat) (Option.some Jvm.ClassFile.FieldType.boolean), Jvm.Cond.code ({ cls := "com/example/hedge/hedge/automaton/PairMarks", name := "get", desc := "(II)I" } : Jvm.MethodName) prog_37_method_2_code (6 : Nat) (Option.some Jvm.ClassFile.FieldType.int), Jvm.Cond.code ({ cls := "com/example/hedge/hedge/automaton/PairMarks", name := "shift", desc := "(I)I" } : Jvm.MethodName) prog_37_method_16_code (1 : Nat) (Option.some Jvm.ClassFile.FieldType.int), Jvm.Cond.code ({ cls := "com/example/hedge/hedge/automaton/PairMarks", name := "clear", desc := "()V" } : Jvm.MethodName) prog_37_method_9_code (3 : Nat) (Option.none : Option Jvm.ClassFile.FieldType), Jvm.Cond.code ({ cls := "com/example/hedge/hedge/automaton/PairMarks", name := "rowCount", desc := "()I" } : Jvm.MethodName) prog_37_method_7_code (1 : Nat) (Option.some Jvm.ClassFile.FieldType.int), Jvm.Cond.code ({ cls := "com/example/hedge/hedge/automaton/PairMarks", name := "row", desc := "(I)I" } : Jvm.MethodName) prog_37_method_8_code (2 : Nat) (Option.some Jvm.ClassFile.FieldType.int), Jvm.Cond.code ({ cls := "com/example/hedge/hedge/automaton/PairMarks", name := "find", desc := "([II)I" } : Jvm.MethodName) prog_37_method_13_code (4 : Nat) (Option.some Jvm.ClassFile.FieldType.int), Jvm.Cond.code ({ cls := "com/example/hedge/hedge/automaton/PairMarks", name := "slot", desc := "(II)I" } : Jvm.MethodName) prog_37_method_17_code (3 : Nat) (Option.some Jvm.ClassFile.FieldType.int), Jvm.Cond.code ({ cls := "com/example/hedge/hedge/automaton/PairMarks", name := "key", desc := "(I)I" } : Jvm.MethodName) prog_37_method_14_code (1 : Nat) (Option.some Jvm.ClassFile.FieldType.int), Jvm.Cond.code ({ cls := "com/example/hedge/hedge/automaton/PairMarks", name := "secondOf", desc := "(I)I" } : Jvm.MethodName) prog_37_method_15_code (1 : Nat) (Option.some Jvm.ClassFile.FieldType.int)]
set_option maxRecDepth 65536 in
theorem codes_eq : words1.filter isCode = codes1 := rfl
theorem w_codes : ∀ c ∈ words1.filter isCode, c.before args0 about1 = true := by
  rw [codes_eq]
  intro c hc
  simp only [codes1, List.mem_cons, List.not_mem_nil, or_false] at hc
  rcases hc with rfl | rfl | rfl | rfl | rfl | rfl | rfl | rfl | rfl | rfl | rfl | rfl | rfl | rfl | rfl
  · exact w_c0
  · exact w_c1
  · exact w_c2
  · exact w_c3
  · exact w_c4
  · exact w_c5
  · exact w_c6
  · exact w_c7
  · exact w_c8
  · exact w_c9
  · exact w_c10
  · exact w_c11
  · exact w_c12
  · exact w_c13
  · exact w_c14
set_option maxRecDepth 65536 in
theorem w_t1 : (words1.take 24).all (fun c => isCode c || c.before args0 about1) = true := by decide +kernel
set_option maxRecDepth 65536 in
theorem w_t2 : ((words1.drop 24).take 24).all (fun c => isCode c || c.before args0 about1) = true := by decide +kernel
set_option maxRecDepth 65536 in
theorem w_t3 : (((words1.drop 24).drop 24).take 24).all (fun c => isCode c || c.before args0 about1) = true := by decide +kernel
set_option maxRecDepth 65536 in
theorem w_t4 : (((words1.drop 24).drop 24).drop 24).all (fun c => isCode c || c.before args0 about1) = true := by decide +kernel
theorem w_tables : (allAtoms (Jvm.Cond.code x code maxLocals ret :: tables_1)).before args0 about1 = true := by
  rw [allAtoms_all]
  show words1.all (fun c => c.before args0 about1) = true
  refine all_split ?_ w_codes
  rw [← List.take_append_drop 24 words1, List.all_append, w_t1, ← List.take_append_drop 24 (words1.drop 24), List.all_append, w_t2, ← List.take_append_drop 24 ((words1.drop 24).drop 24), List.all_append, w_t3, w_t4]
  rfl
set_option maxRecDepth 65536 in
theorem w_case : (Jvm.Cond.and given_1 narrow_1).before args0 about1 = true := by decide +kernel
theorem w_applies : (headSpec (Jvm.Cond.code x code maxLocals ret :: tables_1) room_1).applies x e0.platform about1 = true :=
  (Spec.applies_iff w_frames).mpr ⟨w_running, w_runnable, w_alone, w_named, w_hears, w_ripe, w_room, w_tables⟩
theorem atStart : AtStart classFile x code maxLocals ret World_1 tables_1 room_1 Calls_1 rest_1 Pre_1 launch0 p0 e0 about1 theMethod args0 below0 :=
  ⟨lists_1, trivial, launch0.admits_env _ _ _, launch0.least_env, fairChoices_fair.cas, fairChoices_fair.clock, w_frames, w_args, w_heap, w_applies, trivial, trivial, w_case⟩
end start1
theorem witness_1 : WitnessClaimed_1 := ⟨start1.p0, start1.e0, start1.about1, start1.theMethod, start1.args0, start1.below0, start1.atStart⟩
end Jvm.Pilot.@@N@@
