import JvmDerived
import JvmDerived.Pilot.@@N@@Statement
import JvmDerived.Pilot.@@N@@Code
set_option linter.unusedVariables false
set_option linter.unusedSimpArgs false
namespace Jvm.RoadKit
open Sem ClassFile Op Lib Jvm.Stand Jvm.Free Jvm.LawKit
section New
variable {p : Program} {l : Launch} {e : Env} {R : Room} {s : State} {m : MethodId} {args : Array Value} {below : List Frame} {meth : Method} {c : Code} {T : State} {locs : List Loc} {cells slots : Nat}
theorem retI (X : Stand p l e R s m args below meth c T locs cells slots) (hx : p.tables.exec = Jvm.exec) {pc : Nat} {Ls : Array Slot} {z : Int32} {rest : List Value} (hret : meth.sig.returnType = some .int) (hd : decode c.code pc = .ok (.ireturn, 1)) {fs : List Frame}
    (hl : ∀ (f : JFrame) (acts : List Action), f.method = m → f.locked = none → f.entered = [] → (doReturn e (T.setTop f) acts (some (.int z))).1 = T.setFrames fs) : Steps p.tables e below (T.setTop (mkF m pc Ls (.int z :: rest))) (T.setFrames fs) := by
  have hm' : T.vm.method? m = some meth := X.method'
  have hn : narrow .int (.int z) = .int z := rfl
  show Steps p.tables e below (T.setTop { method := m, pc := pc, locals := Ls, stack := _ :: rest, locked := none }) _
  jvm_step X.here [X.here.top, hx, hd, hm', hret, hn]
  first | (intro acts; rw [hl _ acts rfl rfl rfl]) | rw [hl _ _ rfl rfl rfl]
  exact Steps.refl _
theorem own_nb {t : FieldType} {c : Prop} [Decidable c] {a b : Int32} (ha : nar t a = a) (hb : nar t b = b) : nar t (if c then a else b) = (if c then a else b) := by
  by_cases h : c
  · rw [if_pos h]; exact ha
  · rw [if_neg h]; exact hb
theorem own_retN (X : Stand p l e R s m args below meth c T locs cells slots) (hx : p.tables.exec = Jvm.exec) {pc : Nat} {Ls : Array Slot} {z : Int32} {t : FieldType} {rest : List Value} (hret : meth.sig.returnType = some t) (ht : t = .boolean ∨ t = .byte ∨ t = .char ∨ t = .short) (hz : nar t z = z)
    (hd : decode c.code pc = .ok (.ireturn, 1)) {fs : List Frame} (hl : ∀ (f : JFrame) (acts : List Action), f.method = m → f.locked = none → f.entered = [] → (doReturn e (T.setTop f) acts (some (.int z))).1 = T.setFrames fs) :
    Steps p.tables e below (T.setTop (mkF m pc Ls (.int z :: rest))) (T.setFrames fs) := retN X hx hret ht hd (by rw [hz]; exact hl)
end New
end Jvm.RoadKit
namespace Jvm.Pilot.@@N@@
open Jvm Jvm.ClassFile Sem Op Lib Jvm.Free Jvm.Stand Jvm.LawKit Jvm.RoadKit Bundle Jvm.Pilot.@@N@@.Jvm.D
/-- from the state A the run comes to some end that P takes -/
def Go (tb : Tables) (e : Env) (below : List Frame) (A : State) (P : State → Outcome → Prop) : Prop := ∃ t o, Steps tb e below A t ∧ P t o
theorem Go.st {tb : Tables} {e : Env} {below : List Frame} {A B : State} {P : State → Outcome → Prop} (h : ∀ t, Steps tb e below A t → Steps tb e below B t) (k : Go tb e below A P) : Go tb e below B P := by
  obtain ⟨t, o, h1, h2⟩ := k; exact ⟨t, o, h t h1, h2⟩
theorem Go.tr {tb : Tables} {e : Env} {below : List Frame} {A B : State} {P : State → Outcome → Prop} (h : Steps tb e below B A) (k : Go tb e below A P) : Go tb e below B P := by
  obtain ⟨t, o, h1, h2⟩ := k; exact ⟨t, o, h.trans h1, h2⟩
theorem Go.start {tb : Tables} {e : Env} {below : List Frame} {A : State} {P0 : State → Outcome → Prop} (h : ∀ P : State → Outcome → Prop, (∀ t o, P0 t o → P t o) → Go tb e below A P) : ∃ t o, Steps tb e below A t ∧ P0 t o := h P0 (fun _ _ q => q)
theorem own_cat {v : Value} (h : v.isRef = true) : v.category = 1 := by rcases ref_cases h with rfl | ⟨_, rfl⟩ <;> rfl
theorem own_cst {tb : Tables} {e : Env} {below : List Frame} {T : State} {m : MethodId} {J : Nat} {Ls : Array Slot} {a b : Int32} {rest : List Value} {t : State} (h : a = b) (k : Steps tb e below (T.setTop (mkF m J Ls (.int a :: rest))) t) : Steps tb e below (T.setTop (mkF m J Ls (.int b :: rest))) t := h ▸ k
theorem own_lt {x y : Int64} (h : x < y) : lcmpW x y < 0 := (lw_lt x y).mpr h
theorem own_nlt {x y : Int64} (h : ¬ x < y) : ¬ lcmpW x y < 0 := fun q => h ((lw_lt x y).mp q)
theorem own_gt {x y : Int64} (h : y < x) : 0 < lcmpW x y := (lw_gt x y).mpr h
theorem own_ngt {x y : Int64} (h : ¬ y < x) : ¬ 0 < lcmpW x y := fun q => h ((lw_gt x y).mp q)
theorem own_eq {x y : Int64} (h : x = y) : lcmpW x y = 0 := (lw_eq x y).mpr h
theorem own_neq {x y : Int64} (h : ¬ x = y) : ¬ lcmpW x y = 0 := fun q => h ((lw_eq x y).mp q)
theorem own_selp {Z s : State} {a0 args : Array Value} {y : MethodName} {k : Nat} (hZ : Z.Warmed39 s.vm) (wi : (Jvm.Cond.instantiable y.cls k).before a0 Z = true) (wp : (Jvm.Cond.privateMethod y).before a0 Z = true) (wm : (Jvm.Cond.instanceMethod y).before a0 Z = true) (hy : y.cls ≠ "java/lang/invoke/MethodHandle" ∧ y.cls ≠ "java/lang/invoke/VarHandle" := by decide) : (Jvm.Cond.selects y.cls y y).before args s = true := by
  have wi' : (Jvm.Cond.instantiable y.cls k).before args s = true := mvT hZ wi
  obtain ⟨c, kc, h1, h2, h3, h4, -⟩ := Cond.instantiable_spec wi'
  exact selects_self_of_private h1 h2 (Bool.or_eq_false_iff.mp h4).1 (Cond.privateMethod_at (mvP hZ wp (args := args))) (mvT hZ wm) hy
theorem d_method_2_0 : decode method_2_code 0 = .ok (.iload_n 0, 1) := by decide +kernel
theorem d_method_2_1 : decode method_2_code 1 = .ok (.bipush 15, 2) := by decide +kernel
theorem d_method_2_3 : decode method_2_code 3 = .ok (.iand, 1) := by decide +kernel
theorem d_method_2_4 : decode method_2_code 4 = .ok (.ireturn, 1) := by decide +kernel
theorem pn_0 : plainName "com/example/gatewright/gatewright/FieldsEncodedSizePinLaw" = true := by first | (simp [plainName, overriddenIn]; done) | decide +kernel
theorem ef_rmNS (mi : MethodId) (p : Int32) : entryFrame mi #[(.int p)] 1 = mkF mi 0 #[.val (.int p)] [] := by first | (simp [entryFrame, mkF, argsToLocals, Value.category]; done) | rfl
def fNS (p : Int32) : Int32 := (p &&& (15 : Int32))
def Q_rmNS (Z : State) (p : Int32) (h0 : Heap) (n0 : Nat) (vv_ : Option Value) (hh_ : Heap) (LL_ : List Loc) : Prop := vv_ = some (.int (fNS p)) ∧ Fr n0 LL_ ∧ hh_ = h0
set_option maxRecDepth 65536 in
set_option maxHeartbeats 40000000 in
theorem rmNS (l : Launch) (Z : State) (a0 : Array Value) (hw : ∀ d ∈ tables_1, d.before a0 Z = true) (ws : List Jvm.Cond) (p : Int32) (h0 : Heap) (n0 : Nat) (Z0 : n0 ≤ h0.size) :
    MetFree l (⟨"com/example/gatewright/gatewright/FieldsEncodedSizePinLaw", "nameStart", "(I)I"⟩ : MethodName) (head1 (Jvm.Cond.code (⟨"com/example/gatewright/gatewright/FieldsEncodedSizePinLaw", "nameStart", "(I)I"⟩ : MethodName) method_2_code 1 (some .int) :: ws) ({ frames := 0, cells := 0, slots := 0, locals := 0 } : Room)) (fun aa_ U => aa_ = #[(.int p)] ∧ Z.Warmed39 U.vm ∧ U.heap = h0) (fun _ _ _ _ _ => True) (fun _ U oo_ UV_ => ∃ vv_ LL_, oo_ = .returned vv_ ∧ Q_rmNS Z p h0 n0 vv_ UV_.heap LL_ ∧ FrameEnd U oo_ UV_ LL_ ({ frames := 0, cells := 0, slots := 0, locals := 0 } : Room).cells ({ frames := 0, cells := 0, slots := 0, locals := 0 } : Room).slots) := by
  refine MetFree.of_bodySF (plainFor_of_name pn_0) hisR ?_
  intro pg ev si mi args below meth ci s₁ Bd hml0 hP0 hK
  obtain ⟨rfl, hZ, hh⟩ := hP0
  have hx := Bd.exec
  have hby := Bd.bytes
  have hml : ci.maxLocals = 1 := hml0
  have hown : si.vm.findClass "com/example/gatewright/gatewright/FieldsEncodedSizePinLaw" = some mi.cls := findClass_of_methodNamed Bd.named
  have hnm := (name_of_methodNamed Bd.named Bd.method).1
  have X0 : Stand pg l ev ({ frames := 0, cells := 0, slots := 0, locals := 0 } : Room) si mi #[(.int p)] below meth ci s₁ [] 0 0 := Stand.of_body Bd
  have e0 : s₁.heap = h0 := by rw [← hh, Bd.state]; rfl
  have N0 := Fr.nil n0
  refine Go.start (fun P hP => ?_)
  refine Go.st (fun t_ k_ => castTop (ef_rmNS mi p) k_) (A := s₁.setTop (mkF mi 0 #[.val (.int p)] [])) ?_
  show Go pg.tables ev below (s₁.setTop (mkF mi 0 #[.val (.int p)] [])) P
  refine Go.st (fun t_ k_ => XS.iloadN X0.here hx rfl (hb hby d_method_2_0) rfl k_) ?_
  show Go pg.tables ev below (s₁.setTop (mkF mi 1 #[.val (.int p)] [(.int p)])) P
  refine Go.st (fun t_ k_ => XS.bipush X0.here hx rfl (hb hby d_method_2_1) k_) ?_
  show Go pg.tables ev below (s₁.setTop (mkF mi 3 #[.val (.int p)] [(.int (15 : Int32)), (.int p)])) P
  refine Go.st (fun t_ k_ => XS.iand X0.here hx rfl (hb hby d_method_2_3) rfl k_) ?_
  show Go pg.tables ev below (s₁.setTop (mkF mi 4 #[.val (.int p)] [(.int (p &&& (15 : Int32)))])) P
  obtain ⟨fs, hr, hrun, hended, hW, hsame⟩ := X0.leave (v := some (.int (p &&& (15 : Int32)))) (fun h => by rw [Bd.returns] at h; cases h) (BodyLoose.notSynchronized Bd)
  refine ⟨_, _, ?_, hP _ _ ⟨hrun, hended, _, _, rfl, ?_, ⟨_, rfl⟩, hW, hsame.mono (by decide) (by decide)⟩⟩
  · exact retI X0 hx Bd.returns (hb hby d_method_2_4) hr
  · show (some (.int (p &&& (15 : Int32))) : Option Value) = some (.int (fNS p)) ∧ Fr n0 _ ∧ s₁.heap = h0
    rw [e0]
    exact ⟨by rw [show fNS p = (p &&& (15 : Int32)) from rfl], N0, rfl⟩
theorem d_method_4_0 : decode method_4_code 0 = .ok (.iload_n 0, 1) := by decide +kernel
theorem d_method_4_1 : decode method_4_code 1 = .ok (.bipush 8, 2) := by decide +kernel
theorem d_method_4_3 : decode method_4_code 3 = .ok (.iushr, 1) := by decide +kernel
theorem d_method_4_4 : decode method_4_code 4 = .ok (.bipush 15, 2) := by decide +kernel
theorem d_method_4_6 : decode method_4_code 6 = .ok (.iand, 1) := by decide +kernel
theorem d_method_4_7 : decode method_4_code 7 = .ok (.ireturn, 1) := by decide +kernel
theorem ef_rmVS (mi : MethodId) (p : Int32) : entryFrame mi #[(.int p)] 1 = mkF mi 0 #[.val (.int p)] [] := by first | (simp [entryFrame, mkF, argsToLocals, Value.category]; done) | rfl
def fVS (p : Int32) : Int32 := (((p.toUInt32 >>> ((8 : Int32) &&& 31).toUInt32).toInt32) &&& (15 : Int32))
def Q_rmVS (Z : State) (p : Int32) (h0 : Heap) (n0 : Nat) (vv_ : Option Value) (hh_ : Heap) (LL_ : List Loc) : Prop := vv_ = some (.int (fVS p)) ∧ Fr n0 LL_ ∧ hh_ = h0
set_option maxRecDepth 65536 in
set_option maxHeartbeats 40000000 in
theorem rmVS (l : Launch) (Z : State) (a0 : Array Value) (hw : ∀ d ∈ tables_1, d.before a0 Z = true) (ws : List Jvm.Cond) (p : Int32) (h0 : Heap) (n0 : Nat) (Z0 : n0 ≤ h0.size) :
    MetFree l (⟨"com/example/gatewright/gatewright/FieldsEncodedSizePinLaw", "valueStart", "(I)I"⟩ : MethodName) (head1 (Jvm.Cond.code (⟨"com/example/gatewright/gatewright/FieldsEncodedSizePinLaw", "valueStart", "(I)I"⟩ : MethodName) method_4_code 1 (some .int) :: ws) ({ frames := 0, cells := 0, slots := 0, locals := 0 } : Room)) (fun aa_ U => aa_ = #[(.int p)] ∧ Z.Warmed39 U.vm ∧ U.heap = h0) (fun _ _ _ _ _ => True) (fun _ U oo_ UV_ => ∃ vv_ LL_, oo_ = .returned vv_ ∧ Q_rmVS Z p h0 n0 vv_ UV_.heap LL_ ∧ FrameEnd U oo_ UV_ LL_ ({ frames := 0, cells := 0, slots := 0, locals := 0 } : Room).cells ({ frames := 0, cells := 0, slots := 0, locals := 0 } : Room).slots) := by
  refine MetFree.of_bodySF (plainFor_of_name pn_0) hisR ?_
  intro pg ev si mi args below meth ci s₁ Bd hml0 hP0 hK
  obtain ⟨rfl, hZ, hh⟩ := hP0
  have hx := Bd.exec
  have hby := Bd.bytes
  have hml : ci.maxLocals = 1 := hml0
  have hown : si.vm.findClass "com/example/gatewright/gatewright/FieldsEncodedSizePinLaw" = some mi.cls := findClass_of_methodNamed Bd.named
  have hnm := (name_of_methodNamed Bd.named Bd.method).1
  have X0 : Stand pg l ev ({ frames := 0, cells := 0, slots := 0, locals := 0 } : Room) si mi #[(.int p)] below meth ci s₁ [] 0 0 := Stand.of_body Bd
  have e0 : s₁.heap = h0 := by rw [← hh, Bd.state]; rfl
  have N0 := Fr.nil n0
  refine Go.start (fun P hP => ?_)
  refine Go.st (fun t_ k_ => castTop (ef_rmVS mi p) k_) (A := s₁.setTop (mkF mi 0 #[.val (.int p)] [])) ?_
  show Go pg.tables ev below (s₁.setTop (mkF mi 0 #[.val (.int p)] [])) P
  refine Go.st (fun t_ k_ => XS.iloadN X0.here hx rfl (hb hby d_method_4_0) rfl k_) ?_
  show Go pg.tables ev below (s₁.setTop (mkF mi 1 #[.val (.int p)] [(.int p)])) P
  refine Go.st (fun t_ k_ => XS.bipush X0.here hx rfl (hb hby d_method_4_1) k_) ?_
  show Go pg.tables ev below (s₁.setTop (mkF mi 3 #[.val (.int p)] [(.int (8 : Int32)), (.int p)])) P
  refine Go.st (fun t_ k_ => XS.iushr X0.here hx rfl (hb hby d_method_4_3) rfl k_) ?_
  show Go pg.tables ev below (s₁.setTop (mkF mi 4 #[.val (.int p)] [(.int ((p.toUInt32 >>> ((8 : Int32) &&& 31).toUInt32).toInt32))])) P
  refine Go.st (fun t_ k_ => XS.bipush X0.here hx rfl (hb hby d_method_4_4) k_) ?_
  show Go pg.tables ev below (s₁.setTop (mkF mi 6 #[.val (.int p)] [(.int (15 : Int32)), (.int ((p.toUInt32 >>> ((8 : Int32) &&& 31).toUInt32).toInt32))])) P
  refine Go.st (fun t_ k_ => XS.iand X0.here hx rfl (hb hby d_method_4_6) rfl k_) ?_
  show Go pg.tables ev below (s₁.setTop (mkF mi 7 #[.val (.int p)] [(.int (((p.toUInt32 >>> ((8 : Int32) &&& 31).toUInt32).toInt32) &&& (15 : Int32)))])) P
  obtain ⟨fs, hr, hrun, hended, hW, hsame⟩ := X0.leave (v := some (.int (((p.toUInt32 >>> ((8 : Int32) &&& 31).toUInt32).toInt32) &&& (15 : Int32)))) (fun h => by rw [Bd.returns] at h; cases h) (BodyLoose.notSynchronized Bd)
  refine ⟨_, _, ?_, hP _ _ ⟨hrun, hended, _, _, rfl, ?_, ⟨_, rfl⟩, hW, hsame.mono (by decide) (by decide)⟩⟩
  · exact retI X0 hx Bd.returns (hb hby d_method_4_7) hr
  · show (some (.int (((p.toUInt32 >>> ((8 : Int32) &&& 31).toUInt32).toInt32) &&& (15 : Int32))) : Option Value) = some (.int (fVS p)) ∧ Fr n0 _ ∧ s₁.heap = h0
    rw [e0]
    exact ⟨by rw [show fVS p = (((p.toUInt32 >>> ((8 : Int32) &&& 31).toUInt32).toInt32) &&& (15 : Int32)) from rfl], N0, rfl⟩
theorem d_method_3_0 : decode method_3_code 0 = .ok (.iload_n 0, 1) := by decide +kernel
theorem d_method_3_1 : decode method_3_code 1 = .ok (.iconst 4, 1) := by decide +kernel
theorem d_method_3_2 : decode method_3_code 2 = .ok (.iushr, 1) := by decide +kernel
theorem d_method_3_3 : decode method_3_code 3 = .ok (.bipush 15, 2) := by decide +kernel
theorem d_method_3_5 : decode method_3_code 5 = .ok (.iand, 1) := by decide +kernel
theorem d_method_3_6 : decode method_3_code 6 = .ok (.ireturn, 1) := by decide +kernel
theorem ef_rmNL (mi : MethodId) (p : Int32) : entryFrame mi #[(.int p)] 1 = mkF mi 0 #[.val (.int p)] [] := by first | (simp [entryFrame, mkF, argsToLocals, Value.category]; done) | rfl
def fNL (p : Int32) : Int32 := (((p.toUInt32 >>> ((4 : Int32) &&& 31).toUInt32).toInt32) &&& (15 : Int32))
def Q_rmNL (Z : State) (p : Int32) (h0 : Heap) (n0 : Nat) (vv_ : Option Value) (hh_ : Heap) (LL_ : List Loc) : Prop := vv_ = some (.int (fNL p)) ∧ Fr n0 LL_ ∧ hh_ = h0
set_option maxRecDepth 65536 in
set_option maxHeartbeats 40000000 in
theorem rmNL (l : Launch) (Z : State) (a0 : Array Value) (hw : ∀ d ∈ tables_1, d.before a0 Z = true) (ws : List Jvm.Cond) (p : Int32) (h0 : Heap) (n0 : Nat) (Z0 : n0 ≤ h0.size) :
    MetFree l (⟨"com/example/gatewright/gatewright/FieldsEncodedSizePinLaw", "nameLength", "(I)I"⟩ : MethodName) (head1 (Jvm.Cond.code (⟨"com/example/gatewright/gatewright/FieldsEncodedSizePinLaw", "nameLength", "(I)I"⟩ : MethodName) method_3_code 1 (some .int) :: ws) ({ frames := 0, cells := 0, slots := 0, locals := 0 } : Room)) (fun aa_ U => aa_ = #[(.int p)] ∧ Z.Warmed39 U.vm ∧ U.heap = h0) (fun _ _ _ _ _ => True) (fun _ U oo_ UV_ => ∃ vv_ LL_, oo_ = .returned vv_ ∧ Q_rmNL Z p h0 n0 vv_ UV_.heap LL_ ∧ FrameEnd U oo_ UV_ LL_ ({ frames := 0, cells := 0, slots := 0, locals := 0 } : Room).cells ({ frames := 0, cells := 0, slots := 0, locals := 0 } : Room).slots) := by
  refine MetFree.of_bodySF (plainFor_of_name pn_0) hisR ?_
  intro pg ev si mi args below meth ci s₁ Bd hml0 hP0 hK
  obtain ⟨rfl, hZ, hh⟩ := hP0
  have hx := Bd.exec
  have hby := Bd.bytes
  have hml : ci.maxLocals = 1 := hml0
  have hown : si.vm.findClass "com/example/gatewright/gatewright/FieldsEncodedSizePinLaw" = some mi.cls := findClass_of_methodNamed Bd.named
  have hnm := (name_of_methodNamed Bd.named Bd.method).1
  have X0 : Stand pg l ev ({ frames := 0, cells := 0, slots := 0, locals := 0 } : Room) si mi #[(.int p)] below meth ci s₁ [] 0 0 := Stand.of_body Bd
  have e0 : s₁.heap = h0 := by rw [← hh, Bd.state]; rfl
  have N0 := Fr.nil n0
  refine Go.start (fun P hP => ?_)
  refine Go.st (fun t_ k_ => castTop (ef_rmNL mi p) k_) (A := s₁.setTop (mkF mi 0 #[.val (.int p)] [])) ?_
  show Go pg.tables ev below (s₁.setTop (mkF mi 0 #[.val (.int p)] [])) P
  refine Go.st (fun t_ k_ => XS.iloadN X0.here hx rfl (hb hby d_method_3_0) rfl k_) ?_
  show Go pg.tables ev below (s₁.setTop (mkF mi 1 #[.val (.int p)] [(.int p)])) P
  refine Go.st (fun t_ k_ => XS.iconst X0.here hx rfl (hb hby d_method_3_1) k_) ?_
  show Go pg.tables ev below (s₁.setTop (mkF mi 2 #[.val (.int p)] [(.int (4 : Int32)), (.int p)])) P
  refine Go.st (fun t_ k_ => XS.iushr X0.here hx rfl (hb hby d_method_3_2) rfl k_) ?_
  show Go pg.tables ev below (s₁.setTop (mkF mi 3 #[.val (.int p)] [(.int ((p.toUInt32 >>> ((4 : Int32) &&& 31).toUInt32).toInt32))])) P
  refine Go.st (fun t_ k_ => XS.bipush X0.here hx rfl (hb hby d_method_3_3) k_) ?_
  show Go pg.tables ev below (s₁.setTop (mkF mi 5 #[.val (.int p)] [(.int (15 : Int32)), (.int ((p.toUInt32 >>> ((4 : Int32) &&& 31).toUInt32).toInt32))])) P
  refine Go.st (fun t_ k_ => XS.iand X0.here hx rfl (hb hby d_method_3_5) rfl k_) ?_
  show Go pg.tables ev below (s₁.setTop (mkF mi 6 #[.val (.int p)] [(.int (((p.toUInt32 >>> ((4 : Int32) &&& 31).toUInt32).toInt32) &&& (15 : Int32)))])) P
  obtain ⟨fs, hr, hrun, hended, hW, hsame⟩ := X0.leave (v := some (.int (((p.toUInt32 >>> ((4 : Int32) &&& 31).toUInt32).toInt32) &&& (15 : Int32)))) (fun h => by rw [Bd.returns] at h; cases h) (BodyLoose.notSynchronized Bd)
  refine ⟨_, _, ?_, hP _ _ ⟨hrun, hended, _, _, rfl, ?_, ⟨_, rfl⟩, hW, hsame.mono (by decide) (by decide)⟩⟩
  · exact retI X0 hx Bd.returns (hb hby d_method_3_6) hr
  · show (some (.int (((p.toUInt32 >>> ((4 : Int32) &&& 31).toUInt32).toInt32) &&& (15 : Int32))) : Option Value) = some (.int (fNL p)) ∧ Fr n0 _ ∧ s₁.heap = h0
    rw [e0]
    exact ⟨by rw [show fNL p = (((p.toUInt32 >>> ((4 : Int32) &&& 31).toUInt32).toInt32) &&& (15 : Int32)) from rfl], N0, rfl⟩
theorem d_method_5_0 : decode method_5_code 0 = .ok (.iload_n 0, 1) := by decide +kernel
theorem d_method_5_1 : decode method_5_code 1 = .ok (.bipush 12, 2) := by decide +kernel
theorem d_method_5_3 : decode method_5_code 3 = .ok (.iushr, 1) := by decide +kernel
theorem d_method_5_4 : decode method_5_code 4 = .ok (.bipush 31, 2) := by decide +kernel
theorem d_method_5_6 : decode method_5_code 6 = .ok (.iand, 1) := by decide +kernel
theorem d_method_5_7 : decode method_5_code 7 = .ok (.ireturn, 1) := by decide +kernel
theorem ef_rmVL (mi : MethodId) (p : Int32) : entryFrame mi #[(.int p)] 1 = mkF mi 0 #[.val (.int p)] [] := by first | (simp [entryFrame, mkF, argsToLocals, Value.category]; done) | rfl
def fVL (p : Int32) : Int32 := (((p.toUInt32 >>> ((12 : Int32) &&& 31).toUInt32).toInt32) &&& (31 : Int32))
def Q_rmVL (Z : State) (p : Int32) (h0 : Heap) (n0 : Nat) (vv_ : Option Value) (hh_ : Heap) (LL_ : List Loc) : Prop := vv_ = some (.int (fVL p)) ∧ Fr n0 LL_ ∧ hh_ = h0
set_option maxRecDepth 65536 in
set_option maxHeartbeats 40000000 in
theorem rmVL (l : Launch) (Z : State) (a0 : Array Value) (hw : ∀ d ∈ tables_1, d.before a0 Z = true) (ws : List Jvm.Cond) (p : Int32) (h0 : Heap) (n0 : Nat) (Z0 : n0 ≤ h0.size) :
    MetFree l (⟨"com/example/gatewright/gatewright/FieldsEncodedSizePinLaw", "valueLength", "(I)I"⟩ : MethodName) (head1 (Jvm.Cond.code (⟨"com/example/gatewright/gatewright/FieldsEncodedSizePinLaw", "valueLength", "(I)I"⟩ : MethodName) method_5_code 1 (some .int) :: ws) ({ frames := 0, cells := 0, slots := 0, locals := 0 } : Room)) (fun aa_ U => aa_ = #[(.int p)] ∧ Z.Warmed39 U.vm ∧ U.heap = h0) (fun _ _ _ _ _ => True) (fun _ U oo_ UV_ => ∃ vv_ LL_, oo_ = .returned vv_ ∧ Q_rmVL Z p h0 n0 vv_ UV_.heap LL_ ∧ FrameEnd U oo_ UV_ LL_ ({ frames := 0, cells := 0, slots := 0, locals := 0 } : Room).cells ({ frames := 0, cells := 0, slots := 0, locals := 0 } : Room).slots) := by
  refine MetFree.of_bodySF (plainFor_of_name pn_0) hisR ?_
  intro pg ev si mi args below meth ci s₁ Bd hml0 hP0 hK
  obtain ⟨rfl, hZ, hh⟩ := hP0
  have hx := Bd.exec
  have hby := Bd.bytes
  have hml : ci.maxLocals = 1 := hml0
  have hown : si.vm.findClass "com/example/gatewright/gatewright/FieldsEncodedSizePinLaw" = some mi.cls := findClass_of_methodNamed Bd.named
  have hnm := (name_of_methodNamed Bd.named Bd.method).1
  have X0 : Stand pg l ev ({ frames := 0, cells := 0, slots := 0, locals := 0 } : Room) si mi #[(.int p)] below meth ci s₁ [] 0 0 := Stand.of_body Bd
  have e0 : s₁.heap = h0 := by rw [← hh, Bd.state]; rfl
  have N0 := Fr.nil n0
  refine Go.start (fun P hP => ?_)
  refine Go.st (fun t_ k_ => castTop (ef_rmVL mi p) k_) (A := s₁.setTop (mkF mi 0 #[.val (.int p)] [])) ?_
  show Go pg.tables ev below (s₁.setTop (mkF mi 0 #[.val (.int p)] [])) P
  refine Go.st (fun t_ k_ => XS.iloadN X0.here hx rfl (hb hby d_method_5_0) rfl k_) ?_
  show Go pg.tables ev below (s₁.setTop (mkF mi 1 #[.val (.int p)] [(.int p)])) P
  refine Go.st (fun t_ k_ => XS.bipush X0.here hx rfl (hb hby d_method_5_1) k_) ?_
  show Go pg.tables ev below (s₁.setTop (mkF mi 3 #[.val (.int p)] [(.int (12 : Int32)), (.int p)])) P
  refine Go.st (fun t_ k_ => XS.iushr X0.here hx rfl (hb hby d_method_5_3) rfl k_) ?_
  show Go pg.tables ev below (s₁.setTop (mkF mi 4 #[.val (.int p)] [(.int ((p.toUInt32 >>> ((12 : Int32) &&& 31).toUInt32).toInt32))])) P
  refine Go.st (fun t_ k_ => XS.bipush X0.here hx rfl (hb hby d_method_5_4) k_) ?_
  show Go pg.tables ev below (s₁.setTop (mkF mi 6 #[.val (.int p)] [(.int (31 : Int32)), (.int ((p.toUInt32 >>> ((12 : Int32) &&& 31).toUInt32).toInt32))])) P
  refine Go.st (fun t_ k_ => XS.iand X0.here hx rfl (hb hby d_method_5_6) rfl k_) ?_
  show Go pg.tables ev below (s₁.setTop (mkF mi 7 #[.val (.int p)] [(.int (((p.toUInt32 >>> ((12 : Int32) &&& 31).toUInt32).toInt32) &&& (31 : Int32)))])) P
  obtain ⟨fs, hr, hrun, hended, hW, hsame⟩ := X0.leave (v := some (.int (((p.toUInt32 >>> ((12 : Int32) &&& 31).toUInt32).toInt32) &&& (31 : Int32)))) (fun h => by rw [Bd.returns] at h; cases h) (BodyLoose.notSynchronized Bd)
  refine ⟨_, _, ?_, hP _ _ ⟨hrun, hended, _, _, rfl, ?_, ⟨_, rfl⟩, hW, hsame.mono (by decide) (by decide)⟩⟩
  · exact retI X0 hx Bd.returns (hb hby d_method_5_7) hr
  · show (some (.int (((p.toUInt32 >>> ((12 : Int32) &&& 31).toUInt32).toInt32) &&& (31 : Int32))) : Option Value) = some (.int (fVL p)) ∧ Fr n0 _ ∧ s₁.heap = h0
    rw [e0]
    exact ⟨by rw [show fVL p = (((p.toUInt32 >>> ((12 : Int32) &&& 31).toUInt32).toInt32) &&& (31 : Int32)) from rfl], N0, rfl⟩
theorem d_method_7_0 : decode method_7_code 0 = .ok (.iload_n 0, 1) := by decide +kernel
theorem d_method_7_1 : decode method_7_code 1 = .ok (.invokestatic 18, 3) := by decide +kernel
theorem pd_0 : parseMethodDescriptor "(I)I" = some ⟨[.int], some .int⟩ := by decide +kernel
theorem d_method_7_4 : decode method_7_code 4 = .ok (.iload_n 0, 1) := by decide +kernel
theorem d_method_7_5 : decode method_7_code 5 = .ok (.invokestatic 21, 3) := by decide +kernel
theorem d_method_7_8 : decode method_7_code 8 = .ok (.iadd, 1) := by decide +kernel
theorem d_method_7_9 : decode method_7_code 9 = .ok (.iconst 4, 1) := by decide +kernel
theorem d_method_7_10 : decode method_7_code 10 = .ok (.iadd, 1) := by decide +kernel
theorem d_method_7_11 : decode method_7_code 11 = .ok (.ireturn, 1) := by decide +kernel
theorem ef_rmLS (mi : MethodId) (p : Int32) : entryFrame mi #[(.int p)] 1 = mkF mi 0 #[.val (.int p)] [] := by first | (simp [entryFrame, mkF, argsToLocals, Value.category]; done) | rfl
def fLS (p : Int32) : Int32 := (((fNL p) + (fVL p)) + (4 : Int32))
def Q_rmLS (Z : State) (p : Int32) (h0 : Heap) (n0 : Nat) (vv_ : Option Value) (hh_ : Heap) (LL_ : List Loc) : Prop := vv_ = some (.int (fLS p)) ∧ Fr n0 LL_ ∧ hh_ = h0
set_option maxRecDepth 65536 in
set_option maxHeartbeats 40000000 in
theorem rmLS (l : Launch) (Z : State) (a0 : Array Value) (hw : ∀ d ∈ tables_1, d.before a0 Z = true) (ws : List Jvm.Cond) (p : Int32) (h0 : Heap) (n0 : Nat) (Z0 : n0 ≤ h0.size) :
    MetFree l (⟨"com/example/gatewright/gatewright/FieldsEncodedSizePinLaw", "lineSize", "(I)I"⟩ : MethodName) (head1 (Jvm.Cond.code (⟨"com/example/gatewright/gatewright/FieldsEncodedSizePinLaw", "lineSize", "(I)I"⟩ : MethodName) method_7_code 1 (some .int) :: ws) ({ frames := 1, cells := 0, slots := 0, locals := 13 } : Room)) (fun aa_ U => aa_ = #[(.int p)] ∧ Z.Warmed39 U.vm ∧ U.heap = h0) (fun _ _ _ _ _ => True) (fun _ U oo_ UV_ => ∃ vv_ LL_, oo_ = .returned vv_ ∧ Q_rmLS Z p h0 n0 vv_ UV_.heap LL_ ∧ FrameEnd U oo_ UV_ LL_ ({ frames := 1, cells := 0, slots := 0, locals := 13 } : Room).cells ({ frames := 1, cells := 0, slots := 0, locals := 13 } : Room).slots) := by
  refine MetFree.of_bodySF (plainFor_of_name pn_0) hisR ?_
  intro pg ev si mi args below meth ci s₁ Bd hml0 hP0 hK
  obtain ⟨rfl, hZ, hh⟩ := hP0
  have hx := Bd.exec
  have hby := Bd.bytes
  have hml : ci.maxLocals = 1 := hml0
  have hown : si.vm.findClass "com/example/gatewright/gatewright/FieldsEncodedSizePinLaw" = some mi.cls := findClass_of_methodNamed Bd.named
  have hnm := (name_of_methodNamed Bd.named Bd.method).1
  have X0 : Stand pg l ev ({ frames := 1, cells := 0, slots := 0, locals := 13 } : Room) si mi #[(.int p)] below meth ci s₁ [] 0 0 := Stand.of_body Bd
  have e0 : s₁.heap = h0 := by rw [← hh, Bd.state]; rfl
  have N0 := Fr.nil n0
  refine Go.start (fun P hP => ?_)
  refine Go.st (fun t_ k_ => castTop (ef_rmLS mi p) k_) (A := s₁.setTop (mkF mi 0 #[.val (.int p)] [])) ?_
  show Go pg.tables ev below (s₁.setTop (mkF mi 0 #[.val (.int p)] [])) P
  refine Go.st (fun t_ k_ => XS.iloadN X0.here hx rfl (hb hby d_method_7_0) rfl k_) ?_
  show Go pg.tables ev below (s₁.setTop (mkF mi 1 #[.val (.int p)] [(.int p)])) P
  obtain ⟨_, _, ⟨T1, L1, k1, n1⟩, -, X1, ⟨Lc1, hQ1, l1, y1, z1⟩, st1⟩ := Jvm.LawKit.callS X0 hx (y := (⟨"com/example/gatewright/gatewright/FieldsEncodedSizePinLaw", "nameLength", "(I)I"⟩ : MethodName)) hown (mvT hZ (hw _ (List.mem_of_getElem? (i := 40) rfl))) (mvT hZ (hw _ (List.mem_of_getElem? (i := 41) rfl))) (mvT hZ (hw _ (List.mem_of_getElem? (i := 32) rfl))) (mvT hZ (hw _ (List.mem_of_getElem? (i := 42) rfl))) (by decide) (backOf (W := 0) (rmNL l Z a0 hw [] p h0 n0 Z0) hZ (hw _ (List.mem_of_getElem? (i := 42) rfl)) (hw _ (List.mem_of_getElem? (i := 32) rfl)) (by decide) (by decide)) (g := (mkF mi 1 #[.val (.int p)] [(.int p)])) rfl (by rw [hml]; rfl) (argsL := [(.int p)]) (rest := []) (lenOf pd_0 rfl) rfl (by show 2 * 0 + _ ≤ _; exact Nat.le_of_eq rfl) (hb hby d_method_7_1) (fun _ _ => ⟨rfl, e0, (by decide : 0 + 0 ≤ _), (by decide : 0 + 0 ≤ _)⟩)
  dsimp only [Pt.U, Pt.locs, Pt.cells, Pt.slots] at X1 l1 y1 z1 st1 hQ1
  subst l1 y1 z1
  obtain ⟨rfl, N1q, e1⟩ := hQ1
  have N1 := Fr.app N0 N1q
  refine Go.st st1 ?_
  show Go pg.tables ev below (T1.setTop (mkF mi 4 #[.val (.int p)] [(.int (fNL p))])) P
  refine Go.st (fun t_ k_ => XS.iloadN X1.here hx rfl (hb hby d_method_7_4) rfl k_) ?_
  show Go pg.tables ev below (T1.setTop (mkF mi 5 #[.val (.int p)] [(.int p), (.int (fNL p))])) P
  obtain ⟨_, _, ⟨T2, L2, k2, n2⟩, -, X2, ⟨Lc2, hQ2, l2, y2, z2⟩, st2⟩ := Jvm.LawKit.callS X1 hx (y := (⟨"com/example/gatewright/gatewright/FieldsEncodedSizePinLaw", "valueLength", "(I)I"⟩ : MethodName)) hown (mvT hZ (hw _ (List.mem_of_getElem? (i := 43) rfl))) (mvT hZ (hw _ (List.mem_of_getElem? (i := 44) rfl))) (mvT hZ (hw _ (List.mem_of_getElem? (i := 32) rfl))) (mvT hZ (hw _ (List.mem_of_getElem? (i := 45) rfl))) (by decide) (backOf (W := 1) (rmVL l Z a0 hw [] p h0 n0 Z0) hZ (hw _ (List.mem_of_getElem? (i := 45) rfl)) (hw _ (List.mem_of_getElem? (i := 32) rfl)) (by decide) (by decide)) (g := (mkF mi 5 #[.val (.int p)] [(.int p), (.int (fNL p))])) rfl (by rw [hml]; rfl) (argsL := [(.int p)]) (rest := [(.int (fNL p))]) (lenOf pd_0 rfl) rfl (by show 2 * 0 + _ ≤ _; exact Nat.le_of_eq rfl) (hb hby d_method_7_5) (fun _ _ => ⟨rfl, e1, (by decide : 0 + 0 ≤ _), (by decide : 0 + 0 ≤ _)⟩)
  dsimp only [Pt.U, Pt.locs, Pt.cells, Pt.slots] at X2 l2 y2 z2 st2 hQ2
  subst l2 y2 z2
  obtain ⟨rfl, N2q, e2⟩ := hQ2
  have N2 := Fr.app N1 N2q
  refine Go.st st2 ?_
  show Go pg.tables ev below (T2.setTop (mkF mi 8 #[.val (.int p)] [(.int (fVL p)), (.int (fNL p))])) P
  refine Go.st (fun t_ k_ => XS.iadd X2.here hx rfl (hb hby d_method_7_8) rfl k_) ?_
  show Go pg.tables ev below (T2.setTop (mkF mi 9 #[.val (.int p)] [(.int ((fNL p) + (fVL p)))])) P
  refine Go.st (fun t_ k_ => XS.iconst X2.here hx rfl (hb hby d_method_7_9) k_) ?_
  show Go pg.tables ev below (T2.setTop (mkF mi 10 #[.val (.int p)] [(.int (4 : Int32)), (.int ((fNL p) + (fVL p)))])) P
  refine Go.st (fun t_ k_ => XS.iadd X2.here hx rfl (hb hby d_method_7_10) rfl k_) ?_
  show Go pg.tables ev below (T2.setTop (mkF mi 11 #[.val (.int p)] [(.int (((fNL p) + (fVL p)) + (4 : Int32)))])) P
  obtain ⟨fs, hr, hrun, hended, hW, hsame⟩ := X2.leave (v := some (.int (((fNL p) + (fVL p)) + (4 : Int32)))) (fun h => by rw [Bd.returns] at h; cases h) (BodyLoose.notSynchronized Bd)
  refine ⟨_, _, ?_, hP _ _ ⟨hrun, hended, _, _, rfl, ?_, ⟨_, rfl⟩, hW, hsame.mono (by decide) (by decide)⟩⟩
  · exact retI X2 hx Bd.returns (hb hby d_method_7_11) hr
  · show (some (.int (((fNL p) + (fVL p)) + (4 : Int32))) : Option Value) = some (.int (fLS p)) ∧ Fr n0 _ ∧ T2.heap = h0
    rw [e2]
    exact ⟨by rw [show fLS p = (((fNL p) + (fVL p)) + (4 : Int32)) from rfl], N2, rfl⟩
theorem d_prog_5_method_1_0 : decode prog_5_method_1_code 0 = .ok (.aload_n 0, 1) := by decide +kernel
theorem d_prog_5_method_1_1 : decode prog_5_method_1_code 1 = .ok (.invokespecial 1, 3) := by decide +kernel
theorem d_prog_5_method_1_4 : decode prog_5_method_1_code 4 = .ok (.aload_n 0, 1) := by decide +kernel
theorem d_prog_5_method_1_5 : decode prog_5_method_1_code 5 = .ok (.bipush 8, 2) := by decide +kernel
theorem d_prog_5_method_1_7 : decode prog_5_method_1_code 7 = .ok (.anewarray 7, 3) := by decide +kernel
theorem d_prog_5_method_1_10 : decode prog_5_method_1_code 10 = .ok (.putfield 9, 3) := by decide +kernel
theorem d_prog_5_method_1_13 : decode prog_5_method_1_code 13 = .ok (.aload_n 0, 1) := by decide +kernel
theorem d_prog_5_method_1_14 : decode prog_5_method_1_code 14 = .ok (.bipush 8, 2) := by decide +kernel
theorem d_prog_5_method_1_16 : decode prog_5_method_1_code 16 = .ok (.anewarray 7, 3) := by decide +kernel
theorem d_prog_5_method_1_19 : decode prog_5_method_1_code 19 = .ok (.putfield 15, 3) := by decide +kernel
theorem d_prog_5_method_1_22 : decode prog_5_method_1_code 22 = .ok (.aload_n 0, 1) := by decide +kernel
theorem d_prog_5_method_1_23 : decode prog_5_method_1_code 23 = .ok (.bipush 32, 2) := by decide +kernel
theorem d_prog_5_method_1_25 : decode prog_5_method_1_code 25 = .ok (.newarray .int, 2) := by decide +kernel
theorem d_prog_5_method_1_27 : decode prog_5_method_1_code 27 = .ok (.putfield 18, 3) := by decide +kernel
theorem d_prog_5_method_1_30 : decode prog_5_method_1_code 30 = .ok (.aload_n 0, 1) := by decide +kernel
theorem d_prog_5_method_1_31 : decode prog_5_method_1_code 31 = .ok (.bipush 8, 2) := by decide +kernel
theorem d_prog_5_method_1_33 : decode prog_5_method_1_code 33 = .ok (.anewarray 22, 3) := by decide +kernel
theorem d_prog_5_method_1_36 : decode prog_5_method_1_code 36 = .ok (.putfield 24, 3) := by decide +kernel
theorem d_prog_5_method_1_39 : decode prog_5_method_1_code 39 = .ok (.return_, 1) := by decide +kernel
theorem pn_1 : plainName "com/example/gatewright/gatewright/Fields" = true := by first | (simp [plainName, overriddenIn]; done) | decide +kernel
theorem ef_rmI (mi : MethodId) (o : Addr) : entryFrame mi #[(.ref o)] 1 = mkF mi 0 #[.val (.ref o)] [] := by first | (simp [entryFrame, mkF, argsToLocals, Value.category]; done) | rfl
def Q_rmI (Z : State) (o : Addr) (h0 : Heap) (n0 : Nat) (vv_ : Option Value) (hh_ : Heap) (LL_ : List Loc) : Prop := vv_ = none ∧ Fr n0 LL_ ∧ Keep h0 hh_ [o] ∧ ∃ (nb vb sp kn : Addr) (kN kV kS kK : ClassId), h0.size ≤ nb ∧ h0.size ≤ vb ∧ h0.size ≤ sp ∧ h0.size ≤ kn ∧ n0 ≤ nb ∧ n0 ≤ vb ∧ n0 ≤ sp ∧ n0 ≤ kn ∧ o ≠ nb ∧ o ≠ vb ∧ o ≠ sp ∧ o ≠ kn ∧ nb ≠ vb ∧ nb ≠ sp ∧ nb ≠ kn ∧ vb ≠ sp ∧ vb ≠ kn ∧ sp ≠ kn ∧ Fld Z hh_ o "com/example/gatewright/gatewright/Fields" "nameBytes" "[[B" (.ref nb) ∧ Fld Z hh_ o "com/example/gatewright/gatewright/Fields" "valueBytes" "[[B" (.ref vb) ∧ Fld Z hh_ o "com/example/gatewright/gatewright/Fields" "spans" "[I" (.ref sp) ∧ Fld Z hh_ o "com/example/gatewright/gatewright/Fields" "known" "[Lcom/example/gatewright/gatewright/FieldName;" (.ref kn) ∧ Fld Z hh_ o "com/example/gatewright/gatewright/Fields" "size" "I" (.int (0 : Int32)) ∧ Arv Z hh_ nb kN (.array .byte) (8 : Int32) [.null, .null, .null, .null, .null, .null, .null, .null] .null ∧ Arv Z hh_ vb kV (.array .byte) (8 : Int32) [.null, .null, .null, .null, .null, .null, .null, .null] .null ∧ Arv Z hh_ sp kS .int (32 : Int32) [(.int (0 : Int32)), (.int (0 : Int32)), (.int (0 : Int32)), (.int (0 : Int32)), (.int (0 : Int32)), (.int (0 : Int32)), (.int (0 : Int32)), (.int (0 : Int32)), (.int (0 : Int32)), (.int (0 : Int32)), (.int (0 : Int32)), (.int (0 : Int32)), (.int (0 : Int32)), (.int (0 : Int32)), (.int (0 : Int32)), (.int (0 : Int32)), (.int (0 : Int32)), (.int (0 : Int32)), (.int (0 : Int32)), (.int (0 : Int32)), (.int (0 : Int32)), (.int (0 : Int32)), (.int (0 : Int32)), (.int (0 : Int32)), (.int (0 : Int32)), (.int (0 : Int32)), (.int (0 : Int32)), (.int (0 : Int32)), (.int (0 : Int32)), (.int (0 : Int32)), (.int (0 : Int32)), (.int (0 : Int32))] (.int (0 : Int32)) ∧ Arv Z hh_ kn kK (.object "com/example/gatewright/gatewright/FieldName") (8 : Int32) [.null, .null, .null, .null, .null, .null, .null, .null] .null ∧ OvrA Z kN .byte "[B" ∧ OvrA Z kV .byte "[B"
set_option maxRecDepth 65536 in
set_option maxHeartbeats 40000000 in
theorem rmI (l : Launch) (Z : State) (a0 : Array Value) (hw : ∀ d ∈ tables_1, d.before a0 Z = true) (ws : List Jvm.Cond) (o : Addr) (h0 : Heap) (n0 : Nat) (Z0 : n0 ≤ h0.size) (E0 : Exa Z h0 o "com/example/gatewright/gatewright/Fields") (ge0 : n0 ≤ o) (F0_0 : Fld Z h0 o "com/example/gatewright/gatewright/Fields" "nameBytes" "[[B" .null) (F1_0 : Fld Z h0 o "com/example/gatewright/gatewright/Fields" "valueBytes" "[[B" .null) (F2_0 : Fld Z h0 o "com/example/gatewright/gatewright/Fields" "spans" "[I" .null) (F3_0 : Fld Z h0 o "com/example/gatewright/gatewright/Fields" "known" "[Lcom/example/gatewright/gatewright/FieldName;" .null) (F4_0 : Fld Z h0 o "com/example/gatewright/gatewright/Fields" "size" "I" (.int (0 : Int32))) :
    MetFree l (⟨"com/example/gatewright/gatewright/Fields", "<init>", "()V"⟩ : MethodName) (head1 (Jvm.Cond.code (⟨"com/example/gatewright/gatewright/Fields", "<init>", "()V"⟩ : MethodName) prog_5_method_1_code 1 none :: ws) ({ frames := 1, cells := 4, slots := 56, locals := 12 } : Room)) (fun aa_ U => aa_ = #[(.ref o)] ∧ Z.Warmed39 U.vm ∧ U.heap = h0) (fun _ _ _ _ _ => True) (fun _ U oo_ UV_ => ∃ vv_ LL_, oo_ = .returned vv_ ∧ Q_rmI Z o h0 n0 vv_ UV_.heap LL_ ∧ FrameEnd U oo_ UV_ LL_ ({ frames := 1, cells := 4, slots := 56, locals := 12 } : Room).cells ({ frames := 1, cells := 4, slots := 56, locals := 12 } : Room).slots) := by
  refine MetFree.of_bodySF (plainFor_of_name pn_1) hisR ?_
  intro pg ev si mi args below meth ci s₁ Bd hml0 hP0 hK
  obtain ⟨rfl, hZ, hh⟩ := hP0
  have hx := Bd.exec
  have hby := Bd.bytes
  have hml : ci.maxLocals = 1 := hml0
  have hown : si.vm.findClass "com/example/gatewright/gatewright/Fields" = some mi.cls := findClass_of_methodNamed Bd.named
  have hnm := (name_of_methodNamed Bd.named Bd.method).1
  have X0 : Stand pg l ev ({ frames := 1, cells := 4, slots := 56, locals := 12 } : Room) si mi #[(.ref o)] below meth ci s₁ [] 0 0 := Stand.of_body Bd
  have e0 : s₁.heap = h0 := by rw [← hh, Bd.state]; rfl
  have N0 := Fr.nil n0
  refine Go.start (fun P hP => ?_)
  refine Go.st (fun t_ k_ => castTop (ef_rmI mi o) k_) (A := s₁.setTop (mkF mi 0 #[.val (.ref o)] [])) ?_
  show Go pg.tables ev below (s₁.setTop (mkF mi 0 #[.val (.ref o)] [])) P
  refine Go.st (fun t_ k_ => XS.aloadN X0.here hx rfl (hb hby d_prog_5_method_1_0) rfl rfl k_) ?_
  show Go pg.tables ev below (s₁.setTop (mkF mi 1 #[.val (.ref o)] [(.ref o)])) P
  obtain ⟨T1, X1, e1, st1⟩ := initO X0 hx hZ hown (hw _ (List.mem_of_getElem? (i := 7) rfl)) (hw _ (List.mem_of_getElem? (i := 8) rfl)) (hw _ (List.mem_of_getElem? (i := 9) rfl)) e0 (g := (mkF mi 1 #[.val (.ref o)] [(.ref o)])) rfl (by rw [hml]; rfl) rfl (hb hby d_prog_5_method_1_1) (by decide) (W := 0) (by show 2 * 0 + _ ≤ _; exact Nat.le_of_eq rfl) (by decide)
  refine Go.st st1 ?_
  show Go pg.tables ev below (T1.setTop (mkF mi 4 #[.val (.ref o)] [])) P
  refine Go.st (fun t_ k_ => XS.aloadN X1.here hx rfl (hb hby d_prog_5_method_1_4) rfl rfl k_) ?_
  show Go pg.tables ev below (T1.setTop (mkF mi 5 #[.val (.ref o)] [(.ref o)])) P
  refine Go.st (fun t_ k_ => XS.bipush X1.here hx rfl (hb hby d_prog_5_method_1_5) k_) ?_
  show Go pg.tables ev below (T1.setTop (mkF mi 7 #[.val (.ref o)] [(.int (8 : Int32)), (.ref o)])) P
  obtain ⟨T2, h2, k2, X2, e2, E2, A2, EX2, O2, st2⟩ := newRA X1 hx hZ hown (C := "[B") (ty := .byte) (by decide) (hw _ (List.mem_of_getElem? (i := 10) rfl)) (hw _ (List.mem_of_getElem? (i := 11) rfl)) e1 (g := (mkF mi 7 #[.val (.ref o)] [(.int (8 : Int32)), (.ref o)])) rfl (hb hby d_prog_5_method_1_7) rfl (by decide) (cap := 8) (by decide) (by decide) (by decide) (by decide) (ad := "[[B") (by decide)
  obtain ⟨b2, g2⟩ : ∃ z, z = h0.size := ⟨_, rfl⟩
  rw [← g2] at A2 EX2 st2
  have Zs3 : n0 ≤ h2.size := Nat.le_trans Z0 E2.1
  have KC3 : Keep h0 h2 [o] := (Keep.refl h0 [o]).ext E2
  have g_b2 : n0 ≤ b2 := Nat.le_trans Z0 (Nat.le_of_eq g2.symm)
  have sz_b2 : h0.size ≤ b2 := Nat.le_trans (Keep.refl h0 [o]).1 (Nat.le_of_eq g2.symm)
  have ne_o_b2 : o ≠ b2 := Nat.ne_of_lt (Nat.lt_of_lt_of_le E0.lt (Nat.le_of_eq g2.symm))
  have V2 : Arv Z h2 b2 k2 (.array .byte) (8 : Int32) [.null, .null, .null, .null, .null, .null, .null, .null] .null := (Arv.new A2 (by decide)).pad (pad_rep [] .null 8)
  refine Go.st st2 ?_
  show Go pg.tables ev below (T2.setTop (mkF mi 10 #[.val (.ref o)] [(.ref b2), (.ref o)])) P
  have f4 := (F0_0.ext E2)
  have f5 := (E0.ext E2)
  obtain ⟨T6, h6, X6, e6, W6, st6⟩ := putF X2 hx hZ hown (host := "") (Or.inl (hw _ (List.mem_of_getElem? (i := 12) rfl))) Via.refl e2 f4 f5 (Or.inl (hw _ (List.mem_of_getElem? (i := 13) rfl))) (hw _ (List.mem_of_getElem? (i := 2) rfl)) (ty := (.array (.array .byte))) (by decide) rfl rfl (g := (mkF mi 10 #[.val (.ref o)] [(.ref b2), (.ref o)])) rfl rfl (hb hby d_prog_5_method_1_10)
  have Zs7 : n0 ≤ h6.size := Nat.le_trans Zs3 (Keep.of_wr W6).1
  have KC7 : Keep h0 h6 [o] := KC3.wr W6 (Or.inl (List.mem_of_getElem? (i := 0) rfl))
  have N7 := Fr.snoc X6 N0 ge0
  have F6 : Fld Z h6 o "com/example/gatewright/gatewright/Fields" "nameBytes" "[[B" (.ref b2) := f4.same W6
  refine Go.st st6 ?_
  show Go pg.tables ev below (T6.setTop (mkF mi 13 #[.val (.ref o)] [])) P
  refine Go.st (fun t_ k_ => XS.aloadN X6.here hx rfl (hb hby d_prog_5_method_1_13) rfl rfl k_) ?_
  show Go pg.tables ev below (T6.setTop (mkF mi 14 #[.val (.ref o)] [(.ref o)])) P
  refine Go.st (fun t_ k_ => XS.bipush X6.here hx rfl (hb hby d_prog_5_method_1_14) k_) ?_
  show Go pg.tables ev below (T6.setTop (mkF mi 16 #[.val (.ref o)] [(.int (8 : Int32)), (.ref o)])) P
  have f8 := (f5.wr W6)
  have f9 := (V2.other W6 (Ne.symm ne_o_b2))
  obtain ⟨T10, h10, k10, X10, e10, E10, A10, EX10, O10, st10⟩ := newRA X6 hx hZ hown (C := "[B") (ty := .byte) (by decide) (hw _ (List.mem_of_getElem? (i := 10) rfl)) (hw _ (List.mem_of_getElem? (i := 11) rfl)) e6 (g := (mkF mi 16 #[.val (.ref o)] [(.int (8 : Int32)), (.ref o)])) rfl (hb hby d_prog_5_method_1_16) rfl (by decide) (cap := 8) (by decide) (by decide) (by decide) (by decide) (ad := "[[B") (by decide)
  obtain ⟨b10, g10⟩ : ∃ z, z = h6.size := ⟨_, rfl⟩
  rw [← g10] at A10 EX10 st10
  have Zs11 : n0 ≤ h10.size := Nat.le_trans Zs7 E10.1
  have KC11 : Keep h0 h10 [o] := KC7.ext E10
  have g_b10 : n0 ≤ b10 := Nat.le_trans Zs7 (Nat.le_of_eq g10.symm)
  have sz_b10 : h0.size ≤ b10 := Nat.le_trans KC7.1 (Nat.le_of_eq g10.symm)
  have ne_o_b10 : o ≠ b10 := Nat.ne_of_lt (Nat.lt_of_lt_of_le f8.lt (Nat.le_of_eq g10.symm))
  have ne_b2_b10 : b2 ≠ b10 := Nat.ne_of_lt (Nat.lt_of_lt_of_le f9.lt (Nat.le_of_eq g10.symm))
  have V10 : Arv Z h10 b10 k10 (.array .byte) (8 : Int32) [.null, .null, .null, .null, .null, .null, .null, .null] .null := (Arv.new A10 (by decide)).pad (pad_rep [] .null 8)
  refine Go.st st10 ?_
  show Go pg.tables ev below (T10.setTop (mkF mi 19 #[.val (.ref o)] [(.ref b10), (.ref o)])) P
  have f12 := (((F1_0.ext E2).other W6 (Or.inr (slot_ne (Or.inl (hw _ (List.mem_of_getElem? (i := 15) rfl))) (Or.inl (hw _ (List.mem_of_getElem? (i := 13) rfl))) (by decide) (t := (.array (.array .byte))) (t' := (.array (.array .byte))) (by decide) (by decide)))).ext E10)
  have f13 := (f8.ext E10)
  obtain ⟨T14, h14, X14, e14, W14, st14⟩ := putF X10 hx hZ hown (host := "") (Or.inl (hw _ (List.mem_of_getElem? (i := 14) rfl))) Via.refl e10 f12 f13 (Or.inl (hw _ (List.mem_of_getElem? (i := 15) rfl))) (hw _ (List.mem_of_getElem? (i := 2) rfl)) (ty := (.array (.array .byte))) (by decide) rfl rfl (g := (mkF mi 19 #[.val (.ref o)] [(.ref b10), (.ref o)])) rfl rfl (hb hby d_prog_5_method_1_19)
  have Zs15 : n0 ≤ h14.size := Nat.le_trans Zs11 (Keep.of_wr W14).1
  have KC15 : Keep h0 h14 [o] := KC11.wr W14 (Or.inl (List.mem_of_getElem? (i := 0) rfl))
  have N15 := Fr.snoc X14 N7 ge0
  have F14 : Fld Z h14 o "com/example/gatewright/gatewright/Fields" "valueBytes" "[[B" (.ref b10) := f12.same W14
  refine Go.st st14 ?_
  show Go pg.tables ev below (T14.setTop (mkF mi 22 #[.val (.ref o)] [])) P
  refine Go.st (fun t_ k_ => XS.aloadN X14.here hx rfl (hb hby d_prog_5_method_1_22) rfl rfl k_) ?_
  show Go pg.tables ev below (T14.setTop (mkF mi 23 #[.val (.ref o)] [(.ref o)])) P
  refine Go.st (fun t_ k_ => XS.bipush X14.here hx rfl (hb hby d_prog_5_method_1_23) k_) ?_
  show Go pg.tables ev below (T14.setTop (mkF mi 25 #[.val (.ref o)] [(.int (32 : Int32)), (.ref o)])) P
  have f16 := (f13.wr W14)
  have f17 := ((f9.ext E10).other W14 (Ne.symm ne_o_b2))
  have f18 := (V10.other W14 (Ne.symm ne_o_b10))
  obtain ⟨T19, h19, k19, X19, e19, E19, A19, st19⟩ := newP X14 hx hZ (hw _ (List.mem_of_getElem? (i := 16) rfl)) e14 (g := (mkF mi 25 #[.val (.ref o)] [(.int (32 : Int32)), (.ref o)])) rfl (hb hby d_prog_5_method_1_25) rfl (by decide) (cap := 32) (by decide) (by decide) (by decide) (by decide)
  obtain ⟨b19, g19⟩ : ∃ z, z = h14.size := ⟨_, rfl⟩
  rw [← g19] at A19 st19
  have Zs20 : n0 ≤ h19.size := Nat.le_trans Zs15 E19.1
  have KC20 : Keep h0 h19 [o] := KC15.ext E19
  have g_b19 : n0 ≤ b19 := Nat.le_trans Zs15 (Nat.le_of_eq g19.symm)
  have sz_b19 : h0.size ≤ b19 := Nat.le_trans KC15.1 (Nat.le_of_eq g19.symm)
  have ne_o_b19 : o ≠ b19 := Nat.ne_of_lt (Nat.lt_of_lt_of_le f16.lt (Nat.le_of_eq g19.symm))
  have ne_b2_b19 : b2 ≠ b19 := Nat.ne_of_lt (Nat.lt_of_lt_of_le f17.lt (Nat.le_of_eq g19.symm))
  have ne_b10_b19 : b10 ≠ b19 := Nat.ne_of_lt (Nat.lt_of_lt_of_le f18.lt (Nat.le_of_eq g19.symm))
  have V19 : Arv Z h19 b19 k19 .int (32 : Int32) [(.int (0 : Int32)), (.int (0 : Int32)), (.int (0 : Int32)), (.int (0 : Int32)), (.int (0 : Int32)), (.int (0 : Int32)), (.int (0 : Int32)), (.int (0 : Int32)), (.int (0 : Int32)), (.int (0 : Int32)), (.int (0 : Int32)), (.int (0 : Int32)), (.int (0 : Int32)), (.int (0 : Int32)), (.int (0 : Int32)), (.int (0 : Int32)), (.int (0 : Int32)), (.int (0 : Int32)), (.int (0 : Int32)), (.int (0 : Int32)), (.int (0 : Int32)), (.int (0 : Int32)), (.int (0 : Int32)), (.int (0 : Int32)), (.int (0 : Int32)), (.int (0 : Int32)), (.int (0 : Int32)), (.int (0 : Int32)), (.int (0 : Int32)), (.int (0 : Int32)), (.int (0 : Int32)), (.int (0 : Int32))] (.int (0 : Int32)) := (Arv.new A19 (by decide)).pad (pad_rep [] (.int (0 : Int32)) 32)
  refine Go.st st19 ?_
  show Go pg.tables ev below (T19.setTop (mkF mi 27 #[.val (.ref o)] [(.ref b19), (.ref o)])) P
  have f21 := (((((F2_0.ext E2).other W6 (Or.inr (slot_ne (Or.inl (hw _ (List.mem_of_getElem? (i := 18) rfl))) (Or.inl (hw _ (List.mem_of_getElem? (i := 13) rfl))) (by decide) (t := (.array .int)) (t' := (.array (.array .byte))) (by decide) (by decide)))).ext E10).other W14 (Or.inr (slot_ne (Or.inl (hw _ (List.mem_of_getElem? (i := 18) rfl))) (Or.inl (hw _ (List.mem_of_getElem? (i := 15) rfl))) (by decide) (t := (.array .int)) (t' := (.array (.array .byte))) (by decide) (by decide)))).ext E19)
  have f22 := (f16.ext E19)
  obtain ⟨T23, h23, X23, e23, W23, st23⟩ := putF X19 hx hZ hown (host := "") (Or.inl (hw _ (List.mem_of_getElem? (i := 17) rfl))) Via.refl e19 f21 f22 (Or.inl (hw _ (List.mem_of_getElem? (i := 18) rfl))) (hw _ (List.mem_of_getElem? (i := 2) rfl)) (ty := (.array .int)) (by decide) rfl rfl (g := (mkF mi 27 #[.val (.ref o)] [(.ref b19), (.ref o)])) rfl rfl (hb hby d_prog_5_method_1_27)
  have Zs24 : n0 ≤ h23.size := Nat.le_trans Zs20 (Keep.of_wr W23).1
  have KC24 : Keep h0 h23 [o] := KC20.wr W23 (Or.inl (List.mem_of_getElem? (i := 0) rfl))
  have N24 := Fr.snoc X23 N15 ge0
  have F23 : Fld Z h23 o "com/example/gatewright/gatewright/Fields" "spans" "[I" (.ref b19) := f21.same W23
  refine Go.st st23 ?_
  show Go pg.tables ev below (T23.setTop (mkF mi 30 #[.val (.ref o)] [])) P
  refine Go.st (fun t_ k_ => XS.aloadN X23.here hx rfl (hb hby d_prog_5_method_1_30) rfl rfl k_) ?_
  show Go pg.tables ev below (T23.setTop (mkF mi 31 #[.val (.ref o)] [(.ref o)])) P
  refine Go.st (fun t_ k_ => XS.bipush X23.here hx rfl (hb hby d_prog_5_method_1_31) k_) ?_
  show Go pg.tables ev below (T23.setTop (mkF mi 33 #[.val (.ref o)] [(.int (8 : Int32)), (.ref o)])) P
  have f25 := (f22.wr W23)
  have f26 := ((f17.ext E19).other W23 (Ne.symm ne_o_b2))
  have f27 := ((f18.ext E19).other W23 (Ne.symm ne_o_b10))
  have f28 := (V19.other W23 (Ne.symm ne_o_b19))
  obtain ⟨T29, h29, k29, X29, e29, E29, A29, O29, st29⟩ := newR X23 hx hZ hown (hw _ (List.mem_of_getElem? (i := 19) rfl)) (hw _ (List.mem_of_getElem? (i := 20) rfl)) e23 (g := (mkF mi 33 #[.val (.ref o)] [(.int (8 : Int32)), (.ref o)])) rfl (hb hby d_prog_5_method_1_33) rfl (by decide) (cap := 8) (by decide) (by decide) (by decide) (by decide)
  obtain ⟨b29, g29⟩ : ∃ z, z = h23.size := ⟨_, rfl⟩
  rw [← g29] at A29 st29
  have Zs30 : n0 ≤ h29.size := Nat.le_trans Zs24 E29.1
  have KC30 : Keep h0 h29 [o] := KC24.ext E29
  have g_b29 : n0 ≤ b29 := Nat.le_trans Zs24 (Nat.le_of_eq g29.symm)
  have sz_b29 : h0.size ≤ b29 := Nat.le_trans KC24.1 (Nat.le_of_eq g29.symm)
  have ne_o_b29 : o ≠ b29 := Nat.ne_of_lt (Nat.lt_of_lt_of_le f25.lt (Nat.le_of_eq g29.symm))
  have ne_b2_b29 : b2 ≠ b29 := Nat.ne_of_lt (Nat.lt_of_lt_of_le f26.lt (Nat.le_of_eq g29.symm))
  have ne_b10_b29 : b10 ≠ b29 := Nat.ne_of_lt (Nat.lt_of_lt_of_le f27.lt (Nat.le_of_eq g29.symm))
  have ne_b19_b29 : b19 ≠ b29 := Nat.ne_of_lt (Nat.lt_of_lt_of_le f28.lt (Nat.le_of_eq g29.symm))
  have V29 : Arv Z h29 b29 k29 (.object "com/example/gatewright/gatewright/FieldName") (8 : Int32) [.null, .null, .null, .null, .null, .null, .null, .null] .null := (Arv.new A29 (by decide)).pad (pad_rep [] .null 8)
  refine Go.st st29 ?_
  show Go pg.tables ev below (T29.setTop (mkF mi 36 #[.val (.ref o)] [(.ref b29), (.ref o)])) P
  have f31 := (((((((F3_0.ext E2).other W6 (Or.inr (slot_ne (Or.inl (hw _ (List.mem_of_getElem? (i := 22) rfl))) (Or.inl (hw _ (List.mem_of_getElem? (i := 13) rfl))) (by decide) (t := (.array (.object "com/example/gatewright/gatewright/FieldName"))) (t' := (.array (.array .byte))) (by decide) (by decide)))).ext E10).other W14 (Or.inr (slot_ne (Or.inl (hw _ (List.mem_of_getElem? (i := 22) rfl))) (Or.inl (hw _ (List.mem_of_getElem? (i := 15) rfl))) (by decide) (t := (.array (.object "com/example/gatewright/gatewright/FieldName"))) (t' := (.array (.array .byte))) (by decide) (by decide)))).ext E19).other W23 (Or.inr (slot_ne (Or.inl (hw _ (List.mem_of_getElem? (i := 22) rfl))) (Or.inl (hw _ (List.mem_of_getElem? (i := 18) rfl))) (by decide) (t := (.array (.object "com/example/gatewright/gatewright/FieldName"))) (t' := (.array .int)) (by decide) (by decide)))).ext E29)
  have f32 := (f25.ext E29)
  obtain ⟨T33, h33, X33, e33, W33, st33⟩ := putF X29 hx hZ hown (host := "") (Or.inl (hw _ (List.mem_of_getElem? (i := 21) rfl))) Via.refl e29 f31 f32 (Or.inl (hw _ (List.mem_of_getElem? (i := 22) rfl))) (hw _ (List.mem_of_getElem? (i := 2) rfl)) (ty := (.array (.object "com/example/gatewright/gatewright/FieldName"))) (by decide) rfl rfl (g := (mkF mi 36 #[.val (.ref o)] [(.ref b29), (.ref o)])) rfl rfl (hb hby d_prog_5_method_1_36)
  have Zs34 : n0 ≤ h33.size := Nat.le_trans Zs30 (Keep.of_wr W33).1
  have KC34 : Keep h0 h33 [o] := KC30.wr W33 (Or.inl (List.mem_of_getElem? (i := 0) rfl))
  have N34 := Fr.snoc X33 N24 ge0
  have F33 : Fld Z h33 o "com/example/gatewright/gatewright/Fields" "known" "[Lcom/example/gatewright/gatewright/FieldName;" (.ref b29) := f31.same W33
  refine Go.st st33 ?_
  show Go pg.tables ev below (T33.setTop (mkF mi 39 #[.val (.ref o)] [])) P
  obtain ⟨fs, hr, hrun, hended, hW, hsame⟩ := X33.leave (v := none) (fun _ => rfl) (BodyLoose.notSynchronized Bd)
  have f35 := ((((((F6.ext E10).other W14 (Or.inr (slot_ne (Or.inl (hw _ (List.mem_of_getElem? (i := 13) rfl))) (Or.inl (hw _ (List.mem_of_getElem? (i := 15) rfl))) (by decide) (t := (.array (.array .byte))) (t' := (.array (.array .byte))) (by decide) (by decide)))).ext E19).other W23 (Or.inr (slot_ne (Or.inl (hw _ (List.mem_of_getElem? (i := 13) rfl))) (Or.inl (hw _ (List.mem_of_getElem? (i := 18) rfl))) (by decide) (t := (.array (.array .byte))) (t' := (.array .int)) (by decide) (by decide)))).ext E29).other W33 (Or.inr (slot_ne (Or.inl (hw _ (List.mem_of_getElem? (i := 13) rfl))) (Or.inl (hw _ (List.mem_of_getElem? (i := 22) rfl))) (by decide) (t := (.array (.array .byte))) (t' := (.array (.object "com/example/gatewright/gatewright/FieldName"))) (by decide) (by decide))))
  have f36 := ((((F14.ext E19).other W23 (Or.inr (slot_ne (Or.inl (hw _ (List.mem_of_getElem? (i := 15) rfl))) (Or.inl (hw _ (List.mem_of_getElem? (i := 18) rfl))) (by decide) (t := (.array (.array .byte))) (t' := (.array .int)) (by decide) (by decide)))).ext E29).other W33 (Or.inr (slot_ne (Or.inl (hw _ (List.mem_of_getElem? (i := 15) rfl))) (Or.inl (hw _ (List.mem_of_getElem? (i := 22) rfl))) (by decide) (t := (.array (.array .byte))) (t' := (.array (.object "com/example/gatewright/gatewright/FieldName"))) (by decide) (by decide))))
  have f37 := ((F23.ext E29).other W33 (Or.inr (slot_ne (Or.inl (hw _ (List.mem_of_getElem? (i := 18) rfl))) (Or.inl (hw _ (List.mem_of_getElem? (i := 22) rfl))) (by decide) (t := (.array .int)) (t' := (.array (.object "com/example/gatewright/gatewright/FieldName"))) (by decide) (by decide))))
  have f38 := ((((((((F4_0.ext E2).other W6 (Or.inr (slot_ne (Or.inl (hw _ (List.mem_of_getElem? (i := 29) rfl))) (Or.inl (hw _ (List.mem_of_getElem? (i := 13) rfl))) (by decide) (t := .int) (t' := (.array (.array .byte))) (by decide) (by decide)))).ext E10).other W14 (Or.inr (slot_ne (Or.inl (hw _ (List.mem_of_getElem? (i := 29) rfl))) (Or.inl (hw _ (List.mem_of_getElem? (i := 15) rfl))) (by decide) (t := .int) (t' := (.array (.array .byte))) (by decide) (by decide)))).ext E19).other W23 (Or.inr (slot_ne (Or.inl (hw _ (List.mem_of_getElem? (i := 29) rfl))) (Or.inl (hw _ (List.mem_of_getElem? (i := 18) rfl))) (by decide) (t := .int) (t' := (.array .int)) (by decide) (by decide)))).ext E29).other W33 (Or.inr (slot_ne (Or.inl (hw _ (List.mem_of_getElem? (i := 29) rfl))) (Or.inl (hw _ (List.mem_of_getElem? (i := 22) rfl))) (by decide) (t := .int) (t' := (.array (.object "com/example/gatewright/gatewright/FieldName"))) (by decide) (by decide))))
  have f39 := ((f26.ext E29).other W33 (Ne.symm ne_o_b2))
  have f40 := ((f27.ext E29).other W33 (Ne.symm ne_o_b10))
  have f41 := ((f28.ext E29).other W33 (Ne.symm ne_o_b19))
  have f42 := (V29.other W33 (Ne.symm ne_o_b29))
  refine ⟨_, _, ?_, hP _ _ ⟨hrun, hended, _, _, rfl, ?_, ⟨_, rfl⟩, hW, hsame.mono (by decide) (by decide)⟩⟩
  · exact X33.returnOut hx Bd.returns (hb hby d_prog_5_method_1_39) hr
  · show (none : Option Value) = none ∧ Fr n0 _ ∧ Keep h0 T33.heap [o] ∧ ∃ (nb vb sp kn : Addr) (kN kV kS kK : ClassId), h0.size ≤ nb ∧ h0.size ≤ vb ∧ h0.size ≤ sp ∧ h0.size ≤ kn ∧ n0 ≤ nb ∧ n0 ≤ vb ∧ n0 ≤ sp ∧ n0 ≤ kn ∧ o ≠ nb ∧ o ≠ vb ∧ o ≠ sp ∧ o ≠ kn ∧ nb ≠ vb ∧ nb ≠ sp ∧ nb ≠ kn ∧ vb ≠ sp ∧ vb ≠ kn ∧ sp ≠ kn ∧ Fld Z T33.heap o "com/example/gatewright/gatewright/Fields" "nameBytes" "[[B" (.ref nb) ∧ Fld Z T33.heap o "com/example/gatewright/gatewright/Fields" "valueBytes" "[[B" (.ref vb) ∧ Fld Z T33.heap o "com/example/gatewright/gatewright/Fields" "spans" "[I" (.ref sp) ∧ Fld Z T33.heap o "com/example/gatewright/gatewright/Fields" "known" "[Lcom/example/gatewright/gatewright/FieldName;" (.ref kn) ∧ Fld Z T33.heap o "com/example/gatewright/gatewright/Fields" "size" "I" (.int (0 : Int32)) ∧ Arv Z T33.heap nb kN (.array .byte) (8 : Int32) [.null, .null, .null, .null, .null, .null, .null, .null] .null ∧ Arv Z T33.heap vb kV (.array .byte) (8 : Int32) [.null, .null, .null, .null, .null, .null, .null, .null] .null ∧ Arv Z T33.heap sp kS .int (32 : Int32) [(.int (0 : Int32)), (.int (0 : Int32)), (.int (0 : Int32)), (.int (0 : Int32)), (.int (0 : Int32)), (.int (0 : Int32)), (.int (0 : Int32)), (.int (0 : Int32)), (.int (0 : Int32)), (.int (0 : Int32)), (.int (0 : Int32)), (.int (0 : Int32)), (.int (0 : Int32)), (.int (0 : Int32)), (.int (0 : Int32)), (.int (0 : Int32)), (.int (0 : Int32)), (.int (0 : Int32)), (.int (0 : Int32)), (.int (0 : Int32)), (.int (0 : Int32)), (.int (0 : Int32)), (.int (0 : Int32)), (.int (0 : Int32)), (.int (0 : Int32)), (.int (0 : Int32)), (.int (0 : Int32)), (.int (0 : Int32)), (.int (0 : Int32)), (.int (0 : Int32)), (.int (0 : Int32)), (.int (0 : Int32))] (.int (0 : Int32)) ∧ Arv Z T33.heap kn kK (.object "com/example/gatewright/gatewright/FieldName") (8 : Int32) [.null, .null, .null, .null, .null, .null, .null, .null] .null ∧ OvrA Z kN .byte "[B" ∧ OvrA Z kV .byte "[B"
    rw [e33]
    exact ⟨rfl, N34, KC34, b2, b10, b19, b29, k2, k10, k19, k29, sz_b2, sz_b10, sz_b19, sz_b29, g_b2, g_b10, g_b19, g_b29, ne_o_b2, ne_o_b10, ne_o_b19, ne_o_b29, ne_b2_b10, ne_b2_b19, ne_b2_b29, ne_b10_b19, ne_b10_b29, ne_b19_b29, f35, f36, f37, F33, f38, f39, f40, f41, f42, O2, O10⟩
theorem d_prog_5_method_7_0 : decode prog_5_method_7_code 0 = .ok (.aload_n 0, 1) := by decide +kernel
theorem d_prog_5_method_7_1 : decode prog_5_method_7_code 1 = .ok (.getfield 63, 3) := by decide +kernel
theorem d_prog_5_method_7_4 : decode prog_5_method_7_code 4 = .ok (.aload_n 0, 1) := by decide +kernel
theorem d_prog_5_method_7_5 : decode prog_5_method_7_code 5 = .ok (.getfield 24, 3) := by decide +kernel
theorem d_prog_5_method_7_8 : decode prog_5_method_7_code 8 = .ok (.arraylength, 1) := by decide +kernel
theorem d_prog_5_method_7_9 : decode prog_5_method_7_code 9 = .ok (.if_icmp .ne 112, 3) := by decide +kernel
theorem d_prog_5_method_7_121 : decode prog_5_method_7_code 121 = .ok (.aload_n 0, 1) := by decide +kernel
theorem d_prog_5_method_7_122 : decode prog_5_method_7_code 122 = .ok (.getfield 9, 3) := by decide +kernel
theorem d_prog_5_method_7_125 : decode prog_5_method_7_code 125 = .ok (.aload_n 0, 1) := by decide +kernel
theorem d_prog_5_method_7_126 : decode prog_5_method_7_code 126 = .ok (.getfield 63, 3) := by decide +kernel
theorem d_prog_5_method_7_129 : decode prog_5_method_7_code 129 = .ok (.aload_n 2, 1) := by decide +kernel
theorem d_prog_5_method_7_130 : decode prog_5_method_7_code 130 = .ok (.aastore, 1) := by decide +kernel
theorem d_prog_5_method_7_131 : decode prog_5_method_7_code 131 = .ok (.aload_n 0, 1) := by decide +kernel
theorem d_prog_5_method_7_132 : decode prog_5_method_7_code 132 = .ok (.getfield 15, 3) := by decide +kernel
theorem d_prog_5_method_7_135 : decode prog_5_method_7_code 135 = .ok (.aload_n 0, 1) := by decide +kernel
theorem d_prog_5_method_7_136 : decode prog_5_method_7_code 136 = .ok (.getfield 63, 3) := by decide +kernel
theorem d_prog_5_method_7_139 : decode prog_5_method_7_code 139 = .ok (.aload 5, 2) := by decide +kernel
theorem d_prog_5_method_7_141 : decode prog_5_method_7_code 141 = .ok (.aastore, 1) := by decide +kernel
theorem d_prog_5_method_7_142 : decode prog_5_method_7_code 142 = .ok (.iconst 4, 1) := by decide +kernel
theorem d_prog_5_method_7_143 : decode prog_5_method_7_code 143 = .ok (.aload_n 0, 1) := by decide +kernel
theorem d_prog_5_method_7_144 : decode prog_5_method_7_code 144 = .ok (.getfield 63, 3) := by decide +kernel
theorem d_prog_5_method_7_147 : decode prog_5_method_7_code 147 = .ok (.imul, 1) := by decide +kernel
theorem d_prog_5_method_7_148 : decode prog_5_method_7_code 148 = .ok (.istore 8, 2) := by decide +kernel
theorem d_prog_5_method_7_150 : decode prog_5_method_7_code 150 = .ok (.aload_n 0, 1) := by decide +kernel
theorem d_prog_5_method_7_151 : decode prog_5_method_7_code 151 = .ok (.getfield 18, 3) := by decide +kernel
theorem d_prog_5_method_7_154 : decode prog_5_method_7_code 154 = .ok (.iload 8, 2) := by decide +kernel
theorem d_prog_5_method_7_156 : decode prog_5_method_7_code 156 = .ok (.iload_n 3, 1) := by decide +kernel
theorem d_prog_5_method_7_157 : decode prog_5_method_7_code 157 = .ok (.iastore, 1) := by decide +kernel
theorem d_prog_5_method_7_158 : decode prog_5_method_7_code 158 = .ok (.aload_n 0, 1) := by decide +kernel
theorem d_prog_5_method_7_159 : decode prog_5_method_7_code 159 = .ok (.getfield 18, 3) := by decide +kernel
theorem d_prog_5_method_7_162 : decode prog_5_method_7_code 162 = .ok (.iload 8, 2) := by decide +kernel
theorem d_prog_5_method_7_164 : decode prog_5_method_7_code 164 = .ok (.iconst 1, 1) := by decide +kernel
theorem d_prog_5_method_7_165 : decode prog_5_method_7_code 165 = .ok (.iadd, 1) := by decide +kernel
theorem d_prog_5_method_7_166 : decode prog_5_method_7_code 166 = .ok (.iload 4, 2) := by decide +kernel
theorem d_prog_5_method_7_168 : decode prog_5_method_7_code 168 = .ok (.iastore, 1) := by decide +kernel
theorem d_prog_5_method_7_169 : decode prog_5_method_7_code 169 = .ok (.aload_n 0, 1) := by decide +kernel
theorem d_prog_5_method_7_170 : decode prog_5_method_7_code 170 = .ok (.getfield 18, 3) := by decide +kernel
theorem d_prog_5_method_7_173 : decode prog_5_method_7_code 173 = .ok (.iload 8, 2) := by decide +kernel
theorem d_prog_5_method_7_175 : decode prog_5_method_7_code 175 = .ok (.iconst 2, 1) := by decide +kernel
theorem d_prog_5_method_7_176 : decode prog_5_method_7_code 176 = .ok (.iadd, 1) := by decide +kernel
theorem d_prog_5_method_7_177 : decode prog_5_method_7_code 177 = .ok (.iload 6, 2) := by decide +kernel
theorem d_prog_5_method_7_179 : decode prog_5_method_7_code 179 = .ok (.iastore, 1) := by decide +kernel
theorem d_prog_5_method_7_180 : decode prog_5_method_7_code 180 = .ok (.aload_n 0, 1) := by decide +kernel
theorem d_prog_5_method_7_181 : decode prog_5_method_7_code 181 = .ok (.getfield 18, 3) := by decide +kernel
theorem d_prog_5_method_7_184 : decode prog_5_method_7_code 184 = .ok (.iload 8, 2) := by decide +kernel
theorem d_prog_5_method_7_186 : decode prog_5_method_7_code 186 = .ok (.iconst 3, 1) := by decide +kernel
theorem d_prog_5_method_7_187 : decode prog_5_method_7_code 187 = .ok (.iadd, 1) := by decide +kernel
theorem d_prog_5_method_7_188 : decode prog_5_method_7_code 188 = .ok (.iload 7, 2) := by decide +kernel
theorem d_prog_5_method_7_190 : decode prog_5_method_7_code 190 = .ok (.iastore, 1) := by decide +kernel
theorem d_prog_5_method_7_191 : decode prog_5_method_7_code 191 = .ok (.aload_n 0, 1) := by decide +kernel
theorem d_prog_5_method_7_192 : decode prog_5_method_7_code 192 = .ok (.getfield 24, 3) := by decide +kernel
theorem d_prog_5_method_7_195 : decode prog_5_method_7_code 195 = .ok (.aload_n 0, 1) := by decide +kernel
theorem d_prog_5_method_7_196 : decode prog_5_method_7_code 196 = .ok (.getfield 63, 3) := by decide +kernel
theorem d_prog_5_method_7_199 : decode prog_5_method_7_code 199 = .ok (.aload_n 1, 1) := by decide +kernel
theorem d_prog_5_method_7_200 : decode prog_5_method_7_code 200 = .ok (.aastore, 1) := by decide +kernel
theorem d_prog_5_method_7_201 : decode prog_5_method_7_code 201 = .ok (.aload_n 0, 1) := by decide +kernel
theorem d_prog_5_method_7_202 : decode prog_5_method_7_code 202 = .ok (.dup, 1) := by decide +kernel
theorem d_prog_5_method_7_203 : decode prog_5_method_7_code 203 = .ok (.getfield 63, 3) := by decide +kernel
theorem d_prog_5_method_7_206 : decode prog_5_method_7_code 206 = .ok (.iconst 1, 1) := by decide +kernel
theorem d_prog_5_method_7_207 : decode prog_5_method_7_code 207 = .ok (.iadd, 1) := by decide +kernel
theorem d_prog_5_method_7_208 : decode prog_5_method_7_code 208 = .ok (.putfield 63, 3) := by decide +kernel
theorem d_prog_5_method_7_211 : decode prog_5_method_7_code 211 = .ok (.return_, 1) := by decide +kernel
theorem ef_rmA7_0 (mi : MethodId) (o : Addr) (hd : Addr) (i3 : Int32) (i4 : Int32) (i6 : Int32) (i7 : Int32) (nb : Addr) (vb : Addr) (sp : Addr) (kn : Addr) (kN : ClassId) (kV : ClassId) (kS : ClassId) (kK : ClassId) (vN : List Value) (vV : List Value) (vS : List Value) (vK : List Value) : entryFrame mi #[(.ref o), .null, (.ref hd), (.int i3), (.int i4), (.ref hd), (.int i6), (.int i7)] 9 = mkF mi 0 #[.val (.ref o), .val .null, .val (.ref hd), .val (.int i3), .val (.int i4), .val (.ref hd), .val (.int i6), .val (.int i7), .unset] [] := by first | (simp [entryFrame, mkF, argsToLocals, Value.category]; done) | rfl
def Q_rmA7_0 (Z : State) (o : Addr) (hd : Addr) (i3 : Int32) (i4 : Int32) (i6 : Int32) (i7 : Int32) (nb : Addr) (vb : Addr) (sp : Addr) (kn : Addr) (kN : ClassId) (kV : ClassId) (kS : ClassId) (kK : ClassId) (vN : List Value) (vV : List Value) (vS : List Value) (vK : List Value) (h0 : Heap) (n0 : Nat) (vv_ : Option Value) (hh_ : Heap) (LL_ : List Loc) : Prop := vv_ = none ∧ Fr n0 LL_ ∧ Keep h0 hh_ [o, nb, vb, sp, kn] ∧ Fld Z hh_ o "com/example/gatewright/gatewright/Fields" "nameBytes" "[[B" (.ref nb) ∧ Fld Z hh_ o "com/example/gatewright/gatewright/Fields" "valueBytes" "[[B" (.ref vb) ∧ Fld Z hh_ o "com/example/gatewright/gatewright/Fields" "spans" "[I" (.ref sp) ∧ Fld Z hh_ o "com/example/gatewright/gatewright/Fields" "known" "[Lcom/example/gatewright/gatewright/FieldName;" (.ref kn) ∧ Fld Z hh_ o "com/example/gatewright/gatewright/Fields" "size" "I" (.int (1 : Int32)) ∧ Arv Z hh_ nb kN (.array .byte) (8 : Int32) (vN.set 0 (.ref hd)) .null ∧ Arv Z hh_ vb kV (.array .byte) (8 : Int32) (vV.set 0 (.ref hd)) .null ∧ Arv Z hh_ sp kS .int (32 : Int32) ((((vS.set 0 (.int i3)).set 1 (.int i4)).set 2 (.int i6)).set 3 (.int i7)) (.int (0 : Int32)) ∧ Arv Z hh_ kn kK (.object "com/example/gatewright/gatewright/FieldName") (8 : Int32) (vK.set 0 .null) .null
set_option maxRecDepth 65536 in
set_option maxHeartbeats 40000000 in
theorem rmA7_0 (l : Launch) (Z : State) (a0 : Array Value) (hw : ∀ d ∈ tables_1, d.before a0 Z = true) (ws : List Jvm.Cond) (o : Addr) (hd : Addr) (i3 : Int32) (i4 : Int32) (i6 : Int32) (i7 : Int32) (nb : Addr) (vb : Addr) (sp : Addr) (kn : Addr) (kN : ClassId) (kV : ClassId) (kS : ClassId) (kK : ClassId) (vN : List Value) (vV : List Value) (vS : List Value) (vK : List Value) (h0 : Heap) (n0 : Nat) (Z0 : n0 ≤ h0.size) (E0 : Exa Z h0 o "com/example/gatewright/gatewright/Fields") (ge0 : n0 ≤ o) (EH : Exa Z h0 hd "[B") (g_nb : n0 ≤ nb) (g_vb : n0 ≤ vb) (g_sp : n0 ≤ sp) (g_kn : n0 ≤ kn) (ne_o_nb : o ≠ nb) (ne_o_vb : o ≠ vb) (ne_o_sp : o ≠ sp) (ne_o_kn : o ≠ kn) (ne_nb_vb : nb ≠ vb) (ne_nb_sp : nb ≠ sp) (ne_nb_kn : nb ≠ kn) (ne_vb_sp : vb ≠ sp) (ne_vb_kn : vb ≠ kn) (ne_sp_kn : sp ≠ kn) (F0 : Fld Z h0 o "com/example/gatewright/gatewright/Fields" "nameBytes" "[[B" (.ref nb)) (F1 : Fld Z h0 o "com/example/gatewright/gatewright/Fields" "valueBytes" "[[B" (.ref vb)) (F2 : Fld Z h0 o "com/example/gatewright/gatewright/Fields" "spans" "[I" (.ref sp)) (F3 : Fld Z h0 o "com/example/gatewright/gatewright/Fields" "known" "[Lcom/example/gatewright/gatewright/FieldName;" (.ref kn)) (F4 : Fld Z h0 o "com/example/gatewright/gatewright/Fields" "size" "I" (.int (0 : Int32))) (A_nb : Arv Z h0 nb kN (.array .byte) (8 : Int32) vN .null) (A_vb : Arv Z h0 vb kV (.array .byte) (8 : Int32) vV .null) (A_sp : Arv Z h0 sp kS .int (32 : Int32) vS (.int (0 : Int32))) (A_kn : Arv Z h0 kn kK (.object "com/example/gatewright/gatewright/FieldName") (8 : Int32) vK .null) (l_nb : vN.length = 8) (l_vb : vV.length = 8) (l_sp : vS.length = 32) (l_kn : vK.length = 8) (O_nb : OvrA Z kN .byte "[B") (O_vb : OvrA Z kV .byte "[B") :
    MetFree l (⟨"com/example/gatewright/gatewright/Fields", "add", "(Lcom/example/gatewright/gatewright/FieldName;[BII[BII)V"⟩ : MethodName) (head1 (Jvm.Cond.code (⟨"com/example/gatewright/gatewright/Fields", "add", "(Lcom/example/gatewright/gatewright/FieldName;[BII[BII)V"⟩ : MethodName) prog_5_method_7_code 9 none :: ws) ({ frames := 0, cells := 0, slots := 0, locals := 0 } : Room)) (fun aa_ U => aa_ = #[(.ref o), .null, (.ref hd), (.int i3), (.int i4), (.ref hd), (.int i6), (.int i7)] ∧ Z.Warmed39 U.vm ∧ U.heap = h0) (fun _ _ _ _ _ => True) (fun _ U oo_ UV_ => ∃ vv_ LL_, oo_ = .returned vv_ ∧ Q_rmA7_0 Z o hd i3 i4 i6 i7 nb vb sp kn kN kV kS kK vN vV vS vK h0 n0 vv_ UV_.heap LL_ ∧ FrameEnd U oo_ UV_ LL_ ({ frames := 0, cells := 0, slots := 0, locals := 0 } : Room).cells ({ frames := 0, cells := 0, slots := 0, locals := 0 } : Room).slots) := by
  refine MetFree.of_bodySF (plainFor_of_name pn_1) hisR ?_
  intro pg ev si mi args below meth ci s₁ Bd hml0 hP0 hK
  obtain ⟨rfl, hZ, hh⟩ := hP0
  have hx := Bd.exec
  have hby := Bd.bytes
  have hml : ci.maxLocals = 9 := hml0
  have hown : si.vm.findClass "com/example/gatewright/gatewright/Fields" = some mi.cls := findClass_of_methodNamed Bd.named
  have hnm := (name_of_methodNamed Bd.named Bd.method).1
  have X0 : Stand pg l ev ({ frames := 0, cells := 0, slots := 0, locals := 0 } : Room) si mi #[(.ref o), .null, (.ref hd), (.int i3), (.int i4), (.ref hd), (.int i6), (.int i7)] below meth ci s₁ [] 0 0 := Stand.of_body Bd
  have e0 : s₁.heap = h0 := by rw [← hh, Bd.state]; rfl
  have N0 := Fr.nil n0
  refine Go.start (fun P hP => ?_)
  refine Go.st (fun t_ k_ => castTop (ef_rmA7_0 mi o hd i3 i4 i6 i7 nb vb sp kn kN kV kS kK vN vV vS vK) k_) (A := s₁.setTop (mkF mi 0 #[.val (.ref o), .val .null, .val (.ref hd), .val (.int i3), .val (.int i4), .val (.ref hd), .val (.int i6), .val (.int i7), .unset] [])) ?_
  show Go pg.tables ev below (s₁.setTop (mkF mi 0 #[.val (.ref o), .val .null, .val (.ref hd), .val (.int i3), .val (.int i4), .val (.ref hd), .val (.int i6), .val (.int i7), .unset] [])) P
  refine Go.st (fun t_ k_ => XS.aloadN X0.here hx rfl (hb hby d_prog_5_method_7_0) rfl rfl k_) ?_
  show Go pg.tables ev below (s₁.setTop (mkF mi 1 #[.val (.ref o), .val .null, .val (.ref hd), .val (.int i3), .val (.int i4), .val (.ref hd), .val (.int i6), .val (.int i7), .unset] [(.ref o)])) P
  obtain ⟨T1, X1, e1, st1⟩ := getF X0 hx hZ hown (host := "") (Or.inl (hw _ (List.mem_of_getElem? (i := 28) rfl))) Via.refl e0 F4 (g := (mkF mi 1 #[.val (.ref o), .val .null, .val (.ref hd), .val (.int i3), .val (.int i4), .val (.ref hd), .val (.int i6), .val (.int i7), .unset] [(.ref o)])) rfl rfl (hb hby d_prog_5_method_7_1)
  refine Go.st st1 ?_
  show Go pg.tables ev below (T1.setTop (mkF mi 4 #[.val (.ref o), .val .null, .val (.ref hd), .val (.int i3), .val (.int i4), .val (.ref hd), .val (.int i6), .val (.int i7), .unset] [(.int (0 : Int32))])) P
  refine Go.st (fun t_ k_ => XS.aloadN X1.here hx rfl (hb hby d_prog_5_method_7_4) rfl rfl k_) ?_
  show Go pg.tables ev below (T1.setTop (mkF mi 5 #[.val (.ref o), .val .null, .val (.ref hd), .val (.int i3), .val (.int i4), .val (.ref hd), .val (.int i6), .val (.int i7), .unset] [(.ref o), (.int (0 : Int32))])) P
  obtain ⟨T2, X2, e2, st2⟩ := getF X1 hx hZ hown (host := "") (Or.inl (hw _ (List.mem_of_getElem? (i := 21) rfl))) Via.refl e1 F3 (g := (mkF mi 5 #[.val (.ref o), .val .null, .val (.ref hd), .val (.int i3), .val (.int i4), .val (.ref hd), .val (.int i6), .val (.int i7), .unset] [(.ref o), (.int (0 : Int32))])) rfl rfl (hb hby d_prog_5_method_7_5)
  refine Go.st st2 ?_
  show Go pg.tables ev below (T2.setTop (mkF mi 8 #[.val (.ref o), .val .null, .val (.ref hd), .val (.int i3), .val (.int i4), .val (.ref hd), .val (.int i6), .val (.int i7), .unset] [(.ref kn), (.int (0 : Int32))])) P
  have ov3 := A_kn
  obtain ⟨cl3, Ar3, q3, S3, M3, H3, G3⟩ := ov3
  refine Go.st (X2.arraylength hx (by rw [e2]; exact Ar3.1) (State.isArrayOf_alike hZ.alike Ar3.2.1) (g := (mkF mi 8 #[.val (.ref o), .val .null, .val (.ref hd), .val (.int i3), .val (.int i4), .val (.ref hd), .val (.int i6), .val (.int i7), .unset] [(.ref kn), (.int (0 : Int32))])) rfl rfl (hb hby d_prog_5_method_7_8)) ?_
  rw [len_of S3 M3]
  show Go pg.tables ev below (T2.setTop (mkF mi 9 #[.val (.ref o), .val .null, .val (.ref hd), .val (.int i3), .val (.int i4), .val (.ref hd), .val (.int i6), .val (.int i7), .unset] [(.int (8 : Int32)), (.int (0 : Int32))])) P
  refine Go.st (fun t_ k_ => XS.icmpYes X2.here hx rfl (pc0 := 9) (pc' := 121) rfl (hb hby d_prog_5_method_7_9) rfl (feq (by decide)).2 (by decide) (by decide) k_) ?_
  show Go pg.tables ev below (T2.setTop (mkF mi 121 #[.val (.ref o), .val .null, .val (.ref hd), .val (.int i3), .val (.int i4), .val (.ref hd), .val (.int i6), .val (.int i7), .unset] [])) P
  refine Go.st (fun t_ k_ => XS.aloadN X2.here hx rfl (hb hby d_prog_5_method_7_121) rfl rfl k_) ?_
  show Go pg.tables ev below (T2.setTop (mkF mi 122 #[.val (.ref o), .val .null, .val (.ref hd), .val (.int i3), .val (.int i4), .val (.ref hd), .val (.int i6), .val (.int i7), .unset] [(.ref o)])) P
  obtain ⟨T4, X4, e4, st4⟩ := getF X2 hx hZ hown (host := "") (Or.inl (hw _ (List.mem_of_getElem? (i := 12) rfl))) Via.refl e2 F0 (g := (mkF mi 122 #[.val (.ref o), .val .null, .val (.ref hd), .val (.int i3), .val (.int i4), .val (.ref hd), .val (.int i6), .val (.int i7), .unset] [(.ref o)])) rfl rfl (hb hby d_prog_5_method_7_122)
  refine Go.st st4 ?_
  show Go pg.tables ev below (T4.setTop (mkF mi 125 #[.val (.ref o), .val .null, .val (.ref hd), .val (.int i3), .val (.int i4), .val (.ref hd), .val (.int i6), .val (.int i7), .unset] [(.ref nb)])) P
  refine Go.st (fun t_ k_ => XS.aloadN X4.here hx rfl (hb hby d_prog_5_method_7_125) rfl rfl k_) ?_
  show Go pg.tables ev below (T4.setTop (mkF mi 126 #[.val (.ref o), .val .null, .val (.ref hd), .val (.int i3), .val (.int i4), .val (.ref hd), .val (.int i6), .val (.int i7), .unset] [(.ref o), (.ref nb)])) P
  obtain ⟨T5, X5, e5, st5⟩ := getF X4 hx hZ hown (host := "") (Or.inl (hw _ (List.mem_of_getElem? (i := 28) rfl))) Via.refl e4 F4 (g := (mkF mi 126 #[.val (.ref o), .val .null, .val (.ref hd), .val (.int i3), .val (.int i4), .val (.ref hd), .val (.int i6), .val (.int i7), .unset] [(.ref o), (.ref nb)])) rfl rfl (hb hby d_prog_5_method_7_126)
  refine Go.st st5 ?_
  show Go pg.tables ev below (T5.setTop (mkF mi 129 #[.val (.ref o), .val .null, .val (.ref hd), .val (.int i3), .val (.int i4), .val (.ref hd), .val (.int i6), .val (.int i7), .unset] [(.int (0 : Int32)), (.ref nb)])) P
  refine Go.st (fun t_ k_ => XS.aloadN X5.here hx rfl (hb hby d_prog_5_method_7_129) rfl rfl k_) ?_
  show Go pg.tables ev below (T5.setTop (mkF mi 130 #[.val (.ref o), .val .null, .val (.ref hd), .val (.int i3), .val (.int i4), .val (.ref hd), .val (.int i6), .val (.int i7), .unset] [(.ref hd), (.int (0 : Int32)), (.ref nb)])) P
  have ov6 := A_nb
  obtain ⟨cl6, Ar6, q6, S6, M6, H6, G6⟩ := ov6
  have hin6 : ¬ ((0 : Int32) < 0 ∨ cl6.slots.size ≤ ((0 : Int32)).toNatClampNeg) := inb_of S6 ⟨by decide, by decide⟩
  obtain ⟨T7, h7, X7, e7, W7, st7⟩ := stR X5 hx hZ e5 Ar6 (j := (0 : Int32)) hin6 rfl (Sto.ofVA Ar6 q6 O_nb (Ins.self EH)) (g := (mkF mi 130 #[.val (.ref o), .val .null, .val (.ref hd), .val (.int i3), .val (.int i4), .val (.ref hd), .val (.int i6), .val (.int i7), .unset] [(.ref hd), (.int (0 : Int32)), (.ref nb)])) rfl rfl (hb hby d_prog_5_method_7_130)
  have Zs8 : n0 ≤ h7.size := Nat.le_trans Z0 (Keep.of_wr W7).1
  have KC8 : Keep h0 h7 [o, nb, vb, sp, kn] := (Keep.refl h0 [o, nb, vb, sp, kn]).wr W7 (Or.inl (List.mem_of_getElem? (i := 1) rfl))
  have N8 := Fr.snoc X7 N0 g_nb
  have vl7 : (vN.set 0 (.ref hd)).length = 8 := List.length_set.trans l_nb
  have V7 : Arv Z h7 nb kN (.array .byte) (8 : Int32) (vN.set 0 (.ref hd)) .null := Arv.set Ar6 q6 S6 M6 H6 G6 rfl W7 0 rfl (by rw [l_nb]; decide)
  refine Go.st st7 ?_
  show Go pg.tables ev below (T7.setTop (mkF mi 131 #[.val (.ref o), .val .null, .val (.ref hd), .val (.int i3), .val (.int i4), .val (.ref hd), .val (.int i6), .val (.int i7), .unset] [])) P
  refine Go.st (fun t_ k_ => XS.aloadN X7.here hx rfl (hb hby d_prog_5_method_7_131) rfl rfl k_) ?_
  show Go pg.tables ev below (T7.setTop (mkF mi 132 #[.val (.ref o), .val .null, .val (.ref hd), .val (.int i3), .val (.int i4), .val (.ref hd), .val (.int i6), .val (.int i7), .unset] [(.ref o)])) P
  have f9 := (F1.other W7 (Or.inl ne_o_nb))
  obtain ⟨T10, X10, e10, st10⟩ := getF X7 hx hZ hown (host := "") (Or.inl (hw _ (List.mem_of_getElem? (i := 14) rfl))) Via.refl e7 f9 (g := (mkF mi 132 #[.val (.ref o), .val .null, .val (.ref hd), .val (.int i3), .val (.int i4), .val (.ref hd), .val (.int i6), .val (.int i7), .unset] [(.ref o)])) rfl rfl (hb hby d_prog_5_method_7_132)
  refine Go.st st10 ?_
  show Go pg.tables ev below (T10.setTop (mkF mi 135 #[.val (.ref o), .val .null, .val (.ref hd), .val (.int i3), .val (.int i4), .val (.ref hd), .val (.int i6), .val (.int i7), .unset] [(.ref vb)])) P
  refine Go.st (fun t_ k_ => XS.aloadN X10.here hx rfl (hb hby d_prog_5_method_7_135) rfl rfl k_) ?_
  show Go pg.tables ev below (T10.setTop (mkF mi 136 #[.val (.ref o), .val .null, .val (.ref hd), .val (.int i3), .val (.int i4), .val (.ref hd), .val (.int i6), .val (.int i7), .unset] [(.ref o), (.ref vb)])) P
  have f11 := (F4.other W7 (Or.inl ne_o_nb))
  obtain ⟨T12, X12, e12, st12⟩ := getF X10 hx hZ hown (host := "") (Or.inl (hw _ (List.mem_of_getElem? (i := 28) rfl))) Via.refl e10 f11 (g := (mkF mi 136 #[.val (.ref o), .val .null, .val (.ref hd), .val (.int i3), .val (.int i4), .val (.ref hd), .val (.int i6), .val (.int i7), .unset] [(.ref o), (.ref vb)])) rfl rfl (hb hby d_prog_5_method_7_136)
  refine Go.st st12 ?_
  show Go pg.tables ev below (T12.setTop (mkF mi 139 #[.val (.ref o), .val .null, .val (.ref hd), .val (.int i3), .val (.int i4), .val (.ref hd), .val (.int i6), .val (.int i7), .unset] [(.int (0 : Int32)), (.ref vb)])) P
  refine Go.st (fun t_ k_ => XS.aload X12.here hx rfl (hb hby d_prog_5_method_7_139) rfl rfl k_) ?_
  show Go pg.tables ev below (T12.setTop (mkF mi 141 #[.val (.ref o), .val .null, .val (.ref hd), .val (.int i3), .val (.int i4), .val (.ref hd), .val (.int i6), .val (.int i7), .unset] [(.ref hd), (.int (0 : Int32)), (.ref vb)])) P
  have f13 := (A_vb.other W7 (Ne.symm ne_nb_vb))
  have ov14 := f13
  obtain ⟨cl14, Ar14, q14, S14, M14, H14, G14⟩ := ov14
  have hin14 : ¬ ((0 : Int32) < 0 ∨ cl14.slots.size ≤ ((0 : Int32)).toNatClampNeg) := inb_of S14 ⟨by decide, by decide⟩
  have f15 := (EH.wr W7)
  obtain ⟨T16, h16, X16, e16, W16, st16⟩ := stR X12 hx hZ e12 Ar14 (j := (0 : Int32)) hin14 rfl (Sto.ofVA Ar14 q14 O_vb (Ins.self f15)) (g := (mkF mi 141 #[.val (.ref o), .val .null, .val (.ref hd), .val (.int i3), .val (.int i4), .val (.ref hd), .val (.int i6), .val (.int i7), .unset] [(.ref hd), (.int (0 : Int32)), (.ref vb)])) rfl rfl (hb hby d_prog_5_method_7_141)
  have Zs17 : n0 ≤ h16.size := Nat.le_trans Zs8 (Keep.of_wr W16).1
  have KC17 : Keep h0 h16 [o, nb, vb, sp, kn] := KC8.wr W16 (Or.inl (List.mem_of_getElem? (i := 2) rfl))
  have N17 := Fr.snoc X16 N8 g_vb
  have vl16 : (vV.set 0 (.ref hd)).length = 8 := List.length_set.trans l_vb
  have V16 : Arv Z h16 vb kV (.array .byte) (8 : Int32) (vV.set 0 (.ref hd)) .null := Arv.set Ar14 q14 S14 M14 H14 G14 rfl W16 0 rfl (by rw [l_vb]; decide)
  refine Go.st st16 ?_
  show Go pg.tables ev below (T16.setTop (mkF mi 142 #[.val (.ref o), .val .null, .val (.ref hd), .val (.int i3), .val (.int i4), .val (.ref hd), .val (.int i6), .val (.int i7), .unset] [])) P
  refine Go.st (fun t_ k_ => XS.iconst X16.here hx rfl (hb hby d_prog_5_method_7_142) k_) ?_
  show Go pg.tables ev below (T16.setTop (mkF mi 143 #[.val (.ref o), .val .null, .val (.ref hd), .val (.int i3), .val (.int i4), .val (.ref hd), .val (.int i6), .val (.int i7), .unset] [(.int (4 : Int32))])) P
  refine Go.st (fun t_ k_ => XS.aloadN X16.here hx rfl (hb hby d_prog_5_method_7_143) rfl rfl k_) ?_
  show Go pg.tables ev below (T16.setTop (mkF mi 144 #[.val (.ref o), .val .null, .val (.ref hd), .val (.int i3), .val (.int i4), .val (.ref hd), .val (.int i6), .val (.int i7), .unset] [(.ref o), (.int (4 : Int32))])) P
  have f18 := (f11.other W16 (Or.inl ne_o_vb))
  obtain ⟨T19, X19, e19, st19⟩ := getF X16 hx hZ hown (host := "") (Or.inl (hw _ (List.mem_of_getElem? (i := 28) rfl))) Via.refl e16 f18 (g := (mkF mi 144 #[.val (.ref o), .val .null, .val (.ref hd), .val (.int i3), .val (.int i4), .val (.ref hd), .val (.int i6), .val (.int i7), .unset] [(.ref o), (.int (4 : Int32))])) rfl rfl (hb hby d_prog_5_method_7_144)
  refine Go.st st19 ?_
  show Go pg.tables ev below (T19.setTop (mkF mi 147 #[.val (.ref o), .val .null, .val (.ref hd), .val (.int i3), .val (.int i4), .val (.ref hd), .val (.int i6), .val (.int i7), .unset] [(.int (0 : Int32)), (.int (4 : Int32))])) P
  refine Go.st (fun t_ k_ => XS.imul X19.here hx rfl (hb hby d_prog_5_method_7_147) rfl k_) ?_
  show Go pg.tables ev below (T19.setTop (mkF mi 148 #[.val (.ref o), .val .null, .val (.ref hd), .val (.int i3), .val (.int i4), .val (.ref hd), .val (.int i6), .val (.int i7), .unset] [(.int (0 : Int32))])) P
  refine Go.st (fun t_ k_ => XS.istore X19.here hx rfl (hb hby d_prog_5_method_7_148) rfl (l' := #[.val (.ref o), .val .null, .val (.ref hd), .val (.int i3), .val (.int i4), .val (.ref hd), .val (.int i6), .val (.int i7), .val (.int (0 : Int32))]) rfl k_) ?_
  show Go pg.tables ev below (T19.setTop (mkF mi 150 #[.val (.ref o), .val .null, .val (.ref hd), .val (.int i3), .val (.int i4), .val (.ref hd), .val (.int i6), .val (.int i7), .val (.int (0 : Int32))] [])) P
  refine Go.st (fun t_ k_ => XS.aloadN X19.here hx rfl (hb hby d_prog_5_method_7_150) rfl rfl k_) ?_
  show Go pg.tables ev below (T19.setTop (mkF mi 151 #[.val (.ref o), .val .null, .val (.ref hd), .val (.int i3), .val (.int i4), .val (.ref hd), .val (.int i6), .val (.int i7), .val (.int (0 : Int32))] [(.ref o)])) P
  have f20 := ((F2.other W7 (Or.inl ne_o_nb)).other W16 (Or.inl ne_o_vb))
  obtain ⟨T21, X21, e21, st21⟩ := getF X19 hx hZ hown (host := "") (Or.inl (hw _ (List.mem_of_getElem? (i := 17) rfl))) Via.refl e19 f20 (g := (mkF mi 151 #[.val (.ref o), .val .null, .val (.ref hd), .val (.int i3), .val (.int i4), .val (.ref hd), .val (.int i6), .val (.int i7), .val (.int (0 : Int32))] [(.ref o)])) rfl rfl (hb hby d_prog_5_method_7_151)
  refine Go.st st21 ?_
  show Go pg.tables ev below (T21.setTop (mkF mi 154 #[.val (.ref o), .val .null, .val (.ref hd), .val (.int i3), .val (.int i4), .val (.ref hd), .val (.int i6), .val (.int i7), .val (.int (0 : Int32))] [(.ref sp)])) P
  refine Go.st (fun t_ k_ => XS.iload X21.here hx rfl (hb hby d_prog_5_method_7_154) rfl k_) ?_
  show Go pg.tables ev below (T21.setTop (mkF mi 156 #[.val (.ref o), .val .null, .val (.ref hd), .val (.int i3), .val (.int i4), .val (.ref hd), .val (.int i6), .val (.int i7), .val (.int (0 : Int32))] [(.int (0 : Int32)), (.ref sp)])) P
  refine Go.st (fun t_ k_ => XS.iloadN X21.here hx rfl (hb hby d_prog_5_method_7_156) rfl k_) ?_
  show Go pg.tables ev below (T21.setTop (mkF mi 157 #[.val (.ref o), .val .null, .val (.ref hd), .val (.int i3), .val (.int i4), .val (.ref hd), .val (.int i6), .val (.int i7), .val (.int (0 : Int32))] [(.int i3), (.int (0 : Int32)), (.ref sp)])) P
  have f22 := ((A_sp.other W7 (Ne.symm ne_nb_sp)).other W16 (Ne.symm ne_vb_sp))
  have ov23 := f22
  obtain ⟨cl23, Ar23, q23, S23, M23, H23, G23⟩ := ov23
  have hin23 : ¬ ((0 : Int32) < 0 ∨ cl23.slots.size ≤ ((0 : Int32)).toNatClampNeg) := inb_of S23 ⟨by decide, by decide⟩
  obtain ⟨T24, h24, X24, e24, W24, st24⟩ := stI X21 hx hZ e21 Ar23 (j := (0 : Int32)) hin23 (g := (mkF mi 157 #[.val (.ref o), .val .null, .val (.ref hd), .val (.int i3), .val (.int i4), .val (.ref hd), .val (.int i6), .val (.int i7), .val (.int (0 : Int32))] [(.int i3), (.int (0 : Int32)), (.ref sp)])) rfl rfl (hb hby d_prog_5_method_7_157)
  have Zs25 : n0 ≤ h24.size := Nat.le_trans Zs17 (Keep.of_wr W24).1
  have KC25 : Keep h0 h24 [o, nb, vb, sp, kn] := KC17.wr W24 (Or.inl (List.mem_of_getElem? (i := 3) rfl))
  have N25 := Fr.snoc X24 N17 g_sp
  have vl24 : (vS.set 0 (.int i3)).length = 32 := List.length_set.trans l_sp
  have V24 : Arv Z h24 sp kS .int (32 : Int32) (vS.set 0 (.int i3)) (.int (0 : Int32)) := Arv.set Ar23 q23 S23 M23 H23 G23 rfl W24 0 rfl (by rw [l_sp]; decide)
  refine Go.st st24 ?_
  show Go pg.tables ev below (T24.setTop (mkF mi 158 #[.val (.ref o), .val .null, .val (.ref hd), .val (.int i3), .val (.int i4), .val (.ref hd), .val (.int i6), .val (.int i7), .val (.int (0 : Int32))] [])) P
  refine Go.st (fun t_ k_ => XS.aloadN X24.here hx rfl (hb hby d_prog_5_method_7_158) rfl rfl k_) ?_
  show Go pg.tables ev below (T24.setTop (mkF mi 159 #[.val (.ref o), .val .null, .val (.ref hd), .val (.int i3), .val (.int i4), .val (.ref hd), .val (.int i6), .val (.int i7), .val (.int (0 : Int32))] [(.ref o)])) P
  have f26 := (f20.other W24 (Or.inl ne_o_sp))
  obtain ⟨T27, X27, e27, st27⟩ := getF X24 hx hZ hown (host := "") (Or.inl (hw _ (List.mem_of_getElem? (i := 17) rfl))) Via.refl e24 f26 (g := (mkF mi 159 #[.val (.ref o), .val .null, .val (.ref hd), .val (.int i3), .val (.int i4), .val (.ref hd), .val (.int i6), .val (.int i7), .val (.int (0 : Int32))] [(.ref o)])) rfl rfl (hb hby d_prog_5_method_7_159)
  refine Go.st st27 ?_
  show Go pg.tables ev below (T27.setTop (mkF mi 162 #[.val (.ref o), .val .null, .val (.ref hd), .val (.int i3), .val (.int i4), .val (.ref hd), .val (.int i6), .val (.int i7), .val (.int (0 : Int32))] [(.ref sp)])) P
  refine Go.st (fun t_ k_ => XS.iload X27.here hx rfl (hb hby d_prog_5_method_7_162) rfl k_) ?_
  show Go pg.tables ev below (T27.setTop (mkF mi 164 #[.val (.ref o), .val .null, .val (.ref hd), .val (.int i3), .val (.int i4), .val (.ref hd), .val (.int i6), .val (.int i7), .val (.int (0 : Int32))] [(.int (0 : Int32)), (.ref sp)])) P
  refine Go.st (fun t_ k_ => XS.iconst X27.here hx rfl (hb hby d_prog_5_method_7_164) k_) ?_
  show Go pg.tables ev below (T27.setTop (mkF mi 165 #[.val (.ref o), .val .null, .val (.ref hd), .val (.int i3), .val (.int i4), .val (.ref hd), .val (.int i6), .val (.int i7), .val (.int (0 : Int32))] [(.int (1 : Int32)), (.int (0 : Int32)), (.ref sp)])) P
  refine Go.st (fun t_ k_ => XS.iadd X27.here hx rfl (hb hby d_prog_5_method_7_165) rfl k_) ?_
  show Go pg.tables ev below (T27.setTop (mkF mi 166 #[.val (.ref o), .val .null, .val (.ref hd), .val (.int i3), .val (.int i4), .val (.ref hd), .val (.int i6), .val (.int i7), .val (.int (0 : Int32))] [(.int (1 : Int32)), (.ref sp)])) P
  refine Go.st (fun t_ k_ => XS.iload X27.here hx rfl (hb hby d_prog_5_method_7_166) rfl k_) ?_
  show Go pg.tables ev below (T27.setTop (mkF mi 168 #[.val (.ref o), .val .null, .val (.ref hd), .val (.int i3), .val (.int i4), .val (.ref hd), .val (.int i6), .val (.int i7), .val (.int (0 : Int32))] [(.int i4), (.int (1 : Int32)), (.ref sp)])) P
  have ov28 := V24
  obtain ⟨cl28, Ar28, q28, S28, M28, H28, G28⟩ := ov28
  have hin28 : ¬ ((1 : Int32) < 0 ∨ cl28.slots.size ≤ ((1 : Int32)).toNatClampNeg) := inb_of S28 ⟨by decide, by decide⟩
  obtain ⟨T29, h29, X29, e29, W29, st29⟩ := stI X27 hx hZ e27 Ar28 (j := (1 : Int32)) hin28 (g := (mkF mi 168 #[.val (.ref o), .val .null, .val (.ref hd), .val (.int i3), .val (.int i4), .val (.ref hd), .val (.int i6), .val (.int i7), .val (.int (0 : Int32))] [(.int i4), (.int (1 : Int32)), (.ref sp)])) rfl rfl (hb hby d_prog_5_method_7_168)
  have Zs30 : n0 ≤ h29.size := Nat.le_trans Zs25 (Keep.of_wr W29).1
  have KC30 : Keep h0 h29 [o, nb, vb, sp, kn] := KC25.wr W29 (Or.inl (List.mem_of_getElem? (i := 3) rfl))
  have N30 := Fr.snoc X29 N25 g_sp
  have vl29 : ((vS.set 0 (.int i3)).set 1 (.int i4)).length = 32 := List.length_set.trans vl24
  have V29 : Arv Z h29 sp kS .int (32 : Int32) ((vS.set 0 (.int i3)).set 1 (.int i4)) (.int (0 : Int32)) := Arv.set Ar28 q28 S28 M28 H28 G28 rfl W29 1 rfl (by rw [vl24]; decide)
  refine Go.st st29 ?_
  show Go pg.tables ev below (T29.setTop (mkF mi 169 #[.val (.ref o), .val .null, .val (.ref hd), .val (.int i3), .val (.int i4), .val (.ref hd), .val (.int i6), .val (.int i7), .val (.int (0 : Int32))] [])) P
  refine Go.st (fun t_ k_ => XS.aloadN X29.here hx rfl (hb hby d_prog_5_method_7_169) rfl rfl k_) ?_
  show Go pg.tables ev below (T29.setTop (mkF mi 170 #[.val (.ref o), .val .null, .val (.ref hd), .val (.int i3), .val (.int i4), .val (.ref hd), .val (.int i6), .val (.int i7), .val (.int (0 : Int32))] [(.ref o)])) P
  have f31 := (f26.other W29 (Or.inl ne_o_sp))
  obtain ⟨T32, X32, e32, st32⟩ := getF X29 hx hZ hown (host := "") (Or.inl (hw _ (List.mem_of_getElem? (i := 17) rfl))) Via.refl e29 f31 (g := (mkF mi 170 #[.val (.ref o), .val .null, .val (.ref hd), .val (.int i3), .val (.int i4), .val (.ref hd), .val (.int i6), .val (.int i7), .val (.int (0 : Int32))] [(.ref o)])) rfl rfl (hb hby d_prog_5_method_7_170)
  refine Go.st st32 ?_
  show Go pg.tables ev below (T32.setTop (mkF mi 173 #[.val (.ref o), .val .null, .val (.ref hd), .val (.int i3), .val (.int i4), .val (.ref hd), .val (.int i6), .val (.int i7), .val (.int (0 : Int32))] [(.ref sp)])) P
  refine Go.st (fun t_ k_ => XS.iload X32.here hx rfl (hb hby d_prog_5_method_7_173) rfl k_) ?_
  show Go pg.tables ev below (T32.setTop (mkF mi 175 #[.val (.ref o), .val .null, .val (.ref hd), .val (.int i3), .val (.int i4), .val (.ref hd), .val (.int i6), .val (.int i7), .val (.int (0 : Int32))] [(.int (0 : Int32)), (.ref sp)])) P
  refine Go.st (fun t_ k_ => XS.iconst X32.here hx rfl (hb hby d_prog_5_method_7_175) k_) ?_
  show Go pg.tables ev below (T32.setTop (mkF mi 176 #[.val (.ref o), .val .null, .val (.ref hd), .val (.int i3), .val (.int i4), .val (.ref hd), .val (.int i6), .val (.int i7), .val (.int (0 : Int32))] [(.int (2 : Int32)), (.int (0 : Int32)), (.ref sp)])) P
  refine Go.st (fun t_ k_ => XS.iadd X32.here hx rfl (hb hby d_prog_5_method_7_176) rfl k_) ?_
  show Go pg.tables ev below (T32.setTop (mkF mi 177 #[.val (.ref o), .val .null, .val (.ref hd), .val (.int i3), .val (.int i4), .val (.ref hd), .val (.int i6), .val (.int i7), .val (.int (0 : Int32))] [(.int (2 : Int32)), (.ref sp)])) P
  refine Go.st (fun t_ k_ => XS.iload X32.here hx rfl (hb hby d_prog_5_method_7_177) rfl k_) ?_
  show Go pg.tables ev below (T32.setTop (mkF mi 179 #[.val (.ref o), .val .null, .val (.ref hd), .val (.int i3), .val (.int i4), .val (.ref hd), .val (.int i6), .val (.int i7), .val (.int (0 : Int32))] [(.int i6), (.int (2 : Int32)), (.ref sp)])) P
  have ov33 := V29
  obtain ⟨cl33, Ar33, q33, S33, M33, H33, G33⟩ := ov33
  have hin33 : ¬ ((2 : Int32) < 0 ∨ cl33.slots.size ≤ ((2 : Int32)).toNatClampNeg) := inb_of S33 ⟨by decide, by decide⟩
  obtain ⟨T34, h34, X34, e34, W34, st34⟩ := stI X32 hx hZ e32 Ar33 (j := (2 : Int32)) hin33 (g := (mkF mi 179 #[.val (.ref o), .val .null, .val (.ref hd), .val (.int i3), .val (.int i4), .val (.ref hd), .val (.int i6), .val (.int i7), .val (.int (0 : Int32))] [(.int i6), (.int (2 : Int32)), (.ref sp)])) rfl rfl (hb hby d_prog_5_method_7_179)
  have Zs35 : n0 ≤ h34.size := Nat.le_trans Zs30 (Keep.of_wr W34).1
  have KC35 : Keep h0 h34 [o, nb, vb, sp, kn] := KC30.wr W34 (Or.inl (List.mem_of_getElem? (i := 3) rfl))
  have N35 := Fr.snoc X34 N30 g_sp
  have vl34 : (((vS.set 0 (.int i3)).set 1 (.int i4)).set 2 (.int i6)).length = 32 := List.length_set.trans vl29
  have V34 : Arv Z h34 sp kS .int (32 : Int32) (((vS.set 0 (.int i3)).set 1 (.int i4)).set 2 (.int i6)) (.int (0 : Int32)) := Arv.set Ar33 q33 S33 M33 H33 G33 rfl W34 2 rfl (by rw [vl29]; decide)
  refine Go.st st34 ?_
  show Go pg.tables ev below (T34.setTop (mkF mi 180 #[.val (.ref o), .val .null, .val (.ref hd), .val (.int i3), .val (.int i4), .val (.ref hd), .val (.int i6), .val (.int i7), .val (.int (0 : Int32))] [])) P
  refine Go.st (fun t_ k_ => XS.aloadN X34.here hx rfl (hb hby d_prog_5_method_7_180) rfl rfl k_) ?_
  show Go pg.tables ev below (T34.setTop (mkF mi 181 #[.val (.ref o), .val .null, .val (.ref hd), .val (.int i3), .val (.int i4), .val (.ref hd), .val (.int i6), .val (.int i7), .val (.int (0 : Int32))] [(.ref o)])) P
  have f36 := (f31.other W34 (Or.inl ne_o_sp))
  obtain ⟨T37, X37, e37, st37⟩ := getF X34 hx hZ hown (host := "") (Or.inl (hw _ (List.mem_of_getElem? (i := 17) rfl))) Via.refl e34 f36 (g := (mkF mi 181 #[.val (.ref o), .val .null, .val (.ref hd), .val (.int i3), .val (.int i4), .val (.ref hd), .val (.int i6), .val (.int i7), .val (.int (0 : Int32))] [(.ref o)])) rfl rfl (hb hby d_prog_5_method_7_181)
  refine Go.st st37 ?_
  show Go pg.tables ev below (T37.setTop (mkF mi 184 #[.val (.ref o), .val .null, .val (.ref hd), .val (.int i3), .val (.int i4), .val (.ref hd), .val (.int i6), .val (.int i7), .val (.int (0 : Int32))] [(.ref sp)])) P
  refine Go.st (fun t_ k_ => XS.iload X37.here hx rfl (hb hby d_prog_5_method_7_184) rfl k_) ?_
  show Go pg.tables ev below (T37.setTop (mkF mi 186 #[.val (.ref o), .val .null, .val (.ref hd), .val (.int i3), .val (.int i4), .val (.ref hd), .val (.int i6), .val (.int i7), .val (.int (0 : Int32))] [(.int (0 : Int32)), (.ref sp)])) P
  refine Go.st (fun t_ k_ => XS.iconst X37.here hx rfl (hb hby d_prog_5_method_7_186) k_) ?_
  show Go pg.tables ev below (T37.setTop (mkF mi 187 #[.val (.ref o), .val .null, .val (.ref hd), .val (.int i3), .val (.int i4), .val (.ref hd), .val (.int i6), .val (.int i7), .val (.int (0 : Int32))] [(.int (3 : Int32)), (.int (0 : Int32)), (.ref sp)])) P
  refine Go.st (fun t_ k_ => XS.iadd X37.here hx rfl (hb hby d_prog_5_method_7_187) rfl k_) ?_
  show Go pg.tables ev below (T37.setTop (mkF mi 188 #[.val (.ref o), .val .null, .val (.ref hd), .val (.int i3), .val (.int i4), .val (.ref hd), .val (.int i6), .val (.int i7), .val (.int (0 : Int32))] [(.int (3 : Int32)), (.ref sp)])) P
  refine Go.st (fun t_ k_ => XS.iload X37.here hx rfl (hb hby d_prog_5_method_7_188) rfl k_) ?_
  show Go pg.tables ev below (T37.setTop (mkF mi 190 #[.val (.ref o), .val .null, .val (.ref hd), .val (.int i3), .val (.int i4), .val (.ref hd), .val (.int i6), .val (.int i7), .val (.int (0 : Int32))] [(.int i7), (.int (3 : Int32)), (.ref sp)])) P
  have ov38 := V34
  obtain ⟨cl38, Ar38, q38, S38, M38, H38, G38⟩ := ov38
  have hin38 : ¬ ((3 : Int32) < 0 ∨ cl38.slots.size ≤ ((3 : Int32)).toNatClampNeg) := inb_of S38 ⟨by decide, by decide⟩
  obtain ⟨T39, h39, X39, e39, W39, st39⟩ := stI X37 hx hZ e37 Ar38 (j := (3 : Int32)) hin38 (g := (mkF mi 190 #[.val (.ref o), .val .null, .val (.ref hd), .val (.int i3), .val (.int i4), .val (.ref hd), .val (.int i6), .val (.int i7), .val (.int (0 : Int32))] [(.int i7), (.int (3 : Int32)), (.ref sp)])) rfl rfl (hb hby d_prog_5_method_7_190)
  have Zs40 : n0 ≤ h39.size := Nat.le_trans Zs35 (Keep.of_wr W39).1
  have KC40 : Keep h0 h39 [o, nb, vb, sp, kn] := KC35.wr W39 (Or.inl (List.mem_of_getElem? (i := 3) rfl))
  have N40 := Fr.snoc X39 N35 g_sp
  have vl39 : ((((vS.set 0 (.int i3)).set 1 (.int i4)).set 2 (.int i6)).set 3 (.int i7)).length = 32 := List.length_set.trans vl34
  have V39 : Arv Z h39 sp kS .int (32 : Int32) ((((vS.set 0 (.int i3)).set 1 (.int i4)).set 2 (.int i6)).set 3 (.int i7)) (.int (0 : Int32)) := Arv.set Ar38 q38 S38 M38 H38 G38 rfl W39 3 rfl (by rw [vl34]; decide)
  refine Go.st st39 ?_
  show Go pg.tables ev below (T39.setTop (mkF mi 191 #[.val (.ref o), .val .null, .val (.ref hd), .val (.int i3), .val (.int i4), .val (.ref hd), .val (.int i6), .val (.int i7), .val (.int (0 : Int32))] [])) P
  refine Go.st (fun t_ k_ => XS.aloadN X39.here hx rfl (hb hby d_prog_5_method_7_191) rfl rfl k_) ?_
  show Go pg.tables ev below (T39.setTop (mkF mi 192 #[.val (.ref o), .val .null, .val (.ref hd), .val (.int i3), .val (.int i4), .val (.ref hd), .val (.int i6), .val (.int i7), .val (.int (0 : Int32))] [(.ref o)])) P
  have f41 := ((((((F3.other W7 (Or.inl ne_o_nb)).other W16 (Or.inl ne_o_vb)).other W24 (Or.inl ne_o_sp)).other W29 (Or.inl ne_o_sp)).other W34 (Or.inl ne_o_sp)).other W39 (Or.inl ne_o_sp))
  obtain ⟨T42, X42, e42, st42⟩ := getF X39 hx hZ hown (host := "") (Or.inl (hw _ (List.mem_of_getElem? (i := 21) rfl))) Via.refl e39 f41 (g := (mkF mi 192 #[.val (.ref o), .val .null, .val (.ref hd), .val (.int i3), .val (.int i4), .val (.ref hd), .val (.int i6), .val (.int i7), .val (.int (0 : Int32))] [(.ref o)])) rfl rfl (hb hby d_prog_5_method_7_192)
  refine Go.st st42 ?_
  show Go pg.tables ev below (T42.setTop (mkF mi 195 #[.val (.ref o), .val .null, .val (.ref hd), .val (.int i3), .val (.int i4), .val (.ref hd), .val (.int i6), .val (.int i7), .val (.int (0 : Int32))] [(.ref kn)])) P
  refine Go.st (fun t_ k_ => XS.aloadN X42.here hx rfl (hb hby d_prog_5_method_7_195) rfl rfl k_) ?_
  show Go pg.tables ev below (T42.setTop (mkF mi 196 #[.val (.ref o), .val .null, .val (.ref hd), .val (.int i3), .val (.int i4), .val (.ref hd), .val (.int i6), .val (.int i7), .val (.int (0 : Int32))] [(.ref o), (.ref kn)])) P
  have f43 := ((((f18.other W24 (Or.inl ne_o_sp)).other W29 (Or.inl ne_o_sp)).other W34 (Or.inl ne_o_sp)).other W39 (Or.inl ne_o_sp))
  obtain ⟨T44, X44, e44, st44⟩ := getF X42 hx hZ hown (host := "") (Or.inl (hw _ (List.mem_of_getElem? (i := 28) rfl))) Via.refl e42 f43 (g := (mkF mi 196 #[.val (.ref o), .val .null, .val (.ref hd), .val (.int i3), .val (.int i4), .val (.ref hd), .val (.int i6), .val (.int i7), .val (.int (0 : Int32))] [(.ref o), (.ref kn)])) rfl rfl (hb hby d_prog_5_method_7_196)
  refine Go.st st44 ?_
  show Go pg.tables ev below (T44.setTop (mkF mi 199 #[.val (.ref o), .val .null, .val (.ref hd), .val (.int i3), .val (.int i4), .val (.ref hd), .val (.int i6), .val (.int i7), .val (.int (0 : Int32))] [(.int (0 : Int32)), (.ref kn)])) P
  refine Go.st (fun t_ k_ => XS.aloadN X44.here hx rfl (hb hby d_prog_5_method_7_199) rfl rfl k_) ?_
  show Go pg.tables ev below (T44.setTop (mkF mi 200 #[.val (.ref o), .val .null, .val (.ref hd), .val (.int i3), .val (.int i4), .val (.ref hd), .val (.int i6), .val (.int i7), .val (.int (0 : Int32))] [.null, (.int (0 : Int32)), (.ref kn)])) P
  have f45 := ((((((A_kn.other W7 (Ne.symm ne_nb_kn)).other W16 (Ne.symm ne_vb_kn)).other W24 (Ne.symm ne_sp_kn)).other W29 (Ne.symm ne_sp_kn)).other W34 (Ne.symm ne_sp_kn)).other W39 (Ne.symm ne_sp_kn))
  have ov46 := f45
  obtain ⟨cl46, Ar46, q46, S46, M46, H46, G46⟩ := ov46
  have hin46 : ¬ ((0 : Int32) < 0 ∨ cl46.slots.size ≤ ((0 : Int32)).toNatClampNeg) := inb_of S46 ⟨by decide, by decide⟩
  obtain ⟨T47, h47, X47, e47, W47, st47⟩ := stR X44 hx hZ e44 Ar46 (j := (0 : Int32)) hin46 rfl (Or.inl rfl) (g := (mkF mi 200 #[.val (.ref o), .val .null, .val (.ref hd), .val (.int i3), .val (.int i4), .val (.ref hd), .val (.int i6), .val (.int i7), .val (.int (0 : Int32))] [.null, (.int (0 : Int32)), (.ref kn)])) rfl rfl (hb hby d_prog_5_method_7_200)
  have Zs48 : n0 ≤ h47.size := Nat.le_trans Zs40 (Keep.of_wr W47).1
  have KC48 : Keep h0 h47 [o, nb, vb, sp, kn] := KC40.wr W47 (Or.inl (List.mem_of_getElem? (i := 4) rfl))
  have N48 := Fr.snoc X47 N40 g_kn
  have vl47 : (vK.set 0 .null).length = 8 := List.length_set.trans l_kn
  have V47 : Arv Z h47 kn kK (.object "com/example/gatewright/gatewright/FieldName") (8 : Int32) (vK.set 0 .null) .null := Arv.set Ar46 q46 S46 M46 H46 G46 rfl W47 0 rfl (by rw [l_kn]; decide)
  refine Go.st st47 ?_
  show Go pg.tables ev below (T47.setTop (mkF mi 201 #[.val (.ref o), .val .null, .val (.ref hd), .val (.int i3), .val (.int i4), .val (.ref hd), .val (.int i6), .val (.int i7), .val (.int (0 : Int32))] [])) P
  refine Go.st (fun t_ k_ => XS.aloadN X47.here hx rfl (hb hby d_prog_5_method_7_201) rfl rfl k_) ?_
  show Go pg.tables ev below (T47.setTop (mkF mi 202 #[.val (.ref o), .val .null, .val (.ref hd), .val (.int i3), .val (.int i4), .val (.ref hd), .val (.int i6), .val (.int i7), .val (.int (0 : Int32))] [(.ref o)])) P
  refine Go.st (fun t_ k_ => XS.dup X47.here hx rfl (hb hby d_prog_5_method_7_202) rfl rfl k_) ?_
  show Go pg.tables ev below (T47.setTop (mkF mi 203 #[.val (.ref o), .val .null, .val (.ref hd), .val (.int i3), .val (.int i4), .val (.ref hd), .val (.int i6), .val (.int i7), .val (.int (0 : Int32))] [(.ref o), (.ref o)])) P
  have f49 := (f43.other W47 (Or.inl ne_o_kn))
  obtain ⟨T50, X50, e50, st50⟩ := getF X47 hx hZ hown (host := "") (Or.inl (hw _ (List.mem_of_getElem? (i := 28) rfl))) Via.refl e47 f49 (g := (mkF mi 203 #[.val (.ref o), .val .null, .val (.ref hd), .val (.int i3), .val (.int i4), .val (.ref hd), .val (.int i6), .val (.int i7), .val (.int (0 : Int32))] [(.ref o), (.ref o)])) rfl rfl (hb hby d_prog_5_method_7_203)
  refine Go.st st50 ?_
  show Go pg.tables ev below (T50.setTop (mkF mi 206 #[.val (.ref o), .val .null, .val (.ref hd), .val (.int i3), .val (.int i4), .val (.ref hd), .val (.int i6), .val (.int i7), .val (.int (0 : Int32))] [(.int (0 : Int32)), (.ref o)])) P
  refine Go.st (fun t_ k_ => XS.iconst X50.here hx rfl (hb hby d_prog_5_method_7_206) k_) ?_
  show Go pg.tables ev below (T50.setTop (mkF mi 207 #[.val (.ref o), .val .null, .val (.ref hd), .val (.int i3), .val (.int i4), .val (.ref hd), .val (.int i6), .val (.int i7), .val (.int (0 : Int32))] [(.int (1 : Int32)), (.int (0 : Int32)), (.ref o)])) P
  refine Go.st (fun t_ k_ => XS.iadd X50.here hx rfl (hb hby d_prog_5_method_7_207) rfl k_) ?_
  show Go pg.tables ev below (T50.setTop (mkF mi 208 #[.val (.ref o), .val .null, .val (.ref hd), .val (.int i3), .val (.int i4), .val (.ref hd), .val (.int i6), .val (.int i7), .val (.int (0 : Int32))] [(.int (1 : Int32)), (.ref o)])) P
  have f51 := (((((((E0.wr W7).wr W16).wr W24).wr W29).wr W34).wr W39).wr W47)
  obtain ⟨T52, h52, X52, e52, W52, st52⟩ := putF X50 hx hZ hown (host := "") (Or.inl (hw _ (List.mem_of_getElem? (i := 28) rfl))) Via.refl e50 f49 f51 (Or.inl (hw _ (List.mem_of_getElem? (i := 29) rfl))) (hw _ (List.mem_of_getElem? (i := 2) rfl)) (ty := .int) (by decide) rfl rfl (g := (mkF mi 208 #[.val (.ref o), .val .null, .val (.ref hd), .val (.int i3), .val (.int i4), .val (.ref hd), .val (.int i6), .val (.int i7), .val (.int (0 : Int32))] [(.int (1 : Int32)), (.ref o)])) rfl rfl (hb hby d_prog_5_method_7_208)
  have Zs53 : n0 ≤ h52.size := Nat.le_trans Zs48 (Keep.of_wr W52).1
  have KC53 : Keep h0 h52 [o, nb, vb, sp, kn] := KC48.wr W52 (Or.inl (List.mem_of_getElem? (i := 0) rfl))
  have N53 := Fr.snoc X52 N48 ge0
  have F52 : Fld Z h52 o "com/example/gatewright/gatewright/Fields" "size" "I" (.int (1 : Int32)) := f49.same W52
  refine Go.st st52 ?_
  show Go pg.tables ev below (T52.setTop (mkF mi 211 #[.val (.ref o), .val .null, .val (.ref hd), .val (.int i3), .val (.int i4), .val (.ref hd), .val (.int i6), .val (.int i7), .val (.int (0 : Int32))] [])) P
  obtain ⟨fs, hr, hrun, hended, hW, hsame⟩ := X52.leave (v := none) (fun _ => rfl) (BodyLoose.notSynchronized Bd)
  have f54 := ((((((((F0.other W7 (Or.inl ne_o_nb)).other W16 (Or.inl ne_o_vb)).other W24 (Or.inl ne_o_sp)).other W29 (Or.inl ne_o_sp)).other W34 (Or.inl ne_o_sp)).other W39 (Or.inl ne_o_sp)).other W47 (Or.inl ne_o_kn)).other W52 (Or.inr (slot_ne (Or.inl (hw _ (List.mem_of_getElem? (i := 13) rfl))) (Or.inl (hw _ (List.mem_of_getElem? (i := 29) rfl))) (by decide) (t := (.array (.array .byte))) (t' := .int) (by decide) (by decide))))
  have f55 := (((((((f9.other W16 (Or.inl ne_o_vb)).other W24 (Or.inl ne_o_sp)).other W29 (Or.inl ne_o_sp)).other W34 (Or.inl ne_o_sp)).other W39 (Or.inl ne_o_sp)).other W47 (Or.inl ne_o_kn)).other W52 (Or.inr (slot_ne (Or.inl (hw _ (List.mem_of_getElem? (i := 15) rfl))) (Or.inl (hw _ (List.mem_of_getElem? (i := 29) rfl))) (by decide) (t := (.array (.array .byte))) (t' := .int) (by decide) (by decide))))
  have f56 := (((f36.other W39 (Or.inl ne_o_sp)).other W47 (Or.inl ne_o_kn)).other W52 (Or.inr (slot_ne (Or.inl (hw _ (List.mem_of_getElem? (i := 18) rfl))) (Or.inl (hw _ (List.mem_of_getElem? (i := 29) rfl))) (by decide) (t := (.array .int)) (t' := .int) (by decide) (by decide))))
  have f57 := ((f41.other W47 (Or.inl ne_o_kn)).other W52 (Or.inr (slot_ne (Or.inl (hw _ (List.mem_of_getElem? (i := 22) rfl))) (Or.inl (hw _ (List.mem_of_getElem? (i := 29) rfl))) (by decide) (t := (.array (.object "com/example/gatewright/gatewright/FieldName"))) (t' := .int) (by decide) (by decide))))
  have f58 := (((((((V7.other W16 ne_nb_vb).other W24 ne_nb_sp).other W29 ne_nb_sp).other W34 ne_nb_sp).other W39 ne_nb_sp).other W47 ne_nb_kn).other W52 (Ne.symm ne_o_nb))
  have f59 := ((((((V16.other W24 ne_vb_sp).other W29 ne_vb_sp).other W34 ne_vb_sp).other W39 ne_vb_sp).other W47 ne_vb_kn).other W52 (Ne.symm ne_o_vb))
  have f60 := ((V39.other W47 ne_sp_kn).other W52 (Ne.symm ne_o_sp))
  have f61 := (V47.other W52 (Ne.symm ne_o_kn))
  refine ⟨_, _, ?_, hP _ _ ⟨hrun, hended, _, _, rfl, ?_, ⟨_, rfl⟩, hW, hsame.mono (by decide) (by decide)⟩⟩
  · exact X52.returnOut hx Bd.returns (hb hby d_prog_5_method_7_211) hr
  · show (none : Option Value) = none ∧ Fr n0 _ ∧ Keep h0 T52.heap [o, nb, vb, sp, kn] ∧ Fld Z T52.heap o "com/example/gatewright/gatewright/Fields" "nameBytes" "[[B" (.ref nb) ∧ Fld Z T52.heap o "com/example/gatewright/gatewright/Fields" "valueBytes" "[[B" (.ref vb) ∧ Fld Z T52.heap o "com/example/gatewright/gatewright/Fields" "spans" "[I" (.ref sp) ∧ Fld Z T52.heap o "com/example/gatewright/gatewright/Fields" "known" "[Lcom/example/gatewright/gatewright/FieldName;" (.ref kn) ∧ Fld Z T52.heap o "com/example/gatewright/gatewright/Fields" "size" "I" (.int (1 : Int32)) ∧ Arv Z T52.heap nb kN (.array .byte) (8 : Int32) (vN.set 0 (.ref hd)) .null ∧ Arv Z T52.heap vb kV (.array .byte) (8 : Int32) (vV.set 0 (.ref hd)) .null ∧ Arv Z T52.heap sp kS .int (32 : Int32) ((((vS.set 0 (.int i3)).set 1 (.int i4)).set 2 (.int i6)).set 3 (.int i7)) (.int (0 : Int32)) ∧ Arv Z T52.heap kn kK (.object "com/example/gatewright/gatewright/FieldName") (8 : Int32) (vK.set 0 .null) .null
    rw [e52]
    exact ⟨rfl, N53, KC53, f54, f55, f56, f57, F52, f58, f59, f60, f61⟩
theorem d_prog_5_method_5_0 : decode prog_5_method_5_code 0 = .ok (.aload_n 0, 1) := by decide +kernel
theorem d_prog_5_method_5_1 : decode prog_5_method_5_code 1 = .ok (.aload_n 1, 1) := by decide +kernel
theorem d_prog_5_method_5_2 : decode prog_5_method_5_code 2 = .ok (.aload_n 2, 1) := by decide +kernel
theorem d_prog_5_method_5_3 : decode prog_5_method_5_code 3 = .ok (.iload_n 3, 1) := by decide +kernel
theorem d_prog_5_method_5_4 : decode prog_5_method_5_code 4 = .ok (.iload 4, 2) := by decide +kernel
theorem d_prog_5_method_5_6 : decode prog_5_method_5_code 6 = .ok (.aload_n 2, 1) := by decide +kernel
theorem d_prog_5_method_5_7 : decode prog_5_method_5_code 7 = .ok (.iload 5, 2) := by decide +kernel
theorem d_prog_5_method_5_9 : decode prog_5_method_5_code 9 = .ok (.iload 6, 2) := by decide +kernel
theorem d_prog_5_method_5_11 : decode prog_5_method_5_code 11 = .ok (.invokevirtual 60, 3) := by decide +kernel
theorem pd_1 : parseMethodDescriptor "(Lcom/example/gatewright/gatewright/FieldName;[BII[BII)V" = some ⟨[(.object "com/example/gatewright/gatewright/FieldName"), (.array .byte), .int, .int, (.array .byte), .int, .int], none⟩ := by decide +kernel
theorem d_prog_5_method_5_14 : decode prog_5_method_5_code 14 = .ok (.return_, 1) := by decide +kernel
theorem ef_rmA6_0 (mi : MethodId) (o : Addr) (hd : Addr) (i3 : Int32) (i4 : Int32) (i5 : Int32) (i6 : Int32) (nb : Addr) (vb : Addr) (sp : Addr) (kn : Addr) (kN : ClassId) (kV : ClassId) (kS : ClassId) (kK : ClassId) (vN : List Value) (vV : List Value) (vS : List Value) (vK : List Value) : entryFrame mi #[(.ref o), .null, (.ref hd), (.int i3), (.int i4), (.int i5), (.int i6)] 7 = mkF mi 0 #[.val (.ref o), .val .null, .val (.ref hd), .val (.int i3), .val (.int i4), .val (.int i5), .val (.int i6)] [] := by first | (simp [entryFrame, mkF, argsToLocals, Value.category]; done) | rfl
def Q_rmA6_0 (Z : State) (o : Addr) (hd : Addr) (i3 : Int32) (i4 : Int32) (i5 : Int32) (i6 : Int32) (nb : Addr) (vb : Addr) (sp : Addr) (kn : Addr) (kN : ClassId) (kV : ClassId) (kS : ClassId) (kK : ClassId) (vN : List Value) (vV : List Value) (vS : List Value) (vK : List Value) (h0 : Heap) (n0 : Nat) (vv_ : Option Value) (hh_ : Heap) (LL_ : List Loc) : Prop := vv_ = none ∧ Fr n0 LL_ ∧ Keep h0 hh_ [o, nb, vb, sp, kn] ∧ Fld Z hh_ o "com/example/gatewright/gatewright/Fields" "nameBytes" "[[B" (.ref nb) ∧ Fld Z hh_ o "com/example/gatewright/gatewright/Fields" "valueBytes" "[[B" (.ref vb) ∧ Fld Z hh_ o "com/example/gatewright/gatewright/Fields" "spans" "[I" (.ref sp) ∧ Fld Z hh_ o "com/example/gatewright/gatewright/Fields" "known" "[Lcom/example/gatewright/gatewright/FieldName;" (.ref kn) ∧ Fld Z hh_ o "com/example/gatewright/gatewright/Fields" "size" "I" (.int (1 : Int32)) ∧ Arv Z hh_ nb kN (.array .byte) (8 : Int32) (vN.set 0 (.ref hd)) .null ∧ Arv Z hh_ vb kV (.array .byte) (8 : Int32) (vV.set 0 (.ref hd)) .null ∧ Arv Z hh_ sp kS .int (32 : Int32) ((((vS.set 0 (.int i3)).set 1 (.int i4)).set 2 (.int i5)).set 3 (.int i6)) (.int (0 : Int32)) ∧ Arv Z hh_ kn kK (.object "com/example/gatewright/gatewright/FieldName") (8 : Int32) (vK.set 0 .null) .null
set_option maxRecDepth 65536 in
set_option maxHeartbeats 40000000 in
theorem rmA6_0 (l : Launch) (Z : State) (a0 : Array Value) (hw : ∀ d ∈ tables_1, d.before a0 Z = true) (ws : List Jvm.Cond) (o : Addr) (hd : Addr) (i3 : Int32) (i4 : Int32) (i5 : Int32) (i6 : Int32) (nb : Addr) (vb : Addr) (sp : Addr) (kn : Addr) (kN : ClassId) (kV : ClassId) (kS : ClassId) (kK : ClassId) (vN : List Value) (vV : List Value) (vS : List Value) (vK : List Value) (h0 : Heap) (n0 : Nat) (Z0 : n0 ≤ h0.size) (E0 : Exa Z h0 o "com/example/gatewright/gatewright/Fields") (ge0 : n0 ≤ o) (EH : Exa Z h0 hd "[B") (g_nb : n0 ≤ nb) (g_vb : n0 ≤ vb) (g_sp : n0 ≤ sp) (g_kn : n0 ≤ kn) (ne_o_nb : o ≠ nb) (ne_o_vb : o ≠ vb) (ne_o_sp : o ≠ sp) (ne_o_kn : o ≠ kn) (ne_nb_vb : nb ≠ vb) (ne_nb_sp : nb ≠ sp) (ne_nb_kn : nb ≠ kn) (ne_vb_sp : vb ≠ sp) (ne_vb_kn : vb ≠ kn) (ne_sp_kn : sp ≠ kn) (F0 : Fld Z h0 o "com/example/gatewright/gatewright/Fields" "nameBytes" "[[B" (.ref nb)) (F1 : Fld Z h0 o "com/example/gatewright/gatewright/Fields" "valueBytes" "[[B" (.ref vb)) (F2 : Fld Z h0 o "com/example/gatewright/gatewright/Fields" "spans" "[I" (.ref sp)) (F3 : Fld Z h0 o "com/example/gatewright/gatewright/Fields" "known" "[Lcom/example/gatewright/gatewright/FieldName;" (.ref kn)) (F4 : Fld Z h0 o "com/example/gatewright/gatewright/Fields" "size" "I" (.int (0 : Int32))) (A_nb : Arv Z h0 nb kN (.array .byte) (8 : Int32) vN .null) (A_vb : Arv Z h0 vb kV (.array .byte) (8 : Int32) vV .null) (A_sp : Arv Z h0 sp kS .int (32 : Int32) vS (.int (0 : Int32))) (A_kn : Arv Z h0 kn kK (.object "com/example/gatewright/gatewright/FieldName") (8 : Int32) vK .null) (l_nb : vN.length = 8) (l_vb : vV.length = 8) (l_sp : vS.length = 32) (l_kn : vK.length = 8) (O_nb : OvrA Z kN .byte "[B") (O_vb : OvrA Z kV .byte "[B") :
    MetFree l (⟨"com/example/gatewright/gatewright/Fields", "add", "(Lcom/example/gatewright/gatewright/FieldName;[BIIII)V"⟩ : MethodName) (head1 (Jvm.Cond.code (⟨"com/example/gatewright/gatewright/Fields", "add", "(Lcom/example/gatewright/gatewright/FieldName;[BIIII)V"⟩ : MethodName) prog_5_method_5_code 7 none :: ws) ({ frames := 1, cells := 0, slots := 0, locals := 20 } : Room)) (fun aa_ U => aa_ = #[(.ref o), .null, (.ref hd), (.int i3), (.int i4), (.int i5), (.int i6)] ∧ Z.Warmed39 U.vm ∧ U.heap = h0) (fun _ _ _ _ _ => True) (fun _ U oo_ UV_ => ∃ vv_ LL_, oo_ = .returned vv_ ∧ Q_rmA6_0 Z o hd i3 i4 i5 i6 nb vb sp kn kN kV kS kK vN vV vS vK h0 n0 vv_ UV_.heap LL_ ∧ FrameEnd U oo_ UV_ LL_ ({ frames := 1, cells := 0, slots := 0, locals := 20 } : Room).cells ({ frames := 1, cells := 0, slots := 0, locals := 20 } : Room).slots) := by
  refine MetFree.of_bodySF (plainFor_of_name pn_1) hisR ?_
  intro pg ev si mi args below meth ci s₁ Bd hml0 hP0 hK
  obtain ⟨rfl, hZ, hh⟩ := hP0
  have hx := Bd.exec
  have hby := Bd.bytes
  have hml : ci.maxLocals = 7 := hml0
  have hown : si.vm.findClass "com/example/gatewright/gatewright/Fields" = some mi.cls := findClass_of_methodNamed Bd.named
  have hnm := (name_of_methodNamed Bd.named Bd.method).1
  have X0 : Stand pg l ev ({ frames := 1, cells := 0, slots := 0, locals := 20 } : Room) si mi #[(.ref o), .null, (.ref hd), (.int i3), (.int i4), (.int i5), (.int i6)] below meth ci s₁ [] 0 0 := Stand.of_body Bd
  have e0 : s₁.heap = h0 := by rw [← hh, Bd.state]; rfl
  have N0 := Fr.nil n0
  refine Go.start (fun P hP => ?_)
  refine Go.st (fun t_ k_ => castTop (ef_rmA6_0 mi o hd i3 i4 i5 i6 nb vb sp kn kN kV kS kK vN vV vS vK) k_) (A := s₁.setTop (mkF mi 0 #[.val (.ref o), .val .null, .val (.ref hd), .val (.int i3), .val (.int i4), .val (.int i5), .val (.int i6)] [])) ?_
  show Go pg.tables ev below (s₁.setTop (mkF mi 0 #[.val (.ref o), .val .null, .val (.ref hd), .val (.int i3), .val (.int i4), .val (.int i5), .val (.int i6)] [])) P
  refine Go.st (fun t_ k_ => XS.aloadN X0.here hx rfl (hb hby d_prog_5_method_5_0) rfl rfl k_) ?_
  show Go pg.tables ev below (s₁.setTop (mkF mi 1 #[.val (.ref o), .val .null, .val (.ref hd), .val (.int i3), .val (.int i4), .val (.int i5), .val (.int i6)] [(.ref o)])) P
  refine Go.st (fun t_ k_ => XS.aloadN X0.here hx rfl (hb hby d_prog_5_method_5_1) rfl rfl k_) ?_
  show Go pg.tables ev below (s₁.setTop (mkF mi 2 #[.val (.ref o), .val .null, .val (.ref hd), .val (.int i3), .val (.int i4), .val (.int i5), .val (.int i6)] [.null, (.ref o)])) P
  refine Go.st (fun t_ k_ => XS.aloadN X0.here hx rfl (hb hby d_prog_5_method_5_2) rfl rfl k_) ?_
  show Go pg.tables ev below (s₁.setTop (mkF mi 3 #[.val (.ref o), .val .null, .val (.ref hd), .val (.int i3), .val (.int i4), .val (.int i5), .val (.int i6)] [(.ref hd), .null, (.ref o)])) P
  refine Go.st (fun t_ k_ => XS.iloadN X0.here hx rfl (hb hby d_prog_5_method_5_3) rfl k_) ?_
  show Go pg.tables ev below (s₁.setTop (mkF mi 4 #[.val (.ref o), .val .null, .val (.ref hd), .val (.int i3), .val (.int i4), .val (.int i5), .val (.int i6)] [(.int i3), (.ref hd), .null, (.ref o)])) P
  refine Go.st (fun t_ k_ => XS.iload X0.here hx rfl (hb hby d_prog_5_method_5_4) rfl k_) ?_
  show Go pg.tables ev below (s₁.setTop (mkF mi 6 #[.val (.ref o), .val .null, .val (.ref hd), .val (.int i3), .val (.int i4), .val (.int i5), .val (.int i6)] [(.int i4), (.int i3), (.ref hd), .null, (.ref o)])) P
  refine Go.st (fun t_ k_ => XS.aloadN X0.here hx rfl (hb hby d_prog_5_method_5_6) rfl rfl k_) ?_
  show Go pg.tables ev below (s₁.setTop (mkF mi 7 #[.val (.ref o), .val .null, .val (.ref hd), .val (.int i3), .val (.int i4), .val (.int i5), .val (.int i6)] [(.ref hd), (.int i4), (.int i3), (.ref hd), .null, (.ref o)])) P
  refine Go.st (fun t_ k_ => XS.iload X0.here hx rfl (hb hby d_prog_5_method_5_7) rfl k_) ?_
  show Go pg.tables ev below (s₁.setTop (mkF mi 9 #[.val (.ref o), .val .null, .val (.ref hd), .val (.int i3), .val (.int i4), .val (.int i5), .val (.int i6)] [(.int i5), (.ref hd), (.int i4), (.int i3), (.ref hd), .null, (.ref o)])) P
  refine Go.st (fun t_ k_ => XS.iload X0.here hx rfl (hb hby d_prog_5_method_5_9) rfl k_) ?_
  show Go pg.tables ev below (s₁.setTop (mkF mi 11 #[.val (.ref o), .val .null, .val (.ref hd), .val (.int i3), .val (.int i4), .val (.int i5), .val (.int i6)] [(.int i6), (.int i5), (.ref hd), (.int i4), (.int i3), (.ref hd), .null, (.ref o)])) P
  obtain ⟨cq1, q1, q1'⟩ := E0.cell
  obtain ⟨_, _, ⟨T1, L1, k1, n1⟩, -, X1, ⟨Lc1, hQ1, l1, y1, z1⟩, st1⟩ := X0.privateBack hx (y := (⟨"com/example/gatewright/gatewright/Fields", "add", "(Lcom/example/gatewright/gatewright/FieldName;[BII[BII)V"⟩ : MethodName)) hown (mvT hZ (hw _ (List.mem_of_getElem? (i := 51) rfl))) (mvT hZ (hw _ (List.mem_of_getElem? (i := 52) rfl))) (own_selp hZ (hw _ (List.mem_of_getElem? (i := 2) rfl)) (hw _ (List.mem_of_getElem? (i := 53) rfl)) (hw _ (List.mem_of_getElem? (i := 52) rfl))) (Cond.privateMethod_at (mvP hZ (hw _ (List.mem_of_getElem? (i := 53) rfl)) (args := #[]))) (mvT hZ (hw _ (List.mem_of_getElem? (i := 54) rfl))) (by decide) (backOf (W := 0) (rmA7_0 l Z a0 hw [] o hd i3 i4 i5 i6 nb vb sp kn kN kV kS kK vN vV vS vK h0 n0 Z0 E0 ge0 EH g_nb g_vb g_sp g_kn ne_o_nb ne_o_vb ne_o_sp ne_o_kn ne_nb_vb ne_nb_sp ne_nb_kn ne_vb_sp ne_vb_kn ne_sp_kn F0 F1 F2 F3 F4 A_nb A_vb A_sp A_kn l_nb l_vb l_sp l_kn O_nb O_vb) hZ (hw _ (List.mem_of_getElem? (i := 54) rfl)) (hw _ (List.mem_of_getElem? (i := 3) rfl)) (by decide) (by decide)) (g := (mkF mi 11 #[.val (.ref o), .val .null, .val (.ref hd), .val (.int i3), .val (.int i4), .val (.int i5), .val (.int i6)] [(.int i6), (.int i5), (.ref hd), (.int i4), (.int i3), (.ref hd), .null, (.ref o)])) rfl (by rw [hml]; rfl) (Steps.refl _) (a := o) (by rw [e0]; exact q1) q1' (argsL := [.null, (.ref hd), (.int i3), (.int i4), (.ref hd), (.int i5), (.int i6)]) (rest := []) (lenOf pd_1 rfl) rfl (by show 2 * 0 + _ ≤ _; exact Nat.le_of_eq rfl) (hb hby d_prog_5_method_5_11) (fun _ _ => ⟨rfl, e0, (by decide : 0 + 0 ≤ _), (by decide : 0 + 0 ≤ _)⟩)
  dsimp only [Pt.U, Pt.locs, Pt.cells, Pt.slots] at X1 l1 y1 z1 st1 hQ1
  subst l1 y1 z1
  obtain ⟨h1, e1⟩ : ∃ z, T1.heap = z := ⟨_, rfl⟩
  rw [e1] at hQ1
  obtain ⟨rfl, N1q, K1, FA1_0, FA1_1, FA1_2, FA1_3, FA1_4, AA1_nb, AA1_vb, AA1_sp, AA1_kn⟩ := hQ1
  have N1 := Fr.app N0 N1q
  have Zs2 : n0 ≤ h1.size := Nat.le_trans Z0 K1.1
  have KC2 : Keep h0 h1 [o, nb, vb, sp, kn] := (Keep.refl h0 [o, nb, vb, sp, kn]).trans K1 (allS (P := fun x => x ∈ [o, nb, vb, sp, kn] ∨ h0.size ≤ x) (Or.inl (List.mem_of_getElem? (i := 0) rfl)) (allS (P := fun x => x ∈ [o, nb, vb, sp, kn] ∨ h0.size ≤ x) (Or.inl (List.mem_of_getElem? (i := 1) rfl)) (allS (P := fun x => x ∈ [o, nb, vb, sp, kn] ∨ h0.size ≤ x) (Or.inl (List.mem_of_getElem? (i := 2) rfl)) (allS (P := fun x => x ∈ [o, nb, vb, sp, kn] ∨ h0.size ≤ x) (Or.inl (List.mem_of_getElem? (i := 3) rfl)) (allS (P := fun x => x ∈ [o, nb, vb, sp, kn] ∨ h0.size ≤ x) (Or.inl (List.mem_of_getElem? (i := 4) rfl)) all0)))))
  refine Go.tr st1 ?_
  show Go pg.tables ev below (T1.setTop (mkF mi 14 #[.val (.ref o), .val .null, .val (.ref hd), .val (.int i3), .val (.int i4), .val (.int i5), .val (.int i6)] [])) P
  obtain ⟨fs, hr, hrun, hended, hW, hsame⟩ := X1.leave (v := none) (fun _ => rfl) (BodyLoose.notSynchronized Bd)
  refine ⟨_, _, ?_, hP _ _ ⟨hrun, hended, _, _, rfl, ?_, ⟨_, rfl⟩, hW, hsame.mono (by decide) (by decide)⟩⟩
  · exact X1.returnOut hx Bd.returns (hb hby d_prog_5_method_5_14) hr
  · show (none : Option Value) = none ∧ Fr n0 _ ∧ Keep h0 T1.heap [o, nb, vb, sp, kn] ∧ Fld Z T1.heap o "com/example/gatewright/gatewright/Fields" "nameBytes" "[[B" (.ref nb) ∧ Fld Z T1.heap o "com/example/gatewright/gatewright/Fields" "valueBytes" "[[B" (.ref vb) ∧ Fld Z T1.heap o "com/example/gatewright/gatewright/Fields" "spans" "[I" (.ref sp) ∧ Fld Z T1.heap o "com/example/gatewright/gatewright/Fields" "known" "[Lcom/example/gatewright/gatewright/FieldName;" (.ref kn) ∧ Fld Z T1.heap o "com/example/gatewright/gatewright/Fields" "size" "I" (.int (1 : Int32)) ∧ Arv Z T1.heap nb kN (.array .byte) (8 : Int32) (vN.set 0 (.ref hd)) .null ∧ Arv Z T1.heap vb kV (.array .byte) (8 : Int32) (vV.set 0 (.ref hd)) .null ∧ Arv Z T1.heap sp kS .int (32 : Int32) ((((vS.set 0 (.int i3)).set 1 (.int i4)).set 2 (.int i5)).set 3 (.int i6)) (.int (0 : Int32)) ∧ Arv Z T1.heap kn kK (.object "com/example/gatewright/gatewright/FieldName") (8 : Int32) (vK.set 0 .null) .null
    rw [e1]
    exact ⟨rfl, N1, KC2, FA1_0, FA1_1, FA1_2, FA1_3, FA1_4, AA1_nb, AA1_vb, AA1_sp, AA1_kn⟩
theorem d_method_6_0 : decode method_6_code 0 = .ok (.iload_n 2, 1) := by decide +kernel
theorem d_method_6_1 : decode method_6_code 1 = .ok (.invokestatic 7, 3) := by decide +kernel
theorem d_method_6_4 : decode method_6_code 4 = .ok (.istore_n 3, 1) := by decide +kernel
theorem d_method_6_5 : decode method_6_code 5 = .ok (.iload_n 2, 1) := by decide +kernel
theorem d_method_6_6 : decode method_6_code 6 = .ok (.invokestatic 13, 3) := by decide +kernel
theorem d_method_6_9 : decode method_6_code 9 = .ok (.istore 4, 2) := by decide +kernel
theorem d_method_6_11 : decode method_6_code 11 = .ok (.aload_n 0, 1) := by decide +kernel
theorem d_method_6_12 : decode method_6_code 12 = .ok (.aconst_null, 1) := by decide +kernel
theorem d_method_6_13 : decode method_6_code 13 = .ok (.checkcast 16, 3) := by decide +kernel
theorem d_method_6_16 : decode method_6_code 16 = .ok (.aload_n 1, 1) := by decide +kernel
theorem d_method_6_17 : decode method_6_code 17 = .ok (.iload_n 3, 1) := by decide +kernel
theorem d_method_6_18 : decode method_6_code 18 = .ok (.iload_n 3, 1) := by decide +kernel
theorem d_method_6_19 : decode method_6_code 19 = .ok (.iload_n 2, 1) := by decide +kernel
theorem d_method_6_20 : decode method_6_code 20 = .ok (.invokestatic 18, 3) := by decide +kernel
theorem d_method_6_23 : decode method_6_code 23 = .ok (.iadd, 1) := by decide +kernel
theorem d_method_6_24 : decode method_6_code 24 = .ok (.iload 4, 2) := by decide +kernel
theorem d_method_6_26 : decode method_6_code 26 = .ok (.iload 4, 2) := by decide +kernel
theorem d_method_6_28 : decode method_6_code 28 = .ok (.iload_n 2, 1) := by decide +kernel
theorem d_method_6_29 : decode method_6_code 29 = .ok (.invokestatic 21, 3) := by decide +kernel
theorem d_method_6_32 : decode method_6_code 32 = .ok (.iadd, 1) := by decide +kernel
theorem d_method_6_33 : decode method_6_code 33 = .ok (.invokevirtual 24, 3) := by decide +kernel
theorem pd_2 : parseMethodDescriptor "(Lcom/example/gatewright/gatewright/FieldName;[BIIII)V" = some ⟨[(.object "com/example/gatewright/gatewright/FieldName"), (.array .byte), .int, .int, .int, .int], none⟩ := by decide +kernel
theorem d_method_6_36 : decode method_6_code 36 = .ok (.return_, 1) := by decide +kernel
theorem ef_rmAF_0 (mi : MethodId) (o : Addr) (hd : Addr) (p : Int32) (nb : Addr) (vb : Addr) (sp : Addr) (kn : Addr) (kN : ClassId) (kV : ClassId) (kS : ClassId) (kK : ClassId) (vN : List Value) (vV : List Value) (vS : List Value) (vK : List Value) : entryFrame mi #[(.ref o), (.ref hd), (.int p)] 5 = mkF mi 0 #[.val (.ref o), .val (.ref hd), .val (.int p), .unset, .unset] [] := by first | (simp [entryFrame, mkF, argsToLocals, Value.category]; done) | rfl
def Q_rmAF_0 (Z : State) (o : Addr) (hd : Addr) (p : Int32) (nb : Addr) (vb : Addr) (sp : Addr) (kn : Addr) (kN : ClassId) (kV : ClassId) (kS : ClassId) (kK : ClassId) (vN : List Value) (vV : List Value) (vS : List Value) (vK : List Value) (h0 : Heap) (n0 : Nat) (vv_ : Option Value) (hh_ : Heap) (LL_ : List Loc) : Prop := vv_ = none ∧ Fr n0 LL_ ∧ Keep h0 hh_ [o, nb, vb, sp, kn] ∧ Fld Z hh_ o "com/example/gatewright/gatewright/Fields" "nameBytes" "[[B" (.ref nb) ∧ Fld Z hh_ o "com/example/gatewright/gatewright/Fields" "valueBytes" "[[B" (.ref vb) ∧ Fld Z hh_ o "com/example/gatewright/gatewright/Fields" "spans" "[I" (.ref sp) ∧ Fld Z hh_ o "com/example/gatewright/gatewright/Fields" "known" "[Lcom/example/gatewright/gatewright/FieldName;" (.ref kn) ∧ Fld Z hh_ o "com/example/gatewright/gatewright/Fields" "size" "I" (.int (1 : Int32)) ∧ Arv Z hh_ nb kN (.array .byte) (8 : Int32) (vN.set 0 (.ref hd)) .null ∧ Arv Z hh_ vb kV (.array .byte) (8 : Int32) (vV.set 0 (.ref hd)) .null ∧ Arv Z hh_ sp kS .int (32 : Int32) ((((vS.set 0 (.int (fNS p))).set 1 (.int ((fNS p) + (fNL p)))).set 2 (.int (fVS p))).set 3 (.int ((fVS p) + (fVL p)))) (.int (0 : Int32)) ∧ Arv Z hh_ kn kK (.object "com/example/gatewright/gatewright/FieldName") (8 : Int32) (vK.set 0 .null) .null
set_option maxRecDepth 65536 in
set_option maxHeartbeats 40000000 in
theorem rmAF_0 (l : Launch) (Z : State) (a0 : Array Value) (hw : ∀ d ∈ tables_1, d.before a0 Z = true) (ws : List Jvm.Cond) (o : Addr) (hd : Addr) (p : Int32) (nb : Addr) (vb : Addr) (sp : Addr) (kn : Addr) (kN : ClassId) (kV : ClassId) (kS : ClassId) (kK : ClassId) (vN : List Value) (vV : List Value) (vS : List Value) (vK : List Value) (h0 : Heap) (n0 : Nat) (Z0 : n0 ≤ h0.size) (E0 : Exa Z h0 o "com/example/gatewright/gatewright/Fields") (ge0 : n0 ≤ o) (EH : Exa Z h0 hd "[B") (g_nb : n0 ≤ nb) (g_vb : n0 ≤ vb) (g_sp : n0 ≤ sp) (g_kn : n0 ≤ kn) (ne_o_nb : o ≠ nb) (ne_o_vb : o ≠ vb) (ne_o_sp : o ≠ sp) (ne_o_kn : o ≠ kn) (ne_nb_vb : nb ≠ vb) (ne_nb_sp : nb ≠ sp) (ne_nb_kn : nb ≠ kn) (ne_vb_sp : vb ≠ sp) (ne_vb_kn : vb ≠ kn) (ne_sp_kn : sp ≠ kn) (F0 : Fld Z h0 o "com/example/gatewright/gatewright/Fields" "nameBytes" "[[B" (.ref nb)) (F1 : Fld Z h0 o "com/example/gatewright/gatewright/Fields" "valueBytes" "[[B" (.ref vb)) (F2 : Fld Z h0 o "com/example/gatewright/gatewright/Fields" "spans" "[I" (.ref sp)) (F3 : Fld Z h0 o "com/example/gatewright/gatewright/Fields" "known" "[Lcom/example/gatewright/gatewright/FieldName;" (.ref kn)) (F4 : Fld Z h0 o "com/example/gatewright/gatewright/Fields" "size" "I" (.int (0 : Int32))) (A_nb : Arv Z h0 nb kN (.array .byte) (8 : Int32) vN .null) (A_vb : Arv Z h0 vb kV (.array .byte) (8 : Int32) vV .null) (A_sp : Arv Z h0 sp kS .int (32 : Int32) vS (.int (0 : Int32))) (A_kn : Arv Z h0 kn kK (.object "com/example/gatewright/gatewright/FieldName") (8 : Int32) vK .null) (l_nb : vN.length = 8) (l_vb : vV.length = 8) (l_sp : vS.length = 32) (l_kn : vK.length = 8) (O_nb : OvrA Z kN .byte "[B") (O_vb : OvrA Z kV .byte "[B") :
    MetFree l (⟨"com/example/gatewright/gatewright/FieldsEncodedSizePinLaw", "addField", "(Lcom/example/gatewright/gatewright/Fields;[BI)V"⟩ : MethodName) (head1 (Jvm.Cond.code (⟨"com/example/gatewright/gatewright/FieldsEncodedSizePinLaw", "addField", "(Lcom/example/gatewright/gatewright/Fields;[BI)V"⟩ : MethodName) method_6_code 5 none :: ws) ({ frames := 2, cells := 0, slots := 0, locals := 38 } : Room)) (fun aa_ U => aa_ = #[(.ref o), (.ref hd), (.int p)] ∧ Z.Warmed39 U.vm ∧ U.heap = h0) (fun _ _ _ _ _ => True) (fun _ U oo_ UV_ => ∃ vv_ LL_, oo_ = .returned vv_ ∧ Q_rmAF_0 Z o hd p nb vb sp kn kN kV kS kK vN vV vS vK h0 n0 vv_ UV_.heap LL_ ∧ FrameEnd U oo_ UV_ LL_ ({ frames := 2, cells := 0, slots := 0, locals := 38 } : Room).cells ({ frames := 2, cells := 0, slots := 0, locals := 38 } : Room).slots) := by
  refine MetFree.of_bodySF (plainFor_of_name pn_0) hisR ?_
  intro pg ev si mi args below meth ci s₁ Bd hml0 hP0 hK
  obtain ⟨rfl, hZ, hh⟩ := hP0
  have hx := Bd.exec
  have hby := Bd.bytes
  have hml : ci.maxLocals = 5 := hml0
  have hown : si.vm.findClass "com/example/gatewright/gatewright/FieldsEncodedSizePinLaw" = some mi.cls := findClass_of_methodNamed Bd.named
  have hnm := (name_of_methodNamed Bd.named Bd.method).1
  have X0 : Stand pg l ev ({ frames := 2, cells := 0, slots := 0, locals := 38 } : Room) si mi #[(.ref o), (.ref hd), (.int p)] below meth ci s₁ [] 0 0 := Stand.of_body Bd
  have e0 : s₁.heap = h0 := by rw [← hh, Bd.state]; rfl
  have N0 := Fr.nil n0
  refine Go.start (fun P hP => ?_)
  refine Go.st (fun t_ k_ => castTop (ef_rmAF_0 mi o hd p nb vb sp kn kN kV kS kK vN vV vS vK) k_) (A := s₁.setTop (mkF mi 0 #[.val (.ref o), .val (.ref hd), .val (.int p), .unset, .unset] [])) ?_
  show Go pg.tables ev below (s₁.setTop (mkF mi 0 #[.val (.ref o), .val (.ref hd), .val (.int p), .unset, .unset] [])) P
  refine Go.st (fun t_ k_ => XS.iloadN X0.here hx rfl (hb hby d_method_6_0) rfl k_) ?_
  show Go pg.tables ev below (s₁.setTop (mkF mi 1 #[.val (.ref o), .val (.ref hd), .val (.int p), .unset, .unset] [(.int p)])) P
  obtain ⟨_, _, ⟨T1, L1, k1, n1⟩, -, X1, ⟨Lc1, hQ1, l1, y1, z1⟩, st1⟩ := Jvm.LawKit.callS X0 hx (y := (⟨"com/example/gatewright/gatewright/FieldsEncodedSizePinLaw", "nameStart", "(I)I"⟩ : MethodName)) hown (mvT hZ (hw _ (List.mem_of_getElem? (i := 34) rfl))) (mvT hZ (hw _ (List.mem_of_getElem? (i := 35) rfl))) (mvT hZ (hw _ (List.mem_of_getElem? (i := 32) rfl))) (mvT hZ (hw _ (List.mem_of_getElem? (i := 36) rfl))) (by decide) (backOf (W := 0) (rmNS l Z a0 hw [] p h0 n0 Z0) hZ (hw _ (List.mem_of_getElem? (i := 36) rfl)) (hw _ (List.mem_of_getElem? (i := 32) rfl)) (by decide) (by decide)) (g := (mkF mi 1 #[.val (.ref o), .val (.ref hd), .val (.int p), .unset, .unset] [(.int p)])) rfl (by rw [hml]; rfl) (argsL := [(.int p)]) (rest := []) (lenOf pd_0 rfl) rfl (by show 2 * 0 + _ ≤ _; exact Nat.le_of_eq rfl) (hb hby d_method_6_1) (fun _ _ => ⟨rfl, e0, (by decide : 0 + 0 ≤ _), (by decide : 0 + 0 ≤ _)⟩)
  dsimp only [Pt.U, Pt.locs, Pt.cells, Pt.slots] at X1 l1 y1 z1 st1 hQ1
  subst l1 y1 z1
  obtain ⟨rfl, N1q, e1⟩ := hQ1
  have N1 := Fr.app N0 N1q
  refine Go.st st1 ?_
  show Go pg.tables ev below (T1.setTop (mkF mi 4 #[.val (.ref o), .val (.ref hd), .val (.int p), .unset, .unset] [(.int (fNS p))])) P
  refine Go.st (fun t_ k_ => XS.istoreN X1.here hx rfl (hb hby d_method_6_4) rfl (l' := #[.val (.ref o), .val (.ref hd), .val (.int p), .val (.int (fNS p)), .unset]) rfl k_) ?_
  show Go pg.tables ev below (T1.setTop (mkF mi 5 #[.val (.ref o), .val (.ref hd), .val (.int p), .val (.int (fNS p)), .unset] [])) P
  refine Go.st (fun t_ k_ => XS.iloadN X1.here hx rfl (hb hby d_method_6_5) rfl k_) ?_
  show Go pg.tables ev below (T1.setTop (mkF mi 6 #[.val (.ref o), .val (.ref hd), .val (.int p), .val (.int (fNS p)), .unset] [(.int p)])) P
  obtain ⟨_, _, ⟨T2, L2, k2, n2⟩, -, X2, ⟨Lc2, hQ2, l2, y2, z2⟩, st2⟩ := Jvm.LawKit.callS X1 hx (y := (⟨"com/example/gatewright/gatewright/FieldsEncodedSizePinLaw", "valueStart", "(I)I"⟩ : MethodName)) hown (mvT hZ (hw _ (List.mem_of_getElem? (i := 37) rfl))) (mvT hZ (hw _ (List.mem_of_getElem? (i := 38) rfl))) (mvT hZ (hw _ (List.mem_of_getElem? (i := 32) rfl))) (mvT hZ (hw _ (List.mem_of_getElem? (i := 39) rfl))) (by decide) (backOf (W := 0) (rmVS l Z a0 hw [] p h0 n0 Z0) hZ (hw _ (List.mem_of_getElem? (i := 39) rfl)) (hw _ (List.mem_of_getElem? (i := 32) rfl)) (by decide) (by decide)) (g := (mkF mi 6 #[.val (.ref o), .val (.ref hd), .val (.int p), .val (.int (fNS p)), .unset] [(.int p)])) rfl (by rw [hml]; rfl) (argsL := [(.int p)]) (rest := []) (lenOf pd_0 rfl) rfl (by show 2 * 0 + _ ≤ _; exact Nat.le_of_eq rfl) (hb hby d_method_6_6) (fun _ _ => ⟨rfl, e1, (by decide : 0 + 0 ≤ _), (by decide : 0 + 0 ≤ _)⟩)
  dsimp only [Pt.U, Pt.locs, Pt.cells, Pt.slots] at X2 l2 y2 z2 st2 hQ2
  subst l2 y2 z2
  obtain ⟨rfl, N2q, e2⟩ := hQ2
  have N2 := Fr.app N1 N2q
  refine Go.st st2 ?_
  show Go pg.tables ev below (T2.setTop (mkF mi 9 #[.val (.ref o), .val (.ref hd), .val (.int p), .val (.int (fNS p)), .unset] [(.int (fVS p))])) P
  refine Go.st (fun t_ k_ => XS.istore X2.here hx rfl (hb hby d_method_6_9) rfl (l' := #[.val (.ref o), .val (.ref hd), .val (.int p), .val (.int (fNS p)), .val (.int (fVS p))]) rfl k_) ?_
  show Go pg.tables ev below (T2.setTop (mkF mi 11 #[.val (.ref o), .val (.ref hd), .val (.int p), .val (.int (fNS p)), .val (.int (fVS p))] [])) P
  refine Go.st (fun t_ k_ => XS.aloadN X2.here hx rfl (hb hby d_method_6_11) rfl rfl k_) ?_
  show Go pg.tables ev below (T2.setTop (mkF mi 12 #[.val (.ref o), .val (.ref hd), .val (.int p), .val (.int (fNS p)), .val (.int (fVS p))] [(.ref o)])) P
  refine Go.st (fun t_ k_ => XS.aconstNull X2.here hx rfl (hb hby d_method_6_12) k_) ?_
  show Go pg.tables ev below (T2.setTop (mkF mi 13 #[.val (.ref o), .val (.ref hd), .val (.int p), .val (.int (fNS p)), .val (.int (fVS p))] [.null, (.ref o)])) P
  refine Go.st (X2.checkcastNull hx (g := (mkF mi 13 #[.val (.ref o), .val (.ref hd), .val (.int p), .val (.int (fNS p)), .val (.int (fVS p))] [.null, (.ref o)])) rfl rfl (hb hby d_method_6_13)) ?_
  show Go pg.tables ev below (T2.setTop (mkF mi 16 #[.val (.ref o), .val (.ref hd), .val (.int p), .val (.int (fNS p)), .val (.int (fVS p))] [.null, (.ref o)])) P
  refine Go.st (fun t_ k_ => XS.aloadN X2.here hx rfl (hb hby d_method_6_16) rfl rfl k_) ?_
  show Go pg.tables ev below (T2.setTop (mkF mi 17 #[.val (.ref o), .val (.ref hd), .val (.int p), .val (.int (fNS p)), .val (.int (fVS p))] [(.ref hd), .null, (.ref o)])) P
  refine Go.st (fun t_ k_ => XS.iloadN X2.here hx rfl (hb hby d_method_6_17) rfl k_) ?_
  show Go pg.tables ev below (T2.setTop (mkF mi 18 #[.val (.ref o), .val (.ref hd), .val (.int p), .val (.int (fNS p)), .val (.int (fVS p))] [(.int (fNS p)), (.ref hd), .null, (.ref o)])) P
  refine Go.st (fun t_ k_ => XS.iloadN X2.here hx rfl (hb hby d_method_6_18) rfl k_) ?_
  show Go pg.tables ev below (T2.setTop (mkF mi 19 #[.val (.ref o), .val (.ref hd), .val (.int p), .val (.int (fNS p)), .val (.int (fVS p))] [(.int (fNS p)), (.int (fNS p)), (.ref hd), .null, (.ref o)])) P
  refine Go.st (fun t_ k_ => XS.iloadN X2.here hx rfl (hb hby d_method_6_19) rfl k_) ?_
  show Go pg.tables ev below (T2.setTop (mkF mi 20 #[.val (.ref o), .val (.ref hd), .val (.int p), .val (.int (fNS p)), .val (.int (fVS p))] [(.int p), (.int (fNS p)), (.int (fNS p)), (.ref hd), .null, (.ref o)])) P
  obtain ⟨_, _, ⟨T3, L3, k3, n3⟩, -, X3, ⟨Lc3, hQ3, l3, y3, z3⟩, st3⟩ := Jvm.LawKit.callS X2 hx (y := (⟨"com/example/gatewright/gatewright/FieldsEncodedSizePinLaw", "nameLength", "(I)I"⟩ : MethodName)) hown (mvT hZ (hw _ (List.mem_of_getElem? (i := 40) rfl))) (mvT hZ (hw _ (List.mem_of_getElem? (i := 41) rfl))) (mvT hZ (hw _ (List.mem_of_getElem? (i := 32) rfl))) (mvT hZ (hw _ (List.mem_of_getElem? (i := 42) rfl))) (by decide) (backOf (W := 5) (rmNL l Z a0 hw [] p h0 n0 Z0) hZ (hw _ (List.mem_of_getElem? (i := 42) rfl)) (hw _ (List.mem_of_getElem? (i := 32) rfl)) (by decide) (by decide)) (g := (mkF mi 20 #[.val (.ref o), .val (.ref hd), .val (.int p), .val (.int (fNS p)), .val (.int (fVS p))] [(.int p), (.int (fNS p)), (.int (fNS p)), (.ref hd), .null, (.ref o)])) rfl (by rw [hml]; rfl) (argsL := [(.int p)]) (rest := [(.int (fNS p)), (.int (fNS p)), (.ref hd), .null, (.ref o)]) (lenOf pd_0 rfl) rfl (by show 2 * 0 + _ ≤ _; exact Nat.le_of_eq rfl) (hb hby d_method_6_20) (fun _ _ => ⟨rfl, e2, (by decide : 0 + 0 ≤ _), (by decide : 0 + 0 ≤ _)⟩)
  dsimp only [Pt.U, Pt.locs, Pt.cells, Pt.slots] at X3 l3 y3 z3 st3 hQ3
  subst l3 y3 z3
  obtain ⟨rfl, N3q, e3⟩ := hQ3
  have N3 := Fr.app N2 N3q
  refine Go.st st3 ?_
  show Go pg.tables ev below (T3.setTop (mkF mi 23 #[.val (.ref o), .val (.ref hd), .val (.int p), .val (.int (fNS p)), .val (.int (fVS p))] [(.int (fNL p)), (.int (fNS p)), (.int (fNS p)), (.ref hd), .null, (.ref o)])) P
  refine Go.st (fun t_ k_ => XS.iadd X3.here hx rfl (hb hby d_method_6_23) rfl k_) ?_
  show Go pg.tables ev below (T3.setTop (mkF mi 24 #[.val (.ref o), .val (.ref hd), .val (.int p), .val (.int (fNS p)), .val (.int (fVS p))] [(.int ((fNS p) + (fNL p))), (.int (fNS p)), (.ref hd), .null, (.ref o)])) P
  refine Go.st (fun t_ k_ => XS.iload X3.here hx rfl (hb hby d_method_6_24) rfl k_) ?_
  show Go pg.tables ev below (T3.setTop (mkF mi 26 #[.val (.ref o), .val (.ref hd), .val (.int p), .val (.int (fNS p)), .val (.int (fVS p))] [(.int (fVS p)), (.int ((fNS p) + (fNL p))), (.int (fNS p)), (.ref hd), .null, (.ref o)])) P
  refine Go.st (fun t_ k_ => XS.iload X3.here hx rfl (hb hby d_method_6_26) rfl k_) ?_
  show Go pg.tables ev below (T3.setTop (mkF mi 28 #[.val (.ref o), .val (.ref hd), .val (.int p), .val (.int (fNS p)), .val (.int (fVS p))] [(.int (fVS p)), (.int (fVS p)), (.int ((fNS p) + (fNL p))), (.int (fNS p)), (.ref hd), .null, (.ref o)])) P
  refine Go.st (fun t_ k_ => XS.iloadN X3.here hx rfl (hb hby d_method_6_28) rfl k_) ?_
  show Go pg.tables ev below (T3.setTop (mkF mi 29 #[.val (.ref o), .val (.ref hd), .val (.int p), .val (.int (fNS p)), .val (.int (fVS p))] [(.int p), (.int (fVS p)), (.int (fVS p)), (.int ((fNS p) + (fNL p))), (.int (fNS p)), (.ref hd), .null, (.ref o)])) P
  obtain ⟨_, _, ⟨T4, L4, k4, n4⟩, -, X4, ⟨Lc4, hQ4, l4, y4, z4⟩, st4⟩ := Jvm.LawKit.callS X3 hx (y := (⟨"com/example/gatewright/gatewright/FieldsEncodedSizePinLaw", "valueLength", "(I)I"⟩ : MethodName)) hown (mvT hZ (hw _ (List.mem_of_getElem? (i := 43) rfl))) (mvT hZ (hw _ (List.mem_of_getElem? (i := 44) rfl))) (mvT hZ (hw _ (List.mem_of_getElem? (i := 32) rfl))) (mvT hZ (hw _ (List.mem_of_getElem? (i := 45) rfl))) (by decide) (backOf (W := 7) (rmVL l Z a0 hw [] p h0 n0 Z0) hZ (hw _ (List.mem_of_getElem? (i := 45) rfl)) (hw _ (List.mem_of_getElem? (i := 32) rfl)) (by decide) (by decide)) (g := (mkF mi 29 #[.val (.ref o), .val (.ref hd), .val (.int p), .val (.int (fNS p)), .val (.int (fVS p))] [(.int p), (.int (fVS p)), (.int (fVS p)), (.int ((fNS p) + (fNL p))), (.int (fNS p)), (.ref hd), .null, (.ref o)])) rfl (by rw [hml]; rfl) (argsL := [(.int p)]) (rest := [(.int (fVS p)), (.int (fVS p)), (.int ((fNS p) + (fNL p))), (.int (fNS p)), (.ref hd), .null, (.ref o)]) (lenOf pd_0 rfl) rfl (by show 2 * 0 + _ ≤ _; exact Nat.le_of_eq rfl) (hb hby d_method_6_29) (fun _ _ => ⟨rfl, e3, (by decide : 0 + 0 ≤ _), (by decide : 0 + 0 ≤ _)⟩)
  dsimp only [Pt.U, Pt.locs, Pt.cells, Pt.slots] at X4 l4 y4 z4 st4 hQ4
  subst l4 y4 z4
  obtain ⟨rfl, N4q, e4⟩ := hQ4
  have N4 := Fr.app N3 N4q
  refine Go.st st4 ?_
  show Go pg.tables ev below (T4.setTop (mkF mi 32 #[.val (.ref o), .val (.ref hd), .val (.int p), .val (.int (fNS p)), .val (.int (fVS p))] [(.int (fVL p)), (.int (fVS p)), (.int (fVS p)), (.int ((fNS p) + (fNL p))), (.int (fNS p)), (.ref hd), .null, (.ref o)])) P
  refine Go.st (fun t_ k_ => XS.iadd X4.here hx rfl (hb hby d_method_6_32) rfl k_) ?_
  show Go pg.tables ev below (T4.setTop (mkF mi 33 #[.val (.ref o), .val (.ref hd), .val (.int p), .val (.int (fNS p)), .val (.int (fVS p))] [(.int ((fVS p) + (fVL p))), (.int (fVS p)), (.int ((fNS p) + (fNL p))), (.int (fNS p)), (.ref hd), .null, (.ref o)])) P
  obtain ⟨cq5, kq5, q5a, q5b, q5c⟩ := isOf hZ e4 E0
  obtain ⟨_, _, ⟨T5, L5, k5, n5⟩, -, X5, ⟨Lc5, hQ5, l5, y5, z5⟩, st5⟩ := X4.virtualBack hx (y := (⟨"com/example/gatewright/gatewright/Fields", "add", "(Lcom/example/gatewright/gatewright/FieldName;[BIIII)V"⟩ : MethodName)) (z := (⟨"com/example/gatewright/gatewright/Fields", "add", "(Lcom/example/gatewright/gatewright/FieldName;[BIIII)V"⟩ : MethodName)) hown (mvT hZ (hw _ (List.mem_of_getElem? (i := 46) rfl))) (mvT hZ (hw _ (List.mem_of_getElem? (i := 47) rfl))) (notFace_of_selects (args := #[]) (mvT hZ (hw _ (List.mem_of_getElem? (i := 49) rfl)))) (mvT hZ (hw _ (List.mem_of_getElem? (i := 49) rfl))) (mvT hZ (hw _ (List.mem_of_getElem? (i := 48) rfl))) (by decide) (backOf (W := 0) (rmA6_0 l Z a0 hw [] o hd (fNS p) ((fNS p) + (fNL p)) (fVS p) ((fVS p) + (fVL p)) nb vb sp kn kN kV kS kK vN vV vS vK h0 n0 Z0 E0 ge0 EH g_nb g_vb g_sp g_kn ne_o_nb ne_o_vb ne_o_sp ne_o_kn ne_nb_vb ne_nb_sp ne_nb_kn ne_vb_sp ne_vb_kn ne_sp_kn F0 F1 F2 F3 F4 A_nb A_vb A_sp A_kn l_nb l_vb l_sp l_kn O_nb O_vb) hZ (hw _ (List.mem_of_getElem? (i := 50) rfl)) (hw _ (List.mem_of_getElem? (i := 3) rfl)) (by decide) (by decide)) q5a q5c (g := (mkF mi 33 #[.val (.ref o), .val (.ref hd), .val (.int p), .val (.int (fNS p)), .val (.int (fVS p))] [(.int ((fVS p) + (fVL p))), (.int (fVS p)), (.int ((fNS p) + (fNL p))), (.int (fNS p)), (.ref hd), .null, (.ref o)])) rfl (by rw [hml]; rfl) (Steps.refl _) (argsL := [.null, (.ref hd), (.int (fNS p)), (.int ((fNS p) + (fNL p))), (.int (fVS p)), (.int ((fVS p) + (fVL p)))]) (rest := []) (lenOf pd_2 rfl) rfl (by show 2 * 0 + _ ≤ _; exact Nat.le_of_eq rfl) (hb hby d_method_6_33) (fun _ _ => ⟨rfl, e4, (by decide : 0 + 0 ≤ _), (by decide : 0 + 0 ≤ _)⟩)
  dsimp only [Pt.U, Pt.locs, Pt.cells, Pt.slots] at X5 l5 y5 z5 st5 hQ5
  subst l5 y5 z5
  obtain ⟨h5, e5⟩ : ∃ z, T5.heap = z := ⟨_, rfl⟩
  rw [e5] at hQ5
  obtain ⟨rfl, N5q, K5, FA5_0, FA5_1, FA5_2, FA5_3, FA5_4, AA5_nb, AA5_vb, AA5_sp, AA5_kn⟩ := hQ5
  have N5 := Fr.app N4 N5q
  have Zs6 : n0 ≤ h5.size := Nat.le_trans Z0 K5.1
  have KC6 : Keep h0 h5 [o, nb, vb, sp, kn] := (Keep.refl h0 [o, nb, vb, sp, kn]).trans K5 (allS (P := fun x => x ∈ [o, nb, vb, sp, kn] ∨ h0.size ≤ x) (Or.inl (List.mem_of_getElem? (i := 0) rfl)) (allS (P := fun x => x ∈ [o, nb, vb, sp, kn] ∨ h0.size ≤ x) (Or.inl (List.mem_of_getElem? (i := 1) rfl)) (allS (P := fun x => x ∈ [o, nb, vb, sp, kn] ∨ h0.size ≤ x) (Or.inl (List.mem_of_getElem? (i := 2) rfl)) (allS (P := fun x => x ∈ [o, nb, vb, sp, kn] ∨ h0.size ≤ x) (Or.inl (List.mem_of_getElem? (i := 3) rfl)) (allS (P := fun x => x ∈ [o, nb, vb, sp, kn] ∨ h0.size ≤ x) (Or.inl (List.mem_of_getElem? (i := 4) rfl)) all0)))))
  refine Go.tr st5 ?_
  show Go pg.tables ev below (T5.setTop (mkF mi 36 #[.val (.ref o), .val (.ref hd), .val (.int p), .val (.int (fNS p)), .val (.int (fVS p))] [])) P
  obtain ⟨fs, hr, hrun, hended, hW, hsame⟩ := X5.leave (v := none) (fun _ => rfl) (BodyLoose.notSynchronized Bd)
  refine ⟨_, _, ?_, hP _ _ ⟨hrun, hended, _, _, rfl, ?_, ⟨_, rfl⟩, hW, hsame.mono (by decide) (by decide)⟩⟩
  · exact X5.returnOut hx Bd.returns (hb hby d_method_6_36) hr
  · show (none : Option Value) = none ∧ Fr n0 _ ∧ Keep h0 T5.heap [o, nb, vb, sp, kn] ∧ Fld Z T5.heap o "com/example/gatewright/gatewright/Fields" "nameBytes" "[[B" (.ref nb) ∧ Fld Z T5.heap o "com/example/gatewright/gatewright/Fields" "valueBytes" "[[B" (.ref vb) ∧ Fld Z T5.heap o "com/example/gatewright/gatewright/Fields" "spans" "[I" (.ref sp) ∧ Fld Z T5.heap o "com/example/gatewright/gatewright/Fields" "known" "[Lcom/example/gatewright/gatewright/FieldName;" (.ref kn) ∧ Fld Z T5.heap o "com/example/gatewright/gatewright/Fields" "size" "I" (.int (1 : Int32)) ∧ Arv Z T5.heap nb kN (.array .byte) (8 : Int32) (vN.set 0 (.ref hd)) .null ∧ Arv Z T5.heap vb kV (.array .byte) (8 : Int32) (vV.set 0 (.ref hd)) .null ∧ Arv Z T5.heap sp kS .int (32 : Int32) ((((vS.set 0 (.int (fNS p))).set 1 (.int ((fNS p) + (fNL p)))).set 2 (.int (fVS p))).set 3 (.int ((fVS p) + (fVL p)))) (.int (0 : Int32)) ∧ Arv Z T5.heap kn kK (.object "com/example/gatewright/gatewright/FieldName") (8 : Int32) (vK.set 0 .null) .null
    rw [e5]
    exact ⟨rfl, N5, KC6, FA5_0, FA5_1, FA5_2, FA5_3, FA5_4, AA5_nb, AA5_vb, AA5_sp, AA5_kn⟩
theorem ef_rmA7_1 (mi : MethodId) (o : Addr) (hd : Addr) (i3 : Int32) (i4 : Int32) (i6 : Int32) (i7 : Int32) (nb : Addr) (vb : Addr) (sp : Addr) (kn : Addr) (kN : ClassId) (kV : ClassId) (kS : ClassId) (kK : ClassId) (vN : List Value) (vV : List Value) (vS : List Value) (vK : List Value) : entryFrame mi #[(.ref o), .null, (.ref hd), (.int i3), (.int i4), (.ref hd), (.int i6), (.int i7)] 9 = mkF mi 0 #[.val (.ref o), .val .null, .val (.ref hd), .val (.int i3), .val (.int i4), .val (.ref hd), .val (.int i6), .val (.int i7), .unset] [] := by first | (simp [entryFrame, mkF, argsToLocals, Value.category]; done) | rfl
def Q_rmA7_1 (Z : State) (o : Addr) (hd : Addr) (i3 : Int32) (i4 : Int32) (i6 : Int32) (i7 : Int32) (nb : Addr) (vb : Addr) (sp : Addr) (kn : Addr) (kN : ClassId) (kV : ClassId) (kS : ClassId) (kK : ClassId) (vN : List Value) (vV : List Value) (vS : List Value) (vK : List Value) (h0 : Heap) (n0 : Nat) (vv_ : Option Value) (hh_ : Heap) (LL_ : List Loc) : Prop := vv_ = none ∧ Fr n0 LL_ ∧ Keep h0 hh_ [o, nb, vb, sp, kn] ∧ Fld Z hh_ o "com/example/gatewright/gatewright/Fields" "nameBytes" "[[B" (.ref nb) ∧ Fld Z hh_ o "com/example/gatewright/gatewright/Fields" "valueBytes" "[[B" (.ref vb) ∧ Fld Z hh_ o "com/example/gatewright/gatewright/Fields" "spans" "[I" (.ref sp) ∧ Fld Z hh_ o "com/example/gatewright/gatewright/Fields" "known" "[Lcom/example/gatewright/gatewright/FieldName;" (.ref kn) ∧ Fld Z hh_ o "com/example/gatewright/gatewright/Fields" "size" "I" (.int (2 : Int32)) ∧ Arv Z hh_ nb kN (.array .byte) (8 : Int32) (vN.set 1 (.ref hd)) .null ∧ Arv Z hh_ vb kV (.array .byte) (8 : Int32) (vV.set 1 (.ref hd)) .null ∧ Arv Z hh_ sp kS .int (32 : Int32) ((((vS.set 4 (.int i3)).set 5 (.int i4)).set 6 (.int i6)).set 7 (.int i7)) (.int (0 : Int32)) ∧ Arv Z hh_ kn kK (.object "com/example/gatewright/gatewright/FieldName") (8 : Int32) (vK.set 1 .null) .null
set_option maxRecDepth 65536 in
set_option maxHeartbeats 40000000 in
theorem rmA7_1 (l : Launch) (Z : State) (a0 : Array Value) (hw : ∀ d ∈ tables_1, d.before a0 Z = true) (ws : List Jvm.Cond) (o : Addr) (hd : Addr) (i3 : Int32) (i4 : Int32) (i6 : Int32) (i7 : Int32) (nb : Addr) (vb : Addr) (sp : Addr) (kn : Addr) (kN : ClassId) (kV : ClassId) (kS : ClassId) (kK : ClassId) (vN : List Value) (vV : List Value) (vS : List Value) (vK : List Value) (h0 : Heap) (n0 : Nat) (Z0 : n0 ≤ h0.size) (E0 : Exa Z h0 o "com/example/gatewright/gatewright/Fields") (ge0 : n0 ≤ o) (EH : Exa Z h0 hd "[B") (g_nb : n0 ≤ nb) (g_vb : n0 ≤ vb) (g_sp : n0 ≤ sp) (g_kn : n0 ≤ kn) (ne_o_nb : o ≠ nb) (ne_o_vb : o ≠ vb) (ne_o_sp : o ≠ sp) (ne_o_kn : o ≠ kn) (ne_nb_vb : nb ≠ vb) (ne_nb_sp : nb ≠ sp) (ne_nb_kn : nb ≠ kn) (ne_vb_sp : vb ≠ sp) (ne_vb_kn : vb ≠ kn) (ne_sp_kn : sp ≠ kn) (F0 : Fld Z h0 o "com/example/gatewright/gatewright/Fields" "nameBytes" "[[B" (.ref nb)) (F1 : Fld Z h0 o "com/example/gatewright/gatewright/Fields" "valueBytes" "[[B" (.ref vb)) (F2 : Fld Z h0 o "com/example/gatewright/gatewright/Fields" "spans" "[I" (.ref sp)) (F3 : Fld Z h0 o "com/example/gatewright/gatewright/Fields" "known" "[Lcom/example/gatewright/gatewright/FieldName;" (.ref kn)) (F4 : Fld Z h0 o "com/example/gatewright/gatewright/Fields" "size" "I" (.int (1 : Int32))) (A_nb : Arv Z h0 nb kN (.array .byte) (8 : Int32) vN .null) (A_vb : Arv Z h0 vb kV (.array .byte) (8 : Int32) vV .null) (A_sp : Arv Z h0 sp kS .int (32 : Int32) vS (.int (0 : Int32))) (A_kn : Arv Z h0 kn kK (.object "com/example/gatewright/gatewright/FieldName") (8 : Int32) vK .null) (l_nb : vN.length = 8) (l_vb : vV.length = 8) (l_sp : vS.length = 32) (l_kn : vK.length = 8) (O_nb : OvrA Z kN .byte "[B") (O_vb : OvrA Z kV .byte "[B") :
    MetFree l (⟨"com/example/gatewright/gatewright/Fields", "add", "(Lcom/example/gatewright/gatewright/FieldName;[BII[BII)V"⟩ : MethodName) (head1 (Jvm.Cond.code (⟨"com/example/gatewright/gatewright/Fields", "add", "(Lcom/example/gatewright/gatewright/FieldName;[BII[BII)V"⟩ : MethodName) prog_5_method_7_code 9 none :: ws) ({ frames := 0, cells := 0, slots := 0, locals := 0 } : Room)) (fun aa_ U => aa_ = #[(.ref o), .null, (.ref hd), (.int i3), (.int i4), (.ref hd), (.int i6), (.int i7)] ∧ Z.Warmed39 U.vm ∧ U.heap = h0) (fun _ _ _ _ _ => True) (fun _ U oo_ UV_ => ∃ vv_ LL_, oo_ = .returned vv_ ∧ Q_rmA7_1 Z o hd i3 i4 i6 i7 nb vb sp kn kN kV kS kK vN vV vS vK h0 n0 vv_ UV_.heap LL_ ∧ FrameEnd U oo_ UV_ LL_ ({ frames := 0, cells := 0, slots := 0, locals := 0 } : Room).cells ({ frames := 0, cells := 0, slots := 0, locals := 0 } : Room).slots) := by
  refine MetFree.of_bodySF (plainFor_of_name pn_1) hisR ?_
  intro pg ev si mi args below meth ci s₁ Bd hml0 hP0 hK
  obtain ⟨rfl, hZ, hh⟩ := hP0
  have hx := Bd.exec
  have hby := Bd.bytes
  have hml : ci.maxLocals = 9 := hml0
  have hown : si.vm.findClass "com/example/gatewright/gatewright/Fields" = some mi.cls := findClass_of_methodNamed Bd.named
  have hnm := (name_of_methodNamed Bd.named Bd.method).1
  have X0 : Stand pg l ev ({ frames := 0, cells := 0, slots := 0, locals := 0 } : Room) si mi #[(.ref o), .null, (.ref hd), (.int i3), (.int i4), (.ref hd), (.int i6), (.int i7)] below meth ci s₁ [] 0 0 := Stand.of_body Bd
  have e0 : s₁.heap = h0 := by rw [← hh, Bd.state]; rfl
  have N0 := Fr.nil n0
  refine Go.start (fun P hP => ?_)
  refine Go.st (fun t_ k_ => castTop (ef_rmA7_1 mi o hd i3 i4 i6 i7 nb vb sp kn kN kV kS kK vN vV vS vK) k_) (A := s₁.setTop (mkF mi 0 #[.val (.ref o), .val .null, .val (.ref hd), .val (.int i3), .val (.int i4), .val (.ref hd), .val (.int i6), .val (.int i7), .unset] [])) ?_
  show Go pg.tables ev below (s₁.setTop (mkF mi 0 #[.val (.ref o), .val .null, .val (.ref hd), .val (.int i3), .val (.int i4), .val (.ref hd), .val (.int i6), .val (.int i7), .unset] [])) P
  refine Go.st (fun t_ k_ => XS.aloadN X0.here hx rfl (hb hby d_prog_5_method_7_0) rfl rfl k_) ?_
  show Go pg.tables ev below (s₁.setTop (mkF mi 1 #[.val (.ref o), .val .null, .val (.ref hd), .val (.int i3), .val (.int i4), .val (.ref hd), .val (.int i6), .val (.int i7), .unset] [(.ref o)])) P
  obtain ⟨T1, X1, e1, st1⟩ := getF X0 hx hZ hown (host := "") (Or.inl (hw _ (List.mem_of_getElem? (i := 28) rfl))) Via.refl e0 F4 (g := (mkF mi 1 #[.val (.ref o), .val .null, .val (.ref hd), .val (.int i3), .val (.int i4), .val (.ref hd), .val (.int i6), .val (.int i7), .unset] [(.ref o)])) rfl rfl (hb hby d_prog_5_method_7_1)
  refine Go.st st1 ?_
  show Go pg.tables ev below (T1.setTop (mkF mi 4 #[.val (.ref o), .val .null, .val (.ref hd), .val (.int i3), .val (.int i4), .val (.ref hd), .val (.int i6), .val (.int i7), .unset] [(.int (1 : Int32))])) P
  refine Go.st (fun t_ k_ => XS.aloadN X1.here hx rfl (hb hby d_prog_5_method_7_4) rfl rfl k_) ?_
  show Go pg.tables ev below (T1.setTop (mkF mi 5 #[.val (.ref o), .val .null, .val (.ref hd), .val (.int i3), .val (.int i4), .val (.ref hd), .val (.int i6), .val (.int i7), .unset] [(.ref o), (.int (1 : Int32))])) P
  obtain ⟨T2, X2, e2, st2⟩ := getF X1 hx hZ hown (host := "") (Or.inl (hw _ (List.mem_of_getElem? (i := 21) rfl))) Via.refl e1 F3 (g := (mkF mi 5 #[.val (.ref o), .val .null, .val (.ref hd), .val (.int i3), .val (.int i4), .val (.ref hd), .val (.int i6), .val (.int i7), .unset] [(.ref o), (.int (1 : Int32))])) rfl rfl (hb hby d_prog_5_method_7_5)
  refine Go.st st2 ?_
  show Go pg.tables ev below (T2.setTop (mkF mi 8 #[.val (.ref o), .val .null, .val (.ref hd), .val (.int i3), .val (.int i4), .val (.ref hd), .val (.int i6), .val (.int i7), .unset] [(.ref kn), (.int (1 : Int32))])) P
  have ov3 := A_kn
  obtain ⟨cl3, Ar3, q3, S3, M3, H3, G3⟩ := ov3
  refine Go.st (X2.arraylength hx (by rw [e2]; exact Ar3.1) (State.isArrayOf_alike hZ.alike Ar3.2.1) (g := (mkF mi 8 #[.val (.ref o), .val .null, .val (.ref hd), .val (.int i3), .val (.int i4), .val (.ref hd), .val (.int i6), .val (.int i7), .unset] [(.ref kn), (.int (1 : Int32))])) rfl rfl (hb hby d_prog_5_method_7_8)) ?_
  rw [len_of S3 M3]
  show Go pg.tables ev below (T2.setTop (mkF mi 9 #[.val (.ref o), .val .null, .val (.ref hd), .val (.int i3), .val (.int i4), .val (.ref hd), .val (.int i6), .val (.int i7), .unset] [(.int (8 : Int32)), (.int (1 : Int32))])) P
  refine Go.st (fun t_ k_ => XS.icmpYes X2.here hx rfl (pc0 := 9) (pc' := 121) rfl (hb hby d_prog_5_method_7_9) rfl (feq (by decide)).2 (by decide) (by decide) k_) ?_
  show Go pg.tables ev below (T2.setTop (mkF mi 121 #[.val (.ref o), .val .null, .val (.ref hd), .val (.int i3), .val (.int i4), .val (.ref hd), .val (.int i6), .val (.int i7), .unset] [])) P
  refine Go.st (fun t_ k_ => XS.aloadN X2.here hx rfl (hb hby d_prog_5_method_7_121) rfl rfl k_) ?_
  show Go pg.tables ev below (T2.setTop (mkF mi 122 #[.val (.ref o), .val .null, .val (.ref hd), .val (.int i3), .val (.int i4), .val (.ref hd), .val (.int i6), .val (.int i7), .unset] [(.ref o)])) P
  obtain ⟨T4, X4, e4, st4⟩ := getF X2 hx hZ hown (host := "") (Or.inl (hw _ (List.mem_of_getElem? (i := 12) rfl))) Via.refl e2 F0 (g := (mkF mi 122 #[.val (.ref o), .val .null, .val (.ref hd), .val (.int i3), .val (.int i4), .val (.ref hd), .val (.int i6), .val (.int i7), .unset] [(.ref o)])) rfl rfl (hb hby d_prog_5_method_7_122)
  refine Go.st st4 ?_
  show Go pg.tables ev below (T4.setTop (mkF mi 125 #[.val (.ref o), .val .null, .val (.ref hd), .val (.int i3), .val (.int i4), .val (.ref hd), .val (.int i6), .val (.int i7), .unset] [(.ref nb)])) P
  refine Go.st (fun t_ k_ => XS.aloadN X4.here hx rfl (hb hby d_prog_5_method_7_125) rfl rfl k_) ?_
  show Go pg.tables ev below (T4.setTop (mkF mi 126 #[.val (.ref o), .val .null, .val (.ref hd), .val (.int i3), .val (.int i4), .val (.ref hd), .val (.int i6), .val (.int i7), .unset] [(.ref o), (.ref nb)])) P
  obtain ⟨T5, X5, e5, st5⟩ := getF X4 hx hZ hown (host := "") (Or.inl (hw _ (List.mem_of_getElem? (i := 28) rfl))) Via.refl e4 F4 (g := (mkF mi 126 #[.val (.ref o), .val .null, .val (.ref hd), .val (.int i3), .val (.int i4), .val (.ref hd), .val (.int i6), .val (.int i7), .unset] [(.ref o), (.ref nb)])) rfl rfl (hb hby d_prog_5_method_7_126)
  refine Go.st st5 ?_
  show Go pg.tables ev below (T5.setTop (mkF mi 129 #[.val (.ref o), .val .null, .val (.ref hd), .val (.int i3), .val (.int i4), .val (.ref hd), .val (.int i6), .val (.int i7), .unset] [(.int (1 : Int32)), (.ref nb)])) P
  refine Go.st (fun t_ k_ => XS.aloadN X5.here hx rfl (hb hby d_prog_5_method_7_129) rfl rfl k_) ?_
  show Go pg.tables ev below (T5.setTop (mkF mi 130 #[.val (.ref o), .val .null, .val (.ref hd), .val (.int i3), .val (.int i4), .val (.ref hd), .val (.int i6), .val (.int i7), .unset] [(.ref hd), (.int (1 : Int32)), (.ref nb)])) P
  have ov6 := A_nb
  obtain ⟨cl6, Ar6, q6, S6, M6, H6, G6⟩ := ov6
  have hin6 : ¬ ((1 : Int32) < 0 ∨ cl6.slots.size ≤ ((1 : Int32)).toNatClampNeg) := inb_of S6 ⟨by decide, by decide⟩
  obtain ⟨T7, h7, X7, e7, W7, st7⟩ := stR X5 hx hZ e5 Ar6 (j := (1 : Int32)) hin6 rfl (Sto.ofVA Ar6 q6 O_nb (Ins.self EH)) (g := (mkF mi 130 #[.val (.ref o), .val .null, .val (.ref hd), .val (.int i3), .val (.int i4), .val (.ref hd), .val (.int i6), .val (.int i7), .unset] [(.ref hd), (.int (1 : Int32)), (.ref nb)])) rfl rfl (hb hby d_prog_5_method_7_130)
  have Zs8 : n0 ≤ h7.size := Nat.le_trans Z0 (Keep.of_wr W7).1
  have KC8 : Keep h0 h7 [o, nb, vb, sp, kn] := (Keep.refl h0 [o, nb, vb, sp, kn]).wr W7 (Or.inl (List.mem_of_getElem? (i := 1) rfl))
  have N8 := Fr.snoc X7 N0 g_nb
  have vl7 : (vN.set 1 (.ref hd)).length = 8 := List.length_set.trans l_nb
  have V7 : Arv Z h7 nb kN (.array .byte) (8 : Int32) (vN.set 1 (.ref hd)) .null := Arv.set Ar6 q6 S6 M6 H6 G6 rfl W7 1 rfl (by rw [l_nb]; decide)
  refine Go.st st7 ?_
  show Go pg.tables ev below (T7.setTop (mkF mi 131 #[.val (.ref o), .val .null, .val (.ref hd), .val (.int i3), .val (.int i4), .val (.ref hd), .val (.int i6), .val (.int i7), .unset] [])) P
  refine Go.st (fun t_ k_ => XS.aloadN X7.here hx rfl (hb hby d_prog_5_method_7_131) rfl rfl k_) ?_
  show Go pg.tables ev below (T7.setTop (mkF mi 132 #[.val (.ref o), .val .null, .val (.ref hd), .val (.int i3), .val (.int i4), .val (.ref hd), .val (.int i6), .val (.int i7), .unset] [(.ref o)])) P
  have f9 := (F1.other W7 (Or.inl ne_o_nb))
  obtain ⟨T10, X10, e10, st10⟩ := getF X7 hx hZ hown (host := "") (Or.inl (hw _ (List.mem_of_getElem? (i := 14) rfl))) Via.refl e7 f9 (g := (mkF mi 132 #[.val (.ref o), .val .null, .val (.ref hd), .val (.int i3), .val (.int i4), .val (.ref hd), .val (.int i6), .val (.int i7), .unset] [(.ref o)])) rfl rfl (hb hby d_prog_5_method_7_132)
  refine Go.st st10 ?_
  show Go pg.tables ev below (T10.setTop (mkF mi 135 #[.val (.ref o), .val .null, .val (.ref hd), .val (.int i3), .val (.int i4), .val (.ref hd), .val (.int i6), .val (.int i7), .unset] [(.ref vb)])) P
  refine Go.st (fun t_ k_ => XS.aloadN X10.here hx rfl (hb hby d_prog_5_method_7_135) rfl rfl k_) ?_
  show Go pg.tables ev below (T10.setTop (mkF mi 136 #[.val (.ref o), .val .null, .val (.ref hd), .val (.int i3), .val (.int i4), .val (.ref hd), .val (.int i6), .val (.int i7), .unset] [(.ref o), (.ref vb)])) P
  have f11 := (F4.other W7 (Or.inl ne_o_nb))
  obtain ⟨T12, X12, e12, st12⟩ := getF X10 hx hZ hown (host := "") (Or.inl (hw _ (List.mem_of_getElem? (i := 28) rfl))) Via.refl e10 f11 (g := (mkF mi 136 #[.val (.ref o), .val .null, .val (.ref hd), .val (.int i3), .val (.int i4), .val (.ref hd), .val (.int i6), .val (.int i7), .unset] [(.ref o), (.ref vb)])) rfl rfl (hb hby d_prog_5_method_7_136)
  refine Go.st st12 ?_
  show Go pg.tables ev below (T12.setTop (mkF mi 139 #[.val (.ref o), .val .null, .val (.ref hd), .val (.int i3), .val (.int i4), .val (.ref hd), .val (.int i6), .val (.int i7), .unset] [(.int (1 : Int32)), (.ref vb)])) P
  refine Go.st (fun t_ k_ => XS.aload X12.here hx rfl (hb hby d_prog_5_method_7_139) rfl rfl k_) ?_
  show Go pg.tables ev below (T12.setTop (mkF mi 141 #[.val (.ref o), .val .null, .val (.ref hd), .val (.int i3), .val (.int i4), .val (.ref hd), .val (.int i6), .val (.int i7), .unset] [(.ref hd), (.int (1 : Int32)), (.ref vb)])) P
  have f13 := (A_vb.other W7 (Ne.symm ne_nb_vb))
  have ov14 := f13
  obtain ⟨cl14, Ar14, q14, S14, M14, H14, G14⟩ := ov14
  have hin14 : ¬ ((1 : Int32) < 0 ∨ cl14.slots.size ≤ ((1 : Int32)).toNatClampNeg) := inb_of S14 ⟨by decide, by decide⟩
  have f15 := (EH.wr W7)
  obtain ⟨T16, h16, X16, e16, W16, st16⟩ := stR X12 hx hZ e12 Ar14 (j := (1 : Int32)) hin14 rfl (Sto.ofVA Ar14 q14 O_vb (Ins.self f15)) (g := (mkF mi 141 #[.val (.ref o), .val .null, .val (.ref hd), .val (.int i3), .val (.int i4), .val (.ref hd), .val (.int i6), .val (.int i7), .unset] [(.ref hd), (.int (1 : Int32)), (.ref vb)])) rfl rfl (hb hby d_prog_5_method_7_141)
  have Zs17 : n0 ≤ h16.size := Nat.le_trans Zs8 (Keep.of_wr W16).1
  have KC17 : Keep h0 h16 [o, nb, vb, sp, kn] := KC8.wr W16 (Or.inl (List.mem_of_getElem? (i := 2) rfl))
  have N17 := Fr.snoc X16 N8 g_vb
  have vl16 : (vV.set 1 (.ref hd)).length = 8 := List.length_set.trans l_vb
  have V16 : Arv Z h16 vb kV (.array .byte) (8 : Int32) (vV.set 1 (.ref hd)) .null := Arv.set Ar14 q14 S14 M14 H14 G14 rfl W16 1 rfl (by rw [l_vb]; decide)
  refine Go.st st16 ?_
  show Go pg.tables ev below (T16.setTop (mkF mi 142 #[.val (.ref o), .val .null, .val (.ref hd), .val (.int i3), .val (.int i4), .val (.ref hd), .val (.int i6), .val (.int i7), .unset] [])) P
  refine Go.st (fun t_ k_ => XS.iconst X16.here hx rfl (hb hby d_prog_5_method_7_142) k_) ?_
  show Go pg.tables ev below (T16.setTop (mkF mi 143 #[.val (.ref o), .val .null, .val (.ref hd), .val (.int i3), .val (.int i4), .val (.ref hd), .val (.int i6), .val (.int i7), .unset] [(.int (4 : Int32))])) P
  refine Go.st (fun t_ k_ => XS.aloadN X16.here hx rfl (hb hby d_prog_5_method_7_143) rfl rfl k_) ?_
  show Go pg.tables ev below (T16.setTop (mkF mi 144 #[.val (.ref o), .val .null, .val (.ref hd), .val (.int i3), .val (.int i4), .val (.ref hd), .val (.int i6), .val (.int i7), .unset] [(.ref o), (.int (4 : Int32))])) P
  have f18 := (f11.other W16 (Or.inl ne_o_vb))
  obtain ⟨T19, X19, e19, st19⟩ := getF X16 hx hZ hown (host := "") (Or.inl (hw _ (List.mem_of_getElem? (i := 28) rfl))) Via.refl e16 f18 (g := (mkF mi 144 #[.val (.ref o), .val .null, .val (.ref hd), .val (.int i3), .val (.int i4), .val (.ref hd), .val (.int i6), .val (.int i7), .unset] [(.ref o), (.int (4 : Int32))])) rfl rfl (hb hby d_prog_5_method_7_144)
  refine Go.st st19 ?_
  show Go pg.tables ev below (T19.setTop (mkF mi 147 #[.val (.ref o), .val .null, .val (.ref hd), .val (.int i3), .val (.int i4), .val (.ref hd), .val (.int i6), .val (.int i7), .unset] [(.int (1 : Int32)), (.int (4 : Int32))])) P
  refine Go.st (fun t_ k_ => XS.imul X19.here hx rfl (hb hby d_prog_5_method_7_147) rfl k_) ?_
  show Go pg.tables ev below (T19.setTop (mkF mi 148 #[.val (.ref o), .val .null, .val (.ref hd), .val (.int i3), .val (.int i4), .val (.ref hd), .val (.int i6), .val (.int i7), .unset] [(.int (4 : Int32))])) P
  refine Go.st (fun t_ k_ => XS.istore X19.here hx rfl (hb hby d_prog_5_method_7_148) rfl (l' := #[.val (.ref o), .val .null, .val (.ref hd), .val (.int i3), .val (.int i4), .val (.ref hd), .val (.int i6), .val (.int i7), .val (.int (4 : Int32))]) rfl k_) ?_
  show Go pg.tables ev below (T19.setTop (mkF mi 150 #[.val (.ref o), .val .null, .val (.ref hd), .val (.int i3), .val (.int i4), .val (.ref hd), .val (.int i6), .val (.int i7), .val (.int (4 : Int32))] [])) P
  refine Go.st (fun t_ k_ => XS.aloadN X19.here hx rfl (hb hby d_prog_5_method_7_150) rfl rfl k_) ?_
  show Go pg.tables ev below (T19.setTop (mkF mi 151 #[.val (.ref o), .val .null, .val (.ref hd), .val (.int i3), .val (.int i4), .val (.ref hd), .val (.int i6), .val (.int i7), .val (.int (4 : Int32))] [(.ref o)])) P
  have f20 := ((F2.other W7 (Or.inl ne_o_nb)).other W16 (Or.inl ne_o_vb))
  obtain ⟨T21, X21, e21, st21⟩ := getF X19 hx hZ hown (host := "") (Or.inl (hw _ (List.mem_of_getElem? (i := 17) rfl))) Via.refl e19 f20 (g := (mkF mi 151 #[.val (.ref o), .val .null, .val (.ref hd), .val (.int i3), .val (.int i4), .val (.ref hd), .val (.int i6), .val (.int i7), .val (.int (4 : Int32))] [(.ref o)])) rfl rfl (hb hby d_prog_5_method_7_151)
  refine Go.st st21 ?_
  show Go pg.tables ev below (T21.setTop (mkF mi 154 #[.val (.ref o), .val .null, .val (.ref hd), .val (.int i3), .val (.int i4), .val (.ref hd), .val (.int i6), .val (.int i7), .val (.int (4 : Int32))] [(.ref sp)])) P
  refine Go.st (fun t_ k_ => XS.iload X21.here hx rfl (hb hby d_prog_5_method_7_154) rfl k_) ?_
  show Go pg.tables ev below (T21.setTop (mkF mi 156 #[.val (.ref o), .val .null, .val (.ref hd), .val (.int i3), .val (.int i4), .val (.ref hd), .val (.int i6), .val (.int i7), .val (.int (4 : Int32))] [(.int (4 : Int32)), (.ref sp)])) P
  refine Go.st (fun t_ k_ => XS.iloadN X21.here hx rfl (hb hby d_prog_5_method_7_156) rfl k_) ?_
  show Go pg.tables ev below (T21.setTop (mkF mi 157 #[.val (.ref o), .val .null, .val (.ref hd), .val (.int i3), .val (.int i4), .val (.ref hd), .val (.int i6), .val (.int i7), .val (.int (4 : Int32))] [(.int i3), (.int (4 : Int32)), (.ref sp)])) P
  have f22 := ((A_sp.other W7 (Ne.symm ne_nb_sp)).other W16 (Ne.symm ne_vb_sp))
  have ov23 := f22
  obtain ⟨cl23, Ar23, q23, S23, M23, H23, G23⟩ := ov23
  have hin23 : ¬ ((4 : Int32) < 0 ∨ cl23.slots.size ≤ ((4 : Int32)).toNatClampNeg) := inb_of S23 ⟨by decide, by decide⟩
  obtain ⟨T24, h24, X24, e24, W24, st24⟩ := stI X21 hx hZ e21 Ar23 (j := (4 : Int32)) hin23 (g := (mkF mi 157 #[.val (.ref o), .val .null, .val (.ref hd), .val (.int i3), .val (.int i4), .val (.ref hd), .val (.int i6), .val (.int i7), .val (.int (4 : Int32))] [(.int i3), (.int (4 : Int32)), (.ref sp)])) rfl rfl (hb hby d_prog_5_method_7_157)
  have Zs25 : n0 ≤ h24.size := Nat.le_trans Zs17 (Keep.of_wr W24).1
  have KC25 : Keep h0 h24 [o, nb, vb, sp, kn] := KC17.wr W24 (Or.inl (List.mem_of_getElem? (i := 3) rfl))
  have N25 := Fr.snoc X24 N17 g_sp
  have vl24 : (vS.set 4 (.int i3)).length = 32 := List.length_set.trans l_sp
  have V24 : Arv Z h24 sp kS .int (32 : Int32) (vS.set 4 (.int i3)) (.int (0 : Int32)) := Arv.set Ar23 q23 S23 M23 H23 G23 rfl W24 4 rfl (by rw [l_sp]; decide)
  refine Go.st st24 ?_
  show Go pg.tables ev below (T24.setTop (mkF mi 158 #[.val (.ref o), .val .null, .val (.ref hd), .val (.int i3), .val (.int i4), .val (.ref hd), .val (.int i6), .val (.int i7), .val (.int (4 : Int32))] [])) P
  refine Go.st (fun t_ k_ => XS.aloadN X24.here hx rfl (hb hby d_prog_5_method_7_158) rfl rfl k_) ?_
  show Go pg.tables ev below (T24.setTop (mkF mi 159 #[.val (.ref o), .val .null, .val (.ref hd), .val (.int i3), .val (.int i4), .val (.ref hd), .val (.int i6), .val (.int i7), .val (.int (4 : Int32))] [(.ref o)])) P
  have f26 := (f20.other W24 (Or.inl ne_o_sp))
  obtain ⟨T27, X27, e27, st27⟩ := getF X24 hx hZ hown (host := "") (Or.inl (hw _ (List.mem_of_getElem? (i := 17) rfl))) Via.refl e24 f26 (g := (mkF mi 159 #[.val (.ref o), .val .null, .val (.ref hd), .val (.int i3), .val (.int i4), .val (.ref hd), .val (.int i6), .val (.int i7), .val (.int (4 : Int32))] [(.ref o)])) rfl rfl (hb hby d_prog_5_method_7_159)
  refine Go.st st27 ?_
  show Go pg.tables ev below (T27.setTop (mkF mi 162 #[.val (.ref o), .val .null, .val (.ref hd), .val (.int i3), .val (.int i4), .val (.ref hd), .val (.int i6), .val (.int i7), .val (.int (4 : Int32))] [(.ref sp)])) P
  refine Go.st (fun t_ k_ => XS.iload X27.here hx rfl (hb hby d_prog_5_method_7_162) rfl k_) ?_
  show Go pg.tables ev below (T27.setTop (mkF mi 164 #[.val (.ref o), .val .null, .val (.ref hd), .val (.int i3), .val (.int i4), .val (.ref hd), .val (.int i6), .val (.int i7), .val (.int (4 : Int32))] [(.int (4 : Int32)), (.ref sp)])) P
  refine Go.st (fun t_ k_ => XS.iconst X27.here hx rfl (hb hby d_prog_5_method_7_164) k_) ?_
  show Go pg.tables ev below (T27.setTop (mkF mi 165 #[.val (.ref o), .val .null, .val (.ref hd), .val (.int i3), .val (.int i4), .val (.ref hd), .val (.int i6), .val (.int i7), .val (.int (4 : Int32))] [(.int (1 : Int32)), (.int (4 : Int32)), (.ref sp)])) P
  refine Go.st (fun t_ k_ => XS.iadd X27.here hx rfl (hb hby d_prog_5_method_7_165) rfl k_) ?_
  show Go pg.tables ev below (T27.setTop (mkF mi 166 #[.val (.ref o), .val .null, .val (.ref hd), .val (.int i3), .val (.int i4), .val (.ref hd), .val (.int i6), .val (.int i7), .val (.int (4 : Int32))] [(.int (5 : Int32)), (.ref sp)])) P
  refine Go.st (fun t_ k_ => XS.iload X27.here hx rfl (hb hby d_prog_5_method_7_166) rfl k_) ?_
  show Go pg.tables ev below (T27.setTop (mkF mi 168 #[.val (.ref o), .val .null, .val (.ref hd), .val (.int i3), .val (.int i4), .val (.ref hd), .val (.int i6), .val (.int i7), .val (.int (4 : Int32))] [(.int i4), (.int (5 : Int32)), (.ref sp)])) P
  have ov28 := V24
  obtain ⟨cl28, Ar28, q28, S28, M28, H28, G28⟩ := ov28
  have hin28 : ¬ ((5 : Int32) < 0 ∨ cl28.slots.size ≤ ((5 : Int32)).toNatClampNeg) := inb_of S28 ⟨by decide, by decide⟩
  obtain ⟨T29, h29, X29, e29, W29, st29⟩ := stI X27 hx hZ e27 Ar28 (j := (5 : Int32)) hin28 (g := (mkF mi 168 #[.val (.ref o), .val .null, .val (.ref hd), .val (.int i3), .val (.int i4), .val (.ref hd), .val (.int i6), .val (.int i7), .val (.int (4 : Int32))] [(.int i4), (.int (5 : Int32)), (.ref sp)])) rfl rfl (hb hby d_prog_5_method_7_168)
  have Zs30 : n0 ≤ h29.size := Nat.le_trans Zs25 (Keep.of_wr W29).1
  have KC30 : Keep h0 h29 [o, nb, vb, sp, kn] := KC25.wr W29 (Or.inl (List.mem_of_getElem? (i := 3) rfl))
  have N30 := Fr.snoc X29 N25 g_sp
  have vl29 : ((vS.set 4 (.int i3)).set 5 (.int i4)).length = 32 := List.length_set.trans vl24
  have V29 : Arv Z h29 sp kS .int (32 : Int32) ((vS.set 4 (.int i3)).set 5 (.int i4)) (.int (0 : Int32)) := Arv.set Ar28 q28 S28 M28 H28 G28 rfl W29 5 rfl (by rw [vl24]; decide)
  refine Go.st st29 ?_
  show Go pg.tables ev below (T29.setTop (mkF mi 169 #[.val (.ref o), .val .null, .val (.ref hd), .val (.int i3), .val (.int i4), .val (.ref hd), .val (.int i6), .val (.int i7), .val (.int (4 : Int32))] [])) P
  refine Go.st (fun t_ k_ => XS.aloadN X29.here hx rfl (hb hby d_prog_5_method_7_169) rfl rfl k_) ?_
  show Go pg.tables ev below (T29.setTop (mkF mi 170 #[.val (.ref o), .val .null, .val (.ref hd), .val (.int i3), .val (.int i4), .val (.ref hd), .val (.int i6), .val (.int i7), .val (.int (4 : Int32))] [(.ref o)])) P
  have f31 := (f26.other W29 (Or.inl ne_o_sp))
  obtain ⟨T32, X32, e32, st32⟩ := getF X29 hx hZ hown (host := "") (Or.inl (hw _ (List.mem_of_getElem? (i := 17) rfl))) Via.refl e29 f31 (g := (mkF mi 170 #[.val (.ref o), .val .null, .val (.ref hd), .val (.int i3), .val (.int i4), .val (.ref hd), .val (.int i6), .val (.int i7), .val (.int (4 : Int32))] [(.ref o)])) rfl rfl (hb hby d_prog_5_method_7_170)
  refine Go.st st32 ?_
  show Go pg.tables ev below (T32.setTop (mkF mi 173 #[.val (.ref o), .val .null, .val (.ref hd), .val (.int i3), .val (.int i4), .val (.ref hd), .val (.int i6), .val (.int i7), .val (.int (4 : Int32))] [(.ref sp)])) P
  refine Go.st (fun t_ k_ => XS.iload X32.here hx rfl (hb hby d_prog_5_method_7_173) rfl k_) ?_
  show Go pg.tables ev below (T32.setTop (mkF mi 175 #[.val (.ref o), .val .null, .val (.ref hd), .val (.int i3), .val (.int i4), .val (.ref hd), .val (.int i6), .val (.int i7), .val (.int (4 : Int32))] [(.int (4 : Int32)), (.ref sp)])) P
  refine Go.st (fun t_ k_ => XS.iconst X32.here hx rfl (hb hby d_prog_5_method_7_175) k_) ?_
  show Go pg.tables ev below (T32.setTop (mkF mi 176 #[.val (.ref o), .val .null, .val (.ref hd), .val (.int i3), .val (.int i4), .val (.ref hd), .val (.int i6), .val (.int i7), .val (.int (4 : Int32))] [(.int (2 : Int32)), (.int (4 : Int32)), (.ref sp)])) P
  refine Go.st (fun t_ k_ => XS.iadd X32.here hx rfl (hb hby d_prog_5_method_7_176) rfl k_) ?_
  show Go pg.tables ev below (T32.setTop (mkF mi 177 #[.val (.ref o), .val .null, .val (.ref hd), .val (.int i3), .val (.int i4), .val (.ref hd), .val (.int i6), .val (.int i7), .val (.int (4 : Int32))] [(.int (6 : Int32)), (.ref sp)])) P
  refine Go.st (fun t_ k_ => XS.iload X32.here hx rfl (hb hby d_prog_5_method_7_177) rfl k_) ?_
  show Go pg.tables ev below (T32.setTop (mkF mi 179 #[.val (.ref o), .val .null, .val (.ref hd), .val (.int i3), .val (.int i4), .val (.ref hd), .val (.int i6), .val (.int i7), .val (.int (4 : Int32))] [(.int i6), (.int (6 : Int32)), (.ref sp)])) P
  have ov33 := V29
  obtain ⟨cl33, Ar33, q33, S33, M33, H33, G33⟩ := ov33
  have hin33 : ¬ ((6 : Int32) < 0 ∨ cl33.slots.size ≤ ((6 : Int32)).toNatClampNeg) := inb_of S33 ⟨by decide, by decide⟩
  obtain ⟨T34, h34, X34, e34, W34, st34⟩ := stI X32 hx hZ e32 Ar33 (j := (6 : Int32)) hin33 (g := (mkF mi 179 #[.val (.ref o), .val .null, .val (.ref hd), .val (.int i3), .val (.int i4), .val (.ref hd), .val (.int i6), .val (.int i7), .val (.int (4 : Int32))] [(.int i6), (.int (6 : Int32)), (.ref sp)])) rfl rfl (hb hby d_prog_5_method_7_179)
  have Zs35 : n0 ≤ h34.size := Nat.le_trans Zs30 (Keep.of_wr W34).1
  have KC35 : Keep h0 h34 [o, nb, vb, sp, kn] := KC30.wr W34 (Or.inl (List.mem_of_getElem? (i := 3) rfl))
  have N35 := Fr.snoc X34 N30 g_sp
  have vl34 : (((vS.set 4 (.int i3)).set 5 (.int i4)).set 6 (.int i6)).length = 32 := List.length_set.trans vl29
  have V34 : Arv Z h34 sp kS .int (32 : Int32) (((vS.set 4 (.int i3)).set 5 (.int i4)).set 6 (.int i6)) (.int (0 : Int32)) := Arv.set Ar33 q33 S33 M33 H33 G33 rfl W34 6 rfl (by rw [vl29]; decide)
  refine Go.st st34 ?_
  show Go pg.tables ev below (T34.setTop (mkF mi 180 #[.val (.ref o), .val .null, .val (.ref hd), .val (.int i3), .val (.int i4), .val (.ref hd), .val (.int i6), .val (.int i7), .val (.int (4 : Int32))] [])) P
  refine Go.st (fun t_ k_ => XS.aloadN X34.here hx rfl (hb hby d_prog_5_method_7_180) rfl rfl k_) ?_
  show Go pg.tables ev below (T34.setTop (mkF mi 181 #[.val (.ref o), .val .null, .val (.ref hd), .val (.int i3), .val (.int i4), .val (.ref hd), .val (.int i6), .val (.int i7), .val (.int (4 : Int32))] [(.ref o)])) P
  have f36 := (f31.other W34 (Or.inl ne_o_sp))
  obtain ⟨T37, X37, e37, st37⟩ := getF X34 hx hZ hown (host := "") (Or.inl (hw _ (List.mem_of_getElem? (i := 17) rfl))) Via.refl e34 f36 (g := (mkF mi 181 #[.val (.ref o), .val .null, .val (.ref hd), .val (.int i3), .val (.int i4), .val (.ref hd), .val (.int i6), .val (.int i7), .val (.int (4 : Int32))] [(.ref o)])) rfl rfl (hb hby d_prog_5_method_7_181)
  refine Go.st st37 ?_
  show Go pg.tables ev below (T37.setTop (mkF mi 184 #[.val (.ref o), .val .null, .val (.ref hd), .val (.int i3), .val (.int i4), .val (.ref hd), .val (.int i6), .val (.int i7), .val (.int (4 : Int32))] [(.ref sp)])) P
  refine Go.st (fun t_ k_ => XS.iload X37.here hx rfl (hb hby d_prog_5_method_7_184) rfl k_) ?_
  show Go pg.tables ev below (T37.setTop (mkF mi 186 #[.val (.ref o), .val .null, .val (.ref hd), .val (.int i3), .val (.int i4), .val (.ref hd), .val (.int i6), .val (.int i7), .val (.int (4 : Int32))] [(.int (4 : Int32)), (.ref sp)])) P
  refine Go.st (fun t_ k_ => XS.iconst X37.here hx rfl (hb hby d_prog_5_method_7_186) k_) ?_
  show Go pg.tables ev below (T37.setTop (mkF mi 187 #[.val (.ref o), .val .null, .val (.ref hd), .val (.int i3), .val (.int i4), .val (.ref hd), .val (.int i6), .val (.int i7), .val (.int (4 : Int32))] [(.int (3 : Int32)), (.int (4 : Int32)), (.ref sp)])) P
  refine Go.st (fun t_ k_ => XS.iadd X37.here hx rfl (hb hby d_prog_5_method_7_187) rfl k_) ?_
  show Go pg.tables ev below (T37.setTop (mkF mi 188 #[.val (.ref o), .val .null, .val (.ref hd), .val (.int i3), .val (.int i4), .val (.ref hd), .val (.int i6), .val (.int i7), .val (.int (4 : Int32))] [(.int (7 : Int32)), (.ref sp)])) P
  refine Go.st (fun t_ k_ => XS.iload X37.here hx rfl (hb hby d_prog_5_method_7_188) rfl k_) ?_
  show Go pg.tables ev below (T37.setTop (mkF mi 190 #[.val (.ref o), .val .null, .val (.ref hd), .val (.int i3), .val (.int i4), .val (.ref hd), .val (.int i6), .val (.int i7), .val (.int (4 : Int32))] [(.int i7), (.int (7 : Int32)), (.ref sp)])) P
  have ov38 := V34
  obtain ⟨cl38, Ar38, q38, S38, M38, H38, G38⟩ := ov38
  have hin38 : ¬ ((7 : Int32) < 0 ∨ cl38.slots.size ≤ ((7 : Int32)).toNatClampNeg) := inb_of S38 ⟨by decide, by decide⟩
  obtain ⟨T39, h39, X39, e39, W39, st39⟩ := stI X37 hx hZ e37 Ar38 (j := (7 : Int32)) hin38 (g := (mkF mi 190 #[.val (.ref o), .val .null, .val (.ref hd), .val (.int i3), .val (.int i4), .val (.ref hd), .val (.int i6), .val (.int i7), .val (.int (4 : Int32))] [(.int i7), (.int (7 : Int32)), (.ref sp)])) rfl rfl (hb hby d_prog_5_method_7_190)
  have Zs40 : n0 ≤ h39.size := Nat.le_trans Zs35 (Keep.of_wr W39).1
  have KC40 : Keep h0 h39 [o, nb, vb, sp, kn] := KC35.wr W39 (Or.inl (List.mem_of_getElem? (i := 3) rfl))
  have N40 := Fr.snoc X39 N35 g_sp
  have vl39 : ((((vS.set 4 (.int i3)).set 5 (.int i4)).set 6 (.int i6)).set 7 (.int i7)).length = 32 := List.length_set.trans vl34
  have V39 : Arv Z h39 sp kS .int (32 : Int32) ((((vS.set 4 (.int i3)).set 5 (.int i4)).set 6 (.int i6)).set 7 (.int i7)) (.int (0 : Int32)) := Arv.set Ar38 q38 S38 M38 H38 G38 rfl W39 7 rfl (by rw [vl34]; decide)
  refine Go.st st39 ?_
  show Go pg.tables ev below (T39.setTop (mkF mi 191 #[.val (.ref o), .val .null, .val (.ref hd), .val (.int i3), .val (.int i4), .val (.ref hd), .val (.int i6), .val (.int i7), .val (.int (4 : Int32))] [])) P
  refine Go.st (fun t_ k_ => XS.aloadN X39.here hx rfl (hb hby d_prog_5_method_7_191) rfl rfl k_) ?_
  show Go pg.tables ev below (T39.setTop (mkF mi 192 #[.val (.ref o), .val .null, .val (.ref hd), .val (.int i3), .val (.int i4), .val (.ref hd), .val (.int i6), .val (.int i7), .val (.int (4 : Int32))] [(.ref o)])) P
  have f41 := ((((((F3.other W7 (Or.inl ne_o_nb)).other W16 (Or.inl ne_o_vb)).other W24 (Or.inl ne_o_sp)).other W29 (Or.inl ne_o_sp)).other W34 (Or.inl ne_o_sp)).other W39 (Or.inl ne_o_sp))
  obtain ⟨T42, X42, e42, st42⟩ := getF X39 hx hZ hown (host := "") (Or.inl (hw _ (List.mem_of_getElem? (i := 21) rfl))) Via.refl e39 f41 (g := (mkF mi 192 #[.val (.ref o), .val .null, .val (.ref hd), .val (.int i3), .val (.int i4), .val (.ref hd), .val (.int i6), .val (.int i7), .val (.int (4 : Int32))] [(.ref o)])) rfl rfl (hb hby d_prog_5_method_7_192)
  refine Go.st st42 ?_
  show Go pg.tables ev below (T42.setTop (mkF mi 195 #[.val (.ref o), .val .null, .val (.ref hd), .val (.int i3), .val (.int i4), .val (.ref hd), .val (.int i6), .val (.int i7), .val (.int (4 : Int32))] [(.ref kn)])) P
  refine Go.st (fun t_ k_ => XS.aloadN X42.here hx rfl (hb hby d_prog_5_method_7_195) rfl rfl k_) ?_
  show Go pg.tables ev below (T42.setTop (mkF mi 196 #[.val (.ref o), .val .null, .val (.ref hd), .val (.int i3), .val (.int i4), .val (.ref hd), .val (.int i6), .val (.int i7), .val (.int (4 : Int32))] [(.ref o), (.ref kn)])) P
  have f43 := ((((f18.other W24 (Or.inl ne_o_sp)).other W29 (Or.inl ne_o_sp)).other W34 (Or.inl ne_o_sp)).other W39 (Or.inl ne_o_sp))
  obtain ⟨T44, X44, e44, st44⟩ := getF X42 hx hZ hown (host := "") (Or.inl (hw _ (List.mem_of_getElem? (i := 28) rfl))) Via.refl e42 f43 (g := (mkF mi 196 #[.val (.ref o), .val .null, .val (.ref hd), .val (.int i3), .val (.int i4), .val (.ref hd), .val (.int i6), .val (.int i7), .val (.int (4 : Int32))] [(.ref o), (.ref kn)])) rfl rfl (hb hby d_prog_5_method_7_196)
  refine Go.st st44 ?_
  show Go pg.tables ev below (T44.setTop (mkF mi 199 #[.val (.ref o), .val .null, .val (.ref hd), .val (.int i3), .val (.int i4), .val (.ref hd), .val (.int i6), .val (.int i7), .val (.int (4 : Int32))] [(.int (1 : Int32)), (.ref kn)])) P
  refine Go.st (fun t_ k_ => XS.aloadN X44.here hx rfl (hb hby d_prog_5_method_7_199) rfl rfl k_) ?_
  show Go pg.tables ev below (T44.setTop (mkF mi 200 #[.val (.ref o), .val .null, .val (.ref hd), .val (.int i3), .val (.int i4), .val (.ref hd), .val (.int i6), .val (.int i7), .val (.int (4 : Int32))] [.null, (.int (1 : Int32)), (.ref kn)])) P
  have f45 := ((((((A_kn.other W7 (Ne.symm ne_nb_kn)).other W16 (Ne.symm ne_vb_kn)).other W24 (Ne.symm ne_sp_kn)).other W29 (Ne.symm ne_sp_kn)).other W34 (Ne.symm ne_sp_kn)).other W39 (Ne.symm ne_sp_kn))
  have ov46 := f45
  obtain ⟨cl46, Ar46, q46, S46, M46, H46, G46⟩ := ov46
  have hin46 : ¬ ((1 : Int32) < 0 ∨ cl46.slots.size ≤ ((1 : Int32)).toNatClampNeg) := inb_of S46 ⟨by decide, by decide⟩
  obtain ⟨T47, h47, X47, e47, W47, st47⟩ := stR X44 hx hZ e44 Ar46 (j := (1 : Int32)) hin46 rfl (Or.inl rfl) (g := (mkF mi 200 #[.val (.ref o), .val .null, .val (.ref hd), .val (.int i3), .val (.int i4), .val (.ref hd), .val (.int i6), .val (.int i7), .val (.int (4 : Int32))] [.null, (.int (1 : Int32)), (.ref kn)])) rfl rfl (hb hby d_prog_5_method_7_200)
  have Zs48 : n0 ≤ h47.size := Nat.le_trans Zs40 (Keep.of_wr W47).1
  have KC48 : Keep h0 h47 [o, nb, vb, sp, kn] := KC40.wr W47 (Or.inl (List.mem_of_getElem? (i := 4) rfl))
  have N48 := Fr.snoc X47 N40 g_kn
  have vl47 : (vK.set 1 .null).length = 8 := List.length_set.trans l_kn
  have V47 : Arv Z h47 kn kK (.object "com/example/gatewright/gatewright/FieldName") (8 : Int32) (vK.set 1 .null) .null := Arv.set Ar46 q46 S46 M46 H46 G46 rfl W47 1 rfl (by rw [l_kn]; decide)
  refine Go.st st47 ?_
  show Go pg.tables ev below (T47.setTop (mkF mi 201 #[.val (.ref o), .val .null, .val (.ref hd), .val (.int i3), .val (.int i4), .val (.ref hd), .val (.int i6), .val (.int i7), .val (.int (4 : Int32))] [])) P
  refine Go.st (fun t_ k_ => XS.aloadN X47.here hx rfl (hb hby d_prog_5_method_7_201) rfl rfl k_) ?_
  show Go pg.tables ev below (T47.setTop (mkF mi 202 #[.val (.ref o), .val .null, .val (.ref hd), .val (.int i3), .val (.int i4), .val (.ref hd), .val (.int i6), .val (.int i7), .val (.int (4 : Int32))] [(.ref o)])) P
  refine Go.st (fun t_ k_ => XS.dup X47.here hx rfl (hb hby d_prog_5_method_7_202) rfl rfl k_) ?_
  show Go pg.tables ev below (T47.setTop (mkF mi 203 #[.val (.ref o), .val .null, .val (.ref hd), .val (.int i3), .val (.int i4), .val (.ref hd), .val (.int i6), .val (.int i7), .val (.int (4 : Int32))] [(.ref o), (.ref o)])) P
  have f49 := (f43.other W47 (Or.inl ne_o_kn))
  obtain ⟨T50, X50, e50, st50⟩ := getF X47 hx hZ hown (host := "") (Or.inl (hw _ (List.mem_of_getElem? (i := 28) rfl))) Via.refl e47 f49 (g := (mkF mi 203 #[.val (.ref o), .val .null, .val (.ref hd), .val (.int i3), .val (.int i4), .val (.ref hd), .val (.int i6), .val (.int i7), .val (.int (4 : Int32))] [(.ref o), (.ref o)])) rfl rfl (hb hby d_prog_5_method_7_203)
  refine Go.st st50 ?_
  show Go pg.tables ev below (T50.setTop (mkF mi 206 #[.val (.ref o), .val .null, .val (.ref hd), .val (.int i3), .val (.int i4), .val (.ref hd), .val (.int i6), .val (.int i7), .val (.int (4 : Int32))] [(.int (1 : Int32)), (.ref o)])) P
  refine Go.st (fun t_ k_ => XS.iconst X50.here hx rfl (hb hby d_prog_5_method_7_206) k_) ?_
  show Go pg.tables ev below (T50.setTop (mkF mi 207 #[.val (.ref o), .val .null, .val (.ref hd), .val (.int i3), .val (.int i4), .val (.ref hd), .val (.int i6), .val (.int i7), .val (.int (4 : Int32))] [(.int (1 : Int32)), (.int (1 : Int32)), (.ref o)])) P
  refine Go.st (fun t_ k_ => XS.iadd X50.here hx rfl (hb hby d_prog_5_method_7_207) rfl k_) ?_
  show Go pg.tables ev below (T50.setTop (mkF mi 208 #[.val (.ref o), .val .null, .val (.ref hd), .val (.int i3), .val (.int i4), .val (.ref hd), .val (.int i6), .val (.int i7), .val (.int (4 : Int32))] [(.int (2 : Int32)), (.ref o)])) P
  have f51 := (((((((E0.wr W7).wr W16).wr W24).wr W29).wr W34).wr W39).wr W47)
  obtain ⟨T52, h52, X52, e52, W52, st52⟩ := putF X50 hx hZ hown (host := "") (Or.inl (hw _ (List.mem_of_getElem? (i := 28) rfl))) Via.refl e50 f49 f51 (Or.inl (hw _ (List.mem_of_getElem? (i := 29) rfl))) (hw _ (List.mem_of_getElem? (i := 2) rfl)) (ty := .int) (by decide) rfl rfl (g := (mkF mi 208 #[.val (.ref o), .val .null, .val (.ref hd), .val (.int i3), .val (.int i4), .val (.ref hd), .val (.int i6), .val (.int i7), .val (.int (4 : Int32))] [(.int (2 : Int32)), (.ref o)])) rfl rfl (hb hby d_prog_5_method_7_208)
  have Zs53 : n0 ≤ h52.size := Nat.le_trans Zs48 (Keep.of_wr W52).1
  have KC53 : Keep h0 h52 [o, nb, vb, sp, kn] := KC48.wr W52 (Or.inl (List.mem_of_getElem? (i := 0) rfl))
  have N53 := Fr.snoc X52 N48 ge0
  have F52 : Fld Z h52 o "com/example/gatewright/gatewright/Fields" "size" "I" (.int (2 : Int32)) := f49.same W52
  refine Go.st st52 ?_
  show Go pg.tables ev below (T52.setTop (mkF mi 211 #[.val (.ref o), .val .null, .val (.ref hd), .val (.int i3), .val (.int i4), .val (.ref hd), .val (.int i6), .val (.int i7), .val (.int (4 : Int32))] [])) P
  obtain ⟨fs, hr, hrun, hended, hW, hsame⟩ := X52.leave (v := none) (fun _ => rfl) (BodyLoose.notSynchronized Bd)
  have f54 := ((((((((F0.other W7 (Or.inl ne_o_nb)).other W16 (Or.inl ne_o_vb)).other W24 (Or.inl ne_o_sp)).other W29 (Or.inl ne_o_sp)).other W34 (Or.inl ne_o_sp)).other W39 (Or.inl ne_o_sp)).other W47 (Or.inl ne_o_kn)).other W52 (Or.inr (slot_ne (Or.inl (hw _ (List.mem_of_getElem? (i := 13) rfl))) (Or.inl (hw _ (List.mem_of_getElem? (i := 29) rfl))) (by decide) (t := (.array (.array .byte))) (t' := .int) (by decide) (by decide))))
  have f55 := (((((((f9.other W16 (Or.inl ne_o_vb)).other W24 (Or.inl ne_o_sp)).other W29 (Or.inl ne_o_sp)).other W34 (Or.inl ne_o_sp)).other W39 (Or.inl ne_o_sp)).other W47 (Or.inl ne_o_kn)).other W52 (Or.inr (slot_ne (Or.inl (hw _ (List.mem_of_getElem? (i := 15) rfl))) (Or.inl (hw _ (List.mem_of_getElem? (i := 29) rfl))) (by decide) (t := (.array (.array .byte))) (t' := .int) (by decide) (by decide))))
  have f56 := (((f36.other W39 (Or.inl ne_o_sp)).other W47 (Or.inl ne_o_kn)).other W52 (Or.inr (slot_ne (Or.inl (hw _ (List.mem_of_getElem? (i := 18) rfl))) (Or.inl (hw _ (List.mem_of_getElem? (i := 29) rfl))) (by decide) (t := (.array .int)) (t' := .int) (by decide) (by decide))))
  have f57 := ((f41.other W47 (Or.inl ne_o_kn)).other W52 (Or.inr (slot_ne (Or.inl (hw _ (List.mem_of_getElem? (i := 22) rfl))) (Or.inl (hw _ (List.mem_of_getElem? (i := 29) rfl))) (by decide) (t := (.array (.object "com/example/gatewright/gatewright/FieldName"))) (t' := .int) (by decide) (by decide))))
  have f58 := (((((((V7.other W16 ne_nb_vb).other W24 ne_nb_sp).other W29 ne_nb_sp).other W34 ne_nb_sp).other W39 ne_nb_sp).other W47 ne_nb_kn).other W52 (Ne.symm ne_o_nb))
  have f59 := ((((((V16.other W24 ne_vb_sp).other W29 ne_vb_sp).other W34 ne_vb_sp).other W39 ne_vb_sp).other W47 ne_vb_kn).other W52 (Ne.symm ne_o_vb))
  have f60 := ((V39.other W47 ne_sp_kn).other W52 (Ne.symm ne_o_sp))
  have f61 := (V47.other W52 (Ne.symm ne_o_kn))
  refine ⟨_, _, ?_, hP _ _ ⟨hrun, hended, _, _, rfl, ?_, ⟨_, rfl⟩, hW, hsame.mono (by decide) (by decide)⟩⟩
  · exact X52.returnOut hx Bd.returns (hb hby d_prog_5_method_7_211) hr
  · show (none : Option Value) = none ∧ Fr n0 _ ∧ Keep h0 T52.heap [o, nb, vb, sp, kn] ∧ Fld Z T52.heap o "com/example/gatewright/gatewright/Fields" "nameBytes" "[[B" (.ref nb) ∧ Fld Z T52.heap o "com/example/gatewright/gatewright/Fields" "valueBytes" "[[B" (.ref vb) ∧ Fld Z T52.heap o "com/example/gatewright/gatewright/Fields" "spans" "[I" (.ref sp) ∧ Fld Z T52.heap o "com/example/gatewright/gatewright/Fields" "known" "[Lcom/example/gatewright/gatewright/FieldName;" (.ref kn) ∧ Fld Z T52.heap o "com/example/gatewright/gatewright/Fields" "size" "I" (.int (2 : Int32)) ∧ Arv Z T52.heap nb kN (.array .byte) (8 : Int32) (vN.set 1 (.ref hd)) .null ∧ Arv Z T52.heap vb kV (.array .byte) (8 : Int32) (vV.set 1 (.ref hd)) .null ∧ Arv Z T52.heap sp kS .int (32 : Int32) ((((vS.set 4 (.int i3)).set 5 (.int i4)).set 6 (.int i6)).set 7 (.int i7)) (.int (0 : Int32)) ∧ Arv Z T52.heap kn kK (.object "com/example/gatewright/gatewright/FieldName") (8 : Int32) (vK.set 1 .null) .null
    rw [e52]
    exact ⟨rfl, N53, KC53, f54, f55, f56, f57, F52, f58, f59, f60, f61⟩
theorem ef_rmA6_1 (mi : MethodId) (o : Addr) (hd : Addr) (i3 : Int32) (i4 : Int32) (i5 : Int32) (i6 : Int32) (nb : Addr) (vb : Addr) (sp : Addr) (kn : Addr) (kN : ClassId) (kV : ClassId) (kS : ClassId) (kK : ClassId) (vN : List Value) (vV : List Value) (vS : List Value) (vK : List Value) : entryFrame mi #[(.ref o), .null, (.ref hd), (.int i3), (.int i4), (.int i5), (.int i6)] 7 = mkF mi 0 #[.val (.ref o), .val .null, .val (.ref hd), .val (.int i3), .val (.int i4), .val (.int i5), .val (.int i6)] [] := by first | (simp [entryFrame, mkF, argsToLocals, Value.category]; done) | rfl
def Q_rmA6_1 (Z : State) (o : Addr) (hd : Addr) (i3 : Int32) (i4 : Int32) (i5 : Int32) (i6 : Int32) (nb : Addr) (vb : Addr) (sp : Addr) (kn : Addr) (kN : ClassId) (kV : ClassId) (kS : ClassId) (kK : ClassId) (vN : List Value) (vV : List Value) (vS : List Value) (vK : List Value) (h0 : Heap) (n0 : Nat) (vv_ : Option Value) (hh_ : Heap) (LL_ : List Loc) : Prop := vv_ = none ∧ Fr n0 LL_ ∧ Keep h0 hh_ [o, nb, vb, sp, kn] ∧ Fld Z hh_ o "com/example/gatewright/gatewright/Fields" "nameBytes" "[[B" (.ref nb) ∧ Fld Z hh_ o "com/example/gatewright/gatewright/Fields" "valueBytes" "[[B" (.ref vb) ∧ Fld Z hh_ o "com/example/gatewright/gatewright/Fields" "spans" "[I" (.ref sp) ∧ Fld Z hh_ o "com/example/gatewright/gatewright/Fields" "known" "[Lcom/example/gatewright/gatewright/FieldName;" (.ref kn) ∧ Fld Z hh_ o "com/example/gatewright/gatewright/Fields" "size" "I" (.int (2 : Int32)) ∧ Arv Z hh_ nb kN (.array .byte) (8 : Int32) (vN.set 1 (.ref hd)) .null ∧ Arv Z hh_ vb kV (.array .byte) (8 : Int32) (vV.set 1 (.ref hd)) .null ∧ Arv Z hh_ sp kS .int (32 : Int32) ((((vS.set 4 (.int i3)).set 5 (.int i4)).set 6 (.int i5)).set 7 (.int i6)) (.int (0 : Int32)) ∧ Arv Z hh_ kn kK (.object "com/example/gatewright/gatewright/FieldName") (8 : Int32) (vK.set 1 .null) .null
set_option maxRecDepth 65536 in
set_option maxHeartbeats 40000000 in
theorem rmA6_1 (l : Launch) (Z : State) (a0 : Array Value) (hw : ∀ d ∈ tables_1, d.before a0 Z = true) (ws : List Jvm.Cond) (o : Addr) (hd : Addr) (i3 : Int32) (i4 : Int32) (i5 : Int32) (i6 : Int32) (nb : Addr) (vb : Addr) (sp : Addr) (kn : Addr) (kN : ClassId) (kV : ClassId) (kS : ClassId) (kK : ClassId) (vN : List Value) (vV : List Value) (vS : List Value) (vK : List Value) (h0 : Heap) (n0 : Nat) (Z0 : n0 ≤ h0.size) (E0 : Exa Z h0 o "com/example/gatewright/gatewright/Fields") (ge0 : n0 ≤ o) (EH : Exa Z h0 hd "[B") (g_nb : n0 ≤ nb) (g_vb : n0 ≤ vb) (g_sp : n0 ≤ sp) (g_kn : n0 ≤ kn) (ne_o_nb : o ≠ nb) (ne_o_vb : o ≠ vb) (ne_o_sp : o ≠ sp) (ne_o_kn : o ≠ kn) (ne_nb_vb : nb ≠ vb) (ne_nb_sp : nb ≠ sp) (ne_nb_kn : nb ≠ kn) (ne_vb_sp : vb ≠ sp) (ne_vb_kn : vb ≠ kn) (ne_sp_kn : sp ≠ kn) (F0 : Fld Z h0 o "com/example/gatewright/gatewright/Fields" "nameBytes" "[[B" (.ref nb)) (F1 : Fld Z h0 o "com/example/gatewright/gatewright/Fields" "valueBytes" "[[B" (.ref vb)) (F2 : Fld Z h0 o "com/example/gatewright/gatewright/Fields" "spans" "[I" (.ref sp)) (F3 : Fld Z h0 o "com/example/gatewright/gatewright/Fields" "known" "[Lcom/example/gatewright/gatewright/FieldName;" (.ref kn)) (F4 : Fld Z h0 o "com/example/gatewright/gatewright/Fields" "size" "I" (.int (1 : Int32))) (A_nb : Arv Z h0 nb kN (.array .byte) (8 : Int32) vN .null) (A_vb : Arv Z h0 vb kV (.array .byte) (8 : Int32) vV .null) (A_sp : Arv Z h0 sp kS .int (32 : Int32) vS (.int (0 : Int32))) (A_kn : Arv Z h0 kn kK (.object "com/example/gatewright/gatewright/FieldName") (8 : Int32) vK .null) (l_nb : vN.length = 8) (l_vb : vV.length = 8) (l_sp : vS.length = 32) (l_kn : vK.length = 8) (O_nb : OvrA Z kN .byte "[B") (O_vb : OvrA Z kV .byte "[B") :
    MetFree l (⟨"com/example/gatewright/gatewright/Fields", "add", "(Lcom/example/gatewright/gatewright/FieldName;[BIIII)V"⟩ : MethodName) (head1 (Jvm.Cond.code (⟨"com/example/gatewright/gatewright/Fields", "add", "(Lcom/example/gatewright/gatewright/FieldName;[BIIII)V"⟩ : MethodName) prog_5_method_5_code 7 none :: ws) ({ frames := 1, cells := 0, slots := 0, locals := 20 } : Room)) (fun aa_ U => aa_ = #[(.ref o), .null, (.ref hd), (.int i3), (.int i4), (.int i5), (.int i6)] ∧ Z.Warmed39 U.vm ∧ U.heap = h0) (fun _ _ _ _ _ => True) (fun _ U oo_ UV_ => ∃ vv_ LL_, oo_ = .returned vv_ ∧ Q_rmA6_1 Z o hd i3 i4 i5 i6 nb vb sp kn kN kV kS kK vN vV vS vK h0 n0 vv_ UV_.heap LL_ ∧ FrameEnd U oo_ UV_ LL_ ({ frames := 1, cells := 0, slots := 0, locals := 20 } : Room).cells ({ frames := 1, cells := 0, slots := 0, locals := 20 } : Room).slots) := by
  refine MetFree.of_bodySF (plainFor_of_name pn_1) hisR ?_
  intro pg ev si mi args below meth ci s₁ Bd hml0 hP0 hK
  obtain ⟨rfl, hZ, hh⟩ := hP0
  have hx := Bd.exec
  have hby := Bd.bytes
  have hml : ci.maxLocals = 7 := hml0
  have hown : si.vm.findClass "com/example/gatewright/gatewright/Fields" = some mi.cls := findClass_of_methodNamed Bd.named
  have hnm := (name_of_methodNamed Bd.named Bd.method).1
  have X0 : Stand pg l ev ({ frames := 1, cells := 0, slots := 0, locals := 20 } : Room) si mi #[(.ref o), .null, (.ref hd), (.int i3), (.int i4), (.int i5), (.int i6)] below meth ci s₁ [] 0 0 := Stand.of_body Bd
  have e0 : s₁.heap = h0 := by rw [← hh, Bd.state]; rfl
  have N0 := Fr.nil n0
  refine Go.start (fun P hP => ?_)
  refine Go.st (fun t_ k_ => castTop (ef_rmA6_1 mi o hd i3 i4 i5 i6 nb vb sp kn kN kV kS kK vN vV vS vK) k_) (A := s₁.setTop (mkF mi 0 #[.val (.ref o), .val .null, .val (.ref hd), .val (.int i3), .val (.int i4), .val (.int i5), .val (.int i6)] [])) ?_
  show Go pg.tables ev below (s₁.setTop (mkF mi 0 #[.val (.ref o), .val .null, .val (.ref hd), .val (.int i3), .val (.int i4), .val (.int i5), .val (.int i6)] [])) P
  refine Go.st (fun t_ k_ => XS.aloadN X0.here hx rfl (hb hby d_prog_5_method_5_0) rfl rfl k_) ?_
  show Go pg.tables ev below (s₁.setTop (mkF mi 1 #[.val (.ref o), .val .null, .val (.ref hd), .val (.int i3), .val (.int i4), .val (.int i5), .val (.int i6)] [(.ref o)])) P
  refine Go.st (fun t_ k_ => XS.aloadN X0.here hx rfl (hb hby d_prog_5_method_5_1) rfl rfl k_) ?_
  show Go pg.tables ev below (s₁.setTop (mkF mi 2 #[.val (.ref o), .val .null, .val (.ref hd), .val (.int i3), .val (.int i4), .val (.int i5), .val (.int i6)] [.null, (.ref o)])) P
  refine Go.st (fun t_ k_ => XS.aloadN X0.here hx rfl (hb hby d_prog_5_method_5_2) rfl rfl k_) ?_
  show Go pg.tables ev below (s₁.setTop (mkF mi 3 #[.val (.ref o), .val .null, .val (.ref hd), .val (.int i3), .val (.int i4), .val (.int i5), .val (.int i6)] [(.ref hd), .null, (.ref o)])) P
  refine Go.st (fun t_ k_ => XS.iloadN X0.here hx rfl (hb hby d_prog_5_method_5_3) rfl k_) ?_
  show Go pg.tables ev below (s₁.setTop (mkF mi 4 #[.val (.ref o), .val .null, .val (.ref hd), .val (.int i3), .val (.int i4), .val (.int i5), .val (.int i6)] [(.int i3), (.ref hd), .null, (.ref o)])) P
  refine Go.st (fun t_ k_ => XS.iload X0.here hx rfl (hb hby d_prog_5_method_5_4) rfl k_) ?_
  show Go pg.tables ev below (s₁.setTop (mkF mi 6 #[.val (.ref o), .val .null, .val (.ref hd), .val (.int i3), .val (.int i4), .val (.int i5), .val (.int i6)] [(.int i4), (.int i3), (.ref hd), .null, (.ref o)])) P
  refine Go.st (fun t_ k_ => XS.aloadN X0.here hx rfl (hb hby d_prog_5_method_5_6) rfl rfl k_) ?_
  show Go pg.tables ev below (s₁.setTop (mkF mi 7 #[.val (.ref o), .val .null, .val (.ref hd), .val (.int i3), .val (.int i4), .val (.int i5), .val (.int i6)] [(.ref hd), (.int i4), (.int i3), (.ref hd), .null, (.ref o)])) P
  refine Go.st (fun t_ k_ => XS.iload X0.here hx rfl (hb hby d_prog_5_method_5_7) rfl k_) ?_
  show Go pg.tables ev below (s₁.setTop (mkF mi 9 #[.val (.ref o), .val .null, .val (.ref hd), .val (.int i3), .val (.int i4), .val (.int i5), .val (.int i6)] [(.int i5), (.ref hd), (.int i4), (.int i3), (.ref hd), .null, (.ref o)])) P
  refine Go.st (fun t_ k_ => XS.iload X0.here hx rfl (hb hby d_prog_5_method_5_9) rfl k_) ?_
  show Go pg.tables ev below (s₁.setTop (mkF mi 11 #[.val (.ref o), .val .null, .val (.ref hd), .val (.int i3), .val (.int i4), .val (.int i5), .val (.int i6)] [(.int i6), (.int i5), (.ref hd), (.int i4), (.int i3), (.ref hd), .null, (.ref o)])) P
  obtain ⟨cq1, q1, q1'⟩ := E0.cell
  obtain ⟨_, _, ⟨T1, L1, k1, n1⟩, -, X1, ⟨Lc1, hQ1, l1, y1, z1⟩, st1⟩ := X0.privateBack hx (y := (⟨"com/example/gatewright/gatewright/Fields", "add", "(Lcom/example/gatewright/gatewright/FieldName;[BII[BII)V"⟩ : MethodName)) hown (mvT hZ (hw _ (List.mem_of_getElem? (i := 51) rfl))) (mvT hZ (hw _ (List.mem_of_getElem? (i := 52) rfl))) (own_selp hZ (hw _ (List.mem_of_getElem? (i := 2) rfl)) (hw _ (List.mem_of_getElem? (i := 53) rfl)) (hw _ (List.mem_of_getElem? (i := 52) rfl))) (Cond.privateMethod_at (mvP hZ (hw _ (List.mem_of_getElem? (i := 53) rfl)) (args := #[]))) (mvT hZ (hw _ (List.mem_of_getElem? (i := 54) rfl))) (by decide) (backOf (W := 0) (rmA7_1 l Z a0 hw [] o hd i3 i4 i5 i6 nb vb sp kn kN kV kS kK vN vV vS vK h0 n0 Z0 E0 ge0 EH g_nb g_vb g_sp g_kn ne_o_nb ne_o_vb ne_o_sp ne_o_kn ne_nb_vb ne_nb_sp ne_nb_kn ne_vb_sp ne_vb_kn ne_sp_kn F0 F1 F2 F3 F4 A_nb A_vb A_sp A_kn l_nb l_vb l_sp l_kn O_nb O_vb) hZ (hw _ (List.mem_of_getElem? (i := 54) rfl)) (hw _ (List.mem_of_getElem? (i := 3) rfl)) (by decide) (by decide)) (g := (mkF mi 11 #[.val (.ref o), .val .null, .val (.ref hd), .val (.int i3), .val (.int i4), .val (.int i5), .val (.int i6)] [(.int i6), (.int i5), (.ref hd), (.int i4), (.int i3), (.ref hd), .null, (.ref o)])) rfl (by rw [hml]; rfl) (Steps.refl _) (a := o) (by rw [e0]; exact q1) q1' (argsL := [.null, (.ref hd), (.int i3), (.int i4), (.ref hd), (.int i5), (.int i6)]) (rest := []) (lenOf pd_1 rfl) rfl (by show 2 * 0 + _ ≤ _; exact Nat.le_of_eq rfl) (hb hby d_prog_5_method_5_11) (fun _ _ => ⟨rfl, e0, (by decide : 0 + 0 ≤ _), (by decide : 0 + 0 ≤ _)⟩)
  dsimp only [Pt.U, Pt.locs, Pt.cells, Pt.slots] at X1 l1 y1 z1 st1 hQ1
  subst l1 y1 z1
  obtain ⟨h1, e1⟩ : ∃ z, T1.heap = z := ⟨_, rfl⟩
  rw [e1] at hQ1
  obtain ⟨rfl, N1q, K1, FA1_0, FA1_1, FA1_2, FA1_3, FA1_4, AA1_nb, AA1_vb, AA1_sp, AA1_kn⟩ := hQ1
  have N1 := Fr.app N0 N1q
  have Zs2 : n0 ≤ h1.size := Nat.le_trans Z0 K1.1
  have KC2 : Keep h0 h1 [o, nb, vb, sp, kn] := (Keep.refl h0 [o, nb, vb, sp, kn]).trans K1 (allS (P := fun x => x ∈ [o, nb, vb, sp, kn] ∨ h0.size ≤ x) (Or.inl (List.mem_of_getElem? (i := 0) rfl)) (allS (P := fun x => x ∈ [o, nb, vb, sp, kn] ∨ h0.size ≤ x) (Or.inl (List.mem_of_getElem? (i := 1) rfl)) (allS (P := fun x => x ∈ [o, nb, vb, sp, kn] ∨ h0.size ≤ x) (Or.inl (List.mem_of_getElem? (i := 2) rfl)) (allS (P := fun x => x ∈ [o, nb, vb, sp, kn] ∨ h0.size ≤ x) (Or.inl (List.mem_of_getElem? (i := 3) rfl)) (allS (P := fun x => x ∈ [o, nb, vb, sp, kn] ∨ h0.size ≤ x) (Or.inl (List.mem_of_getElem? (i := 4) rfl)) all0)))))
  refine Go.tr st1 ?_
  show Go pg.tables ev below (T1.setTop (mkF mi 14 #[.val (.ref o), .val .null, .val (.ref hd), .val (.int i3), .val (.int i4), .val (.int i5), .val (.int i6)] [])) P
  obtain ⟨fs, hr, hrun, hended, hW, hsame⟩ := X1.leave (v := none) (fun _ => rfl) (BodyLoose.notSynchronized Bd)
  refine ⟨_, _, ?_, hP _ _ ⟨hrun, hended, _, _, rfl, ?_, ⟨_, rfl⟩, hW, hsame.mono (by decide) (by decide)⟩⟩
  · exact X1.returnOut hx Bd.returns (hb hby d_prog_5_method_5_14) hr
  · show (none : Option Value) = none ∧ Fr n0 _ ∧ Keep h0 T1.heap [o, nb, vb, sp, kn] ∧ Fld Z T1.heap o "com/example/gatewright/gatewright/Fields" "nameBytes" "[[B" (.ref nb) ∧ Fld Z T1.heap o "com/example/gatewright/gatewright/Fields" "valueBytes" "[[B" (.ref vb) ∧ Fld Z T1.heap o "com/example/gatewright/gatewright/Fields" "spans" "[I" (.ref sp) ∧ Fld Z T1.heap o "com/example/gatewright/gatewright/Fields" "known" "[Lcom/example/gatewright/gatewright/FieldName;" (.ref kn) ∧ Fld Z T1.heap o "com/example/gatewright/gatewright/Fields" "size" "I" (.int (2 : Int32)) ∧ Arv Z T1.heap nb kN (.array .byte) (8 : Int32) (vN.set 1 (.ref hd)) .null ∧ Arv Z T1.heap vb kV (.array .byte) (8 : Int32) (vV.set 1 (.ref hd)) .null ∧ Arv Z T1.heap sp kS .int (32 : Int32) ((((vS.set 4 (.int i3)).set 5 (.int i4)).set 6 (.int i5)).set 7 (.int i6)) (.int (0 : Int32)) ∧ Arv Z T1.heap kn kK (.object "com/example/gatewright/gatewright/FieldName") (8 : Int32) (vK.set 1 .null) .null
    rw [e1]
    exact ⟨rfl, N1, KC2, FA1_0, FA1_1, FA1_2, FA1_3, FA1_4, AA1_nb, AA1_vb, AA1_sp, AA1_kn⟩
theorem ef_rmAF_1 (mi : MethodId) (o : Addr) (hd : Addr) (p : Int32) (nb : Addr) (vb : Addr) (sp : Addr) (kn : Addr) (kN : ClassId) (kV : ClassId) (kS : ClassId) (kK : ClassId) (vN : List Value) (vV : List Value) (vS : List Value) (vK : List Value) : entryFrame mi #[(.ref o), (.ref hd), (.int p)] 5 = mkF mi 0 #[.val (.ref o), .val (.ref hd), .val (.int p), .unset, .unset] [] := by first | (simp [entryFrame, mkF, argsToLocals, Value.category]; done) | rfl
def Q_rmAF_1 (Z : State) (o : Addr) (hd : Addr) (p : Int32) (nb : Addr) (vb : Addr) (sp : Addr) (kn : Addr) (kN : ClassId) (kV : ClassId) (kS : ClassId) (kK : ClassId) (vN : List Value) (vV : List Value) (vS : List Value) (vK : List Value) (h0 : Heap) (n0 : Nat) (vv_ : Option Value) (hh_ : Heap) (LL_ : List Loc) : Prop := vv_ = none ∧ Fr n0 LL_ ∧ Keep h0 hh_ [o, nb, vb, sp, kn] ∧ Fld Z hh_ o "com/example/gatewright/gatewright/Fields" "nameBytes" "[[B" (.ref nb) ∧ Fld Z hh_ o "com/example/gatewright/gatewright/Fields" "valueBytes" "[[B" (.ref vb) ∧ Fld Z hh_ o "com/example/gatewright/gatewright/Fields" "spans" "[I" (.ref sp) ∧ Fld Z hh_ o "com/example/gatewright/gatewright/Fields" "known" "[Lcom/example/gatewright/gatewright/FieldName;" (.ref kn) ∧ Fld Z hh_ o "com/example/gatewright/gatewright/Fields" "size" "I" (.int (2 : Int32)) ∧ Arv Z hh_ nb kN (.array .byte) (8 : Int32) (vN.set 1 (.ref hd)) .null ∧ Arv Z hh_ vb kV (.array .byte) (8 : Int32) (vV.set 1 (.ref hd)) .null ∧ Arv Z hh_ sp kS .int (32 : Int32) ((((vS.set 4 (.int (fNS p))).set 5 (.int ((fNS p) + (fNL p)))).set 6 (.int (fVS p))).set 7 (.int ((fVS p) + (fVL p)))) (.int (0 : Int32)) ∧ Arv Z hh_ kn kK (.object "com/example/gatewright/gatewright/FieldName") (8 : Int32) (vK.set 1 .null) .null
set_option maxRecDepth 65536 in
set_option maxHeartbeats 40000000 in
theorem rmAF_1 (l : Launch) (Z : State) (a0 : Array Value) (hw : ∀ d ∈ tables_1, d.before a0 Z = true) (ws : List Jvm.Cond) (o : Addr) (hd : Addr) (p : Int32) (nb : Addr) (vb : Addr) (sp : Addr) (kn : Addr) (kN : ClassId) (kV : ClassId) (kS : ClassId) (kK : ClassId) (vN : List Value) (vV : List Value) (vS : List Value) (vK : List Value) (h0 : Heap) (n0 : Nat) (Z0 : n0 ≤ h0.size) (E0 : Exa Z h0 o "com/example/gatewright/gatewright/Fields") (ge0 : n0 ≤ o) (EH : Exa Z h0 hd "[B") (g_nb : n0 ≤ nb) (g_vb : n0 ≤ vb) (g_sp : n0 ≤ sp) (g_kn : n0 ≤ kn) (ne_o_nb : o ≠ nb) (ne_o_vb : o ≠ vb) (ne_o_sp : o ≠ sp) (ne_o_kn : o ≠ kn) (ne_nb_vb : nb ≠ vb) (ne_nb_sp : nb ≠ sp) (ne_nb_kn : nb ≠ kn) (ne_vb_sp : vb ≠ sp) (ne_vb_kn : vb ≠ kn) (ne_sp_kn : sp ≠ kn) (F0 : Fld Z h0 o "com/example/gatewright/gatewright/Fields" "nameBytes" "[[B" (.ref nb)) (F1 : Fld Z h0 o "com/example/gatewright/gatewright/Fields" "valueBytes" "[[B" (.ref vb)) (F2 : Fld Z h0 o "com/example/gatewright/gatewright/Fields" "spans" "[I" (.ref sp)) (F3 : Fld Z h0 o "com/example/gatewright/gatewright/Fields" "known" "[Lcom/example/gatewright/gatewright/FieldName;" (.ref kn)) (F4 : Fld Z h0 o "com/example/gatewright/gatewright/Fields" "size" "I" (.int (1 : Int32))) (A_nb : Arv Z h0 nb kN (.array .byte) (8 : Int32) vN .null) (A_vb : Arv Z h0 vb kV (.array .byte) (8 : Int32) vV .null) (A_sp : Arv Z h0 sp kS .int (32 : Int32) vS (.int (0 : Int32))) (A_kn : Arv Z h0 kn kK (.object "com/example/gatewright/gatewright/FieldName") (8 : Int32) vK .null) (l_nb : vN.length = 8) (l_vb : vV.length = 8) (l_sp : vS.length = 32) (l_kn : vK.length = 8) (O_nb : OvrA Z kN .byte "[B") (O_vb : OvrA Z kV .byte "[B") :
    MetFree l (⟨"com/example/gatewright/gatewright/FieldsEncodedSizePinLaw", "addField", "(Lcom/example/gatewright/gatewright/Fields;[BI)V"⟩ : MethodName) (head1 (Jvm.Cond.code (⟨"com/example/gatewright/gatewright/FieldsEncodedSizePinLaw", "addField", "(Lcom/example/gatewright/gatewright/Fields;[BI)V"⟩ : MethodName) method_6_code 5 none :: ws) ({ frames := 2, cells := 0, slots := 0, locals := 38 } : Room)) (fun aa_ U => aa_ = #[(.ref o), (.ref hd), (.int p)] ∧ Z.Warmed39 U.vm ∧ U.heap = h0) (fun _ _ _ _ _ => True) (fun _ U oo_ UV_ => ∃ vv_ LL_, oo_ = .returned vv_ ∧ Q_rmAF_1 Z o hd p nb vb sp kn kN kV kS kK vN vV vS vK h0 n0 vv_ UV_.heap LL_ ∧ FrameEnd U oo_ UV_ LL_ ({ frames := 2, cells := 0, slots := 0, locals := 38 } : Room).cells ({ frames := 2, cells := 0, slots := 0, locals := 38 } : Room).slots) := by
  refine MetFree.of_bodySF (plainFor_of_name pn_0) hisR ?_
  intro pg ev si mi args below meth ci s₁ Bd hml0 hP0 hK
  obtain ⟨rfl, hZ, hh⟩ := hP0
  have hx := Bd.exec
  have hby := Bd.bytes
  have hml : ci.maxLocals = 5 := hml0
  have hown : si.vm.findClass "com/example/gatewright/gatewright/FieldsEncodedSizePinLaw" = some mi.cls := findClass_of_methodNamed Bd.named
  have hnm := (name_of_methodNamed Bd.named Bd.method).1
  have X0 : Stand pg l ev ({ frames := 2, cells := 0, slots := 0, locals := 38 } : Room) si mi #[(.ref o), (.ref hd), (.int p)] below meth ci s₁ [] 0 0 := Stand.of_body Bd
  have e0 : s₁.heap = h0 := by rw [← hh, Bd.state]; rfl
  have N0 := Fr.nil n0
  refine Go.start (fun P hP => ?_)
  refine Go.st (fun t_ k_ => castTop (ef_rmAF_1 mi o hd p nb vb sp kn kN kV kS kK vN vV vS vK) k_) (A := s₁.setTop (mkF mi 0 #[.val (.ref o), .val (.ref hd), .val (.int p), .unset, .unset] [])) ?_
  show Go pg.tables ev below (s₁.setTop (mkF mi 0 #[.val (.ref o), .val (.ref hd), .val (.int p), .unset, .unset] [])) P
  refine Go.st (fun t_ k_ => XS.iloadN X0.here hx rfl (hb hby d_method_6_0) rfl k_) ?_
  show Go pg.tables ev below (s₁.setTop (mkF mi 1 #[.val (.ref o), .val (.ref hd), .val (.int p), .unset, .unset] [(.int p)])) P
  obtain ⟨_, _, ⟨T1, L1, k1, n1⟩, -, X1, ⟨Lc1, hQ1, l1, y1, z1⟩, st1⟩ := Jvm.LawKit.callS X0 hx (y := (⟨"com/example/gatewright/gatewright/FieldsEncodedSizePinLaw", "nameStart", "(I)I"⟩ : MethodName)) hown (mvT hZ (hw _ (List.mem_of_getElem? (i := 34) rfl))) (mvT hZ (hw _ (List.mem_of_getElem? (i := 35) rfl))) (mvT hZ (hw _ (List.mem_of_getElem? (i := 32) rfl))) (mvT hZ (hw _ (List.mem_of_getElem? (i := 36) rfl))) (by decide) (backOf (W := 0) (rmNS l Z a0 hw [] p h0 n0 Z0) hZ (hw _ (List.mem_of_getElem? (i := 36) rfl)) (hw _ (List.mem_of_getElem? (i := 32) rfl)) (by decide) (by decide)) (g := (mkF mi 1 #[.val (.ref o), .val (.ref hd), .val (.int p), .unset, .unset] [(.int p)])) rfl (by rw [hml]; rfl) (argsL := [(.int p)]) (rest := []) (lenOf pd_0 rfl) rfl (by show 2 * 0 + _ ≤ _; exact Nat.le_of_eq rfl) (hb hby d_method_6_1) (fun _ _ => ⟨rfl, e0, (by decide : 0 + 0 ≤ _), (by decide : 0 + 0 ≤ _)⟩)
  dsimp only [Pt.U, Pt.locs, Pt.cells, Pt.slots] at X1 l1 y1 z1 st1 hQ1
  subst l1 y1 z1
  obtain ⟨rfl, N1q, e1⟩ := hQ1
  have N1 := Fr.app N0 N1q
  refine Go.st st1 ?_
  show Go pg.tables ev below (T1.setTop (mkF mi 4 #[.val (.ref o), .val (.ref hd), .val (.int p), .unset, .unset] [(.int (fNS p))])) P
  refine Go.st (fun t_ k_ => XS.istoreN X1.here hx rfl (hb hby d_method_6_4) rfl (l' := #[.val (.ref o), .val (.ref hd), .val (.int p), .val (.int (fNS p)), .unset]) rfl k_) ?_
  show Go pg.tables ev below (T1.setTop (mkF mi 5 #[.val (.ref o), .val (.ref hd), .val (.int p), .val (.int (fNS p)), .unset] [])) P
  refine Go.st (fun t_ k_ => XS.iloadN X1.here hx rfl (hb hby d_method_6_5) rfl k_) ?_
  show Go pg.tables ev below (T1.setTop (mkF mi 6 #[.val (.ref o), .val (.ref hd), .val (.int p), .val (.int (fNS p)), .unset] [(.int p)])) P
  obtain ⟨_, _, ⟨T2, L2, k2, n2⟩, -, X2, ⟨Lc2, hQ2, l2, y2, z2⟩, st2⟩ := Jvm.LawKit.callS X1 hx (y := (⟨"com/example/gatewright/gatewright/FieldsEncodedSizePinLaw", "valueStart", "(I)I"⟩ : MethodName)) hown (mvT hZ (hw _ (List.mem_of_getElem? (i := 37) rfl))) (mvT hZ (hw _ (List.mem_of_getElem? (i := 38) rfl))) (mvT hZ (hw _ (List.mem_of_getElem? (i := 32) rfl))) (mvT hZ (hw _ (List.mem_of_getElem? (i := 39) rfl))) (by decide) (backOf (W := 0) (rmVS l Z a0 hw [] p h0 n0 Z0) hZ (hw _ (List.mem_of_getElem? (i := 39) rfl)) (hw _ (List.mem_of_getElem? (i := 32) rfl)) (by decide) (by decide)) (g := (mkF mi 6 #[.val (.ref o), .val (.ref hd), .val (.int p), .val (.int (fNS p)), .unset] [(.int p)])) rfl (by rw [hml]; rfl) (argsL := [(.int p)]) (rest := []) (lenOf pd_0 rfl) rfl (by show 2 * 0 + _ ≤ _; exact Nat.le_of_eq rfl) (hb hby d_method_6_6) (fun _ _ => ⟨rfl, e1, (by decide : 0 + 0 ≤ _), (by decide : 0 + 0 ≤ _)⟩)
  dsimp only [Pt.U, Pt.locs, Pt.cells, Pt.slots] at X2 l2 y2 z2 st2 hQ2
  subst l2 y2 z2
  obtain ⟨rfl, N2q, e2⟩ := hQ2
  have N2 := Fr.app N1 N2q
  refine Go.st st2 ?_
  show Go pg.tables ev below (T2.setTop (mkF mi 9 #[.val (.ref o), .val (.ref hd), .val (.int p), .val (.int (fNS p)), .unset] [(.int (fVS p))])) P
  refine Go.st (fun t_ k_ => XS.istore X2.here hx rfl (hb hby d_method_6_9) rfl (l' := #[.val (.ref o), .val (.ref hd), .val (.int p), .val (.int (fNS p)), .val (.int (fVS p))]) rfl k_) ?_
  show Go pg.tables ev below (T2.setTop (mkF mi 11 #[.val (.ref o), .val (.ref hd), .val (.int p), .val (.int (fNS p)), .val (.int (fVS p))] [])) P
  refine Go.st (fun t_ k_ => XS.aloadN X2.here hx rfl (hb hby d_method_6_11) rfl rfl k_) ?_
  show Go pg.tables ev below (T2.setTop (mkF mi 12 #[.val (.ref o), .val (.ref hd), .val (.int p), .val (.int (fNS p)), .val (.int (fVS p))] [(.ref o)])) P
  refine Go.st (fun t_ k_ => XS.aconstNull X2.here hx rfl (hb hby d_method_6_12) k_) ?_
  show Go pg.tables ev below (T2.setTop (mkF mi 13 #[.val (.ref o), .val (.ref hd), .val (.int p), .val (.int (fNS p)), .val (.int (fVS p))] [.null, (.ref o)])) P
  refine Go.st (X2.checkcastNull hx (g := (mkF mi 13 #[.val (.ref o), .val (.ref hd), .val (.int p), .val (.int (fNS p)), .val (.int (fVS p))] [.null, (.ref o)])) rfl rfl (hb hby d_method_6_13)) ?_
  show Go pg.tables ev below (T2.setTop (mkF mi 16 #[.val (.ref o), .val (.ref hd), .val (.int p), .val (.int (fNS p)), .val (.int (fVS p))] [.null, (.ref o)])) P
  refine Go.st (fun t_ k_ => XS.aloadN X2.here hx rfl (hb hby d_method_6_16) rfl rfl k_) ?_
  show Go pg.tables ev below (T2.setTop (mkF mi 17 #[.val (.ref o), .val (.ref hd), .val (.int p), .val (.int (fNS p)), .val (.int (fVS p))] [(.ref hd), .null, (.ref o)])) P
  refine Go.st (fun t_ k_ => XS.iloadN X2.here hx rfl (hb hby d_method_6_17) rfl k_) ?_
  show Go pg.tables ev below (T2.setTop (mkF mi 18 #[.val (.ref o), .val (.ref hd), .val (.int p), .val (.int (fNS p)), .val (.int (fVS p))] [(.int (fNS p)), (.ref hd), .null, (.ref o)])) P
  refine Go.st (fun t_ k_ => XS.iloadN X2.here hx rfl (hb hby d_method_6_18) rfl k_) ?_
  show Go pg.tables ev below (T2.setTop (mkF mi 19 #[.val (.ref o), .val (.ref hd), .val (.int p), .val (.int (fNS p)), .val (.int (fVS p))] [(.int (fNS p)), (.int (fNS p)), (.ref hd), .null, (.ref o)])) P
  refine Go.st (fun t_ k_ => XS.iloadN X2.here hx rfl (hb hby d_method_6_19) rfl k_) ?_
  show Go pg.tables ev below (T2.setTop (mkF mi 20 #[.val (.ref o), .val (.ref hd), .val (.int p), .val (.int (fNS p)), .val (.int (fVS p))] [(.int p), (.int (fNS p)), (.int (fNS p)), (.ref hd), .null, (.ref o)])) P
  obtain ⟨_, _, ⟨T3, L3, k3, n3⟩, -, X3, ⟨Lc3, hQ3, l3, y3, z3⟩, st3⟩ := Jvm.LawKit.callS X2 hx (y := (⟨"com/example/gatewright/gatewright/FieldsEncodedSizePinLaw", "nameLength", "(I)I"⟩ : MethodName)) hown (mvT hZ (hw _ (List.mem_of_getElem? (i := 40) rfl))) (mvT hZ (hw _ (List.mem_of_getElem? (i := 41) rfl))) (mvT hZ (hw _ (List.mem_of_getElem? (i := 32) rfl))) (mvT hZ (hw _ (List.mem_of_getElem? (i := 42) rfl))) (by decide) (backOf (W := 5) (rmNL l Z a0 hw [] p h0 n0 Z0) hZ (hw _ (List.mem_of_getElem? (i := 42) rfl)) (hw _ (List.mem_of_getElem? (i := 32) rfl)) (by decide) (by decide)) (g := (mkF mi 20 #[.val (.ref o), .val (.ref hd), .val (.int p), .val (.int (fNS p)), .val (.int (fVS p))] [(.int p), (.int (fNS p)), (.int (fNS p)), (.ref hd), .null, (.ref o)])) rfl (by rw [hml]; rfl) (argsL := [(.int p)]) (rest := [(.int (fNS p)), (.int (fNS p)), (.ref hd), .null, (.ref o)]) (lenOf pd_0 rfl) rfl (by show 2 * 0 + _ ≤ _; exact Nat.le_of_eq rfl) (hb hby d_method_6_20) (fun _ _ => ⟨rfl, e2, (by decide : 0 + 0 ≤ _), (by decide : 0 + 0 ≤ _)⟩)
  dsimp only [Pt.U, Pt.locs, Pt.cells, Pt.slots] at X3 l3 y3 z3 st3 hQ3
  subst l3 y3 z3
  obtain ⟨rfl, N3q, e3⟩ := hQ3
  have N3 := Fr.app N2 N3q
  refine Go.st st3 ?_
  show Go pg.tables ev below (T3.setTop (mkF mi 23 #[.val (.ref o), .val (.ref hd), .val (.int p), .val (.int (fNS p)), .val (.int (fVS p))] [(.int (fNL p)), (.int (fNS p)), (.int (fNS p)), (.ref hd), .null, (.ref o)])) P
  refine Go.st (fun t_ k_ => XS.iadd X3.here hx rfl (hb hby d_method_6_23) rfl k_) ?_
  show Go pg.tables ev below (T3.setTop (mkF mi 24 #[.val (.ref o), .val (.ref hd), .val (.int p), .val (.int (fNS p)), .val (.int (fVS p))] [(.int ((fNS p) + (fNL p))), (.int (fNS p)), (.ref hd), .null, (.ref o)])) P
  refine Go.st (fun t_ k_ => XS.iload X3.here hx rfl (hb hby d_method_6_24) rfl k_) ?_
  show Go pg.tables ev below (T3.setTop (mkF mi 26 #[.val (.ref o), .val (.ref hd), .val (.int p), .val (.int (fNS p)), .val (.int (fVS p))] [(.int (fVS p)), (.int ((fNS p) + (fNL p))), (.int (fNS p)), (.ref hd), .null, (.ref o)])) P
  refine Go.st (fun t_ k_ => XS.iload X3.here hx rfl (hb hby d_method_6_26) rfl k_) ?_
  show Go pg.tables ev below (T3.setTop (mkF mi 28 #[.val (.ref o), .val (.ref hd), .val (.int p), .val (.int (fNS p)), .val (.int (fVS p))] [(.int (fVS p)), (.int (fVS p)), (.int ((fNS p) + (fNL p))), (.int (fNS p)), (.ref hd), .null, (.ref o)])) P
  refine Go.st (fun t_ k_ => XS.iloadN X3.here hx rfl (hb hby d_method_6_28) rfl k_) ?_
  show Go pg.tables ev below (T3.setTop (mkF mi 29 #[.val (.ref o), .val (.ref hd), .val (.int p), .val (.int (fNS p)), .val (.int (fVS p))] [(.int p), (.int (fVS p)), (.int (fVS p)), (.int ((fNS p) + (fNL p))), (.int (fNS p)), (.ref hd), .null, (.ref o)])) P
  obtain ⟨_, _, ⟨T4, L4, k4, n4⟩, -, X4, ⟨Lc4, hQ4, l4, y4, z4⟩, st4⟩ := Jvm.LawKit.callS X3 hx (y := (⟨"com/example/gatewright/gatewright/FieldsEncodedSizePinLaw", "valueLength", "(I)I"⟩ : MethodName)) hown (mvT hZ (hw _ (List.mem_of_getElem? (i := 43) rfl))) (mvT hZ (hw _ (List.mem_of_getElem? (i := 44) rfl))) (mvT hZ (hw _ (List.mem_of_getElem? (i := 32) rfl))) (mvT hZ (hw _ (List.mem_of_getElem? (i := 45) rfl))) (by decide) (backOf (W := 7) (rmVL l Z a0 hw [] p h0 n0 Z0) hZ (hw _ (List.mem_of_getElem? (i := 45) rfl)) (hw _ (List.mem_of_getElem? (i := 32) rfl)) (by decide) (by decide)) (g := (mkF mi 29 #[.val (.ref o), .val (.ref hd), .val (.int p), .val (.int (fNS p)), .val (.int (fVS p))] [(.int p), (.int (fVS p)), (.int (fVS p)), (.int ((fNS p) + (fNL p))), (.int (fNS p)), (.ref hd), .null, (.ref o)])) rfl (by rw [hml]; rfl) (argsL := [(.int p)]) (rest := [(.int (fVS p)), (.int (fVS p)), (.int ((fNS p) + (fNL p))), (.int (fNS p)), (.ref hd), .null, (.ref o)]) (lenOf pd_0 rfl) rfl (by show 2 * 0 + _ ≤ _; exact Nat.le_of_eq rfl) (hb hby d_method_6_29) (fun _ _ => ⟨rfl, e3, (by decide : 0 + 0 ≤ _), (by decide : 0 + 0 ≤ _)⟩)
  dsimp only [Pt.U, Pt.locs, Pt.cells, Pt.slots] at X4 l4 y4 z4 st4 hQ4
  subst l4 y4 z4
  obtain ⟨rfl, N4q, e4⟩ := hQ4
  have N4 := Fr.app N3 N4q
  refine Go.st st4 ?_
  show Go pg.tables ev below (T4.setTop (mkF mi 32 #[.val (.ref o), .val (.ref hd), .val (.int p), .val (.int (fNS p)), .val (.int (fVS p))] [(.int (fVL p)), (.int (fVS p)), (.int (fVS p)), (.int ((fNS p) + (fNL p))), (.int (fNS p)), (.ref hd), .null, (.ref o)])) P
  refine Go.st (fun t_ k_ => XS.iadd X4.here hx rfl (hb hby d_method_6_32) rfl k_) ?_
  show Go pg.tables ev below (T4.setTop (mkF mi 33 #[.val (.ref o), .val (.ref hd), .val (.int p), .val (.int (fNS p)), .val (.int (fVS p))] [(.int ((fVS p) + (fVL p))), (.int (fVS p)), (.int ((fNS p) + (fNL p))), (.int (fNS p)), (.ref hd), .null, (.ref o)])) P
  obtain ⟨cq5, kq5, q5a, q5b, q5c⟩ := isOf hZ e4 E0
  obtain ⟨_, _, ⟨T5, L5, k5, n5⟩, -, X5, ⟨Lc5, hQ5, l5, y5, z5⟩, st5⟩ := X4.virtualBack hx (y := (⟨"com/example/gatewright/gatewright/Fields", "add", "(Lcom/example/gatewright/gatewright/FieldName;[BIIII)V"⟩ : MethodName)) (z := (⟨"com/example/gatewright/gatewright/Fields", "add", "(Lcom/example/gatewright/gatewright/FieldName;[BIIII)V"⟩ : MethodName)) hown (mvT hZ (hw _ (List.mem_of_getElem? (i := 46) rfl))) (mvT hZ (hw _ (List.mem_of_getElem? (i := 47) rfl))) (notFace_of_selects (args := #[]) (mvT hZ (hw _ (List.mem_of_getElem? (i := 49) rfl)))) (mvT hZ (hw _ (List.mem_of_getElem? (i := 49) rfl))) (mvT hZ (hw _ (List.mem_of_getElem? (i := 48) rfl))) (by decide) (backOf (W := 0) (rmA6_1 l Z a0 hw [] o hd (fNS p) ((fNS p) + (fNL p)) (fVS p) ((fVS p) + (fVL p)) nb vb sp kn kN kV kS kK vN vV vS vK h0 n0 Z0 E0 ge0 EH g_nb g_vb g_sp g_kn ne_o_nb ne_o_vb ne_o_sp ne_o_kn ne_nb_vb ne_nb_sp ne_nb_kn ne_vb_sp ne_vb_kn ne_sp_kn F0 F1 F2 F3 F4 A_nb A_vb A_sp A_kn l_nb l_vb l_sp l_kn O_nb O_vb) hZ (hw _ (List.mem_of_getElem? (i := 50) rfl)) (hw _ (List.mem_of_getElem? (i := 3) rfl)) (by decide) (by decide)) q5a q5c (g := (mkF mi 33 #[.val (.ref o), .val (.ref hd), .val (.int p), .val (.int (fNS p)), .val (.int (fVS p))] [(.int ((fVS p) + (fVL p))), (.int (fVS p)), (.int ((fNS p) + (fNL p))), (.int (fNS p)), (.ref hd), .null, (.ref o)])) rfl (by rw [hml]; rfl) (Steps.refl _) (argsL := [.null, (.ref hd), (.int (fNS p)), (.int ((fNS p) + (fNL p))), (.int (fVS p)), (.int ((fVS p) + (fVL p)))]) (rest := []) (lenOf pd_2 rfl) rfl (by show 2 * 0 + _ ≤ _; exact Nat.le_of_eq rfl) (hb hby d_method_6_33) (fun _ _ => ⟨rfl, e4, (by decide : 0 + 0 ≤ _), (by decide : 0 + 0 ≤ _)⟩)
  dsimp only [Pt.U, Pt.locs, Pt.cells, Pt.slots] at X5 l5 y5 z5 st5 hQ5
  subst l5 y5 z5
  obtain ⟨h5, e5⟩ : ∃ z, T5.heap = z := ⟨_, rfl⟩
  rw [e5] at hQ5
  obtain ⟨rfl, N5q, K5, FA5_0, FA5_1, FA5_2, FA5_3, FA5_4, AA5_nb, AA5_vb, AA5_sp, AA5_kn⟩ := hQ5
  have N5 := Fr.app N4 N5q
  have Zs6 : n0 ≤ h5.size := Nat.le_trans Z0 K5.1
  have KC6 : Keep h0 h5 [o, nb, vb, sp, kn] := (Keep.refl h0 [o, nb, vb, sp, kn]).trans K5 (allS (P := fun x => x ∈ [o, nb, vb, sp, kn] ∨ h0.size ≤ x) (Or.inl (List.mem_of_getElem? (i := 0) rfl)) (allS (P := fun x => x ∈ [o, nb, vb, sp, kn] ∨ h0.size ≤ x) (Or.inl (List.mem_of_getElem? (i := 1) rfl)) (allS (P := fun x => x ∈ [o, nb, vb, sp, kn] ∨ h0.size ≤ x) (Or.inl (List.mem_of_getElem? (i := 2) rfl)) (allS (P := fun x => x ∈ [o, nb, vb, sp, kn] ∨ h0.size ≤ x) (Or.inl (List.mem_of_getElem? (i := 3) rfl)) (allS (P := fun x => x ∈ [o, nb, vb, sp, kn] ∨ h0.size ≤ x) (Or.inl (List.mem_of_getElem? (i := 4) rfl)) all0)))))
  refine Go.tr st5 ?_
  show Go pg.tables ev below (T5.setTop (mkF mi 36 #[.val (.ref o), .val (.ref hd), .val (.int p), .val (.int (fNS p)), .val (.int (fVS p))] [])) P
  obtain ⟨fs, hr, hrun, hended, hW, hsame⟩ := X5.leave (v := none) (fun _ => rfl) (BodyLoose.notSynchronized Bd)
  refine ⟨_, _, ?_, hP _ _ ⟨hrun, hended, _, _, rfl, ?_, ⟨_, rfl⟩, hW, hsame.mono (by decide) (by decide)⟩⟩
  · exact X5.returnOut hx Bd.returns (hb hby d_method_6_36) hr
  · show (none : Option Value) = none ∧ Fr n0 _ ∧ Keep h0 T5.heap [o, nb, vb, sp, kn] ∧ Fld Z T5.heap o "com/example/gatewright/gatewright/Fields" "nameBytes" "[[B" (.ref nb) ∧ Fld Z T5.heap o "com/example/gatewright/gatewright/Fields" "valueBytes" "[[B" (.ref vb) ∧ Fld Z T5.heap o "com/example/gatewright/gatewright/Fields" "spans" "[I" (.ref sp) ∧ Fld Z T5.heap o "com/example/gatewright/gatewright/Fields" "known" "[Lcom/example/gatewright/gatewright/FieldName;" (.ref kn) ∧ Fld Z T5.heap o "com/example/gatewright/gatewright/Fields" "size" "I" (.int (2 : Int32)) ∧ Arv Z T5.heap nb kN (.array .byte) (8 : Int32) (vN.set 1 (.ref hd)) .null ∧ Arv Z T5.heap vb kV (.array .byte) (8 : Int32) (vV.set 1 (.ref hd)) .null ∧ Arv Z T5.heap sp kS .int (32 : Int32) ((((vS.set 4 (.int (fNS p))).set 5 (.int ((fNS p) + (fNL p)))).set 6 (.int (fVS p))).set 7 (.int ((fVS p) + (fVL p)))) (.int (0 : Int32)) ∧ Arv Z T5.heap kn kK (.object "com/example/gatewright/gatewright/FieldName") (8 : Int32) (vK.set 1 .null) .null
    rw [e5]
    exact ⟨rfl, N5, KC6, FA5_0, FA5_1, FA5_2, FA5_3, FA5_4, AA5_nb, AA5_vb, AA5_sp, AA5_kn⟩
theorem ef_rmA7_2 (mi : MethodId) (o : Addr) (hd : Addr) (i3 : Int32) (i4 : Int32) (i6 : Int32) (i7 : Int32) (nb : Addr) (vb : Addr) (sp : Addr) (kn : Addr) (kN : ClassId) (kV : ClassId) (kS : ClassId) (kK : ClassId) (vN : List Value) (vV : List Value) (vS : List Value) (vK : List Value) : entryFrame mi #[(.ref o), .null, (.ref hd), (.int i3), (.int i4), (.ref hd), (.int i6), (.int i7)] 9 = mkF mi 0 #[.val (.ref o), .val .null, .val (.ref hd), .val (.int i3), .val (.int i4), .val (.ref hd), .val (.int i6), .val (.int i7), .unset] [] := by first | (simp [entryFrame, mkF, argsToLocals, Value.category]; done) | rfl
def Q_rmA7_2 (Z : State) (o : Addr) (hd : Addr) (i3 : Int32) (i4 : Int32) (i6 : Int32) (i7 : Int32) (nb : Addr) (vb : Addr) (sp : Addr) (kn : Addr) (kN : ClassId) (kV : ClassId) (kS : ClassId) (kK : ClassId) (vN : List Value) (vV : List Value) (vS : List Value) (vK : List Value) (h0 : Heap) (n0 : Nat) (vv_ : Option Value) (hh_ : Heap) (LL_ : List Loc) : Prop := vv_ = none ∧ Fr n0 LL_ ∧ Keep h0 hh_ [o, nb, vb, sp, kn] ∧ Fld Z hh_ o "com/example/gatewright/gatewright/Fields" "nameBytes" "[[B" (.ref nb) ∧ Fld Z hh_ o "com/example/gatewright/gatewright/Fields" "valueBytes" "[[B" (.ref vb) ∧ Fld Z hh_ o "com/example/gatewright/gatewright/Fields" "spans" "[I" (.ref sp) ∧ Fld Z hh_ o "com/example/gatewright/gatewright/Fields" "known" "[Lcom/example/gatewright/gatewright/FieldName;" (.ref kn) ∧ Fld Z hh_ o "com/example/gatewright/gatewright/Fields" "size" "I" (.int (3 : Int32)) ∧ Arv Z hh_ nb kN (.array .byte) (8 : Int32) (vN.set 2 (.ref hd)) .null ∧ Arv Z hh_ vb kV (.array .byte) (8 : Int32) (vV.set 2 (.ref hd)) .null ∧ Arv Z hh_ sp kS .int (32 : Int32) ((((vS.set 8 (.int i3)).set 9 (.int i4)).set 10 (.int i6)).set 11 (.int i7)) (.int (0 : Int32)) ∧ Arv Z hh_ kn kK (.object "com/example/gatewright/gatewright/FieldName") (8 : Int32) (vK.set 2 .null) .null
set_option maxRecDepth 65536 in
set_option maxHeartbeats 40000000 in
theorem rmA7_2 (l : Launch) (Z : State) (a0 : Array Value) (hw : ∀ d ∈ tables_1, d.before a0 Z = true) (ws : List Jvm.Cond) (o : Addr) (hd : Addr) (i3 : Int32) (i4 : Int32) (i6 : Int32) (i7 : Int32) (nb : Addr) (vb : Addr) (sp : Addr) (kn : Addr) (kN : ClassId) (kV : ClassId) (kS : ClassId) (kK : ClassId) (vN : List Value) (vV : List Value) (vS : List Value) (vK : List Value) (h0 : Heap) (n0 : Nat) (Z0 : n0 ≤ h0.size) (E0 : Exa Z h0 o "com/example/gatewright/gatewright/Fields") (ge0 : n0 ≤ o) (EH : Exa Z h0 hd "[B") (g_nb : n0 ≤ nb) (g_vb : n0 ≤ vb) (g_sp : n0 ≤ sp) (g_kn : n0 ≤ kn) (ne_o_nb : o ≠ nb) (ne_o_vb : o ≠ vb) (ne_o_sp : o ≠ sp) (ne_o_kn : o ≠ kn) (ne_nb_vb : nb ≠ vb) (ne_nb_sp : nb ≠ sp) (ne_nb_kn : nb ≠ kn) (ne_vb_sp : vb ≠ sp) (ne_vb_kn : vb ≠ kn) (ne_sp_kn : sp ≠ kn) (F0 : Fld Z h0 o "com/example/gatewright/gatewright/Fields" "nameBytes" "[[B" (.ref nb)) (F1 : Fld Z h0 o "com/example/gatewright/gatewright/Fields" "valueBytes" "[[B" (.ref vb)) (F2 : Fld Z h0 o "com/example/gatewright/gatewright/Fields" "spans" "[I" (.ref sp)) (F3 : Fld Z h0 o "com/example/gatewright/gatewright/Fields" "known" "[Lcom/example/gatewright/gatewright/FieldName;" (.ref kn)) (F4 : Fld Z h0 o "com/example/gatewright/gatewright/Fields" "size" "I" (.int (2 : Int32))) (A_nb : Arv Z h0 nb kN (.array .byte) (8 : Int32) vN .null) (A_vb : Arv Z h0 vb kV (.array .byte) (8 : Int32) vV .null) (A_sp : Arv Z h0 sp kS .int (32 : Int32) vS (.int (0 : Int32))) (A_kn : Arv Z h0 kn kK (.object "com/example/gatewright/gatewright/FieldName") (8 : Int32) vK .null) (l_nb : vN.length = 8) (l_vb : vV.length = 8) (l_sp : vS.length = 32) (l_kn : vK.length = 8) (O_nb : OvrA Z kN .byte "[B") (O_vb : OvrA Z kV .byte "[B") :
    MetFree l (⟨"com/example/gatewright/gatewright/Fields", "add", "(Lcom/example/gatewright/gatewright/FieldName;[BII[BII)V"⟩ : MethodName) (head1 (Jvm.Cond.code (⟨"com/example/gatewright/gatewright/Fields", "add", "(Lcom/example/gatewright/gatewright/FieldName;[BII[BII)V"⟩ : MethodName) prog_5_method_7_code 9 none :: ws) ({ frames := 0, cells := 0, slots := 0, locals := 0 } : Room)) (fun aa_ U => aa_ = #[(.ref o), .null, (.ref hd), (.int i3), (.int i4), (.ref hd), (.int i6), (.int i7)] ∧ Z.Warmed39 U.vm ∧ U.heap = h0) (fun _ _ _ _ _ => True) (fun _ U oo_ UV_ => ∃ vv_ LL_, oo_ = .returned vv_ ∧ Q_rmA7_2 Z o hd i3 i4 i6 i7 nb vb sp kn kN kV kS kK vN vV vS vK h0 n0 vv_ UV_.heap LL_ ∧ FrameEnd U oo_ UV_ LL_ ({ frames := 0, cells := 0, slots := 0, locals := 0 } : Room).cells ({ frames := 0, cells := 0, slots := 0, locals := 0 } : Room).slots) := by
  refine MetFree.of_bodySF (plainFor_of_name pn_1) hisR ?_
  intro pg ev si mi args below meth ci s₁ Bd hml0 hP0 hK
  obtain ⟨rfl, hZ, hh⟩ := hP0
  have hx := Bd.exec
  have hby := Bd.bytes
  have hml : ci.maxLocals = 9 := hml0
  have hown : si.vm.findClass "com/example/gatewright/gatewright/Fields" = some mi.cls := findClass_of_methodNamed Bd.named
  have hnm := (name_of_methodNamed Bd.named Bd.method).1
  have X0 : Stand pg l ev ({ frames := 0, cells := 0, slots := 0, locals := 0 } : Room) si mi #[(.ref o), .null, (.ref hd), (.int i3), (.int i4), (.ref hd), (.int i6), (.int i7)] below meth ci s₁ [] 0 0 := Stand.of_body Bd
  have e0 : s₁.heap = h0 := by rw [← hh, Bd.state]; rfl
  have N0 := Fr.nil n0
  refine Go.start (fun P hP => ?_)
  refine Go.st (fun t_ k_ => castTop (ef_rmA7_2 mi o hd i3 i4 i6 i7 nb vb sp kn kN kV kS kK vN vV vS vK) k_) (A := s₁.setTop (mkF mi 0 #[.val (.ref o), .val .null, .val (.ref hd), .val (.int i3), .val (.int i4), .val (.ref hd), .val (.int i6), .val (.int i7), .unset] [])) ?_
  show Go pg.tables ev below (s₁.setTop (mkF mi 0 #[.val (.ref o), .val .null, .val (.ref hd), .val (.int i3), .val (.int i4), .val (.ref hd), .val (.int i6), .val (.int i7), .unset] [])) P
  refine Go.st (fun t_ k_ => XS.aloadN X0.here hx rfl (hb hby d_prog_5_method_7_0) rfl rfl k_) ?_
  show Go pg.tables ev below (s₁.setTop (mkF mi 1 #[.val (.ref o), .val .null, .val (.ref hd), .val (.int i3), .val (.int i4), .val (.ref hd), .val (.int i6), .val (.int i7), .unset] [(.ref o)])) P
  obtain ⟨T1, X1, e1, st1⟩ := getF X0 hx hZ hown (host := "") (Or.inl (hw _ (List.mem_of_getElem? (i := 28) rfl))) Via.refl e0 F4 (g := (mkF mi 1 #[.val (.ref o), .val .null, .val (.ref hd), .val (.int i3), .val (.int i4), .val (.ref hd), .val (.int i6), .val (.int i7), .unset] [(.ref o)])) rfl rfl (hb hby d_prog_5_method_7_1)
  refine Go.st st1 ?_
  show Go pg.tables ev below (T1.setTop (mkF mi 4 #[.val (.ref o), .val .null, .val (.ref hd), .val (.int i3), .val (.int i4), .val (.ref hd), .val (.int i6), .val (.int i7), .unset] [(.int (2 : Int32))])) P
  refine Go.st (fun t_ k_ => XS.aloadN X1.here hx rfl (hb hby d_prog_5_method_7_4) rfl rfl k_) ?_
  show Go pg.tables ev below (T1.setTop (mkF mi 5 #[.val (.ref o), .val .null, .val (.ref hd), .val (.int i3), .val (.int i4), .val (.ref hd), .val (.int i6), .val (.int i7), .unset] [(.ref o), (.int (2 : Int32))])) P
  obtain ⟨T2, X2, e2, st2⟩ := getF X1 hx hZ hown (host := "") (Or.inl (hw _ (List.mem_of_getElem? (i := 21) rfl))) Via.refl e1 F3 (g := (mkF mi 5 #[.val (.ref o), .val .null, .val (.ref hd), .val (.int i3), .val (.int i4), .val (.ref hd), .val (.int i6), .val (.int i7), .unset] [(.ref o), (.int (2 : Int32))])) rfl rfl (hb hby d_prog_5_method_7_5)
  refine Go.st st2 ?_
  show Go pg.tables ev below (T2.setTop (mkF mi 8 #[.val (.ref o), .val .null, .val (.ref hd), .val (.int i3), .val (.int i4), .val (.ref hd), .val (.int i6), .val (.int i7), .unset] [(.ref kn), (.int (2 : Int32))])) P
  have ov3 := A_kn
  obtain ⟨cl3, Ar3, q3, S3, M3, H3, G3⟩ := ov3
  refine Go.st (X2.arraylength hx (by rw [e2]; exact Ar3.1) (State.isArrayOf_alike hZ.alike Ar3.2.1) (g := (mkF mi 8 #[.val (.ref o), .val .null, .val (.ref hd), .val (.int i3), .val (.int i4), .val (.ref hd), .val (.int i6), .val (.int i7), .unset] [(.ref kn), (.int (2 : Int32))])) rfl rfl (hb hby d_prog_5_method_7_8)) ?_
  rw [len_of S3 M3]
  show Go pg.tables ev below (T2.setTop (mkF mi 9 #[.val (.ref o), .val .null, .val (.ref hd), .val (.int i3), .val (.int i4), .val (.ref hd), .val (.int i6), .val (.int i7), .unset] [(.int (8 : Int32)), (.int (2 : Int32))])) P
  refine Go.st (fun t_ k_ => XS.icmpYes X2.here hx rfl (pc0 := 9) (pc' := 121) rfl (hb hby d_prog_5_method_7_9) rfl (feq (by decide)).2 (by decide) (by decide) k_) ?_
  show Go pg.tables ev below (T2.setTop (mkF mi 121 #[.val (.ref o), .val .null, .val (.ref hd), .val (.int i3), .val (.int i4), .val (.ref hd), .val (.int i6), .val (.int i7), .unset] [])) P
  refine Go.st (fun t_ k_ => XS.aloadN X2.here hx rfl (hb hby d_prog_5_method_7_121) rfl rfl k_) ?_
  show Go pg.tables ev below (T2.setTop (mkF mi 122 #[.val (.ref o), .val .null, .val (.ref hd), .val (.int i3), .val (.int i4), .val (.ref hd), .val (.int i6), .val (.int i7), .unset] [(.ref o)])) P
  obtain ⟨T4, X4, e4, st4⟩ := getF X2 hx hZ hown (host := "") (Or.inl (hw _ (List.mem_of_getElem? (i := 12) rfl))) Via.refl e2 F0 (g := (mkF mi 122 #[.val (.ref o), .val .null, .val (.ref hd), .val (.int i3), .val (.int i4), .val (.ref hd), .val (.int i6), .val (.int i7), .unset] [(.ref o)])) rfl rfl (hb hby d_prog_5_method_7_122)
  refine Go.st st4 ?_
  show Go pg.tables ev below (T4.setTop (mkF mi 125 #[.val (.ref o), .val .null, .val (.ref hd), .val (.int i3), .val (.int i4), .val (.ref hd), .val (.int i6), .val (.int i7), .unset] [(.ref nb)])) P
  refine Go.st (fun t_ k_ => XS.aloadN X4.here hx rfl (hb hby d_prog_5_method_7_125) rfl rfl k_) ?_
  show Go pg.tables ev below (T4.setTop (mkF mi 126 #[.val (.ref o), .val .null, .val (.ref hd), .val (.int i3), .val (.int i4), .val (.ref hd), .val (.int i6), .val (.int i7), .unset] [(.ref o), (.ref nb)])) P
  obtain ⟨T5, X5, e5, st5⟩ := getF X4 hx hZ hown (host := "") (Or.inl (hw _ (List.mem_of_getElem? (i := 28) rfl))) Via.refl e4 F4 (g := (mkF mi 126 #[.val (.ref o), .val .null, .val (.ref hd), .val (.int i3), .val (.int i4), .val (.ref hd), .val (.int i6), .val (.int i7), .unset] [(.ref o), (.ref nb)])) rfl rfl (hb hby d_prog_5_method_7_126)
  refine Go.st st5 ?_
  show Go pg.tables ev below (T5.setTop (mkF mi 129 #[.val (.ref o), .val .null, .val (.ref hd), .val (.int i3), .val (.int i4), .val (.ref hd), .val (.int i6), .val (.int i7), .unset] [(.int (2 : Int32)), (.ref nb)])) P
  refine Go.st (fun t_ k_ => XS.aloadN X5.here hx rfl (hb hby d_prog_5_method_7_129) rfl rfl k_) ?_
  show Go pg.tables ev below (T5.setTop (mkF mi 130 #[.val (.ref o), .val .null, .val (.ref hd), .val (.int i3), .val (.int i4), .val (.ref hd), .val (.int i6), .val (.int i7), .unset] [(.ref hd), (.int (2 : Int32)), (.ref nb)])) P
  have ov6 := A_nb
  obtain ⟨cl6, Ar6, q6, S6, M6, H6, G6⟩ := ov6
  have hin6 : ¬ ((2 : Int32) < 0 ∨ cl6.slots.size ≤ ((2 : Int32)).toNatClampNeg) := inb_of S6 ⟨by decide, by decide⟩
  obtain ⟨T7, h7, X7, e7, W7, st7⟩ := stR X5 hx hZ e5 Ar6 (j := (2 : Int32)) hin6 rfl (Sto.ofVA Ar6 q6 O_nb (Ins.self EH)) (g := (mkF mi 130 #[.val (.ref o), .val .null, .val (.ref hd), .val (.int i3), .val (.int i4), .val (.ref hd), .val (.int i6), .val (.int i7), .unset] [(.ref hd), (.int (2 : Int32)), (.ref nb)])) rfl rfl (hb hby d_prog_5_method_7_130)
  have Zs8 : n0 ≤ h7.size := Nat.le_trans Z0 (Keep.of_wr W7).1
  have KC8 : Keep h0 h7 [o, nb, vb, sp, kn] := (Keep.refl h0 [o, nb, vb, sp, kn]).wr W7 (Or.inl (List.mem_of_getElem? (i := 1) rfl))
  have N8 := Fr.snoc X7 N0 g_nb
  have vl7 : (vN.set 2 (.ref hd)).length = 8 := List.length_set.trans l_nb
  have V7 : Arv Z h7 nb kN (.array .byte) (8 : Int32) (vN.set 2 (.ref hd)) .null := Arv.set Ar6 q6 S6 M6 H6 G6 rfl W7 2 rfl (by rw [l_nb]; decide)
  refine Go.st st7 ?_
  show Go pg.tables ev below (T7.setTop (mkF mi 131 #[.val (.ref o), .val .null, .val (.ref hd), .val (.int i3), .val (.int i4), .val (.ref hd), .val (.int i6), .val (.int i7), .unset] [])) P
  refine Go.st (fun t_ k_ => XS.aloadN X7.here hx rfl (hb hby d_prog_5_method_7_131) rfl rfl k_) ?_
  show Go pg.tables ev below (T7.setTop (mkF mi 132 #[.val (.ref o), .val .null, .val (.ref hd), .val (.int i3), .val (.int i4), .val (.ref hd), .val (.int i6), .val (.int i7), .unset] [(.ref o)])) P
  have f9 := (F1.other W7 (Or.inl ne_o_nb))
  obtain ⟨T10, X10, e10, st10⟩ := getF X7 hx hZ hown (host := "") (Or.inl (hw _ (List.mem_of_getElem? (i := 14) rfl))) Via.refl e7 f9 (g := (mkF mi 132 #[.val (.ref o), .val .null, .val (.ref hd), .val (.int i3), .val (.int i4), .val (.ref hd), .val (.int i6), .val (.int i7), .unset] [(.ref o)])) rfl rfl (hb hby d_prog_5_method_7_132)
  refine Go.st st10 ?_
  show Go pg.tables ev below (T10.setTop (mkF mi 135 #[.val (.ref o), .val .null, .val (.ref hd), .val (.int i3), .val (.int i4), .val (.ref hd), .val (.int i6), .val (.int i7), .unset] [(.ref vb)])) P
  refine Go.st (fun t_ k_ => XS.aloadN X10.here hx rfl (hb hby d_prog_5_method_7_135) rfl rfl k_) ?_
  show Go pg.tables ev below (T10.setTop (mkF mi 136 #[.val (.ref o), .val .null, .val (.ref hd), .val (.int i3), .val (.int i4), .val (.ref hd), .val (.int i6), .val (.int i7), .unset] [(.ref o), (.ref vb)])) P
  have f11 := (F4.other W7 (Or.inl ne_o_nb))
  obtain ⟨T12, X12, e12, st12⟩ := getF X10 hx hZ hown (host := "") (Or.inl (hw _ (List.mem_of_getElem? (i := 28) rfl))) Via.refl e10 f11 (g := (mkF mi 136 #[.val (.ref o), .val .null, .val (.ref hd), .val (.int i3), .val (.int i4), .val (.ref hd), .val (.int i6), .val (.int i7), .unset] [(.ref o), (.ref vb)])) rfl rfl (hb hby d_prog_5_method_7_136)
  refine Go.st st12 ?_
  show Go pg.tables ev below (T12.setTop (mkF mi 139 #[.val (.ref o), .val .null, .val (.ref hd), .val (.int i3), .val (.int i4), .val (.ref hd), .val (.int i6), .val (.int i7), .unset] [(.int (2 : Int32)), (.ref vb)])) P
  refine Go.st (fun t_ k_ => XS.aload X12.here hx rfl (hb hby d_prog_5_method_7_139) rfl rfl k_) ?_
  show Go pg.tables ev below (T12.setTop (mkF mi 141 #[.val (.ref o), .val .null, .val (.ref hd), .val (.int i3), .val (.int i4), .val (.ref hd), .val (.int i6), .val (.int i7), .unset] [(.ref hd), (.int (2 : Int32)), (.ref vb)])) P
  have f13 := (A_vb.other W7 (Ne.symm ne_nb_vb))
  have ov14 := f13
  obtain ⟨cl14, Ar14, q14, S14, M14, H14, G14⟩ := ov14
  have hin14 : ¬ ((2 : Int32) < 0 ∨ cl14.slots.size ≤ ((2 : Int32)).toNatClampNeg) := inb_of S14 ⟨by decide, by decide⟩
  have f15 := (EH.wr W7)
  obtain ⟨T16, h16, X16, e16, W16, st16⟩ := stR X12 hx hZ e12 Ar14 (j := (2 : Int32)) hin14 rfl (Sto.ofVA Ar14 q14 O_vb (Ins.self f15)) (g := (mkF mi 141 #[.val (.ref o), .val .null, .val (.ref hd), .val (.int i3), .val (.int i4), .val (.ref hd), .val (.int i6), .val (.int i7), .unset] [(.ref hd), (.int (2 : Int32)), (.ref vb)])) rfl rfl (hb hby d_prog_5_method_7_141)
  have Zs17 : n0 ≤ h16.size := Nat.le_trans Zs8 (Keep.of_wr W16).1
  have KC17 : Keep h0 h16 [o, nb, vb, sp, kn] := KC8.wr W16 (Or.inl (List.mem_of_getElem? (i := 2) rfl))
  have N17 := Fr.snoc X16 N8 g_vb
  have vl16 : (vV.set 2 (.ref hd)).length = 8 := List.length_set.trans l_vb
  have V16 : Arv Z h16 vb kV (.array .byte) (8 : Int32) (vV.set 2 (.ref hd)) .null := Arv.set Ar14 q14 S14 M14 H14 G14 rfl W16 2 rfl (by rw [l_vb]; decide)
  refine Go.st st16 ?_
  show Go pg.tables ev below (T16.setTop (mkF mi 142 #[.val (.ref o), .val .null, .val (.ref hd), .val (.int i3), .val (.int i4), .val (.ref hd), .val (.int i6), .val (.int i7), .unset] [])) P
  refine Go.st (fun t_ k_ => XS.iconst X16.here hx rfl (hb hby d_prog_5_method_7_142) k_) ?_
  show Go pg.tables ev below (T16.setTop (mkF mi 143 #[.val (.ref o), .val .null, .val (.ref hd), .val (.int i3), .val (.int i4), .val (.ref hd), .val (.int i6), .val (.int i7), .unset] [(.int (4 : Int32))])) P
  refine Go.st (fun t_ k_ => XS.aloadN X16.here hx rfl (hb hby d_prog_5_method_7_143) rfl rfl k_) ?_
  show Go pg.tables ev below (T16.setTop (mkF mi 144 #[.val (.ref o), .val .null, .val (.ref hd), .val (.int i3), .val (.int i4), .val (.ref hd), .val (.int i6), .val (.int i7), .unset] [(.ref o), (.int (4 : Int32))])) P
  have f18 := (f11.other W16 (Or.inl ne_o_vb))
  obtain ⟨T19, X19, e19, st19⟩ := getF X16 hx hZ hown (host := "") (Or.inl (hw _ (List.mem_of_getElem? (i := 28) rfl))) Via.refl e16 f18 (g := (mkF mi 144 #[.val (.ref o), .val .null, .val (.ref hd), .val (.int i3), .val (.int i4), .val (.ref hd), .val (.int i6), .val (.int i7), .unset] [(.ref o), (.int (4 : Int32))])) rfl rfl (hb hby d_prog_5_method_7_144)
  refine Go.st st19 ?_
  show Go pg.tables ev below (T19.setTop (mkF mi 147 #[.val (.ref o), .val .null, .val (.ref hd), .val (.int i3), .val (.int i4), .val (.ref hd), .val (.int i6), .val (.int i7), .unset] [(.int (2 : Int32)), (.int (4 : Int32))])) P
  refine Go.st (fun t_ k_ => XS.imul X19.here hx rfl (hb hby d_prog_5_method_7_147) rfl k_) ?_
  show Go pg.tables ev below (T19.setTop (mkF mi 148 #[.val (.ref o), .val .null, .val (.ref hd), .val (.int i3), .val (.int i4), .val (.ref hd), .val (.int i6), .val (.int i7), .unset] [(.int (8 : Int32))])) P
  refine Go.st (fun t_ k_ => XS.istore X19.here hx rfl (hb hby d_prog_5_method_7_148) rfl (l' := #[.val (.ref o), .val .null, .val (.ref hd), .val (.int i3), .val (.int i4), .val (.ref hd), .val (.int i6), .val (.int i7), .val (.int (8 : Int32))]) rfl k_) ?_
  show Go pg.tables ev below (T19.setTop (mkF mi 150 #[.val (.ref o), .val .null, .val (.ref hd), .val (.int i3), .val (.int i4), .val (.ref hd), .val (.int i6), .val (.int i7), .val (.int (8 : Int32))] [])) P
  refine Go.st (fun t_ k_ => XS.aloadN X19.here hx rfl (hb hby d_prog_5_method_7_150) rfl rfl k_) ?_
  show Go pg.tables ev below (T19.setTop (mkF mi 151 #[.val (.ref o), .val .null, .val (.ref hd), .val (.int i3), .val (.int i4), .val (.ref hd), .val (.int i6), .val (.int i7), .val (.int (8 : Int32))] [(.ref o)])) P
  have f20 := ((F2.other W7 (Or.inl ne_o_nb)).other W16 (Or.inl ne_o_vb))
  obtain ⟨T21, X21, e21, st21⟩ := getF X19 hx hZ hown (host := "") (Or.inl (hw _ (List.mem_of_getElem? (i := 17) rfl))) Via.refl e19 f20 (g := (mkF mi 151 #[.val (.ref o), .val .null, .val (.ref hd), .val (.int i3), .val (.int i4), .val (.ref hd), .val (.int i6), .val (.int i7), .val (.int (8 : Int32))] [(.ref o)])) rfl rfl (hb hby d_prog_5_method_7_151)
  refine Go.st st21 ?_
  show Go pg.tables ev below (T21.setTop (mkF mi 154 #[.val (.ref o), .val .null, .val (.ref hd), .val (.int i3), .val (.int i4), .val (.ref hd), .val (.int i6), .val (.int i7), .val (.int (8 : Int32))] [(.ref sp)])) P
  refine Go.st (fun t_ k_ => XS.iload X21.here hx rfl (hb hby d_prog_5_method_7_154) rfl k_) ?_
  show Go pg.tables ev below (T21.setTop (mkF mi 156 #[.val (.ref o), .val .null, .val (.ref hd), .val (.int i3), .val (.int i4), .val (.ref hd), .val (.int i6), .val (.int i7), .val (.int (8 : Int32))] [(.int (8 : Int32)), (.ref sp)])) P
  refine Go.st (fun t_ k_ => XS.iloadN X21.here hx rfl (hb hby d_prog_5_method_7_156) rfl k_) ?_
  show Go pg.tables ev below (T21.setTop (mkF mi 157 #[.val (.ref o), .val .null, .val (.ref hd), .val (.int i3), .val (.int i4), .val (.ref hd), .val (.int i6), .val (.int i7), .val (.int (8 : Int32))] [(.int i3), (.int (8 : Int32)), (.ref sp)])) P
  have f22 := ((A_sp.other W7 (Ne.symm ne_nb_sp)).other W16 (Ne.symm ne_vb_sp))
  have ov23 := f22
  obtain ⟨cl23, Ar23, q23, S23, M23, H23, G23⟩ := ov23
  have hin23 : ¬ ((8 : Int32) < 0 ∨ cl23.slots.size ≤ ((8 : Int32)).toNatClampNeg) := inb_of S23 ⟨by decide, by decide⟩
  obtain ⟨T24, h24, X24, e24, W24, st24⟩ := stI X21 hx hZ e21 Ar23 (j := (8 : Int32)) hin23 (g := (mkF mi 157 #[.val (.ref o), .val .null, .val (.ref hd), .val (.int i3), .val (.int i4), .val (.ref hd), .val (.int i6), .val (.int i7), .val (.int (8 : Int32))] [(.int i3), (.int (8 : Int32)), (.ref sp)])) rfl rfl (hb hby d_prog_5_method_7_157)
  have Zs25 : n0 ≤ h24.size := Nat.le_trans Zs17 (Keep.of_wr W24).1
  have KC25 : Keep h0 h24 [o, nb, vb, sp, kn] := KC17.wr W24 (Or.inl (List.mem_of_getElem? (i := 3) rfl))
  have N25 := Fr.snoc X24 N17 g_sp
  have vl24 : (vS.set 8 (.int i3)).length = 32 := List.length_set.trans l_sp
  have V24 : Arv Z h24 sp kS .int (32 : Int32) (vS.set 8 (.int i3)) (.int (0 : Int32)) := Arv.set Ar23 q23 S23 M23 H23 G23 rfl W24 8 rfl (by rw [l_sp]; decide)
  refine Go.st st24 ?_
  show Go pg.tables ev below (T24.setTop (mkF mi 158 #[.val (.ref o), .val .null, .val (.ref hd), .val (.int i3), .val (.int i4), .val (.ref hd), .val (.int i6), .val (.int i7), .val (.int (8 : Int32))] [])) P
  refine Go.st (fun t_ k_ => XS.aloadN X24.here hx rfl (hb hby d_prog_5_method_7_158) rfl rfl k_) ?_
  show Go pg.tables ev below (T24.setTop (mkF mi 159 #[.val (.ref o), .val .null, .val (.ref hd), .val (.int i3), .val (.int i4), .val (.ref hd), .val (.int i6), .val (.int i7), .val (.int (8 : Int32))] [(.ref o)])) P
  have f26 := (f20.other W24 (Or.inl ne_o_sp))
  obtain ⟨T27, X27, e27, st27⟩ := getF X24 hx hZ hown (host := "") (Or.inl (hw _ (List.mem_of_getElem? (i := 17) rfl))) Via.refl e24 f26 (g := (mkF mi 159 #[.val (.ref o), .val .null, .val (.ref hd), .val (.int i3), .val (.int i4), .val (.ref hd), .val (.int i6), .val (.int i7), .val (.int (8 : Int32))] [(.ref o)])) rfl rfl (hb hby d_prog_5_method_7_159)
  refine Go.st st27 ?_
  show Go pg.tables ev below (T27.setTop (mkF mi 162 #[.val (.ref o), .val .null, .val (.ref hd), .val (.int i3), .val (.int i4), .val (.ref hd), .val (.int i6), .val (.int i7), .val (.int (8 : Int32))] [(.ref sp)])) P
  refine Go.st (fun t_ k_ => XS.iload X27.here hx rfl (hb hby d_prog_5_method_7_162) rfl k_) ?_
  show Go pg.tables ev below (T27.setTop (mkF mi 164 #[.val (.ref o), .val .null, .val (.ref hd), .val (.int i3), .val (.int i4), .val (.ref hd), .val (.int i6), .val (.int i7), .val (.int (8 : Int32))] [(.int (8 : Int32)), (.ref sp)])) P
  refine Go.st (fun t_ k_ => XS.iconst X27.here hx rfl (hb hby d_prog_5_method_7_164) k_) ?_
  show Go pg.tables ev below (T27.setTop (mkF mi 165 #[.val (.ref o), .val .null, .val (.ref hd), .val (.int i3), .val (.int i4), .val (.ref hd), .val (.int i6), .val (.int i7), .val (.int (8 : Int32))] [(.int (1 : Int32)), (.int (8 : Int32)), (.ref sp)])) P
  refine Go.st (fun t_ k_ => XS.iadd X27.here hx rfl (hb hby d_prog_5_method_7_165) rfl k_) ?_
  show Go pg.tables ev below (T27.setTop (mkF mi 166 #[.val (.ref o), .val .null, .val (.ref hd), .val (.int i3), .val (.int i4), .val (.ref hd), .val (.int i6), .val (.int i7), .val (.int (8 : Int32))] [(.int (9 : Int32)), (.ref sp)])) P
  refine Go.st (fun t_ k_ => XS.iload X27.here hx rfl (hb hby d_prog_5_method_7_166) rfl k_) ?_
  show Go pg.tables ev below (T27.setTop (mkF mi 168 #[.val (.ref o), .val .null, .val (.ref hd), .val (.int i3), .val (.int i4), .val (.ref hd), .val (.int i6), .val (.int i7), .val (.int (8 : Int32))] [(.int i4), (.int (9 : Int32)), (.ref sp)])) P
  have ov28 := V24
  obtain ⟨cl28, Ar28, q28, S28, M28, H28, G28⟩ := ov28
  have hin28 : ¬ ((9 : Int32) < 0 ∨ cl28.slots.size ≤ ((9 : Int32)).toNatClampNeg) := inb_of S28 ⟨by decide, by decide⟩
  obtain ⟨T29, h29, X29, e29, W29, st29⟩ := stI X27 hx hZ e27 Ar28 (j := (9 : Int32)) hin28 (g := (mkF mi 168 #[.val (.ref o), .val .null, .val (.ref hd), .val (.int i3), .val (.int i4), .val (.ref hd), .val (.int i6), .val (.int i7), .val (.int (8 : Int32))] [(.int i4), (.int (9 : Int32)), (.ref sp)])) rfl rfl (hb hby d_prog_5_method_7_168)
  have Zs30 : n0 ≤ h29.size := Nat.le_trans Zs25 (Keep.of_wr W29).1
  have KC30 : Keep h0 h29 [o, nb, vb, sp, kn] := KC25.wr W29 (Or.inl (List.mem_of_getElem? (i := 3) rfl))
  have N30 := Fr.snoc X29 N25 g_sp
  have vl29 : ((vS.set 8 (.int i3)).set 9 (.int i4)).length = 32 := List.length_set.trans vl24
  have V29 : Arv Z h29 sp kS .int (32 : Int32) ((vS.set 8 (.int i3)).set 9 (.int i4)) (.int (0 : Int32)) := Arv.set Ar28 q28 S28 M28 H28 G28 rfl W29 9 rfl (by rw [vl24]; decide)
  refine Go.st st29 ?_
  show Go pg.tables ev below (T29.setTop (mkF mi 169 #[.val (.ref o), .val .null, .val (.ref hd), .val (.int i3), .val (.int i4), .val (.ref hd), .val (.int i6), .val (.int i7), .val (.int (8 : Int32))] [])) P
  refine Go.st (fun t_ k_ => XS.aloadN X29.here hx rfl (hb hby d_prog_5_method_7_169) rfl rfl k_) ?_
  show Go pg.tables ev below (T29.setTop (mkF mi 170 #[.val (.ref o), .val .null, .val (.ref hd), .val (.int i3), .val (.int i4), .val (.ref hd), .val (.int i6), .val (.int i7), .val (.int (8 : Int32))] [(.ref o)])) P
  have f31 := (f26.other W29 (Or.inl ne_o_sp))
  obtain ⟨T32, X32, e32, st32⟩ := getF X29 hx hZ hown (host := "") (Or.inl (hw _ (List.mem_of_getElem? (i := 17) rfl))) Via.refl e29 f31 (g := (mkF mi 170 #[.val (.ref o), .val .null, .val (.ref hd), .val (.int i3), .val (.int i4), .val (.ref hd), .val (.int i6), .val (.int i7), .val (.int (8 : Int32))] [(.ref o)])) rfl rfl (hb hby d_prog_5_method_7_170)
  refine Go.st st32 ?_
  show Go pg.tables ev below (T32.setTop (mkF mi 173 #[.val (.ref o), .val .null, .val (.ref hd), .val (.int i3), .val (.int i4), .val (.ref hd), .val (.int i6), .val (.int i7), .val (.int (8 : Int32))] [(.ref sp)])) P
  refine Go.st (fun t_ k_ => XS.iload X32.here hx rfl (hb hby d_prog_5_method_7_173) rfl k_) ?_
  show Go pg.tables ev below (T32.setTop (mkF mi 175 #[.val (.ref o), .val .null, .val (.ref hd), .val (.int i3), .val (.int i4), .val (.ref hd), .val (.int i6), .val (.int i7), .val (.int (8 : Int32))] [(.int (8 : Int32)), (.ref sp)])) P
  refine Go.st (fun t_ k_ => XS.iconst X32.here hx rfl (hb hby d_prog_5_method_7_175) k_) ?_
  show Go pg.tables ev below (T32.setTop (mkF mi 176 #[.val (.ref o), .val .null, .val (.ref hd), .val (.int i3), .val (.int i4), .val (.ref hd), .val (.int i6), .val (.int i7), .val (.int (8 : Int32))] [(.int (2 : Int32)), (.int (8 : Int32)), (.ref sp)])) P
  refine Go.st (fun t_ k_ => XS.iadd X32.here hx rfl (hb hby d_prog_5_method_7_176) rfl k_) ?_
  show Go pg.tables ev below (T32.setTop (mkF mi 177 #[.val (.ref o), .val .null, .val (.ref hd), .val (.int i3), .val (.int i4), .val (.ref hd), .val (.int i6), .val (.int i7), .val (.int (8 : Int32))] [(.int (10 : Int32)), (.ref sp)])) P
  refine Go.st (fun t_ k_ => XS.iload X32.here hx rfl (hb hby d_prog_5_method_7_177) rfl k_) ?_
  show Go pg.tables ev below (T32.setTop (mkF mi 179 #[.val (.ref o), .val .null, .val (.ref hd), .val (.int i3), .val (.int i4), .val (.ref hd), .val (.int i6), .val (.int i7), .val (.int (8 : Int32))] [(.int i6), (.int (10 : Int32)), (.ref sp)])) P
  have ov33 := V29
  obtain ⟨cl33, Ar33, q33, S33, M33, H33, G33⟩ := ov33
  have hin33 : ¬ ((10 : Int32) < 0 ∨ cl33.slots.size ≤ ((10 : Int32)).toNatClampNeg) := inb_of S33 ⟨by decide, by decide⟩
  obtain ⟨T34, h34, X34, e34, W34, st34⟩ := stI X32 hx hZ e32 Ar33 (j := (10 : Int32)) hin33 (g := (mkF mi 179 #[.val (.ref o), .val .null, .val (.ref hd), .val (.int i3), .val (.int i4), .val (.ref hd), .val (.int i6), .val (.int i7), .val (.int (8 : Int32))] [(.int i6), (.int (10 : Int32)), (.ref sp)])) rfl rfl (hb hby d_prog_5_method_7_179)
  have Zs35 : n0 ≤ h34.size := Nat.le_trans Zs30 (Keep.of_wr W34).1
  have KC35 : Keep h0 h34 [o, nb, vb, sp, kn] := KC30.wr W34 (Or.inl (List.mem_of_getElem? (i := 3) rfl))
  have N35 := Fr.snoc X34 N30 g_sp
  have vl34 : (((vS.set 8 (.int i3)).set 9 (.int i4)).set 10 (.int i6)).length = 32 := List.length_set.trans vl29
  have V34 : Arv Z h34 sp kS .int (32 : Int32) (((vS.set 8 (.int i3)).set 9 (.int i4)).set 10 (.int i6)) (.int (0 : Int32)) := Arv.set Ar33 q33 S33 M33 H33 G33 rfl W34 10 rfl (by rw [vl29]; decide)
  refine Go.st st34 ?_
  show Go pg.tables ev below (T34.setTop (mkF mi 180 #[.val (.ref o), .val .null, .val (.ref hd), .val (.int i3), .val (.int i4), .val (.ref hd), .val (.int i6), .val (.int i7), .val (.int (8 : Int32))] [])) P
  refine Go.st (fun t_ k_ => XS.aloadN X34.here hx rfl (hb hby d_prog_5_method_7_180) rfl rfl k_) ?_
  show Go pg.tables ev below (T34.setTop (mkF mi 181 #[.val (.ref o), .val .null, .val (.ref hd), .val (.int i3), .val (.int i4), .val (.ref hd), .val (.int i6), .val (.int i7), .val (.int (8 : Int32))] [(.ref o)])) P
  have f36 := (f31.other W34 (Or.inl ne_o_sp))
  obtain ⟨T37, X37, e37, st37⟩ := getF X34 hx hZ hown (host := "") (Or.inl (hw _ (List.mem_of_getElem? (i := 17) rfl))) Via.refl e34 f36 (g := (mkF mi 181 #[.val (.ref o), .val .null, .val (.ref hd), .val (.int i3), .val (.int i4), .val (.ref hd), .val (.int i6), .val (.int i7), .val (.int (8 : Int32))] [(.ref o)])) rfl rfl (hb hby d_prog_5_method_7_181)
  refine Go.st st37 ?_
  show Go pg.tables ev below (T37.setTop (mkF mi 184 #[.val (.ref o), .val .null, .val (.ref hd), .val (.int i3), .val (.int i4), .val (.ref hd), .val (.int i6), .val (.int i7), .val (.int (8 : Int32))] [(.ref sp)])) P
  refine Go.st (fun t_ k_ => XS.iload X37.here hx rfl (hb hby d_prog_5_method_7_184) rfl k_) ?_
  show Go pg.tables ev below (T37.setTop (mkF mi 186 #[.val (.ref o), .val .null, .val (.ref hd), .val (.int i3), .val (.int i4), .val (.ref hd), .val (.int i6), .val (.int i7), .val (.int (8 : Int32))] [(.int (8 : Int32)), (.ref sp)])) P
  refine Go.st (fun t_ k_ => XS.iconst X37.here hx rfl (hb hby d_prog_5_method_7_186) k_) ?_
  show Go pg.tables ev below (T37.setTop (mkF mi 187 #[.val (.ref o), .val .null, .val (.ref hd), .val (.int i3), .val (.int i4), .val (.ref hd), .val (.int i6), .val (.int i7), .val (.int (8 : Int32))] [(.int (3 : Int32)), (.int (8 : Int32)), (.ref sp)])) P
  refine Go.st (fun t_ k_ => XS.iadd X37.here hx rfl (hb hby d_prog_5_method_7_187) rfl k_) ?_
  show Go pg.tables ev below (T37.setTop (mkF mi 188 #[.val (.ref o), .val .null, .val (.ref hd), .val (.int i3), .val (.int i4), .val (.ref hd), .val (.int i6), .val (.int i7), .val (.int (8 : Int32))] [(.int (11 : Int32)), (.ref sp)])) P
  refine Go.st (fun t_ k_ => XS.iload X37.here hx rfl (hb hby d_prog_5_method_7_188) rfl k_) ?_
  show Go pg.tables ev below (T37.setTop (mkF mi 190 #[.val (.ref o), .val .null, .val (.ref hd), .val (.int i3), .val (.int i4), .val (.ref hd), .val (.int i6), .val (.int i7), .val (.int (8 : Int32))] [(.int i7), (.int (11 : Int32)), (.ref sp)])) P
  have ov38 := V34
  obtain ⟨cl38, Ar38, q38, S38, M38, H38, G38⟩ := ov38
  have hin38 : ¬ ((11 : Int32) < 0 ∨ cl38.slots.size ≤ ((11 : Int32)).toNatClampNeg) := inb_of S38 ⟨by decide, by decide⟩
  obtain ⟨T39, h39, X39, e39, W39, st39⟩ := stI X37 hx hZ e37 Ar38 (j := (11 : Int32)) hin38 (g := (mkF mi 190 #[.val (.ref o), .val .null, .val (.ref hd), .val (.int i3), .val (.int i4), .val (.ref hd), .val (.int i6), .val (.int i7), .val (.int (8 : Int32))] [(.int i7), (.int (11 : Int32)), (.ref sp)])) rfl rfl (hb hby d_prog_5_method_7_190)
  have Zs40 : n0 ≤ h39.size := Nat.le_trans Zs35 (Keep.of_wr W39).1
  have KC40 : Keep h0 h39 [o, nb, vb, sp, kn] := KC35.wr W39 (Or.inl (List.mem_of_getElem? (i := 3) rfl))
  have N40 := Fr.snoc X39 N35 g_sp
  have vl39 : ((((vS.set 8 (.int i3)).set 9 (.int i4)).set 10 (.int i6)).set 11 (.int i7)).length = 32 := List.length_set.trans vl34
  have V39 : Arv Z h39 sp kS .int (32 : Int32) ((((vS.set 8 (.int i3)).set 9 (.int i4)).set 10 (.int i6)).set 11 (.int i7)) (.int (0 : Int32)) := Arv.set Ar38 q38 S38 M38 H38 G38 rfl W39 11 rfl (by rw [vl34]; decide)
  refine Go.st st39 ?_
  show Go pg.tables ev below (T39.setTop (mkF mi 191 #[.val (.ref o), .val .null, .val (.ref hd), .val (.int i3), .val (.int i4), .val (.ref hd), .val (.int i6), .val (.int i7), .val (.int (8 : Int32))] [])) P
  refine Go.st (fun t_ k_ => XS.aloadN X39.here hx rfl (hb hby d_prog_5_method_7_191) rfl rfl k_) ?_
  show Go pg.tables ev below (T39.setTop (mkF mi 192 #[.val (.ref o), .val .null, .val (.ref hd), .val (.int i3), .val (.int i4), .val (.ref hd), .val (.int i6), .val (.int i7), .val (.int (8 : Int32))] [(.ref o)])) P
  have f41 := ((((((F3.other W7 (Or.inl ne_o_nb)).other W16 (Or.inl ne_o_vb)).other W24 (Or.inl ne_o_sp)).other W29 (Or.inl ne_o_sp)).other W34 (Or.inl ne_o_sp)).other W39 (Or.inl ne_o_sp))
  obtain ⟨T42, X42, e42, st42⟩ := getF X39 hx hZ hown (host := "") (Or.inl (hw _ (List.mem_of_getElem? (i := 21) rfl))) Via.refl e39 f41 (g := (mkF mi 192 #[.val (.ref o), .val .null, .val (.ref hd), .val (.int i3), .val (.int i4), .val (.ref hd), .val (.int i6), .val (.int i7), .val (.int (8 : Int32))] [(.ref o)])) rfl rfl (hb hby d_prog_5_method_7_192)
  refine Go.st st42 ?_
  show Go pg.tables ev below (T42.setTop (mkF mi 195 #[.val (.ref o), .val .null, .val (.ref hd), .val (.int i3), .val (.int i4), .val (.ref hd), .val (.int i6), .val (.int i7), .val (.int (8 : Int32))] [(.ref kn)])) P
  refine Go.st (fun t_ k_ => XS.aloadN X42.here hx rfl (hb hby d_prog_5_method_7_195) rfl rfl k_) ?_
  show Go pg.tables ev below (T42.setTop (mkF mi 196 #[.val (.ref o), .val .null, .val (.ref hd), .val (.int i3), .val (.int i4), .val (.ref hd), .val (.int i6), .val (.int i7), .val (.int (8 : Int32))] [(.ref o), (.ref kn)])) P
  have f43 := ((((f18.other W24 (Or.inl ne_o_sp)).other W29 (Or.inl ne_o_sp)).other W34 (Or.inl ne_o_sp)).other W39 (Or.inl ne_o_sp))
  obtain ⟨T44, X44, e44, st44⟩ := getF X42 hx hZ hown (host := "") (Or.inl (hw _ (List.mem_of_getElem? (i := 28) rfl))) Via.refl e42 f43 (g := (mkF mi 196 #[.val (.ref o), .val .null, .val (.ref hd), .val (.int i3), .val (.int i4), .val (.ref hd), .val (.int i6), .val (.int i7), .val (.int (8 : Int32))] [(.ref o), (.ref kn)])) rfl rfl (hb hby d_prog_5_method_7_196)
  refine Go.st st44 ?_
  show Go pg.tables ev below (T44.setTop (mkF mi 199 #[.val (.ref o), .val .null, .val (.ref hd), .val (.int i3), .val (.int i4), .val (.ref hd), .val (.int i6), .val (.int i7), .val (.int (8 : Int32))] [(.int (2 : Int32)), (.ref kn)])) P
  refine Go.st (fun t_ k_ => XS.aloadN X44.here hx rfl (hb hby d_prog_5_method_7_199) rfl rfl k_) ?_
  show Go pg.tables ev below (T44.setTop (mkF mi 200 #[.val (.ref o), .val .null, .val (.ref hd), .val (.int i3), .val (.int i4), .val (.ref hd), .val (.int i6), .val (.int i7), .val (.int (8 : Int32))] [.null, (.int (2 : Int32)), (.ref kn)])) P
  have f45 := ((((((A_kn.other W7 (Ne.symm ne_nb_kn)).other W16 (Ne.symm ne_vb_kn)).other W24 (Ne.symm ne_sp_kn)).other W29 (Ne.symm ne_sp_kn)).other W34 (Ne.symm ne_sp_kn)).other W39 (Ne.symm ne_sp_kn))
  have ov46 := f45
  obtain ⟨cl46, Ar46, q46, S46, M46, H46, G46⟩ := ov46
  have hin46 : ¬ ((2 : Int32) < 0 ∨ cl46.slots.size ≤ ((2 : Int32)).toNatClampNeg) := inb_of S46 ⟨by decide, by decide⟩
  obtain ⟨T47, h47, X47, e47, W47, st47⟩ := stR X44 hx hZ e44 Ar46 (j := (2 : Int32)) hin46 rfl (Or.inl rfl) (g := (mkF mi 200 #[.val (.ref o), .val .null, .val (.ref hd), .val (.int i3), .val (.int i4), .val (.ref hd), .val (.int i6), .val (.int i7), .val (.int (8 : Int32))] [.null, (.int (2 : Int32)), (.ref kn)])) rfl rfl (hb hby d_prog_5_method_7_200)
  have Zs48 : n0 ≤ h47.size := Nat.le_trans Zs40 (Keep.of_wr W47).1
  have KC48 : Keep h0 h47 [o, nb, vb, sp, kn] := KC40.wr W47 (Or.inl (List.mem_of_getElem? (i := 4) rfl))
  have N48 := Fr.snoc X47 N40 g_kn
  have vl47 : (vK.set 2 .null).length = 8 := List.length_set.trans l_kn
  have V47 : Arv Z h47 kn kK (.object "com/example/gatewright/gatewright/FieldName") (8 : Int32) (vK.set 2 .null) .null := Arv.set Ar46 q46 S46 M46 H46 G46 rfl W47 2 rfl (by rw [l_kn]; decide)
  refine Go.st st47 ?_
  show Go pg.tables ev below (T47.setTop (mkF mi 201 #[.val (.ref o), .val .null, .val (.ref hd), .val (.int i3), .val (.int i4), .val (.ref hd), .val (.int i6), .val (.int i7), .val (.int (8 : Int32))] [])) P
  refine Go.st (fun t_ k_ => XS.aloadN X47.here hx rfl (hb hby d_prog_5_method_7_201) rfl rfl k_) ?_
  show Go pg.tables ev below (T47.setTop (mkF mi 202 #[.val (.ref o), .val .null, .val (.ref hd), .val (.int i3), .val (.int i4), .val (.ref hd), .val (.int i6), .val (.int i7), .val (.int (8 : Int32))] [(.ref o)])) P
  refine Go.st (fun t_ k_ => XS.dup X47.here hx rfl (hb hby d_prog_5_method_7_202) rfl rfl k_) ?_
  show Go pg.tables ev below (T47.setTop (mkF mi 203 #[.val (.ref o), .val .null, .val (.ref hd), .val (.int i3), .val (.int i4), .val (.ref hd), .val (.int i6), .val (.int i7), .val (.int (8 : Int32))] [(.ref o), (.ref o)])) P
  have f49 := (f43.other W47 (Or.inl ne_o_kn))
  obtain ⟨T50, X50, e50, st50⟩ := getF X47 hx hZ hown (host := "") (Or.inl (hw _ (List.mem_of_getElem? (i := 28) rfl))) Via.refl e47 f49 (g := (mkF mi 203 #[.val (.ref o), .val .null, .val (.ref hd), .val (.int i3), .val (.int i4), .val (.ref hd), .val (.int i6), .val (.int i7), .val (.int (8 : Int32))] [(.ref o), (.ref o)])) rfl rfl (hb hby d_prog_5_method_7_203)
  refine Go.st st50 ?_
  show Go pg.tables ev below (T50.setTop (mkF mi 206 #[.val (.ref o), .val .null, .val (.ref hd), .val (.int i3), .val (.int i4), .val (.ref hd), .val (.int i6), .val (.int i7), .val (.int (8 : Int32))] [(.int (2 : Int32)), (.ref o)])) P
  refine Go.st (fun t_ k_ => XS.iconst X50.here hx rfl (hb hby d_prog_5_method_7_206) k_) ?_
  show Go pg.tables ev below (T50.setTop (mkF mi 207 #[.val (.ref o), .val .null, .val (.ref hd), .val (.int i3), .val (.int i4), .val (.ref hd), .val (.int i6), .val (.int i7), .val (.int (8 : Int32))] [(.int (1 : Int32)), (.int (2 : Int32)), (.ref o)])) P
  refine Go.st (fun t_ k_ => XS.iadd X50.here hx rfl (hb hby d_prog_5_method_7_207) rfl k_) ?_
  show Go pg.tables ev below (T50.setTop (mkF mi 208 #[.val (.ref o), .val .null, .val (.ref hd), .val (.int i3), .val (.int i4), .val (.ref hd), .val (.int i6), .val (.int i7), .val (.int (8 : Int32))] [(.int (3 : Int32)), (.ref o)])) P
  have f51 := (((((((E0.wr W7).wr W16).wr W24).wr W29).wr W34).wr W39).wr W47)
  obtain ⟨T52, h52, X52, e52, W52, st52⟩ := putF X50 hx hZ hown (host := "") (Or.inl (hw _ (List.mem_of_getElem? (i := 28) rfl))) Via.refl e50 f49 f51 (Or.inl (hw _ (List.mem_of_getElem? (i := 29) rfl))) (hw _ (List.mem_of_getElem? (i := 2) rfl)) (ty := .int) (by decide) rfl rfl (g := (mkF mi 208 #[.val (.ref o), .val .null, .val (.ref hd), .val (.int i3), .val (.int i4), .val (.ref hd), .val (.int i6), .val (.int i7), .val (.int (8 : Int32))] [(.int (3 : Int32)), (.ref o)])) rfl rfl (hb hby d_prog_5_method_7_208)
  have Zs53 : n0 ≤ h52.size := Nat.le_trans Zs48 (Keep.of_wr W52).1
  have KC53 : Keep h0 h52 [o, nb, vb, sp, kn] := KC48.wr W52 (Or.inl (List.mem_of_getElem? (i := 0) rfl))
  have N53 := Fr.snoc X52 N48 ge0
  have F52 : Fld Z h52 o "com/example/gatewright/gatewright/Fields" "size" "I" (.int (3 : Int32)) := f49.same W52
  refine Go.st st52 ?_
  show Go pg.tables ev below (T52.setTop (mkF mi 211 #[.val (.ref o), .val .null, .val (.ref hd), .val (.int i3), .val (.int i4), .val (.ref hd), .val (.int i6), .val (.int i7), .val (.int (8 : Int32))] [])) P
  obtain ⟨fs, hr, hrun, hended, hW, hsame⟩ := X52.leave (v := none) (fun _ => rfl) (BodyLoose.notSynchronized Bd)
  have f54 := ((((((((F0.other W7 (Or.inl ne_o_nb)).other W16 (Or.inl ne_o_vb)).other W24 (Or.inl ne_o_sp)).other W29 (Or.inl ne_o_sp)).other W34 (Or.inl ne_o_sp)).other W39 (Or.inl ne_o_sp)).other W47 (Or.inl ne_o_kn)).other W52 (Or.inr (slot_ne (Or.inl (hw _ (List.mem_of_getElem? (i := 13) rfl))) (Or.inl (hw _ (List.mem_of_getElem? (i := 29) rfl))) (by decide) (t := (.array (.array .byte))) (t' := .int) (by decide) (by decide))))
  have f55 := (((((((f9.other W16 (Or.inl ne_o_vb)).other W24 (Or.inl ne_o_sp)).other W29 (Or.inl ne_o_sp)).other W34 (Or.inl ne_o_sp)).other W39 (Or.inl ne_o_sp)).other W47 (Or.inl ne_o_kn)).other W52 (Or.inr (slot_ne (Or.inl (hw _ (List.mem_of_getElem? (i := 15) rfl))) (Or.inl (hw _ (List.mem_of_getElem? (i := 29) rfl))) (by decide) (t := (.array (.array .byte))) (t' := .int) (by decide) (by decide))))
  have f56 := (((f36.other W39 (Or.inl ne_o_sp)).other W47 (Or.inl ne_o_kn)).other W52 (Or.inr (slot_ne (Or.inl (hw _ (List.mem_of_getElem? (i := 18) rfl))) (Or.inl (hw _ (List.mem_of_getElem? (i := 29) rfl))) (by decide) (t := (.array .int)) (t' := .int) (by decide) (by decide))))
  have f57 := ((f41.other W47 (Or.inl ne_o_kn)).other W52 (Or.inr (slot_ne (Or.inl (hw _ (List.mem_of_getElem? (i := 22) rfl))) (Or.inl (hw _ (List.mem_of_getElem? (i := 29) rfl))) (by decide) (t := (.array (.object "com/example/gatewright/gatewright/FieldName"))) (t' := .int) (by decide) (by decide))))
  have f58 := (((((((V7.other W16 ne_nb_vb).other W24 ne_nb_sp).other W29 ne_nb_sp).other W34 ne_nb_sp).other W39 ne_nb_sp).other W47 ne_nb_kn).other W52 (Ne.symm ne_o_nb))
  have f59 := ((((((V16.other W24 ne_vb_sp).other W29 ne_vb_sp).other W34 ne_vb_sp).other W39 ne_vb_sp).other W47 ne_vb_kn).other W52 (Ne.symm ne_o_vb))
  have f60 := ((V39.other W47 ne_sp_kn).other W52 (Ne.symm ne_o_sp))
  have f61 := (V47.other W52 (Ne.symm ne_o_kn))
  refine ⟨_, _, ?_, hP _ _ ⟨hrun, hended, _, _, rfl, ?_, ⟨_, rfl⟩, hW, hsame.mono (by decide) (by decide)⟩⟩
  · exact X52.returnOut hx Bd.returns (hb hby d_prog_5_method_7_211) hr
  · show (none : Option Value) = none ∧ Fr n0 _ ∧ Keep h0 T52.heap [o, nb, vb, sp, kn] ∧ Fld Z T52.heap o "com/example/gatewright/gatewright/Fields" "nameBytes" "[[B" (.ref nb) ∧ Fld Z T52.heap o "com/example/gatewright/gatewright/Fields" "valueBytes" "[[B" (.ref vb) ∧ Fld Z T52.heap o "com/example/gatewright/gatewright/Fields" "spans" "[I" (.ref sp) ∧ Fld Z T52.heap o "com/example/gatewright/gatewright/Fields" "known" "[Lcom/example/gatewright/gatewright/FieldName;" (.ref kn) ∧ Fld Z T52.heap o "com/example/gatewright/gatewright/Fields" "size" "I" (.int (3 : Int32)) ∧ Arv Z T52.heap nb kN (.array .byte) (8 : Int32) (vN.set 2 (.ref hd)) .null ∧ Arv Z T52.heap vb kV (.array .byte) (8 : Int32) (vV.set 2 (.ref hd)) .null ∧ Arv Z T52.heap sp kS .int (32 : Int32) ((((vS.set 8 (.int i3)).set 9 (.int i4)).set 10 (.int i6)).set 11 (.int i7)) (.int (0 : Int32)) ∧ Arv Z T52.heap kn kK (.object "com/example/gatewright/gatewright/FieldName") (8 : Int32) (vK.set 2 .null) .null
    rw [e52]
    exact ⟨rfl, N53, KC53, f54, f55, f56, f57, F52, f58, f59, f60, f61⟩
theorem ef_rmA6_2 (mi : MethodId) (o : Addr) (hd : Addr) (i3 : Int32) (i4 : Int32) (i5 : Int32) (i6 : Int32) (nb : Addr) (vb : Addr) (sp : Addr) (kn : Addr) (kN : ClassId) (kV : ClassId) (kS : ClassId) (kK : ClassId) (vN : List Value) (vV : List Value) (vS : List Value) (vK : List Value) : entryFrame mi #[(.ref o), .null, (.ref hd), (.int i3), (.int i4), (.int i5), (.int i6)] 7 = mkF mi 0 #[.val (.ref o), .val .null, .val (.ref hd), .val (.int i3), .val (.int i4), .val (.int i5), .val (.int i6)] [] := by first | (simp [entryFrame, mkF, argsToLocals, Value.category]; done) | rfl
def Q_rmA6_2 (Z : State) (o : Addr) (hd : Addr) (i3 : Int32) (i4 : Int32) (i5 : Int32) (i6 : Int32) (nb : Addr) (vb : Addr) (sp : Addr) (kn : Addr) (kN : ClassId) (kV : ClassId) (kS : ClassId) (kK : ClassId) (vN : List Value) (vV : List Value) (vS : List Value) (vK : List Value) (h0 : Heap) (n0 : Nat) (vv_ : Option Value) (hh_ : Heap) (LL_ : List Loc) : Prop := vv_ = none ∧ Fr n0 LL_ ∧ Keep h0 hh_ [o, nb, vb, sp, kn] ∧ Fld Z hh_ o "com/example/gatewright/gatewright/Fields" "nameBytes" "[[B" (.ref nb) ∧ Fld Z hh_ o "com/example/gatewright/gatewright/Fields" "valueBytes" "[[B" (.ref vb) ∧ Fld Z hh_ o "com/example/gatewright/gatewright/Fields" "spans" "[I" (.ref sp) ∧ Fld Z hh_ o "com/example/gatewright/gatewright/Fields" "known" "[Lcom/example/gatewright/gatewright/FieldName;" (.ref kn) ∧ Fld Z hh_ o "com/example/gatewright/gatewright/Fields" "size" "I" (.int (3 : Int32)) ∧ Arv Z hh_ nb kN (.array .byte) (8 : Int32) (vN.set 2 (.ref hd)) .null ∧ Arv Z hh_ vb kV (.array .byte) (8 : Int32) (vV.set 2 (.ref hd)) .null ∧ Arv Z hh_ sp kS .int (32 : Int32) ((((vS.set 8 (.int i3)).set 9 (.int i4)).set 10 (.int i5)).set 11 (.int i6)) (.int (0 : Int32)) ∧ Arv Z hh_ kn kK (.object "com/example/gatewright/gatewright/FieldName") (8 : Int32) (vK.set 2 .null) .null
set_option maxRecDepth 65536 in
set_option maxHeartbeats 40000000 in
theorem rmA6_2 (l : Launch) (Z : State) (a0 : Array Value) (hw : ∀ d ∈ tables_1, d.before a0 Z = true) (ws : List Jvm.Cond) (o : Addr) (hd : Addr) (i3 : Int32) (i4 : Int32) (i5 : Int32) (i6 : Int32) (nb : Addr) (vb : Addr) (sp : Addr) (kn : Addr) (kN : ClassId) (kV : ClassId) (kS : ClassId) (kK : ClassId) (vN : List Value) (vV : List Value) (vS : List Value) (vK : List Value) (h0 : Heap) (n0 : Nat) (Z0 : n0 ≤ h0.size) (E0 : Exa Z h0 o "com/example/gatewright/gatewright/Fields") (ge0 : n0 ≤ o) (EH : Exa Z h0 hd "[B") (g_nb : n0 ≤ nb) (g_vb : n0 ≤ vb) (g_sp : n0 ≤ sp) (g_kn : n0 ≤ kn) (ne_o_nb : o ≠ nb) (ne_o_vb : o ≠ vb) (ne_o_sp : o ≠ sp) (ne_o_kn : o ≠ kn) (ne_nb_vb : nb ≠ vb) (ne_nb_sp : nb ≠ sp) (ne_nb_kn : nb ≠ kn) (ne_vb_sp : vb ≠ sp) (ne_vb_kn : vb ≠ kn) (ne_sp_kn : sp ≠ kn) (F0 : Fld Z h0 o "com/example/gatewright/gatewright/Fields" "nameBytes" "[[B" (.ref nb)) (F1 : Fld Z h0 o "com/example/gatewright/gatewright/Fields" "valueBytes" "[[B" (.ref vb)) (F2 : Fld Z h0 o "com/example/gatewright/gatewright/Fields" "spans" "[I" (.ref sp)) (F3 : Fld Z h0 o "com/example/gatewright/gatewright/Fields" "known" "[Lcom/example/gatewright/gatewright/FieldName;" (.ref kn)) (F4 : Fld Z h0 o "com/example/gatewright/gatewright/Fields" "size" "I" (.int (2 : Int32))) (A_nb : Arv Z h0 nb kN (.array .byte) (8 : Int32) vN .null) (A_vb : Arv Z h0 vb kV (.array .byte) (8 : Int32) vV .null) (A_sp : Arv Z h0 sp kS .int (32 : Int32) vS (.int (0 : Int32))) (A_kn : Arv Z h0 kn kK (.object "com/example/gatewright/gatewright/FieldName") (8 : Int32) vK .null) (l_nb : vN.length = 8) (l_vb : vV.length = 8) (l_sp : vS.length = 32) (l_kn : vK.length = 8) (O_nb : OvrA Z kN .byte "[B") (O_vb : OvrA Z kV .byte "[B") :
    MetFree l (⟨"com/example/gatewright/gatewright/Fields", "add", "(Lcom/example/gatewright/gatewright/FieldName;[BIIII)V"⟩ : MethodName) (head1 (Jvm.Cond.code (⟨"com/example/gatewright/gatewright/Fields", "add", "(Lcom/example/gatewright/gatewright/FieldName;[BIIII)V"⟩ : MethodName) prog_5_method_5_code 7 none :: ws) ({ frames := 1, cells := 0, slots := 0, locals := 20 } : Room)) (fun aa_ U => aa_ = #[(.ref o), .null, (.ref hd), (.int i3), (.int i4), (.int i5), (.int i6)] ∧ Z.Warmed39 U.vm ∧ U.heap = h0) (fun _ _ _ _ _ => True) (fun _ U oo_ UV_ => ∃ vv_ LL_, oo_ = .returned vv_ ∧ Q_rmA6_2 Z o hd i3 i4 i5 i6 nb vb sp kn kN kV kS kK vN vV vS vK h0 n0 vv_ UV_.heap LL_ ∧ FrameEnd U oo_ UV_ LL_ ({ frames := 1, cells := 0, slots := 0, locals := 20 } : Room).cells ({ frames := 1, cells := 0, slots := 0, locals := 20 } : Room).slots) := by
  refine MetFree.of_bodySF (plainFor_of_name pn_1) hisR ?_
  intro pg ev si mi args below meth ci s₁ Bd hml0 hP0 hK
  obtain ⟨rfl, hZ, hh⟩ := hP0
  have hx := Bd.exec
  have hby := Bd.bytes
  have hml : ci.maxLocals = 7 := hml0
  have hown : si.vm.findClass "com/example/gatewright/gatewright/Fields" = some mi.cls := findClass_of_methodNamed Bd.named
  have hnm := (name_of_methodNamed Bd.named Bd.method).1
  have X0 : Stand pg l ev ({ frames := 1, cells := 0, slots := 0, locals := 20 } : Room) si mi #[(.ref o), .null, (.ref hd), (.int i3), (.int i4), (.int i5), (.int i6)] below meth ci s₁ [] 0 0 := Stand.of_body Bd
  have e0 : s₁.heap = h0 := by rw [← hh, Bd.state]; rfl
  have N0 := Fr.nil n0
  refine Go.start (fun P hP => ?_)
  refine Go.st (fun t_ k_ => castTop (ef_rmA6_2 mi o hd i3 i4 i5 i6 nb vb sp kn kN kV kS kK vN vV vS vK) k_) (A := s₁.setTop (mkF mi 0 #[.val (.ref o), .val .null, .val (.ref hd), .val (.int i3), .val (.int i4), .val (.int i5), .val (.int i6)] [])) ?_
  show Go pg.tables ev below (s₁.setTop (mkF mi 0 #[.val (.ref o), .val .null, .val (.ref hd), .val (.int i3), .val (.int i4), .val (.int i5), .val (.int i6)] [])) P
  refine Go.st (fun t_ k_ => XS.aloadN X0.here hx rfl (hb hby d_prog_5_method_5_0) rfl rfl k_) ?_
  show Go pg.tables ev below (s₁.setTop (mkF mi 1 #[.val (.ref o), .val .null, .val (.ref hd), .val (.int i3), .val (.int i4), .val (.int i5), .val (.int i6)] [(.ref o)])) P
  refine Go.st (fun t_ k_ => XS.aloadN X0.here hx rfl (hb hby d_prog_5_method_5_1) rfl rfl k_) ?_
  show Go pg.tables ev below (s₁.setTop (mkF mi 2 #[.val (.ref o), .val .null, .val (.ref hd), .val (.int i3), .val (.int i4), .val (.int i5), .val (.int i6)] [.null, (.ref o)])) P
  refine Go.st (fun t_ k_ => XS.aloadN X0.here hx rfl (hb hby d_prog_5_method_5_2) rfl rfl k_) ?_
  show Go pg.tables ev below (s₁.setTop (mkF mi 3 #[.val (.ref o), .val .null, .val (.ref hd), .val (.int i3), .val (.int i4), .val (.int i5), .val (.int i6)] [(.ref hd), .null, (.ref o)])) P
  refine Go.st (fun t_ k_ => XS.iloadN X0.here hx rfl (hb hby d_prog_5_method_5_3) rfl k_) ?_
  show Go pg.tables ev below (s₁.setTop (mkF mi 4 #[.val (.ref o), .val .null, .val (.ref hd), .val (.int i3), .val (.int i4), .val (.int i5), .val (.int i6)] [(.int i3), (.ref hd), .null, (.ref o)])) P
  refine Go.st (fun t_ k_ => XS.iload X0.here hx rfl (hb hby d_prog_5_method_5_4) rfl k_) ?_
  show Go pg.tables ev below (s₁.setTop (mkF mi 6 #[.val (.ref o), .val .null, .val (.ref hd), .val (.int i3), .val (.int i4), .val (.int i5), .val (.int i6)] [(.int i4), (.int i3), (.ref hd), .null, (.ref o)])) P
  refine Go.st (fun t_ k_ => XS.aloadN X0.here hx rfl (hb hby d_prog_5_method_5_6) rfl rfl k_) ?_
  show Go pg.tables ev below (s₁.setTop (mkF mi 7 #[.val (.ref o), .val .null, .val (.ref hd), .val (.int i3), .val (.int i4), .val (.int i5), .val (.int i6)] [(.ref hd), (.int i4), (.int i3), (.ref hd), .null, (.ref o)])) P
  refine Go.st (fun t_ k_ => XS.iload X0.here hx rfl (hb hby d_prog_5_method_5_7) rfl k_) ?_
  show Go pg.tables ev below (s₁.setTop (mkF mi 9 #[.val (.ref o), .val .null, .val (.ref hd), .val (.int i3), .val (.int i4), .val (.int i5), .val (.int i6)] [(.int i5), (.ref hd), (.int i4), (.int i3), (.ref hd), .null, (.ref o)])) P
  refine Go.st (fun t_ k_ => XS.iload X0.here hx rfl (hb hby d_prog_5_method_5_9) rfl k_) ?_
  show Go pg.tables ev below (s₁.setTop (mkF mi 11 #[.val (.ref o), .val .null, .val (.ref hd), .val (.int i3), .val (.int i4), .val (.int i5), .val (.int i6)] [(.int i6), (.int i5), (.ref hd), (.int i4), (.int i3), (.ref hd), .null, (.ref o)])) P
  obtain ⟨cq1, q1, q1'⟩ := E0.cell
  obtain ⟨_, _, ⟨T1, L1, k1, n1⟩, -, X1, ⟨Lc1, hQ1, l1, y1, z1⟩, st1⟩ := X0.privateBack hx (y := (⟨"com/example/gatewright/gatewright/Fields", "add", "(Lcom/example/gatewright/gatewright/FieldName;[BII[BII)V"⟩ : MethodName)) hown (mvT hZ (hw _ (List.mem_of_getElem? (i := 51) rfl))) (mvT hZ (hw _ (List.mem_of_getElem? (i := 52) rfl))) (own_selp hZ (hw _ (List.mem_of_getElem? (i := 2) rfl)) (hw _ (List.mem_of_getElem? (i := 53) rfl)) (hw _ (List.mem_of_getElem? (i := 52) rfl))) (Cond.privateMethod_at (mvP hZ (hw _ (List.mem_of_getElem? (i := 53) rfl)) (args := #[]))) (mvT hZ (hw _ (List.mem_of_getElem? (i := 54) rfl))) (by decide) (backOf (W := 0) (rmA7_2 l Z a0 hw [] o hd i3 i4 i5 i6 nb vb sp kn kN kV kS kK vN vV vS vK h0 n0 Z0 E0 ge0 EH g_nb g_vb g_sp g_kn ne_o_nb ne_o_vb ne_o_sp ne_o_kn ne_nb_vb ne_nb_sp ne_nb_kn ne_vb_sp ne_vb_kn ne_sp_kn F0 F1 F2 F3 F4 A_nb A_vb A_sp A_kn l_nb l_vb l_sp l_kn O_nb O_vb) hZ (hw _ (List.mem_of_getElem? (i := 54) rfl)) (hw _ (List.mem_of_getElem? (i := 3) rfl)) (by decide) (by decide)) (g := (mkF mi 11 #[.val (.ref o), .val .null, .val (.ref hd), .val (.int i3), .val (.int i4), .val (.int i5), .val (.int i6)] [(.int i6), (.int i5), (.ref hd), (.int i4), (.int i3), (.ref hd), .null, (.ref o)])) rfl (by rw [hml]; rfl) (Steps.refl _) (a := o) (by rw [e0]; exact q1) q1' (argsL := [.null, (.ref hd), (.int i3), (.int i4), (.ref hd), (.int i5), (.int i6)]) (rest := []) (lenOf pd_1 rfl) rfl (by show 2 * 0 + _ ≤ _; exact Nat.le_of_eq rfl) (hb hby d_prog_5_method_5_11) (fun _ _ => ⟨rfl, e0, (by decide : 0 + 0 ≤ _), (by decide : 0 + 0 ≤ _)⟩)
  dsimp only [Pt.U, Pt.locs, Pt.cells, Pt.slots] at X1 l1 y1 z1 st1 hQ1
  subst l1 y1 z1
  obtain ⟨h1, e1⟩ : ∃ z, T1.heap = z := ⟨_, rfl⟩
  rw [e1] at hQ1
  obtain ⟨rfl, N1q, K1, FA1_0, FA1_1, FA1_2, FA1_3, FA1_4, AA1_nb, AA1_vb, AA1_sp, AA1_kn⟩ := hQ1
  have N1 := Fr.app N0 N1q
  have Zs2 : n0 ≤ h1.size := Nat.le_trans Z0 K1.1
  have KC2 : Keep h0 h1 [o, nb, vb, sp, kn] := (Keep.refl h0 [o, nb, vb, sp, kn]).trans K1 (allS (P := fun x => x ∈ [o, nb, vb, sp, kn] ∨ h0.size ≤ x) (Or.inl (List.mem_of_getElem? (i := 0) rfl)) (allS (P := fun x => x ∈ [o, nb, vb, sp, kn] ∨ h0.size ≤ x) (Or.inl (List.mem_of_getElem? (i := 1) rfl)) (allS (P := fun x => x ∈ [o, nb, vb, sp, kn] ∨ h0.size ≤ x) (Or.inl (List.mem_of_getElem? (i := 2) rfl)) (allS (P := fun x => x ∈ [o, nb, vb, sp, kn] ∨ h0.size ≤ x) (Or.inl (List.mem_of_getElem? (i := 3) rfl)) (allS (P := fun x => x ∈ [o, nb, vb, sp, kn] ∨ h0.size ≤ x) (Or.inl (List.mem_of_getElem? (i := 4) rfl)) all0)))))
  refine Go.tr st1 ?_
  show Go pg.tables ev below (T1.setTop (mkF mi 14 #[.val (.ref o), .val .null, .val (.ref hd), .val (.int i3), .val (.int i4), .val (.int i5), .val (.int i6)] [])) P
  obtain ⟨fs, hr, hrun, hended, hW, hsame⟩ := X1.leave (v := none) (fun _ => rfl) (BodyLoose.notSynchronized Bd)
  refine ⟨_, _, ?_, hP _ _ ⟨hrun, hended, _, _, rfl, ?_, ⟨_, rfl⟩, hW, hsame.mono (by decide) (by decide)⟩⟩
  · exact X1.returnOut hx Bd.returns (hb hby d_prog_5_method_5_14) hr
  · show (none : Option Value) = none ∧ Fr n0 _ ∧ Keep h0 T1.heap [o, nb, vb, sp, kn] ∧ Fld Z T1.heap o "com/example/gatewright/gatewright/Fields" "nameBytes" "[[B" (.ref nb) ∧ Fld Z T1.heap o "com/example/gatewright/gatewright/Fields" "valueBytes" "[[B" (.ref vb) ∧ Fld Z T1.heap o "com/example/gatewright/gatewright/Fields" "spans" "[I" (.ref sp) ∧ Fld Z T1.heap o "com/example/gatewright/gatewright/Fields" "known" "[Lcom/example/gatewright/gatewright/FieldName;" (.ref kn) ∧ Fld Z T1.heap o "com/example/gatewright/gatewright/Fields" "size" "I" (.int (3 : Int32)) ∧ Arv Z T1.heap nb kN (.array .byte) (8 : Int32) (vN.set 2 (.ref hd)) .null ∧ Arv Z T1.heap vb kV (.array .byte) (8 : Int32) (vV.set 2 (.ref hd)) .null ∧ Arv Z T1.heap sp kS .int (32 : Int32) ((((vS.set 8 (.int i3)).set 9 (.int i4)).set 10 (.int i5)).set 11 (.int i6)) (.int (0 : Int32)) ∧ Arv Z T1.heap kn kK (.object "com/example/gatewright/gatewright/FieldName") (8 : Int32) (vK.set 2 .null) .null
    rw [e1]
    exact ⟨rfl, N1, KC2, FA1_0, FA1_1, FA1_2, FA1_3, FA1_4, AA1_nb, AA1_vb, AA1_sp, AA1_kn⟩
theorem ef_rmAF_2 (mi : MethodId) (o : Addr) (hd : Addr) (p : Int32) (nb : Addr) (vb : Addr) (sp : Addr) (kn : Addr) (kN : ClassId) (kV : ClassId) (kS : ClassId) (kK : ClassId) (vN : List Value) (vV : List Value) (vS : List Value) (vK : List Value) : entryFrame mi #[(.ref o), (.ref hd), (.int p)] 5 = mkF mi 0 #[.val (.ref o), .val (.ref hd), .val (.int p), .unset, .unset] [] := by first | (simp [entryFrame, mkF, argsToLocals, Value.category]; done) | rfl
def Q_rmAF_2 (Z : State) (o : Addr) (hd : Addr) (p : Int32) (nb : Addr) (vb : Addr) (sp : Addr) (kn : Addr) (kN : ClassId) (kV : ClassId) (kS : ClassId) (kK : ClassId) (vN : List Value) (vV : List Value) (vS : List Value) (vK : List Value) (h0 : Heap) (n0 : Nat) (vv_ : Option Value) (hh_ : Heap) (LL_ : List Loc) : Prop := vv_ = none ∧ Fr n0 LL_ ∧ Keep h0 hh_ [o, nb, vb, sp, kn] ∧ Fld Z hh_ o "com/example/gatewright/gatewright/Fields" "nameBytes" "[[B" (.ref nb) ∧ Fld Z hh_ o "com/example/gatewright/gatewright/Fields" "valueBytes" "[[B" (.ref vb) ∧ Fld Z hh_ o "com/example/gatewright/gatewright/Fields" "spans" "[I" (.ref sp) ∧ Fld Z hh_ o "com/example/gatewright/gatewright/Fields" "known" "[Lcom/example/gatewright/gatewright/FieldName;" (.ref kn) ∧ Fld Z hh_ o "com/example/gatewright/gatewright/Fields" "size" "I" (.int (3 : Int32)) ∧ Arv Z hh_ nb kN (.array .byte) (8 : Int32) (vN.set 2 (.ref hd)) .null ∧ Arv Z hh_ vb kV (.array .byte) (8 : Int32) (vV.set 2 (.ref hd)) .null ∧ Arv Z hh_ sp kS .int (32 : Int32) ((((vS.set 8 (.int (fNS p))).set 9 (.int ((fNS p) + (fNL p)))).set 10 (.int (fVS p))).set 11 (.int ((fVS p) + (fVL p)))) (.int (0 : Int32)) ∧ Arv Z hh_ kn kK (.object "com/example/gatewright/gatewright/FieldName") (8 : Int32) (vK.set 2 .null) .null
set_option maxRecDepth 65536 in
set_option maxHeartbeats 40000000 in
theorem rmAF_2 (l : Launch) (Z : State) (a0 : Array Value) (hw : ∀ d ∈ tables_1, d.before a0 Z = true) (ws : List Jvm.Cond) (o : Addr) (hd : Addr) (p : Int32) (nb : Addr) (vb : Addr) (sp : Addr) (kn : Addr) (kN : ClassId) (kV : ClassId) (kS : ClassId) (kK : ClassId) (vN : List Value) (vV : List Value) (vS : List Value) (vK : List Value) (h0 : Heap) (n0 : Nat) (Z0 : n0 ≤ h0.size) (E0 : Exa Z h0 o "com/example/gatewright/gatewright/Fields") (ge0 : n0 ≤ o) (EH : Exa Z h0 hd "[B") (g_nb : n0 ≤ nb) (g_vb : n0 ≤ vb) (g_sp : n0 ≤ sp) (g_kn : n0 ≤ kn) (ne_o_nb : o ≠ nb) (ne_o_vb : o ≠ vb) (ne_o_sp : o ≠ sp) (ne_o_kn : o ≠ kn) (ne_nb_vb : nb ≠ vb) (ne_nb_sp : nb ≠ sp) (ne_nb_kn : nb ≠ kn) (ne_vb_sp : vb ≠ sp) (ne_vb_kn : vb ≠ kn) (ne_sp_kn : sp ≠ kn) (F0 : Fld Z h0 o "com/example/gatewright/gatewright/Fields" "nameBytes" "[[B" (.ref nb)) (F1 : Fld Z h0 o "com/example/gatewright/gatewright/Fields" "valueBytes" "[[B" (.ref vb)) (F2 : Fld Z h0 o "com/example/gatewright/gatewright/Fields" "spans" "[I" (.ref sp)) (F3 : Fld Z h0 o "com/example/gatewright/gatewright/Fields" "known" "[Lcom/example/gatewright/gatewright/FieldName;" (.ref kn)) (F4 : Fld Z h0 o "com/example/gatewright/gatewright/Fields" "size" "I" (.int (2 : Int32))) (A_nb : Arv Z h0 nb kN (.array .byte) (8 : Int32) vN .null) (A_vb : Arv Z h0 vb kV (.array .byte) (8 : Int32) vV .null) (A_sp : Arv Z h0 sp kS .int (32 : Int32) vS (.int (0 : Int32))) (A_kn : Arv Z h0 kn kK (.object "com/example/gatewright/gatewright/FieldName") (8 : Int32) vK .null) (l_nb : vN.length = 8) (l_vb : vV.length = 8) (l_sp : vS.length = 32) (l_kn : vK.length = 8) (O_nb : OvrA Z kN .byte "[B") (O_vb : OvrA Z kV .byte "[B") :
    MetFree l (⟨"com/example/gatewright/gatewright/FieldsEncodedSizePinLaw", "addField", "(Lcom/example/gatewright/gatewright/Fields;[BI)V"⟩ : MethodName) (head1 (Jvm.Cond.code (⟨"com/example/gatewright/gatewright/FieldsEncodedSizePinLaw", "addField", "(Lcom/example/gatewright/gatewright/Fields;[BI)V"⟩ : MethodName) method_6_code 5 none :: ws) ({ frames := 2, cells := 0, slots := 0, locals := 38 } : Room)) (fun aa_ U => aa_ = #[(.ref o), (.ref hd), (.int p)] ∧ Z.Warmed39 U.vm ∧ U.heap = h0) (fun _ _ _ _ _ => True) (fun _ U oo_ UV_ => ∃ vv_ LL_, oo_ = .returned vv_ ∧ Q_rmAF_2 Z o hd p nb vb sp kn kN kV kS kK vN vV vS vK h0 n0 vv_ UV_.heap LL_ ∧ FrameEnd U oo_ UV_ LL_ ({ frames := 2, cells := 0, slots := 0, locals := 38 } : Room).cells ({ frames := 2, cells := 0, slots := 0, locals := 38 } : Room).slots) := by
  refine MetFree.of_bodySF (plainFor_of_name pn_0) hisR ?_
  intro pg ev si mi args below meth ci s₁ Bd hml0 hP0 hK
  obtain ⟨rfl, hZ, hh⟩ := hP0
  have hx := Bd.exec
  have hby := Bd.bytes
  have hml : ci.maxLocals = 5 := hml0
  have hown : si.vm.findClass "com/example/gatewright/gatewright/FieldsEncodedSizePinLaw" = some mi.cls := findClass_of_methodNamed Bd.named
  have hnm := (name_of_methodNamed Bd.named Bd.method).1
  have X0 : Stand pg l ev ({ frames := 2, cells := 0, slots := 0, locals := 38 } : Room) si mi #[(.ref o), (.ref hd), (.int p)] below meth ci s₁ [] 0 0 := Stand.of_body Bd
  have e0 : s₁.heap = h0 := by rw [← hh, Bd.state]; rfl
  have N0 := Fr.nil n0
  refine Go.start (fun P hP => ?_)
  refine Go.st (fun t_ k_ => castTop (ef_rmAF_2 mi o hd p nb vb sp kn kN kV kS kK vN vV vS vK) k_) (A := s₁.setTop (mkF mi 0 #[.val (.ref o), .val (.ref hd), .val (.int p), .unset, .unset] [])) ?_
  show Go pg.tables ev below (s₁.setTop (mkF mi 0 #[.val (.ref o), .val (.ref hd), .val (.int p), .unset, .unset] [])) P
  refine Go.st (fun t_ k_ => XS.iloadN X0.here hx rfl (hb hby d_method_6_0) rfl k_) ?_
  show Go pg.tables ev below (s₁.setTop (mkF mi 1 #[.val (.ref o), .val (.ref hd), .val (.int p), .unset, .unset] [(.int p)])) P
  obtain ⟨_, _, ⟨T1, L1, k1, n1⟩, -, X1, ⟨Lc1, hQ1, l1, y1, z1⟩, st1⟩ := Jvm.LawKit.callS X0 hx (y := (⟨"com/example/gatewright/gatewright/FieldsEncodedSizePinLaw", "nameStart", "(I)I"⟩ : MethodName)) hown (mvT hZ (hw _ (List.mem_of_getElem? (i := 34) rfl))) (mvT hZ (hw _ (List.mem_of_getElem? (i := 35) rfl))) (mvT hZ (hw _ (List.mem_of_getElem? (i := 32) rfl))) (mvT hZ (hw _ (List.mem_of_getElem? (i := 36) rfl))) (by decide) (backOf (W := 0) (rmNS l Z a0 hw [] p h0 n0 Z0) hZ (hw _ (List.mem_of_getElem? (i := 36) rfl)) (hw _ (List.mem_of_getElem? (i := 32) rfl)) (by decide) (by decide)) (g := (mkF mi 1 #[.val (.ref o), .val (.ref hd), .val (.int p), .unset, .unset] [(.int p)])) rfl (by rw [hml]; rfl) (argsL := [(.int p)]) (rest := []) (lenOf pd_0 rfl) rfl (by show 2 * 0 + _ ≤ _; exact Nat.le_of_eq rfl) (hb hby d_method_6_1) (fun _ _ => ⟨rfl, e0, (by decide : 0 + 0 ≤ _), (by decide : 0 + 0 ≤ _)⟩)
  dsimp only [Pt.U, Pt.locs, Pt.cells, Pt.slots] at X1 l1 y1 z1 st1 hQ1
  subst l1 y1 z1
  obtain ⟨rfl, N1q, e1⟩ := hQ1
  have N1 := Fr.app N0 N1q
  refine Go.st st1 ?_
  show Go pg.tables ev below (T1.setTop (mkF mi 4 #[.val (.ref o), .val (.ref hd), .val (.int p), .unset, .unset] [(.int (fNS p))])) P
  refine Go.st (fun t_ k_ => XS.istoreN X1.here hx rfl (hb hby d_method_6_4) rfl (l' := #[.val (.ref o), .val (.ref hd), .val (.int p), .val (.int (fNS p)), .unset]) rfl k_) ?_
  show Go pg.tables ev below (T1.setTop (mkF mi 5 #[.val (.ref o), .val (.ref hd), .val (.int p), .val (.int (fNS p)), .unset] [])) P
  refine Go.st (fun t_ k_ => XS.iloadN X1.here hx rfl (hb hby d_method_6_5) rfl k_) ?_
  show Go pg.tables ev below (T1.setTop (mkF mi 6 #[.val (.ref o), .val (.ref hd), .val (.int p), .val (.int (fNS p)), .unset] [(.int p)])) P
  obtain ⟨_, _, ⟨T2, L2, k2, n2⟩, -, X2, ⟨Lc2, hQ2, l2, y2, z2⟩, st2⟩ := Jvm.LawKit.callS X1 hx (y := (⟨"com/example/gatewright/gatewright/FieldsEncodedSizePinLaw", "valueStart", "(I)I"⟩ : MethodName)) hown (mvT hZ (hw _ (List.mem_of_getElem? (i := 37) rfl))) (mvT hZ (hw _ (List.mem_of_getElem? (i := 38) rfl))) (mvT hZ (hw _ (List.mem_of_getElem? (i := 32) rfl))) (mvT hZ (hw _ (List.mem_of_getElem? (i := 39) rfl))) (by decide) (backOf (W := 0) (rmVS l Z a0 hw [] p h0 n0 Z0) hZ (hw _ (List.mem_of_getElem? (i := 39) rfl)) (hw _ (List.mem_of_getElem? (i := 32) rfl)) (by decide) (by decide)) (g := (mkF mi 6 #[.val (.ref o), .val (.ref hd), .val (.int p), .val (.int (fNS p)), .unset] [(.int p)])) rfl (by rw [hml]; rfl) (argsL := [(.int p)]) (rest := []) (lenOf pd_0 rfl) rfl (by show 2 * 0 + _ ≤ _; exact Nat.le_of_eq rfl) (hb hby d_method_6_6) (fun _ _ => ⟨rfl, e1, (by decide : 0 + 0 ≤ _), (by decide : 0 + 0 ≤ _)⟩)
  dsimp only [Pt.U, Pt.locs, Pt.cells, Pt.slots] at X2 l2 y2 z2 st2 hQ2
  subst l2 y2 z2
  obtain ⟨rfl, N2q, e2⟩ := hQ2
  have N2 := Fr.app N1 N2q
  refine Go.st st2 ?_
  show Go pg.tables ev below (T2.setTop (mkF mi 9 #[.val (.ref o), .val (.ref hd), .val (.int p), .val (.int (fNS p)), .unset] [(.int (fVS p))])) P
  refine Go.st (fun t_ k_ => XS.istore X2.here hx rfl (hb hby d_method_6_9) rfl (l' := #[.val (.ref o), .val (.ref hd), .val (.int p), .val (.int (fNS p)), .val (.int (fVS p))]) rfl k_) ?_
  show Go pg.tables ev below (T2.setTop (mkF mi 11 #[.val (.ref o), .val (.ref hd), .val (.int p), .val (.int (fNS p)), .val (.int (fVS p))] [])) P
  refine Go.st (fun t_ k_ => XS.aloadN X2.here hx rfl (hb hby d_method_6_11) rfl rfl k_) ?_
  show Go pg.tables ev below (T2.setTop (mkF mi 12 #[.val (.ref o), .val (.ref hd), .val (.int p), .val (.int (fNS p)), .val (.int (fVS p))] [(.ref o)])) P
  refine Go.st (fun t_ k_ => XS.aconstNull X2.here hx rfl (hb hby d_method_6_12) k_) ?_
  show Go pg.tables ev below (T2.setTop (mkF mi 13 #[.val (.ref o), .val (.ref hd), .val (.int p), .val (.int (fNS p)), .val (.int (fVS p))] [.null, (.ref o)])) P
  refine Go.st (X2.checkcastNull hx (g := (mkF mi 13 #[.val (.ref o), .val (.ref hd), .val (.int p), .val (.int (fNS p)), .val (.int (fVS p))] [.null, (.ref o)])) rfl rfl (hb hby d_method_6_13)) ?_
  show Go pg.tables ev below (T2.setTop (mkF mi 16 #[.val (.ref o), .val (.ref hd), .val (.int p), .val (.int (fNS p)), .val (.int (fVS p))] [.null, (.ref o)])) P
  refine Go.st (fun t_ k_ => XS.aloadN X2.here hx rfl (hb hby d_method_6_16) rfl rfl k_) ?_
  show Go pg.tables ev below (T2.setTop (mkF mi 17 #[.val (.ref o), .val (.ref hd), .val (.int p), .val (.int (fNS p)), .val (.int (fVS p))] [(.ref hd), .null, (.ref o)])) P
  refine Go.st (fun t_ k_ => XS.iloadN X2.here hx rfl (hb hby d_method_6_17) rfl k_) ?_
  show Go pg.tables ev below (T2.setTop (mkF mi 18 #[.val (.ref o), .val (.ref hd), .val (.int p), .val (.int (fNS p)), .val (.int (fVS p))] [(.int (fNS p)), (.ref hd), .null, (.ref o)])) P
  refine Go.st (fun t_ k_ => XS.iloadN X2.here hx rfl (hb hby d_method_6_18) rfl k_) ?_
  show Go pg.tables ev below (T2.setTop (mkF mi 19 #[.val (.ref o), .val (.ref hd), .val (.int p), .val (.int (fNS p)), .val (.int (fVS p))] [(.int (fNS p)), (.int (fNS p)), (.ref hd), .null, (.ref o)])) P
  refine Go.st (fun t_ k_ => XS.iloadN X2.here hx rfl (hb hby d_method_6_19) rfl k_) ?_
  show Go pg.tables ev below (T2.setTop (mkF mi 20 #[.val (.ref o), .val (.ref hd), .val (.int p), .val (.int (fNS p)), .val (.int (fVS p))] [(.int p), (.int (fNS p)), (.int (fNS p)), (.ref hd), .null, (.ref o)])) P
  obtain ⟨_, _, ⟨T3, L3, k3, n3⟩, -, X3, ⟨Lc3, hQ3, l3, y3, z3⟩, st3⟩ := Jvm.LawKit.callS X2 hx (y := (⟨"com/example/gatewright/gatewright/FieldsEncodedSizePinLaw", "nameLength", "(I)I"⟩ : MethodName)) hown (mvT hZ (hw _ (List.mem_of_getElem? (i := 40) rfl))) (mvT hZ (hw _ (List.mem_of_getElem? (i := 41) rfl))) (mvT hZ (hw _ (List.mem_of_getElem? (i := 32) rfl))) (mvT hZ (hw _ (List.mem_of_getElem? (i := 42) rfl))) (by decide) (backOf (W := 5) (rmNL l Z a0 hw [] p h0 n0 Z0) hZ (hw _ (List.mem_of_getElem? (i := 42) rfl)) (hw _ (List.mem_of_getElem? (i := 32) rfl)) (by decide) (by decide)) (g := (mkF mi 20 #[.val (.ref o), .val (.ref hd), .val (.int p), .val (.int (fNS p)), .val (.int (fVS p))] [(.int p), (.int (fNS p)), (.int (fNS p)), (.ref hd), .null, (.ref o)])) rfl (by rw [hml]; rfl) (argsL := [(.int p)]) (rest := [(.int (fNS p)), (.int (fNS p)), (.ref hd), .null, (.ref o)]) (lenOf pd_0 rfl) rfl (by show 2 * 0 + _ ≤ _; exact Nat.le_of_eq rfl) (hb hby d_method_6_20) (fun _ _ => ⟨rfl, e2, (by decide : 0 + 0 ≤ _), (by decide : 0 + 0 ≤ _)⟩)
  dsimp only [Pt.U, Pt.locs, Pt.cells, Pt.slots] at X3 l3 y3 z3 st3 hQ3
  subst l3 y3 z3
  obtain ⟨rfl, N3q, e3⟩ := hQ3
  have N3 := Fr.app N2 N3q
  refine Go.st st3 ?_
  show Go pg.tables ev below (T3.setTop (mkF mi 23 #[.val (.ref o), .val (.ref hd), .val (.int p), .val (.int (fNS p)), .val (.int (fVS p))] [(.int (fNL p)), (.int (fNS p)), (.int (fNS p)), (.ref hd), .null, (.ref o)])) P
  refine Go.st (fun t_ k_ => XS.iadd X3.here hx rfl (hb hby d_method_6_23) rfl k_) ?_
  show Go pg.tables ev below (T3.setTop (mkF mi 24 #[.val (.ref o), .val (.ref hd), .val (.int p), .val (.int (fNS p)), .val (.int (fVS p))] [(.int ((fNS p) + (fNL p))), (.int (fNS p)), (.ref hd), .null, (.ref o)])) P
  refine Go.st (fun t_ k_ => XS.iload X3.here hx rfl (hb hby d_method_6_24) rfl k_) ?_
  show Go pg.tables ev below (T3.setTop (mkF mi 26 #[.val (.ref o), .val (.ref hd), .val (.int p), .val (.int (fNS p)), .val (.int (fVS p))] [(.int (fVS p)), (.int ((fNS p) + (fNL p))), (.int (fNS p)), (.ref hd), .null, (.ref o)])) P
  refine Go.st (fun t_ k_ => XS.iload X3.here hx rfl (hb hby d_method_6_26) rfl k_) ?_
  show Go pg.tables ev below (T3.setTop (mkF mi 28 #[.val (.ref o), .val (.ref hd), .val (.int p), .val (.int (fNS p)), .val (.int (fVS p))] [(.int (fVS p)), (.int (fVS p)), (.int ((fNS p) + (fNL p))), (.int (fNS p)), (.ref hd), .null, (.ref o)])) P
  refine Go.st (fun t_ k_ => XS.iloadN X3.here hx rfl (hb hby d_method_6_28) rfl k_) ?_
  show Go pg.tables ev below (T3.setTop (mkF mi 29 #[.val (.ref o), .val (.ref hd), .val (.int p), .val (.int (fNS p)), .val (.int (fVS p))] [(.int p), (.int (fVS p)), (.int (fVS p)), (.int ((fNS p) + (fNL p))), (.int (fNS p)), (.ref hd), .null, (.ref o)])) P
  obtain ⟨_, _, ⟨T4, L4, k4, n4⟩, -, X4, ⟨Lc4, hQ4, l4, y4, z4⟩, st4⟩ := Jvm.LawKit.callS X3 hx (y := (⟨"com/example/gatewright/gatewright/FieldsEncodedSizePinLaw", "valueLength", "(I)I"⟩ : MethodName)) hown (mvT hZ (hw _ (List.mem_of_getElem? (i := 43) rfl))) (mvT hZ (hw _ (List.mem_of_getElem? (i := 44) rfl))) (mvT hZ (hw _ (List.mem_of_getElem? (i := 32) rfl))) (mvT hZ (hw _ (List.mem_of_getElem? (i := 45) rfl))) (by decide) (backOf (W := 7) (rmVL l Z a0 hw [] p h0 n0 Z0) hZ (hw _ (List.mem_of_getElem? (i := 45) rfl)) (hw _ (List.mem_of_getElem? (i := 32) rfl)) (by decide) (by decide)) (g := (mkF mi 29 #[.val (.ref o), .val (.ref hd), .val (.int p), .val (.int (fNS p)), .val (.int (fVS p))] [(.int p), (.int (fVS p)), (.int (fVS p)), (.int ((fNS p) + (fNL p))), (.int (fNS p)), (.ref hd), .null, (.ref o)])) rfl (by rw [hml]; rfl) (argsL := [(.int p)]) (rest := [(.int (fVS p)), (.int (fVS p)), (.int ((fNS p) + (fNL p))), (.int (fNS p)), (.ref hd), .null, (.ref o)]) (lenOf pd_0 rfl) rfl (by show 2 * 0 + _ ≤ _; exact Nat.le_of_eq rfl) (hb hby d_method_6_29) (fun _ _ => ⟨rfl, e3, (by decide : 0 + 0 ≤ _), (by decide : 0 + 0 ≤ _)⟩)
  dsimp only [Pt.U, Pt.locs, Pt.cells, Pt.slots] at X4 l4 y4 z4 st4 hQ4
  subst l4 y4 z4
  obtain ⟨rfl, N4q, e4⟩ := hQ4
  have N4 := Fr.app N3 N4q
  refine Go.st st4 ?_
  show Go pg.tables ev below (T4.setTop (mkF mi 32 #[.val (.ref o), .val (.ref hd), .val (.int p), .val (.int (fNS p)), .val (.int (fVS p))] [(.int (fVL p)), (.int (fVS p)), (.int (fVS p)), (.int ((fNS p) + (fNL p))), (.int (fNS p)), (.ref hd), .null, (.ref o)])) P
  refine Go.st (fun t_ k_ => XS.iadd X4.here hx rfl (hb hby d_method_6_32) rfl k_) ?_
  show Go pg.tables ev below (T4.setTop (mkF mi 33 #[.val (.ref o), .val (.ref hd), .val (.int p), .val (.int (fNS p)), .val (.int (fVS p))] [(.int ((fVS p) + (fVL p))), (.int (fVS p)), (.int ((fNS p) + (fNL p))), (.int (fNS p)), (.ref hd), .null, (.ref o)])) P
  obtain ⟨cq5, kq5, q5a, q5b, q5c⟩ := isOf hZ e4 E0
  obtain ⟨_, _, ⟨T5, L5, k5, n5⟩, -, X5, ⟨Lc5, hQ5, l5, y5, z5⟩, st5⟩ := X4.virtualBack hx (y := (⟨"com/example/gatewright/gatewright/Fields", "add", "(Lcom/example/gatewright/gatewright/FieldName;[BIIII)V"⟩ : MethodName)) (z := (⟨"com/example/gatewright/gatewright/Fields", "add", "(Lcom/example/gatewright/gatewright/FieldName;[BIIII)V"⟩ : MethodName)) hown (mvT hZ (hw _ (List.mem_of_getElem? (i := 46) rfl))) (mvT hZ (hw _ (List.mem_of_getElem? (i := 47) rfl))) (notFace_of_selects (args := #[]) (mvT hZ (hw _ (List.mem_of_getElem? (i := 49) rfl)))) (mvT hZ (hw _ (List.mem_of_getElem? (i := 49) rfl))) (mvT hZ (hw _ (List.mem_of_getElem? (i := 48) rfl))) (by decide) (backOf (W := 0) (rmA6_2 l Z a0 hw [] o hd (fNS p) ((fNS p) + (fNL p)) (fVS p) ((fVS p) + (fVL p)) nb vb sp kn kN kV kS kK vN vV vS vK h0 n0 Z0 E0 ge0 EH g_nb g_vb g_sp g_kn ne_o_nb ne_o_vb ne_o_sp ne_o_kn ne_nb_vb ne_nb_sp ne_nb_kn ne_vb_sp ne_vb_kn ne_sp_kn F0 F1 F2 F3 F4 A_nb A_vb A_sp A_kn l_nb l_vb l_sp l_kn O_nb O_vb) hZ (hw _ (List.mem_of_getElem? (i := 50) rfl)) (hw _ (List.mem_of_getElem? (i := 3) rfl)) (by decide) (by decide)) q5a q5c (g := (mkF mi 33 #[.val (.ref o), .val (.ref hd), .val (.int p), .val (.int (fNS p)), .val (.int (fVS p))] [(.int ((fVS p) + (fVL p))), (.int (fVS p)), (.int ((fNS p) + (fNL p))), (.int (fNS p)), (.ref hd), .null, (.ref o)])) rfl (by rw [hml]; rfl) (Steps.refl _) (argsL := [.null, (.ref hd), (.int (fNS p)), (.int ((fNS p) + (fNL p))), (.int (fVS p)), (.int ((fVS p) + (fVL p)))]) (rest := []) (lenOf pd_2 rfl) rfl (by show 2 * 0 + _ ≤ _; exact Nat.le_of_eq rfl) (hb hby d_method_6_33) (fun _ _ => ⟨rfl, e4, (by decide : 0 + 0 ≤ _), (by decide : 0 + 0 ≤ _)⟩)
  dsimp only [Pt.U, Pt.locs, Pt.cells, Pt.slots] at X5 l5 y5 z5 st5 hQ5
  subst l5 y5 z5
  obtain ⟨h5, e5⟩ : ∃ z, T5.heap = z := ⟨_, rfl⟩
  rw [e5] at hQ5
  obtain ⟨rfl, N5q, K5, FA5_0, FA5_1, FA5_2, FA5_3, FA5_4, AA5_nb, AA5_vb, AA5_sp, AA5_kn⟩ := hQ5
  have N5 := Fr.app N4 N5q
  have Zs6 : n0 ≤ h5.size := Nat.le_trans Z0 K5.1
  have KC6 : Keep h0 h5 [o, nb, vb, sp, kn] := (Keep.refl h0 [o, nb, vb, sp, kn]).trans K5 (allS (P := fun x => x ∈ [o, nb, vb, sp, kn] ∨ h0.size ≤ x) (Or.inl (List.mem_of_getElem? (i := 0) rfl)) (allS (P := fun x => x ∈ [o, nb, vb, sp, kn] ∨ h0.size ≤ x) (Or.inl (List.mem_of_getElem? (i := 1) rfl)) (allS (P := fun x => x ∈ [o, nb, vb, sp, kn] ∨ h0.size ≤ x) (Or.inl (List.mem_of_getElem? (i := 2) rfl)) (allS (P := fun x => x ∈ [o, nb, vb, sp, kn] ∨ h0.size ≤ x) (Or.inl (List.mem_of_getElem? (i := 3) rfl)) (allS (P := fun x => x ∈ [o, nb, vb, sp, kn] ∨ h0.size ≤ x) (Or.inl (List.mem_of_getElem? (i := 4) rfl)) all0)))))
  refine Go.tr st5 ?_
  show Go pg.tables ev below (T5.setTop (mkF mi 36 #[.val (.ref o), .val (.ref hd), .val (.int p), .val (.int (fNS p)), .val (.int (fVS p))] [])) P
  obtain ⟨fs, hr, hrun, hended, hW, hsame⟩ := X5.leave (v := none) (fun _ => rfl) (BodyLoose.notSynchronized Bd)
  refine ⟨_, _, ?_, hP _ _ ⟨hrun, hended, _, _, rfl, ?_, ⟨_, rfl⟩, hW, hsame.mono (by decide) (by decide)⟩⟩
  · exact X5.returnOut hx Bd.returns (hb hby d_method_6_36) hr
  · show (none : Option Value) = none ∧ Fr n0 _ ∧ Keep h0 T5.heap [o, nb, vb, sp, kn] ∧ Fld Z T5.heap o "com/example/gatewright/gatewright/Fields" "nameBytes" "[[B" (.ref nb) ∧ Fld Z T5.heap o "com/example/gatewright/gatewright/Fields" "valueBytes" "[[B" (.ref vb) ∧ Fld Z T5.heap o "com/example/gatewright/gatewright/Fields" "spans" "[I" (.ref sp) ∧ Fld Z T5.heap o "com/example/gatewright/gatewright/Fields" "known" "[Lcom/example/gatewright/gatewright/FieldName;" (.ref kn) ∧ Fld Z T5.heap o "com/example/gatewright/gatewright/Fields" "size" "I" (.int (3 : Int32)) ∧ Arv Z T5.heap nb kN (.array .byte) (8 : Int32) (vN.set 2 (.ref hd)) .null ∧ Arv Z T5.heap vb kV (.array .byte) (8 : Int32) (vV.set 2 (.ref hd)) .null ∧ Arv Z T5.heap sp kS .int (32 : Int32) ((((vS.set 8 (.int (fNS p))).set 9 (.int ((fNS p) + (fNL p)))).set 10 (.int (fVS p))).set 11 (.int ((fVS p) + (fVL p)))) (.int (0 : Int32)) ∧ Arv Z T5.heap kn kK (.object "com/example/gatewright/gatewright/FieldName") (8 : Int32) (vK.set 2 .null) .null
    rw [e5]
    exact ⟨rfl, N5, KC6, FA5_0, FA5_1, FA5_2, FA5_3, FA5_4, AA5_nb, AA5_vb, AA5_sp, AA5_kn⟩
theorem d_prog_5_method_21_0 : decode prog_5_method_21_code 0 = .ok (.iconst 0, 1) := by decide +kernel
theorem d_prog_5_method_21_1 : decode prog_5_method_21_code 1 = .ok (.istore_n 1, 1) := by decide +kernel
theorem d_prog_5_method_21_2 : decode prog_5_method_21_code 2 = .ok (.iconst 0, 1) := by decide +kernel
theorem d_prog_5_method_21_3 : decode prog_5_method_21_code 3 = .ok (.istore_n 2, 1) := by decide +kernel
theorem d_prog_5_method_21_4 : decode prog_5_method_21_code 4 = .ok (.iload_n 2, 1) := by decide +kernel
theorem d_prog_5_method_21_5 : decode prog_5_method_21_code 5 = .ok (.aload_n 0, 1) := by decide +kernel
theorem d_prog_5_method_21_6 : decode prog_5_method_21_code 6 = .ok (.getfield 63, 3) := by decide +kernel
theorem d_prog_5_method_21_9 : decode prog_5_method_21_code 9 = .ok (.if_icmp .ge 51, 3) := by decide +kernel
theorem d_prog_5_method_21_60 : decode prog_5_method_21_code 60 = .ok (.iload_n 1, 1) := by decide +kernel
theorem d_prog_5_method_21_61 : decode prog_5_method_21_code 61 = .ok (.ireturn, 1) := by decide +kernel
theorem ef_rmZ0 (mi : MethodId) (o : Addr) (sp : Addr) (kS : ClassId) (vR : List Value) : entryFrame mi #[(.ref o)] 4 = mkF mi 0 #[.val (.ref o), .unset, .unset, .unset] [] := by first | (simp [entryFrame, mkF, argsToLocals, Value.category]; done) | rfl
def fZ0  : Int32 := (0 : Int32)
def Q_rmZ0 (Z : State) (o : Addr) (sp : Addr) (kS : ClassId) (vR : List Value) (h0 : Heap) (n0 : Nat) (vv_ : Option Value) (hh_ : Heap) (LL_ : List Loc) : Prop := vv_ = some (.int (fZ0 )) ∧ Fr n0 LL_ ∧ hh_ = h0
set_option maxRecDepth 65536 in
set_option maxHeartbeats 40000000 in
theorem rmZ0 (l : Launch) (Z : State) (a0 : Array Value) (hw : ∀ d ∈ tables_1, d.before a0 Z = true) (ws : List Jvm.Cond) (o : Addr) (sp : Addr) (kS : ClassId) (vR : List Value) (h0 : Heap) (n0 : Nat) (Z0 : n0 ≤ h0.size) (F2 : Fld Z h0 o "com/example/gatewright/gatewright/Fields" "spans" "[I" (.ref sp)) (F4 : Fld Z h0 o "com/example/gatewright/gatewright/Fields" "size" "I" (.int (0 : Int32))) (A_sp : Arv Z h0 sp kS .int (32 : Int32) (vR) (.int (0 : Int32))) :
    MetFree l (⟨"com/example/gatewright/gatewright/Fields", "encodedSize", "()I"⟩ : MethodName) (head1 (Jvm.Cond.code (⟨"com/example/gatewright/gatewright/Fields", "encodedSize", "()I"⟩ : MethodName) prog_5_method_21_code 4 (some .int) :: ws) ({ frames := 0, cells := 0, slots := 0, locals := 0 } : Room)) (fun aa_ U => aa_ = #[(.ref o)] ∧ Z.Warmed39 U.vm ∧ U.heap = h0) (fun _ _ _ _ _ => True) (fun _ U oo_ UV_ => ∃ vv_ LL_, oo_ = .returned vv_ ∧ Q_rmZ0 Z o sp kS vR h0 n0 vv_ UV_.heap LL_ ∧ FrameEnd U oo_ UV_ LL_ ({ frames := 0, cells := 0, slots := 0, locals := 0 } : Room).cells ({ frames := 0, cells := 0, slots := 0, locals := 0 } : Room).slots) := by
  refine MetFree.of_bodySF (plainFor_of_name pn_1) hisR ?_
  intro pg ev si mi args below meth ci s₁ Bd hml0 hP0 hK
  obtain ⟨rfl, hZ, hh⟩ := hP0
  have hx := Bd.exec
  have hby := Bd.bytes
  have hml : ci.maxLocals = 4 := hml0
  have hown : si.vm.findClass "com/example/gatewright/gatewright/Fields" = some mi.cls := findClass_of_methodNamed Bd.named
  have hnm := (name_of_methodNamed Bd.named Bd.method).1
  have X0 : Stand pg l ev ({ frames := 0, cells := 0, slots := 0, locals := 0 } : Room) si mi #[(.ref o)] below meth ci s₁ [] 0 0 := Stand.of_body Bd
  have e0 : s₁.heap = h0 := by rw [← hh, Bd.state]; rfl
  have N0 := Fr.nil n0
  refine Go.start (fun P hP => ?_)
  refine Go.st (fun t_ k_ => castTop (ef_rmZ0 mi o sp kS vR) k_) (A := s₁.setTop (mkF mi 0 #[.val (.ref o), .unset, .unset, .unset] [])) ?_
  show Go pg.tables ev below (s₁.setTop (mkF mi 0 #[.val (.ref o), .unset, .unset, .unset] [])) P
  refine Go.st (fun t_ k_ => XS.iconst X0.here hx rfl (hb hby d_prog_5_method_21_0) k_) ?_
  show Go pg.tables ev below (s₁.setTop (mkF mi 1 #[.val (.ref o), .unset, .unset, .unset] [(.int (0 : Int32))])) P
  refine Go.st (fun t_ k_ => XS.istoreN X0.here hx rfl (hb hby d_prog_5_method_21_1) rfl (l' := #[.val (.ref o), .val (.int (0 : Int32)), .unset, .unset]) rfl k_) ?_
  show Go pg.tables ev below (s₁.setTop (mkF mi 2 #[.val (.ref o), .val (.int (0 : Int32)), .unset, .unset] [])) P
  refine Go.st (fun t_ k_ => XS.iconst X0.here hx rfl (hb hby d_prog_5_method_21_2) k_) ?_
  show Go pg.tables ev below (s₁.setTop (mkF mi 3 #[.val (.ref o), .val (.int (0 : Int32)), .unset, .unset] [(.int (0 : Int32))])) P
  refine Go.st (fun t_ k_ => XS.istoreN X0.here hx rfl (hb hby d_prog_5_method_21_3) rfl (l' := #[.val (.ref o), .val (.int (0 : Int32)), .val (.int (0 : Int32)), .unset]) rfl k_) ?_
  show Go pg.tables ev below (s₁.setTop (mkF mi 4 #[.val (.ref o), .val (.int (0 : Int32)), .val (.int (0 : Int32)), .unset] [])) P
  refine Go.st (fun t_ k_ => XS.iloadN X0.here hx rfl (hb hby d_prog_5_method_21_4) rfl k_) ?_
  show Go pg.tables ev below (s₁.setTop (mkF mi 5 #[.val (.ref o), .val (.int (0 : Int32)), .val (.int (0 : Int32)), .unset] [(.int (0 : Int32))])) P
  refine Go.st (fun t_ k_ => XS.aloadN X0.here hx rfl (hb hby d_prog_5_method_21_5) rfl rfl k_) ?_
  show Go pg.tables ev below (s₁.setTop (mkF mi 6 #[.val (.ref o), .val (.int (0 : Int32)), .val (.int (0 : Int32)), .unset] [(.ref o), (.int (0 : Int32))])) P
  obtain ⟨T1, X1, e1, st1⟩ := getF X0 hx hZ hown (host := "") (Or.inl (hw _ (List.mem_of_getElem? (i := 28) rfl))) Via.refl e0 F4 (g := (mkF mi 6 #[.val (.ref o), .val (.int (0 : Int32)), .val (.int (0 : Int32)), .unset] [(.ref o), (.int (0 : Int32))])) rfl rfl (hb hby d_prog_5_method_21_6)
  refine Go.st st1 ?_
  show Go pg.tables ev below (T1.setTop (mkF mi 9 #[.val (.ref o), .val (.int (0 : Int32)), .val (.int (0 : Int32)), .unset] [(.int (0 : Int32)), (.int (0 : Int32))])) P
  refine Go.st (fun t_ k_ => XS.icmpYes X1.here hx rfl (pc0 := 9) (pc' := 60) rfl (hb hby d_prog_5_method_21_9) rfl (flt (by decide)).2.1 (by decide) (by decide) k_) ?_
  show Go pg.tables ev below (T1.setTop (mkF mi 60 #[.val (.ref o), .val (.int (0 : Int32)), .val (.int (0 : Int32)), .unset] [])) P
  refine Go.st (fun t_ k_ => XS.iloadN X1.here hx rfl (hb hby d_prog_5_method_21_60) rfl k_) ?_
  show Go pg.tables ev below (T1.setTop (mkF mi 61 #[.val (.ref o), .val (.int (0 : Int32)), .val (.int (0 : Int32)), .unset] [(.int (0 : Int32))])) P
  obtain ⟨fs, hr, hrun, hended, hW, hsame⟩ := X1.leave (v := some (.int (0 : Int32))) (fun h => by rw [Bd.returns] at h; cases h) (BodyLoose.notSynchronized Bd)
  refine ⟨_, _, ?_, hP _ _ ⟨hrun, hended, _, _, rfl, ?_, ⟨_, rfl⟩, hW, hsame.mono (by decide) (by decide)⟩⟩
  · exact retI X1 hx Bd.returns (hb hby d_prog_5_method_21_61) hr
  · show (some (.int (0 : Int32)) : Option Value) = some (.int (fZ0 )) ∧ Fr n0 _ ∧ T1.heap = h0
    rw [e1]
    exact ⟨rfl, N0, rfl⟩
theorem d_prog_5_method_21_12 : decode prog_5_method_21_code 12 = .ok (.iconst 4, 1) := by decide +kernel
theorem d_prog_5_method_21_13 : decode prog_5_method_21_code 13 = .ok (.iload_n 2, 1) := by decide +kernel
theorem d_prog_5_method_21_14 : decode prog_5_method_21_code 14 = .ok (.imul, 1) := by decide +kernel
theorem d_prog_5_method_21_15 : decode prog_5_method_21_code 15 = .ok (.istore_n 3, 1) := by decide +kernel
theorem d_prog_5_method_21_16 : decode prog_5_method_21_code 16 = .ok (.iload_n 1, 1) := by decide +kernel
theorem d_prog_5_method_21_17 : decode prog_5_method_21_code 17 = .ok (.aload_n 0, 1) := by decide +kernel
theorem d_prog_5_method_21_18 : decode prog_5_method_21_code 18 = .ok (.getfield 18, 3) := by decide +kernel
theorem d_prog_5_method_21_21 : decode prog_5_method_21_code 21 = .ok (.iload_n 3, 1) := by decide +kernel
theorem d_prog_5_method_21_22 : decode prog_5_method_21_code 22 = .ok (.iconst 1, 1) := by decide +kernel
theorem d_prog_5_method_21_23 : decode prog_5_method_21_code 23 = .ok (.iadd, 1) := by decide +kernel
theorem d_prog_5_method_21_24 : decode prog_5_method_21_code 24 = .ok (.iaload, 1) := by decide +kernel
theorem d_prog_5_method_21_25 : decode prog_5_method_21_code 25 = .ok (.aload_n 0, 1) := by decide +kernel
theorem d_prog_5_method_21_26 : decode prog_5_method_21_code 26 = .ok (.getfield 18, 3) := by decide +kernel
theorem d_prog_5_method_21_29 : decode prog_5_method_21_code 29 = .ok (.iload_n 3, 1) := by decide +kernel
theorem d_prog_5_method_21_30 : decode prog_5_method_21_code 30 = .ok (.iaload, 1) := by decide +kernel
theorem d_prog_5_method_21_31 : decode prog_5_method_21_code 31 = .ok (.isub, 1) := by decide +kernel
theorem d_prog_5_method_21_32 : decode prog_5_method_21_code 32 = .ok (.aload_n 0, 1) := by decide +kernel
theorem d_prog_5_method_21_33 : decode prog_5_method_21_code 33 = .ok (.getfield 18, 3) := by decide +kernel
theorem d_prog_5_method_21_36 : decode prog_5_method_21_code 36 = .ok (.iload_n 3, 1) := by decide +kernel
theorem d_prog_5_method_21_37 : decode prog_5_method_21_code 37 = .ok (.iconst 3, 1) := by decide +kernel
theorem d_prog_5_method_21_38 : decode prog_5_method_21_code 38 = .ok (.iadd, 1) := by decide +kernel
theorem d_prog_5_method_21_39 : decode prog_5_method_21_code 39 = .ok (.iaload, 1) := by decide +kernel
theorem d_prog_5_method_21_40 : decode prog_5_method_21_code 40 = .ok (.iadd, 1) := by decide +kernel
theorem d_prog_5_method_21_41 : decode prog_5_method_21_code 41 = .ok (.aload_n 0, 1) := by decide +kernel
theorem d_prog_5_method_21_42 : decode prog_5_method_21_code 42 = .ok (.getfield 18, 3) := by decide +kernel
theorem d_prog_5_method_21_45 : decode prog_5_method_21_code 45 = .ok (.iload_n 3, 1) := by decide +kernel
theorem d_prog_5_method_21_46 : decode prog_5_method_21_code 46 = .ok (.iconst 2, 1) := by decide +kernel
theorem d_prog_5_method_21_47 : decode prog_5_method_21_code 47 = .ok (.iadd, 1) := by decide +kernel
theorem d_prog_5_method_21_48 : decode prog_5_method_21_code 48 = .ok (.iaload, 1) := by decide +kernel
theorem d_prog_5_method_21_49 : decode prog_5_method_21_code 49 = .ok (.isub, 1) := by decide +kernel
theorem d_prog_5_method_21_50 : decode prog_5_method_21_code 50 = .ok (.iconst 4, 1) := by decide +kernel
theorem d_prog_5_method_21_51 : decode prog_5_method_21_code 51 = .ok (.iadd, 1) := by decide +kernel
theorem d_prog_5_method_21_52 : decode prog_5_method_21_code 52 = .ok (.iadd, 1) := by decide +kernel
theorem d_prog_5_method_21_53 : decode prog_5_method_21_code 53 = .ok (.istore_n 1, 1) := by decide +kernel
theorem d_prog_5_method_21_54 : decode prog_5_method_21_code 54 = .ok (.iinc 2 1, 3) := by decide +kernel
theorem d_prog_5_method_21_57 : decode prog_5_method_21_code 57 = .ok (.goto (-53), 3) := by decide +kernel
theorem ef_rmZ1 (mi : MethodId) (o : Addr) (sp : Addr) (kS : ClassId) (u0 : Int32) (u1 : Int32) (u2 : Int32) (u3 : Int32) (vR : List Value) : entryFrame mi #[(.ref o)] 4 = mkF mi 0 #[.val (.ref o), .unset, .unset, .unset] [] := by first | (simp [entryFrame, mkF, argsToLocals, Value.category]; done) | rfl
def fZ1 (u0 u1 u2 u3 : Int32) : Int32 := ((0 : Int32) + ((((u1 - u0) + u3) - u2) + (4 : Int32)))
def Q_rmZ1 (Z : State) (o : Addr) (sp : Addr) (kS : ClassId) (u0 : Int32) (u1 : Int32) (u2 : Int32) (u3 : Int32) (vR : List Value) (h0 : Heap) (n0 : Nat) (vv_ : Option Value) (hh_ : Heap) (LL_ : List Loc) : Prop := vv_ = some (.int (fZ1 u0 u1 u2 u3)) ∧ Fr n0 LL_ ∧ hh_ = h0
set_option maxRecDepth 65536 in
set_option maxHeartbeats 40000000 in
theorem rmZ1 (l : Launch) (Z : State) (a0 : Array Value) (hw : ∀ d ∈ tables_1, d.before a0 Z = true) (ws : List Jvm.Cond) (o : Addr) (sp : Addr) (kS : ClassId) (u0 : Int32) (u1 : Int32) (u2 : Int32) (u3 : Int32) (vR : List Value) (h0 : Heap) (n0 : Nat) (Z0 : n0 ≤ h0.size) (F2 : Fld Z h0 o "com/example/gatewright/gatewright/Fields" "spans" "[I" (.ref sp)) (F4 : Fld Z h0 o "com/example/gatewright/gatewright/Fields" "size" "I" (.int (1 : Int32))) (A_sp : Arv Z h0 sp kS .int (32 : Int32) ((.int u0) :: (.int u1) :: (.int u2) :: (.int u3) :: vR) (.int (0 : Int32))) :
    MetFree l (⟨"com/example/gatewright/gatewright/Fields", "encodedSize", "()I"⟩ : MethodName) (head1 (Jvm.Cond.code (⟨"com/example/gatewright/gatewright/Fields", "encodedSize", "()I"⟩ : MethodName) prog_5_method_21_code 4 (some .int) :: ws) ({ frames := 0, cells := 0, slots := 0, locals := 0 } : Room)) (fun aa_ U => aa_ = #[(.ref o)] ∧ Z.Warmed39 U.vm ∧ U.heap = h0) (fun _ _ _ _ _ => True) (fun _ U oo_ UV_ => ∃ vv_ LL_, oo_ = .returned vv_ ∧ Q_rmZ1 Z o sp kS u0 u1 u2 u3 vR h0 n0 vv_ UV_.heap LL_ ∧ FrameEnd U oo_ UV_ LL_ ({ frames := 0, cells := 0, slots := 0, locals := 0 } : Room).cells ({ frames := 0, cells := 0, slots := 0, locals := 0 } : Room).slots) := by
  refine MetFree.of_bodySF (plainFor_of_name pn_1) hisR ?_
  intro pg ev si mi args below meth ci s₁ Bd hml0 hP0 hK
  obtain ⟨rfl, hZ, hh⟩ := hP0
  have hx := Bd.exec
  have hby := Bd.bytes
  have hml : ci.maxLocals = 4 := hml0
  have hown : si.vm.findClass "com/example/gatewright/gatewright/Fields" = some mi.cls := findClass_of_methodNamed Bd.named
  have hnm := (name_of_methodNamed Bd.named Bd.method).1
  have X0 : Stand pg l ev ({ frames := 0, cells := 0, slots := 0, locals := 0 } : Room) si mi #[(.ref o)] below meth ci s₁ [] 0 0 := Stand.of_body Bd
  have e0 : s₁.heap = h0 := by rw [← hh, Bd.state]; rfl
  have N0 := Fr.nil n0
  refine Go.start (fun P hP => ?_)
  refine Go.st (fun t_ k_ => castTop (ef_rmZ1 mi o sp kS u0 u1 u2 u3 vR) k_) (A := s₁.setTop (mkF mi 0 #[.val (.ref o), .unset, .unset, .unset] [])) ?_
  show Go pg.tables ev below (s₁.setTop (mkF mi 0 #[.val (.ref o), .unset, .unset, .unset] [])) P
  refine Go.st (fun t_ k_ => XS.iconst X0.here hx rfl (hb hby d_prog_5_method_21_0) k_) ?_
  show Go pg.tables ev below (s₁.setTop (mkF mi 1 #[.val (.ref o), .unset, .unset, .unset] [(.int (0 : Int32))])) P
  refine Go.st (fun t_ k_ => XS.istoreN X0.here hx rfl (hb hby d_prog_5_method_21_1) rfl (l' := #[.val (.ref o), .val (.int (0 : Int32)), .unset, .unset]) rfl k_) ?_
  show Go pg.tables ev below (s₁.setTop (mkF mi 2 #[.val (.ref o), .val (.int (0 : Int32)), .unset, .unset] [])) P
  refine Go.st (fun t_ k_ => XS.iconst X0.here hx rfl (hb hby d_prog_5_method_21_2) k_) ?_
  show Go pg.tables ev below (s₁.setTop (mkF mi 3 #[.val (.ref o), .val (.int (0 : Int32)), .unset, .unset] [(.int (0 : Int32))])) P
  refine Go.st (fun t_ k_ => XS.istoreN X0.here hx rfl (hb hby d_prog_5_method_21_3) rfl (l' := #[.val (.ref o), .val (.int (0 : Int32)), .val (.int (0 : Int32)), .unset]) rfl k_) ?_
  show Go pg.tables ev below (s₁.setTop (mkF mi 4 #[.val (.ref o), .val (.int (0 : Int32)), .val (.int (0 : Int32)), .unset] [])) P
  refine Go.st (fun t_ k_ => XS.iloadN X0.here hx rfl (hb hby d_prog_5_method_21_4) rfl k_) ?_
  show Go pg.tables ev below (s₁.setTop (mkF mi 5 #[.val (.ref o), .val (.int (0 : Int32)), .val (.int (0 : Int32)), .unset] [(.int (0 : Int32))])) P
  refine Go.st (fun t_ k_ => XS.aloadN X0.here hx rfl (hb hby d_prog_5_method_21_5) rfl rfl k_) ?_
  show Go pg.tables ev below (s₁.setTop (mkF mi 6 #[.val (.ref o), .val (.int (0 : Int32)), .val (.int (0 : Int32)), .unset] [(.ref o), (.int (0 : Int32))])) P
  obtain ⟨T1, X1, e1, st1⟩ := getF X0 hx hZ hown (host := "") (Or.inl (hw _ (List.mem_of_getElem? (i := 28) rfl))) Via.refl e0 F4 (g := (mkF mi 6 #[.val (.ref o), .val (.int (0 : Int32)), .val (.int (0 : Int32)), .unset] [(.ref o), (.int (0 : Int32))])) rfl rfl (hb hby d_prog_5_method_21_6)
  refine Go.st st1 ?_
  show Go pg.tables ev below (T1.setTop (mkF mi 9 #[.val (.ref o), .val (.int (0 : Int32)), .val (.int (0 : Int32)), .unset] [(.int (1 : Int32)), (.int (0 : Int32))])) P
  refine Go.st (fun t_ k_ => XS.icmpNo X1.here hx rfl (hb hby d_prog_5_method_21_9) rfl (tlt (by decide)).2.1 k_) ?_
  show Go pg.tables ev below (T1.setTop (mkF mi 12 #[.val (.ref o), .val (.int (0 : Int32)), .val (.int (0 : Int32)), .unset] [])) P
  refine Go.st (fun t_ k_ => XS.iconst X1.here hx rfl (hb hby d_prog_5_method_21_12) k_) ?_
  show Go pg.tables ev below (T1.setTop (mkF mi 13 #[.val (.ref o), .val (.int (0 : Int32)), .val (.int (0 : Int32)), .unset] [(.int (4 : Int32))])) P
  refine Go.st (fun t_ k_ => XS.iloadN X1.here hx rfl (hb hby d_prog_5_method_21_13) rfl k_) ?_
  show Go pg.tables ev below (T1.setTop (mkF mi 14 #[.val (.ref o), .val (.int (0 : Int32)), .val (.int (0 : Int32)), .unset] [(.int (0 : Int32)), (.int (4 : Int32))])) P
  refine Go.st (fun t_ k_ => XS.imul X1.here hx rfl (hb hby d_prog_5_method_21_14) rfl k_) ?_
  show Go pg.tables ev below (T1.setTop (mkF mi 15 #[.val (.ref o), .val (.int (0 : Int32)), .val (.int (0 : Int32)), .unset] [(.int (0 : Int32))])) P
  refine Go.st (fun t_ k_ => XS.istoreN X1.here hx rfl (hb hby d_prog_5_method_21_15) rfl (l' := #[.val (.ref o), .val (.int (0 : Int32)), .val (.int (0 : Int32)), .val (.int (0 : Int32))]) rfl k_) ?_
  show Go pg.tables ev below (T1.setTop (mkF mi 16 #[.val (.ref o), .val (.int (0 : Int32)), .val (.int (0 : Int32)), .val (.int (0 : Int32))] [])) P
  refine Go.st (fun t_ k_ => XS.iloadN X1.here hx rfl (hb hby d_prog_5_method_21_16) rfl k_) ?_
  show Go pg.tables ev below (T1.setTop (mkF mi 17 #[.val (.ref o), .val (.int (0 : Int32)), .val (.int (0 : Int32)), .val (.int (0 : Int32))] [(.int (0 : Int32))])) P
  refine Go.st (fun t_ k_ => XS.aloadN X1.here hx rfl (hb hby d_prog_5_method_21_17) rfl rfl k_) ?_
  show Go pg.tables ev below (T1.setTop (mkF mi 18 #[.val (.ref o), .val (.int (0 : Int32)), .val (.int (0 : Int32)), .val (.int (0 : Int32))] [(.ref o), (.int (0 : Int32))])) P
  obtain ⟨T2, X2, e2, st2⟩ := getF X1 hx hZ hown (host := "") (Or.inl (hw _ (List.mem_of_getElem? (i := 17) rfl))) Via.refl e1 F2 (g := (mkF mi 18 #[.val (.ref o), .val (.int (0 : Int32)), .val (.int (0 : Int32)), .val (.int (0 : Int32))] [(.ref o), (.int (0 : Int32))])) rfl rfl (hb hby d_prog_5_method_21_18)
  refine Go.st st2 ?_
  show Go pg.tables ev below (T2.setTop (mkF mi 21 #[.val (.ref o), .val (.int (0 : Int32)), .val (.int (0 : Int32)), .val (.int (0 : Int32))] [(.ref sp), (.int (0 : Int32))])) P
  refine Go.st (fun t_ k_ => XS.iloadN X2.here hx rfl (hb hby d_prog_5_method_21_21) rfl k_) ?_
  show Go pg.tables ev below (T2.setTop (mkF mi 22 #[.val (.ref o), .val (.int (0 : Int32)), .val (.int (0 : Int32)), .val (.int (0 : Int32))] [(.int (0 : Int32)), (.ref sp), (.int (0 : Int32))])) P
  refine Go.st (fun t_ k_ => XS.iconst X2.here hx rfl (hb hby d_prog_5_method_21_22) k_) ?_
  show Go pg.tables ev below (T2.setTop (mkF mi 23 #[.val (.ref o), .val (.int (0 : Int32)), .val (.int (0 : Int32)), .val (.int (0 : Int32))] [(.int (1 : Int32)), (.int (0 : Int32)), (.ref sp), (.int (0 : Int32))])) P
  refine Go.st (fun t_ k_ => XS.iadd X2.here hx rfl (hb hby d_prog_5_method_21_23) rfl k_) ?_
  show Go pg.tables ev below (T2.setTop (mkF mi 24 #[.val (.ref o), .val (.int (0 : Int32)), .val (.int (0 : Int32)), .val (.int (0 : Int32))] [(.int (1 : Int32)), (.ref sp), (.int (0 : Int32))])) P
  have ov3 := A_sp
  obtain ⟨cl3, Ar3, q3, S3, M3, H3, G3⟩ := ov3
  have hin3 : ¬ ((1 : Int32) < 0 ∨ cl3.slots.size ≤ ((1 : Int32)).toNatClampNeg) := inb_of S3 ⟨by decide, by decide⟩
  have hat3 : cl3.slots[((1 : Int32)).toNatClampNeg]? = some (.int u1) := Has.at H3 hin3 rfl
  refine Go.st (X2.iaload hx (j := (1 : Int32)) (v := (.int u1)) (by rw [e2]; exact Ar3.1) (State.isArrayOf_alike hZ.alike Ar3.2.1) Ar3.2.2 hin3 hat3 (g := (mkF mi 24 #[.val (.ref o), .val (.int (0 : Int32)), .val (.int (0 : Int32)), .val (.int (0 : Int32))] [(.int (1 : Int32)), (.ref sp), (.int (0 : Int32))])) rfl rfl (hb hby d_prog_5_method_21_24)) ?_
  show Go pg.tables ev below (T2.setTop (mkF mi 25 #[.val (.ref o), .val (.int (0 : Int32)), .val (.int (0 : Int32)), .val (.int (0 : Int32))] [(.int u1), (.int (0 : Int32))])) P
  refine Go.st (fun t_ k_ => XS.aloadN X2.here hx rfl (hb hby d_prog_5_method_21_25) rfl rfl k_) ?_
  show Go pg.tables ev below (T2.setTop (mkF mi 26 #[.val (.ref o), .val (.int (0 : Int32)), .val (.int (0 : Int32)), .val (.int (0 : Int32))] [(.ref o), (.int u1), (.int (0 : Int32))])) P
  obtain ⟨T4, X4, e4, st4⟩ := getF X2 hx hZ hown (host := "") (Or.inl (hw _ (List.mem_of_getElem? (i := 17) rfl))) Via.refl e2 F2 (g := (mkF mi 26 #[.val (.ref o), .val (.int (0 : Int32)), .val (.int (0 : Int32)), .val (.int (0 : Int32))] [(.ref o), (.int u1), (.int (0 : Int32))])) rfl rfl (hb hby d_prog_5_method_21_26)
  refine Go.st st4 ?_
  show Go pg.tables ev below (T4.setTop (mkF mi 29 #[.val (.ref o), .val (.int (0 : Int32)), .val (.int (0 : Int32)), .val (.int (0 : Int32))] [(.ref sp), (.int u1), (.int (0 : Int32))])) P
  refine Go.st (fun t_ k_ => XS.iloadN X4.here hx rfl (hb hby d_prog_5_method_21_29) rfl k_) ?_
  show Go pg.tables ev below (T4.setTop (mkF mi 30 #[.val (.ref o), .val (.int (0 : Int32)), .val (.int (0 : Int32)), .val (.int (0 : Int32))] [(.int (0 : Int32)), (.ref sp), (.int u1), (.int (0 : Int32))])) P
  have ov5 := A_sp
  obtain ⟨cl5, Ar5, q5, S5, M5, H5, G5⟩ := ov5
  have hin5 : ¬ ((0 : Int32) < 0 ∨ cl5.slots.size ≤ ((0 : Int32)).toNatClampNeg) := inb_of S5 ⟨by decide, by decide⟩
  have hat5 : cl5.slots[((0 : Int32)).toNatClampNeg]? = some (.int u0) := Has.at H5 hin5 rfl
  refine Go.st (X4.iaload hx (j := (0 : Int32)) (v := (.int u0)) (by rw [e4]; exact Ar5.1) (State.isArrayOf_alike hZ.alike Ar5.2.1) Ar5.2.2 hin5 hat5 (g := (mkF mi 30 #[.val (.ref o), .val (.int (0 : Int32)), .val (.int (0 : Int32)), .val (.int (0 : Int32))] [(.int (0 : Int32)), (.ref sp), (.int u1), (.int (0 : Int32))])) rfl rfl (hb hby d_prog_5_method_21_30)) ?_
  show Go pg.tables ev below (T4.setTop (mkF mi 31 #[.val (.ref o), .val (.int (0 : Int32)), .val (.int (0 : Int32)), .val (.int (0 : Int32))] [(.int u0), (.int u1), (.int (0 : Int32))])) P
  refine Go.st (fun t_ k_ => XS.isub X4.here hx rfl (hb hby d_prog_5_method_21_31) rfl k_) ?_
  show Go pg.tables ev below (T4.setTop (mkF mi 32 #[.val (.ref o), .val (.int (0 : Int32)), .val (.int (0 : Int32)), .val (.int (0 : Int32))] [(.int (u1 - u0)), (.int (0 : Int32))])) P
  refine Go.st (fun t_ k_ => XS.aloadN X4.here hx rfl (hb hby d_prog_5_method_21_32) rfl rfl k_) ?_
  show Go pg.tables ev below (T4.setTop (mkF mi 33 #[.val (.ref o), .val (.int (0 : Int32)), .val (.int (0 : Int32)), .val (.int (0 : Int32))] [(.ref o), (.int (u1 - u0)), (.int (0 : Int32))])) P
  obtain ⟨T6, X6, e6, st6⟩ := getF X4 hx hZ hown (host := "") (Or.inl (hw _ (List.mem_of_getElem? (i := 17) rfl))) Via.refl e4 F2 (g := (mkF mi 33 #[.val (.ref o), .val (.int (0 : Int32)), .val (.int (0 : Int32)), .val (.int (0 : Int32))] [(.ref o), (.int (u1 - u0)), (.int (0 : Int32))])) rfl rfl (hb hby d_prog_5_method_21_33)
  refine Go.st st6 ?_
  show Go pg.tables ev below (T6.setTop (mkF mi 36 #[.val (.ref o), .val (.int (0 : Int32)), .val (.int (0 : Int32)), .val (.int (0 : Int32))] [(.ref sp), (.int (u1 - u0)), (.int (0 : Int32))])) P
  refine Go.st (fun t_ k_ => XS.iloadN X6.here hx rfl (hb hby d_prog_5_method_21_36) rfl k_) ?_
  show Go pg.tables ev below (T6.setTop (mkF mi 37 #[.val (.ref o), .val (.int (0 : Int32)), .val (.int (0 : Int32)), .val (.int (0 : Int32))] [(.int (0 : Int32)), (.ref sp), (.int (u1 - u0)), (.int (0 : Int32))])) P
  refine Go.st (fun t_ k_ => XS.iconst X6.here hx rfl (hb hby d_prog_5_method_21_37) k_) ?_
  show Go pg.tables ev below (T6.setTop (mkF mi 38 #[.val (.ref o), .val (.int (0 : Int32)), .val (.int (0 : Int32)), .val (.int (0 : Int32))] [(.int (3 : Int32)), (.int (0 : Int32)), (.ref sp), (.int (u1 - u0)), (.int (0 : Int32))])) P
  refine Go.st (fun t_ k_ => XS.iadd X6.here hx rfl (hb hby d_prog_5_method_21_38) rfl k_) ?_
  show Go pg.tables ev below (T6.setTop (mkF mi 39 #[.val (.ref o), .val (.int (0 : Int32)), .val (.int (0 : Int32)), .val (.int (0 : Int32))] [(.int (3 : Int32)), (.ref sp), (.int (u1 - u0)), (.int (0 : Int32))])) P
  have ov7 := A_sp
  obtain ⟨cl7, Ar7, q7, S7, M7, H7, G7⟩ := ov7
  have hin7 : ¬ ((3 : Int32) < 0 ∨ cl7.slots.size ≤ ((3 : Int32)).toNatClampNeg) := inb_of S7 ⟨by decide, by decide⟩
  have hat7 : cl7.slots[((3 : Int32)).toNatClampNeg]? = some (.int u3) := Has.at H7 hin7 rfl
  refine Go.st (X6.iaload hx (j := (3 : Int32)) (v := (.int u3)) (by rw [e6]; exact Ar7.1) (State.isArrayOf_alike hZ.alike Ar7.2.1) Ar7.2.2 hin7 hat7 (g := (mkF mi 39 #[.val (.ref o), .val (.int (0 : Int32)), .val (.int (0 : Int32)), .val (.int (0 : Int32))] [(.int (3 : Int32)), (.ref sp), (.int (u1 - u0)), (.int (0 : Int32))])) rfl rfl (hb hby d_prog_5_method_21_39)) ?_
  show Go pg.tables ev below (T6.setTop (mkF mi 40 #[.val (.ref o), .val (.int (0 : Int32)), .val (.int (0 : Int32)), .val (.int (0 : Int32))] [(.int u3), (.int (u1 - u0)), (.int (0 : Int32))])) P
  refine Go.st (fun t_ k_ => XS.iadd X6.here hx rfl (hb hby d_prog_5_method_21_40) rfl k_) ?_
  show Go pg.tables ev below (T6.setTop (mkF mi 41 #[.val (.ref o), .val (.int (0 : Int32)), .val (.int (0 : Int32)), .val (.int (0 : Int32))] [(.int ((u1 - u0) + u3)), (.int (0 : Int32))])) P
  refine Go.st (fun t_ k_ => XS.aloadN X6.here hx rfl (hb hby d_prog_5_method_21_41) rfl rfl k_) ?_
  show Go pg.tables ev below (T6.setTop (mkF mi 42 #[.val (.ref o), .val (.int (0 : Int32)), .val (.int (0 : Int32)), .val (.int (0 : Int32))] [(.ref o), (.int ((u1 - u0) + u3)), (.int (0 : Int32))])) P
  obtain ⟨T8, X8, e8, st8⟩ := getF X6 hx hZ hown (host := "") (Or.inl (hw _ (List.mem_of_getElem? (i := 17) rfl))) Via.refl e6 F2 (g := (mkF mi 42 #[.val (.ref o), .val (.int (0 : Int32)), .val (.int (0 : Int32)), .val (.int (0 : Int32))] [(.ref o), (.int ((u1 - u0) + u3)), (.int (0 : Int32))])) rfl rfl (hb hby d_prog_5_method_21_42)
  refine Go.st st8 ?_
  show Go pg.tables ev below (T8.setTop (mkF mi 45 #[.val (.ref o), .val (.int (0 : Int32)), .val (.int (0 : Int32)), .val (.int (0 : Int32))] [(.ref sp), (.int ((u1 - u0) + u3)), (.int (0 : Int32))])) P
  refine Go.st (fun t_ k_ => XS.iloadN X8.here hx rfl (hb hby d_prog_5_method_21_45) rfl k_) ?_
  show Go pg.tables ev below (T8.setTop (mkF mi 46 #[.val (.ref o), .val (.int (0 : Int32)), .val (.int (0 : Int32)), .val (.int (0 : Int32))] [(.int (0 : Int32)), (.ref sp), (.int ((u1 - u0) + u3)), (.int (0 : Int32))])) P
  refine Go.st (fun t_ k_ => XS.iconst X8.here hx rfl (hb hby d_prog_5_method_21_46) k_) ?_
  show Go pg.tables ev below (T8.setTop (mkF mi 47 #[.val (.ref o), .val (.int (0 : Int32)), .val (.int (0 : Int32)), .val (.int (0 : Int32))] [(.int (2 : Int32)), (.int (0 : Int32)), (.ref sp), (.int ((u1 - u0) + u3)), (.int (0 : Int32))])) P
  refine Go.st (fun t_ k_ => XS.iadd X8.here hx rfl (hb hby d_prog_5_method_21_47) rfl k_) ?_
  show Go pg.tables ev below (T8.setTop (mkF mi 48 #[.val (.ref o), .val (.int (0 : Int32)), .val (.int (0 : Int32)), .val (.int (0 : Int32))] [(.int (2 : Int32)), (.ref sp), (.int ((u1 - u0) + u3)), (.int (0 : Int32))])) P
  have ov9 := A_sp
  obtain ⟨cl9, Ar9, q9, S9, M9, H9, G9⟩ := ov9
  have hin9 : ¬ ((2 : Int32) < 0 ∨ cl9.slots.size ≤ ((2 : Int32)).toNatClampNeg) := inb_of S9 ⟨by decide, by decide⟩
  have hat9 : cl9.slots[((2 : Int32)).toNatClampNeg]? = some (.int u2) := Has.at H9 hin9 rfl
  refine Go.st (X8.iaload hx (j := (2 : Int32)) (v := (.int u2)) (by rw [e8]; exact Ar9.1) (State.isArrayOf_alike hZ.alike Ar9.2.1) Ar9.2.2 hin9 hat9 (g := (mkF mi 48 #[.val (.ref o), .val (.int (0 : Int32)), .val (.int (0 : Int32)), .val (.int (0 : Int32))] [(.int (2 : Int32)), (.ref sp), (.int ((u1 - u0) + u3)), (.int (0 : Int32))])) rfl rfl (hb hby d_prog_5_method_21_48)) ?_
  show Go pg.tables ev below (T8.setTop (mkF mi 49 #[.val (.ref o), .val (.int (0 : Int32)), .val (.int (0 : Int32)), .val (.int (0 : Int32))] [(.int u2), (.int ((u1 - u0) + u3)), (.int (0 : Int32))])) P
  refine Go.st (fun t_ k_ => XS.isub X8.here hx rfl (hb hby d_prog_5_method_21_49) rfl k_) ?_
  show Go pg.tables ev below (T8.setTop (mkF mi 50 #[.val (.ref o), .val (.int (0 : Int32)), .val (.int (0 : Int32)), .val (.int (0 : Int32))] [(.int (((u1 - u0) + u3) - u2)), (.int (0 : Int32))])) P
  refine Go.st (fun t_ k_ => XS.iconst X8.here hx rfl (hb hby d_prog_5_method_21_50) k_) ?_
  show Go pg.tables ev below (T8.setTop (mkF mi 51 #[.val (.ref o), .val (.int (0 : Int32)), .val (.int (0 : Int32)), .val (.int (0 : Int32))] [(.int (4 : Int32)), (.int (((u1 - u0) + u3) - u2)), (.int (0 : Int32))])) P
  refine Go.st (fun t_ k_ => XS.iadd X8.here hx rfl (hb hby d_prog_5_method_21_51) rfl k_) ?_
  show Go pg.tables ev below (T8.setTop (mkF mi 52 #[.val (.ref o), .val (.int (0 : Int32)), .val (.int (0 : Int32)), .val (.int (0 : Int32))] [(.int ((((u1 - u0) + u3) - u2) + (4 : Int32))), (.int (0 : Int32))])) P
  refine Go.st (fun t_ k_ => XS.iadd X8.here hx rfl (hb hby d_prog_5_method_21_52) rfl k_) ?_
  show Go pg.tables ev below (T8.setTop (mkF mi 53 #[.val (.ref o), .val (.int (0 : Int32)), .val (.int (0 : Int32)), .val (.int (0 : Int32))] [(.int ((0 : Int32) + ((((u1 - u0) + u3) - u2) + (4 : Int32))))])) P
  refine Go.st (fun t_ k_ => XS.istoreN X8.here hx rfl (hb hby d_prog_5_method_21_53) rfl (l' := #[.val (.ref o), .val (.int ((0 : Int32) + ((((u1 - u0) + u3) - u2) + (4 : Int32)))), .val (.int (0 : Int32)), .val (.int (0 : Int32))]) rfl k_) ?_
  show Go pg.tables ev below (T8.setTop (mkF mi 54 #[.val (.ref o), .val (.int ((0 : Int32) + ((((u1 - u0) + u3) - u2) + (4 : Int32)))), .val (.int (0 : Int32)), .val (.int (0 : Int32))] [])) P
  refine Go.st (fun t_ k_ => XS.iinc X8.here hx rfl (hb hby d_prog_5_method_21_54) rfl (l' := #[.val (.ref o), .val (.int ((0 : Int32) + ((((u1 - u0) + u3) - u2) + (4 : Int32)))), .val (.int (1 : Int32)), .val (.int (0 : Int32))]) rfl k_) ?_
  show Go pg.tables ev below (T8.setTop (mkF mi 57 #[.val (.ref o), .val (.int ((0 : Int32) + ((((u1 - u0) + u3) - u2) + (4 : Int32)))), .val (.int (1 : Int32)), .val (.int (0 : Int32))] [])) P
  refine Go.st (fun t_ k_ => XS.goto X8.here hx rfl (pc0 := 57) (pc' := 4) rfl (hb hby d_prog_5_method_21_57) (by decide) (by decide) k_) ?_
  show Go pg.tables ev below (T8.setTop (mkF mi 4 #[.val (.ref o), .val (.int ((0 : Int32) + ((((u1 - u0) + u3) - u2) + (4 : Int32)))), .val (.int (1 : Int32)), .val (.int (0 : Int32))] [])) P
  refine Go.st (fun t_ k_ => XS.iloadN X8.here hx rfl (hb hby d_prog_5_method_21_4) rfl k_) ?_
  show Go pg.tables ev below (T8.setTop (mkF mi 5 #[.val (.ref o), .val (.int ((0 : Int32) + ((((u1 - u0) + u3) - u2) + (4 : Int32)))), .val (.int (1 : Int32)), .val (.int (0 : Int32))] [(.int (1 : Int32))])) P
  refine Go.st (fun t_ k_ => XS.aloadN X8.here hx rfl (hb hby d_prog_5_method_21_5) rfl rfl k_) ?_
  show Go pg.tables ev below (T8.setTop (mkF mi 6 #[.val (.ref o), .val (.int ((0 : Int32) + ((((u1 - u0) + u3) - u2) + (4 : Int32)))), .val (.int (1 : Int32)), .val (.int (0 : Int32))] [(.ref o), (.int (1 : Int32))])) P
  obtain ⟨T10, X10, e10, st10⟩ := getF X8 hx hZ hown (host := "") (Or.inl (hw _ (List.mem_of_getElem? (i := 28) rfl))) Via.refl e8 F4 (g := (mkF mi 6 #[.val (.ref o), .val (.int ((0 : Int32) + ((((u1 - u0) + u3) - u2) + (4 : Int32)))), .val (.int (1 : Int32)), .val (.int (0 : Int32))] [(.ref o), (.int (1 : Int32))])) rfl rfl (hb hby d_prog_5_method_21_6)
  refine Go.st st10 ?_
  show Go pg.tables ev below (T10.setTop (mkF mi 9 #[.val (.ref o), .val (.int ((0 : Int32) + ((((u1 - u0) + u3) - u2) + (4 : Int32)))), .val (.int (1 : Int32)), .val (.int (0 : Int32))] [(.int (1 : Int32)), (.int (1 : Int32))])) P
  refine Go.st (fun t_ k_ => XS.icmpYes X10.here hx rfl (pc0 := 9) (pc' := 60) rfl (hb hby d_prog_5_method_21_9) rfl (flt (by decide)).2.1 (by decide) (by decide) k_) ?_
  show Go pg.tables ev below (T10.setTop (mkF mi 60 #[.val (.ref o), .val (.int ((0 : Int32) + ((((u1 - u0) + u3) - u2) + (4 : Int32)))), .val (.int (1 : Int32)), .val (.int (0 : Int32))] [])) P
  refine Go.st (fun t_ k_ => XS.iloadN X10.here hx rfl (hb hby d_prog_5_method_21_60) rfl k_) ?_
  show Go pg.tables ev below (T10.setTop (mkF mi 61 #[.val (.ref o), .val (.int ((0 : Int32) + ((((u1 - u0) + u3) - u2) + (4 : Int32)))), .val (.int (1 : Int32)), .val (.int (0 : Int32))] [(.int ((0 : Int32) + ((((u1 - u0) + u3) - u2) + (4 : Int32))))])) P
  obtain ⟨fs, hr, hrun, hended, hW, hsame⟩ := X10.leave (v := some (.int ((0 : Int32) + ((((u1 - u0) + u3) - u2) + (4 : Int32))))) (fun h => by rw [Bd.returns] at h; cases h) (BodyLoose.notSynchronized Bd)
  refine ⟨_, _, ?_, hP _ _ ⟨hrun, hended, _, _, rfl, ?_, ⟨_, rfl⟩, hW, hsame.mono (by decide) (by decide)⟩⟩
  · exact retI X10 hx Bd.returns (hb hby d_prog_5_method_21_61) hr
  · show (some (.int ((0 : Int32) + ((((u1 - u0) + u3) - u2) + (4 : Int32)))) : Option Value) = some (.int (fZ1 u0 u1 u2 u3)) ∧ Fr n0 _ ∧ T10.heap = h0
    rw [e10]
    exact ⟨rfl, N0, rfl⟩
theorem ef_rmZ2 (mi : MethodId) (o : Addr) (sp : Addr) (kS : ClassId) (u0 : Int32) (u1 : Int32) (u2 : Int32) (u3 : Int32) (u4 : Int32) (u5 : Int32) (u6 : Int32) (u7 : Int32) (vR : List Value) : entryFrame mi #[(.ref o)] 4 = mkF mi 0 #[.val (.ref o), .unset, .unset, .unset] [] := by first | (simp [entryFrame, mkF, argsToLocals, Value.category]; done) | rfl
def fZ2 (u0 u1 u2 u3 u4 u5 u6 u7 : Int32) : Int32 := (((0 : Int32) + ((((u1 - u0) + u3) - u2) + (4 : Int32))) + ((((u5 - u4) + u7) - u6) + (4 : Int32)))
def Q_rmZ2 (Z : State) (o : Addr) (sp : Addr) (kS : ClassId) (u0 : Int32) (u1 : Int32) (u2 : Int32) (u3 : Int32) (u4 : Int32) (u5 : Int32) (u6 : Int32) (u7 : Int32) (vR : List Value) (h0 : Heap) (n0 : Nat) (vv_ : Option Value) (hh_ : Heap) (LL_ : List Loc) : Prop := vv_ = some (.int (fZ2 u0 u1 u2 u3 u4 u5 u6 u7)) ∧ Fr n0 LL_ ∧ hh_ = h0
set_option maxRecDepth 65536 in
set_option maxHeartbeats 40000000 in
theorem rmZ2 (l : Launch) (Z : State) (a0 : Array Value) (hw : ∀ d ∈ tables_1, d.before a0 Z = true) (ws : List Jvm.Cond) (o : Addr) (sp : Addr) (kS : ClassId) (u0 : Int32) (u1 : Int32) (u2 : Int32) (u3 : Int32) (u4 : Int32) (u5 : Int32) (u6 : Int32) (u7 : Int32) (vR : List Value) (h0 : Heap) (n0 : Nat) (Z0 : n0 ≤ h0.size) (F2 : Fld Z h0 o "com/example/gatewright/gatewright/Fields" "spans" "[I" (.ref sp)) (F4 : Fld Z h0 o "com/example/gatewright/gatewright/Fields" "size" "I" (.int (2 : Int32))) (A_sp : Arv Z h0 sp kS .int (32 : Int32) ((.int u0) :: (.int u1) :: (.int u2) :: (.int u3) :: (.int u4) :: (.int u5) :: (.int u6) :: (.int u7) :: vR) (.int (0 : Int32))) :
    MetFree l (⟨"com/example/gatewright/gatewright/Fields", "encodedSize", "()I"⟩ : MethodName) (head1 (Jvm.Cond.code (⟨"com/example/gatewright/gatewright/Fields", "encodedSize", "()I"⟩ : MethodName) prog_5_method_21_code 4 (some .int) :: ws) ({ frames := 0, cells := 0, slots := 0, locals := 0 } : Room)) (fun aa_ U => aa_ = #[(.ref o)] ∧ Z.Warmed39 U.vm ∧ U.heap = h0) (fun _ _ _ _ _ => True) (fun _ U oo_ UV_ => ∃ vv_ LL_, oo_ = .returned vv_ ∧ Q_rmZ2 Z o sp kS u0 u1 u2 u3 u4 u5 u6 u7 vR h0 n0 vv_ UV_.heap LL_ ∧ FrameEnd U oo_ UV_ LL_ ({ frames := 0, cells := 0, slots := 0, locals := 0 } : Room).cells ({ frames := 0, cells := 0, slots := 0, locals := 0 } : Room).slots) := by
  refine MetFree.of_bodySF (plainFor_of_name pn_1) hisR ?_
  intro pg ev si mi args below meth ci s₁ Bd hml0 hP0 hK
  obtain ⟨rfl, hZ, hh⟩ := hP0
  have hx := Bd.exec
  have hby := Bd.bytes
  have hml : ci.maxLocals = 4 := hml0
  have hown : si.vm.findClass "com/example/gatewright/gatewright/Fields" = some mi.cls := findClass_of_methodNamed Bd.named
  have hnm := (name_of_methodNamed Bd.named Bd.method).1
  have X0 : Stand pg l ev ({ frames := 0, cells := 0, slots := 0, locals := 0 } : Room) si mi #[(.ref o)] below meth ci s₁ [] 0 0 := Stand.of_body Bd
  have e0 : s₁.heap = h0 := by rw [← hh, Bd.state]; rfl
  have N0 := Fr.nil n0
  refine Go.start (fun P hP => ?_)
  refine Go.st (fun t_ k_ => castTop (ef_rmZ2 mi o sp kS u0 u1 u2 u3 u4 u5 u6 u7 vR) k_) (A := s₁.setTop (mkF mi 0 #[.val (.ref o), .unset, .unset, .unset] [])) ?_
  show Go pg.tables ev below (s₁.setTop (mkF mi 0 #[.val (.ref o), .unset, .unset, .unset] [])) P
  refine Go.st (fun t_ k_ => XS.iconst X0.here hx rfl (hb hby d_prog_5_method_21_0) k_) ?_
  show Go pg.tables ev below (s₁.setTop (mkF mi 1 #[.val (.ref o), .unset, .unset, .unset] [(.int (0 : Int32))])) P
  refine Go.st (fun t_ k_ => XS.istoreN X0.here hx rfl (hb hby d_prog_5_method_21_1) rfl (l' := #[.val (.ref o), .val (.int (0 : Int32)), .unset, .unset]) rfl k_) ?_
  show Go pg.tables ev below (s₁.setTop (mkF mi 2 #[.val (.ref o), .val (.int (0 : Int32)), .unset, .unset] [])) P
  refine Go.st (fun t_ k_ => XS.iconst X0.here hx rfl (hb hby d_prog_5_method_21_2) k_) ?_
  show Go pg.tables ev below (s₁.setTop (mkF mi 3 #[.val (.ref o), .val (.int (0 : Int32)), .unset, .unset] [(.int (0 : Int32))])) P
  refine Go.st (fun t_ k_ => XS.istoreN X0.here hx rfl (hb hby d_prog_5_method_21_3) rfl (l' := #[.val (.ref o), .val (.int (0 : Int32)), .val (.int (0 : Int32)), .unset]) rfl k_) ?_
  show Go pg.tables ev below (s₁.setTop (mkF mi 4 #[.val (.ref o), .val (.int (0 : Int32)), .val (.int (0 : Int32)), .unset] [])) P
  refine Go.st (fun t_ k_ => XS.iloadN X0.here hx rfl (hb hby d_prog_5_method_21_4) rfl k_) ?_
  show Go pg.tables ev below (s₁.setTop (mkF mi 5 #[.val (.ref o), .val (.int (0 : Int32)), .val (.int (0 : Int32)), .unset] [(.int (0 : Int32))])) P
  refine Go.st (fun t_ k_ => XS.aloadN X0.here hx rfl (hb hby d_prog_5_method_21_5) rfl rfl k_) ?_
  show Go pg.tables ev below (s₁.setTop (mkF mi 6 #[.val (.ref o), .val (.int (0 : Int32)), .val (.int (0 : Int32)), .unset] [(.ref o), (.int (0 : Int32))])) P
  obtain ⟨T1, X1, e1, st1⟩ := getF X0 hx hZ hown (host := "") (Or.inl (hw _ (List.mem_of_getElem? (i := 28) rfl))) Via.refl e0 F4 (g := (mkF mi 6 #[.val (.ref o), .val (.int (0 : Int32)), .val (.int (0 : Int32)), .unset] [(.ref o), (.int (0 : Int32))])) rfl rfl (hb hby d_prog_5_method_21_6)
  refine Go.st st1 ?_
  show Go pg.tables ev below (T1.setTop (mkF mi 9 #[.val (.ref o), .val (.int (0 : Int32)), .val (.int (0 : Int32)), .unset] [(.int (2 : Int32)), (.int (0 : Int32))])) P
  refine Go.st (fun t_ k_ => XS.icmpNo X1.here hx rfl (hb hby d_prog_5_method_21_9) rfl (tlt (by decide)).2.1 k_) ?_
  show Go pg.tables ev below (T1.setTop (mkF mi 12 #[.val (.ref o), .val (.int (0 : Int32)), .val (.int (0 : Int32)), .unset] [])) P
  refine Go.st (fun t_ k_ => XS.iconst X1.here hx rfl (hb hby d_prog_5_method_21_12) k_) ?_
  show Go pg.tables ev below (T1.setTop (mkF mi 13 #[.val (.ref o), .val (.int (0 : Int32)), .val (.int (0 : Int32)), .unset] [(.int (4 : Int32))])) P
  refine Go.st (fun t_ k_ => XS.iloadN X1.here hx rfl (hb hby d_prog_5_method_21_13) rfl k_) ?_
  show Go pg.tables ev below (T1.setTop (mkF mi 14 #[.val (.ref o), .val (.int (0 : Int32)), .val (.int (0 : Int32)), .unset] [(.int (0 : Int32)), (.int (4 : Int32))])) P
  refine Go.st (fun t_ k_ => XS.imul X1.here hx rfl (hb hby d_prog_5_method_21_14) rfl k_) ?_
  show Go pg.tables ev below (T1.setTop (mkF mi 15 #[.val (.ref o), .val (.int (0 : Int32)), .val (.int (0 : Int32)), .unset] [(.int (0 : Int32))])) P
  refine Go.st (fun t_ k_ => XS.istoreN X1.here hx rfl (hb hby d_prog_5_method_21_15) rfl (l' := #[.val (.ref o), .val (.int (0 : Int32)), .val (.int (0 : Int32)), .val (.int (0 : Int32))]) rfl k_) ?_
  show Go pg.tables ev below (T1.setTop (mkF mi 16 #[.val (.ref o), .val (.int (0 : Int32)), .val (.int (0 : Int32)), .val (.int (0 : Int32))] [])) P
  refine Go.st (fun t_ k_ => XS.iloadN X1.here hx rfl (hb hby d_prog_5_method_21_16) rfl k_) ?_
  show Go pg.tables ev below (T1.setTop (mkF mi 17 #[.val (.ref o), .val (.int (0 : Int32)), .val (.int (0 : Int32)), .val (.int (0 : Int32))] [(.int (0 : Int32))])) P
  refine Go.st (fun t_ k_ => XS.aloadN X1.here hx rfl (hb hby d_prog_5_method_21_17) rfl rfl k_) ?_
  show Go pg.tables ev below (T1.setTop (mkF mi 18 #[.val (.ref o), .val (.int (0 : Int32)), .val (.int (0 : Int32)), .val (.int (0 : Int32))] [(.ref o), (.int (0 : Int32))])) P
  obtain ⟨T2, X2, e2, st2⟩ := getF X1 hx hZ hown (host := "") (Or.inl (hw _ (List.mem_of_getElem? (i := 17) rfl))) Via.refl e1 F2 (g := (mkF mi 18 #[.val (.ref o), .val (.int (0 : Int32)), .val (.int (0 : Int32)), .val (.int (0 : Int32))] [(.ref o), (.int (0 : Int32))])) rfl rfl (hb hby d_prog_5_method_21_18)
  refine Go.st st2 ?_
  show Go pg.tables ev below (T2.setTop (mkF mi 21 #[.val (.ref o), .val (.int (0 : Int32)), .val (.int (0 : Int32)), .val (.int (0 : Int32))] [(.ref sp), (.int (0 : Int32))])) P
  refine Go.st (fun t_ k_ => XS.iloadN X2.here hx rfl (hb hby d_prog_5_method_21_21) rfl k_) ?_
  show Go pg.tables ev below (T2.setTop (mkF mi 22 #[.val (.ref o), .val (.int (0 : Int32)), .val (.int (0 : Int32)), .val (.int (0 : Int32))] [(.int (0 : Int32)), (.ref sp), (.int (0 : Int32))])) P
  refine Go.st (fun t_ k_ => XS.iconst X2.here hx rfl (hb hby d_prog_5_method_21_22) k_) ?_
  show Go pg.tables ev below (T2.setTop (mkF mi 23 #[.val (.ref o), .val (.int (0 : Int32)), .val (.int (0 : Int32)), .val (.int (0 : Int32))] [(.int (1 : Int32)), (.int (0 : Int32)), (.ref sp), (.int (0 : Int32))])) P
  refine Go.st (fun t_ k_ => XS.iadd X2.here hx rfl (hb hby d_prog_5_method_21_23) rfl k_) ?_
  show Go pg.tables ev below (T2.setTop (mkF mi 24 #[.val (.ref o), .val (.int (0 : Int32)), .val (.int (0 : Int32)), .val (.int (0 : Int32))] [(.int (1 : Int32)), (.ref sp), (.int (0 : Int32))])) P
  have ov3 := A_sp
  obtain ⟨cl3, Ar3, q3, S3, M3, H3, G3⟩ := ov3
  have hin3 : ¬ ((1 : Int32) < 0 ∨ cl3.slots.size ≤ ((1 : Int32)).toNatClampNeg) := inb_of S3 ⟨by decide, by decide⟩
  have hat3 : cl3.slots[((1 : Int32)).toNatClampNeg]? = some (.int u1) := Has.at H3 hin3 rfl
  refine Go.st (X2.iaload hx (j := (1 : Int32)) (v := (.int u1)) (by rw [e2]; exact Ar3.1) (State.isArrayOf_alike hZ.alike Ar3.2.1) Ar3.2.2 hin3 hat3 (g := (mkF mi 24 #[.val (.ref o), .val (.int (0 : Int32)), .val (.int (0 : Int32)), .val (.int (0 : Int32))] [(.int (1 : Int32)), (.ref sp), (.int (0 : Int32))])) rfl rfl (hb hby d_prog_5_method_21_24)) ?_
  show Go pg.tables ev below (T2.setTop (mkF mi 25 #[.val (.ref o), .val (.int (0 : Int32)), .val (.int (0 : Int32)), .val (.int (0 : Int32))] [(.int u1), (.int (0 : Int32))])) P
  refine Go.st (fun t_ k_ => XS.aloadN X2.here hx rfl (hb hby d_prog_5_method_21_25) rfl rfl k_) ?_
  show Go pg.tables ev below (T2.setTop (mkF mi 26 #[.val (.ref o), .val (.int (0 : Int32)), .val (.int (0 : Int32)), .val (.int (0 : Int32))] [(.ref o), (.int u1), (.int (0 : Int32))])) P
  obtain ⟨T4, X4, e4, st4⟩ := getF X2 hx hZ hown (host := "") (Or.inl (hw _ (List.mem_of_getElem? (i := 17) rfl))) Via.refl e2 F2 (g := (mkF mi 26 #[.val (.ref o), .val (.int (0 : Int32)), .val (.int (0 : Int32)), .val (.int (0 : Int32))] [(.ref o), (.int u1), (.int (0 : Int32))])) rfl rfl (hb hby d_prog_5_method_21_26)
  refine Go.st st4 ?_
  show Go pg.tables ev below (T4.setTop (mkF mi 29 #[.val (.ref o), .val (.int (0 : Int32)), .val (.int (0 : Int32)), .val (.int (0 : Int32))] [(.ref sp), (.int u1), (.int (0 : Int32))])) P
  refine Go.st (fun t_ k_ => XS.iloadN X4.here hx rfl (hb hby d_prog_5_method_21_29) rfl k_) ?_
  show Go pg.tables ev below (T4.setTop (mkF mi 30 #[.val (.ref o), .val (.int (0 : Int32)), .val (.int (0 : Int32)), .val (.int (0 : Int32))] [(.int (0 : Int32)), (.ref sp), (.int u1), (.int (0 : Int32))])) P
  have ov5 := A_sp
  obtain ⟨cl5, Ar5, q5, S5, M5, H5, G5⟩ := ov5
  have hin5 : ¬ ((0 : Int32) < 0 ∨ cl5.slots.size ≤ ((0 : Int32)).toNatClampNeg) := inb_of S5 ⟨by decide, by decide⟩
  have hat5 : cl5.slots[((0 : Int32)).toNatClampNeg]? = some (.int u0) := Has.at H5 hin5 rfl
  refine Go.st (X4.iaload hx (j := (0 : Int32)) (v := (.int u0)) (by rw [e4]; exact Ar5.1) (State.isArrayOf_alike hZ.alike Ar5.2.1) Ar5.2.2 hin5 hat5 (g := (mkF mi 30 #[.val (.ref o), .val (.int (0 : Int32)), .val (.int (0 : Int32)), .val (.int (0 : Int32))] [(.int (0 : Int32)), (.ref sp), (.int u1), (.int (0 : Int32))])) rfl rfl (hb hby d_prog_5_method_21_30)) ?_
  show Go pg.tables ev below (T4.setTop (mkF mi 31 #[.val (.ref o), .val (.int (0 : Int32)), .val (.int (0 : Int32)), .val (.int (0 : Int32))] [(.int u0), (.int u1), (.int (0 : Int32))])) P
  refine Go.st (fun t_ k_ => XS.isub X4.here hx rfl (hb hby d_prog_5_method_21_31) rfl k_) ?_
  show Go pg.tables ev below (T4.setTop (mkF mi 32 #[.val (.ref o), .val (.int (0 : Int32)), .val (.int (0 : Int32)), .val (.int (0 : Int32))] [(.int (u1 - u0)), (.int (0 : Int32))])) P
  refine Go.st (fun t_ k_ => XS.aloadN X4.here hx rfl (hb hby d_prog_5_method_21_32) rfl rfl k_) ?_
  show Go pg.tables ev below (T4.setTop (mkF mi 33 #[.val (.ref o), .val (.int (0 : Int32)), .val (.int (0 : Int32)), .val (.int (0 : Int32))] [(.ref o), (.int (u1 - u0)), (.int (0 : Int32))])) P
  obtain ⟨T6, X6, e6, st6⟩ := getF X4 hx hZ hown (host := "") (Or.inl (hw _ (List.mem_of_getElem? (i := 17) rfl))) Via.refl e4 F2 (g := (mkF mi 33 #[.val (.ref o), .val (.int (0 : Int32)), .val (.int (0 : Int32)), .val (.int (0 : Int32))] [(.ref o), (.int (u1 - u0)), (.int (0 : Int32))])) rfl rfl (hb hby d_prog_5_method_21_33)
  refine Go.st st6 ?_
  show Go pg.tables ev below (T6.setTop (mkF mi 36 #[.val (.ref o), .val (.int (0 : Int32)), .val (.int (0 : Int32)), .val (.int (0 : Int32))] [(.ref sp), (.int (u1 - u0)), (.int (0 : Int32))])) P
  refine Go.st (fun t_ k_ => XS.iloadN X6.here hx rfl (hb hby d_prog_5_method_21_36) rfl k_) ?_
  show Go pg.tables ev below (T6.setTop (mkF mi 37 #[.val (.ref o), .val (.int (0 : Int32)), .val (.int (0 : Int32)), .val (.int (0 : Int32))] [(.int (0 : Int32)), (.ref sp), (.int (u1 - u0)), (.int (0 : Int32))])) P
  refine Go.st (fun t_ k_ => XS.iconst X6.here hx rfl (hb hby d_prog_5_method_21_37) k_) ?_
  show Go pg.tables ev below (T6.setTop (mkF mi 38 #[.val (.ref o), .val (.int (0 : Int32)), .val (.int (0 : Int32)), .val (.int (0 : Int32))] [(.int (3 : Int32)), (.int (0 : Int32)), (.ref sp), (.int (u1 - u0)), (.int (0 : Int32))])) P
  refine Go.st (fun t_ k_ => XS.iadd X6.here hx rfl (hb hby d_prog_5_method_21_38) rfl k_) ?_
  show Go pg.tables ev below (T6.setTop (mkF mi 39 #[.val (.ref o), .val (.int (0 : Int32)), .val (.int (0 : Int32)), .val (.int (0 : Int32))] [(.int (3 : Int32)), (.ref sp), (.int (u1 - u0)), (.int (0 : Int32))])) P
  have ov7 := A_sp
  obtain ⟨cl7, Ar7, q7, S7, M7, H7, G7⟩ := ov7
  have hin7 : ¬ ((3 : Int32) < 0 ∨ cl7.slots.size ≤ ((3 : Int32)).toNatClampNeg) := inb_of S7 ⟨by decide, by decide⟩
  have hat7 : cl7.slots[((3 : Int32)).toNatClampNeg]? = some (.int u3) := Has.at H7 hin7 rfl
  refine Go.st (X6.iaload hx (j := (3 : Int32)) (v := (.int u3)) (by rw [e6]; exact Ar7.1) (State.isArrayOf_alike hZ.alike Ar7.2.1) Ar7.2.2 hin7 hat7 (g := (mkF mi 39 #[.val (.ref o), .val (.int (0 : Int32)), .val (.int (0 : Int32)), .val (.int (0 : Int32))] [(.int (3 : Int32)), (.ref sp), (.int (u1 - u0)), (.int (0 : Int32))])) rfl rfl (hb hby d_prog_5_method_21_39)) ?_
  show Go pg.tables ev below (T6.setTop (mkF mi 40 #[.val (.ref o), .val (.int (0 : Int32)), .val (.int (0 : Int32)), .val (.int (0 : Int32))] [(.int u3), (.int (u1 - u0)), (.int (0 : Int32))])) P
  refine Go.st (fun t_ k_ => XS.iadd X6.here hx rfl (hb hby d_prog_5_method_21_40) rfl k_) ?_
  show Go pg.tables ev below (T6.setTop (mkF mi 41 #[.val (.ref o), .val (.int (0 : Int32)), .val (.int (0 : Int32)), .val (.int (0 : Int32))] [(.int ((u1 - u0) + u3)), (.int (0 : Int32))])) P
  refine Go.st (fun t_ k_ => XS.aloadN X6.here hx rfl (hb hby d_prog_5_method_21_41) rfl rfl k_) ?_
  show Go pg.tables ev below (T6.setTop (mkF mi 42 #[.val (.ref o), .val (.int (0 : Int32)), .val (.int (0 : Int32)), .val (.int (0 : Int32))] [(.ref o), (.int ((u1 - u0) + u3)), (.int (0 : Int32))])) P
  obtain ⟨T8, X8, e8, st8⟩ := getF X6 hx hZ hown (host := "") (Or.inl (hw _ (List.mem_of_getElem? (i := 17) rfl))) Via.refl e6 F2 (g := (mkF mi 42 #[.val (.ref o), .val (.int (0 : Int32)), .val (.int (0 : Int32)), .val (.int (0 : Int32))] [(.ref o), (.int ((u1 - u0) + u3)), (.int (0 : Int32))])) rfl rfl (hb hby d_prog_5_method_21_42)
  refine Go.st st8 ?_
  show Go pg.tables ev below (T8.setTop (mkF mi 45 #[.val (.ref o), .val (.int (0 : Int32)), .val (.int (0 : Int32)), .val (.int (0 : Int32))] [(.ref sp), (.int ((u1 - u0) + u3)), (.int (0 : Int32))])) P
  refine Go.st (fun t_ k_ => XS.iloadN X8.here hx rfl (hb hby d_prog_5_method_21_45) rfl k_) ?_
  show Go pg.tables ev below (T8.setTop (mkF mi 46 #[.val (.ref o), .val (.int (0 : Int32)), .val (.int (0 : Int32)), .val (.int (0 : Int32))] [(.int (0 : Int32)), (.ref sp), (.int ((u1 - u0) + u3)), (.int (0 : Int32))])) P
  refine Go.st (fun t_ k_ => XS.iconst X8.here hx rfl (hb hby d_prog_5_method_21_46) k_) ?_
  show Go pg.tables ev below (T8.setTop (mkF mi 47 #[.val (.ref o), .val (.int (0 : Int32)), .val (.int (0 : Int32)), .val (.int (0 : Int32))] [(.int (2 : Int32)), (.int (0 : Int32)), (.ref sp), (.int ((u1 - u0) + u3)), (.int (0 : Int32))])) P
  refine Go.st (fun t_ k_ => XS.iadd X8.here hx rfl (hb hby d_prog_5_method_21_47) rfl k_) ?_
  show Go pg.tables ev below (T8.setTop (mkF mi 48 #[.val (.ref o), .val (.int (0 : Int32)), .val (.int (0 : Int32)), .val (.int (0 : Int32))] [(.int (2 : Int32)), (.ref sp), (.int ((u1 - u0) + u3)), (.int (0 : Int32))])) P
  have ov9 := A_sp
  obtain ⟨cl9, Ar9, q9, S9, M9, H9, G9⟩ := ov9
  have hin9 : ¬ ((2 : Int32) < 0 ∨ cl9.slots.size ≤ ((2 : Int32)).toNatClampNeg) := inb_of S9 ⟨by decide, by decide⟩
  have hat9 : cl9.slots[((2 : Int32)).toNatClampNeg]? = some (.int u2) := Has.at H9 hin9 rfl
  refine Go.st (X8.iaload hx (j := (2 : Int32)) (v := (.int u2)) (by rw [e8]; exact Ar9.1) (State.isArrayOf_alike hZ.alike Ar9.2.1) Ar9.2.2 hin9 hat9 (g := (mkF mi 48 #[.val (.ref o), .val (.int (0 : Int32)), .val (.int (0 : Int32)), .val (.int (0 : Int32))] [(.int (2 : Int32)), (.ref sp), (.int ((u1 - u0) + u3)), (.int (0 : Int32))])) rfl rfl (hb hby d_prog_5_method_21_48)) ?_
  show Go pg.tables ev below (T8.setTop (mkF mi 49 #[.val (.ref o), .val (.int (0 : Int32)), .val (.int (0 : Int32)), .val (.int (0 : Int32))] [(.int u2), (.int ((u1 - u0) + u3)), (.int (0 : Int32))])) P
  refine Go.st (fun t_ k_ => XS.isub X8.here hx rfl (hb hby d_prog_5_method_21_49) rfl k_) ?_
  show Go pg.tables ev below (T8.setTop (mkF mi 50 #[.val (.ref o), .val (.int (0 : Int32)), .val (.int (0 : Int32)), .val (.int (0 : Int32))] [(.int (((u1 - u0) + u3) - u2)), (.int (0 : Int32))])) P
  refine Go.st (fun t_ k_ => XS.iconst X8.here hx rfl (hb hby d_prog_5_method_21_50) k_) ?_
  show Go pg.tables ev below (T8.setTop (mkF mi 51 #[.val (.ref o), .val (.int (0 : Int32)), .val (.int (0 : Int32)), .val (.int (0 : Int32))] [(.int (4 : Int32)), (.int (((u1 - u0) + u3) - u2)), (.int (0 : Int32))])) P
  refine Go.st (fun t_ k_ => XS.iadd X8.here hx rfl (hb hby d_prog_5_method_21_51) rfl k_) ?_
  show Go pg.tables ev below (T8.setTop (mkF mi 52 #[.val (.ref o), .val (.int (0 : Int32)), .val (.int (0 : Int32)), .val (.int (0 : Int32))] [(.int ((((u1 - u0) + u3) - u2) + (4 : Int32))), (.int (0 : Int32))])) P
  refine Go.st (fun t_ k_ => XS.iadd X8.here hx rfl (hb hby d_prog_5_method_21_52) rfl k_) ?_
  show Go pg.tables ev below (T8.setTop (mkF mi 53 #[.val (.ref o), .val (.int (0 : Int32)), .val (.int (0 : Int32)), .val (.int (0 : Int32))] [(.int ((0 : Int32) + ((((u1 - u0) + u3) - u2) + (4 : Int32))))])) P
  refine Go.st (fun t_ k_ => XS.istoreN X8.here hx rfl (hb hby d_prog_5_method_21_53) rfl (l' := #[.val (.ref o), .val (.int ((0 : Int32) + ((((u1 - u0) + u3) - u2) + (4 : Int32)))), .val (.int (0 : Int32)), .val (.int (0 : Int32))]) rfl k_) ?_
  show Go pg.tables ev below (T8.setTop (mkF mi 54 #[.val (.ref o), .val (.int ((0 : Int32) + ((((u1 - u0) + u3) - u2) + (4 : Int32)))), .val (.int (0 : Int32)), .val (.int (0 : Int32))] [])) P
  refine Go.st (fun t_ k_ => XS.iinc X8.here hx rfl (hb hby d_prog_5_method_21_54) rfl (l' := #[.val (.ref o), .val (.int ((0 : Int32) + ((((u1 - u0) + u3) - u2) + (4 : Int32)))), .val (.int (1 : Int32)), .val (.int (0 : Int32))]) rfl k_) ?_
  show Go pg.tables ev below (T8.setTop (mkF mi 57 #[.val (.ref o), .val (.int ((0 : Int32) + ((((u1 - u0) + u3) - u2) + (4 : Int32)))), .val (.int (1 : Int32)), .val (.int (0 : Int32))] [])) P
  refine Go.st (fun t_ k_ => XS.goto X8.here hx rfl (pc0 := 57) (pc' := 4) rfl (hb hby d_prog_5_method_21_57) (by decide) (by decide) k_) ?_
  show Go pg.tables ev below (T8.setTop (mkF mi 4 #[.val (.ref o), .val (.int ((0 : Int32) + ((((u1 - u0) + u3) - u2) + (4 : Int32)))), .val (.int (1 : Int32)), .val (.int (0 : Int32))] [])) P
  refine Go.st (fun t_ k_ => XS.iloadN X8.here hx rfl (hb hby d_prog_5_method_21_4) rfl k_) ?_
  show Go pg.tables ev below (T8.setTop (mkF mi 5 #[.val (.ref o), .val (.int ((0 : Int32) + ((((u1 - u0) + u3) - u2) + (4 : Int32)))), .val (.int (1 : Int32)), .val (.int (0 : Int32))] [(.int (1 : Int32))])) P
  refine Go.st (fun t_ k_ => XS.aloadN X8.here hx rfl (hb hby d_prog_5_method_21_5) rfl rfl k_) ?_
  show Go pg.tables ev below (T8.setTop (mkF mi 6 #[.val (.ref o), .val (.int ((0 : Int32) + ((((u1 - u0) + u3) - u2) + (4 : Int32)))), .val (.int (1 : Int32)), .val (.int (0 : Int32))] [(.ref o), (.int (1 : Int32))])) P
  obtain ⟨T10, X10, e10, st10⟩ := getF X8 hx hZ hown (host := "") (Or.inl (hw _ (List.mem_of_getElem? (i := 28) rfl))) Via.refl e8 F4 (g := (mkF mi 6 #[.val (.ref o), .val (.int ((0 : Int32) + ((((u1 - u0) + u3) - u2) + (4 : Int32)))), .val (.int (1 : Int32)), .val (.int (0 : Int32))] [(.ref o), (.int (1 : Int32))])) rfl rfl (hb hby d_prog_5_method_21_6)
  refine Go.st st10 ?_
  show Go pg.tables ev below (T10.setTop (mkF mi 9 #[.val (.ref o), .val (.int ((0 : Int32) + ((((u1 - u0) + u3) - u2) + (4 : Int32)))), .val (.int (1 : Int32)), .val (.int (0 : Int32))] [(.int (2 : Int32)), (.int (1 : Int32))])) P
  refine Go.st (fun t_ k_ => XS.icmpNo X10.here hx rfl (hb hby d_prog_5_method_21_9) rfl (tlt (by decide)).2.1 k_) ?_
  show Go pg.tables ev below (T10.setTop (mkF mi 12 #[.val (.ref o), .val (.int ((0 : Int32) + ((((u1 - u0) + u3) - u2) + (4 : Int32)))), .val (.int (1 : Int32)), .val (.int (0 : Int32))] [])) P
  refine Go.st (fun t_ k_ => XS.iconst X10.here hx rfl (hb hby d_prog_5_method_21_12) k_) ?_
  show Go pg.tables ev below (T10.setTop (mkF mi 13 #[.val (.ref o), .val (.int ((0 : Int32) + ((((u1 - u0) + u3) - u2) + (4 : Int32)))), .val (.int (1 : Int32)), .val (.int (0 : Int32))] [(.int (4 : Int32))])) P
  refine Go.st (fun t_ k_ => XS.iloadN X10.here hx rfl (hb hby d_prog_5_method_21_13) rfl k_) ?_
  show Go pg.tables ev below (T10.setTop (mkF mi 14 #[.val (.ref o), .val (.int ((0 : Int32) + ((((u1 - u0) + u3) - u2) + (4 : Int32)))), .val (.int (1 : Int32)), .val (.int (0 : Int32))] [(.int (1 : Int32)), (.int (4 : Int32))])) P
  refine Go.st (fun t_ k_ => XS.imul X10.here hx rfl (hb hby d_prog_5_method_21_14) rfl k_) ?_
  show Go pg.tables ev below (T10.setTop (mkF mi 15 #[.val (.ref o), .val (.int ((0 : Int32) + ((((u1 - u0) + u3) - u2) + (4 : Int32)))), .val (.int (1 : Int32)), .val (.int (0 : Int32))] [(.int (4 : Int32))])) P
  refine Go.st (fun t_ k_ => XS.istoreN X10.here hx rfl (hb hby d_prog_5_method_21_15) rfl (l' := #[.val (.ref o), .val (.int ((0 : Int32) + ((((u1 - u0) + u3) - u2) + (4 : Int32)))), .val (.int (1 : Int32)), .val (.int (4 : Int32))]) rfl k_) ?_
  show Go pg.tables ev below (T10.setTop (mkF mi 16 #[.val (.ref o), .val (.int ((0 : Int32) + ((((u1 - u0) + u3) - u2) + (4 : Int32)))), .val (.int (1 : Int32)), .val (.int (4 : Int32))] [])) P
  refine Go.st (fun t_ k_ => XS.iloadN X10.here hx rfl (hb hby d_prog_5_method_21_16) rfl k_) ?_
  show Go pg.tables ev below (T10.setTop (mkF mi 17 #[.val (.ref o), .val (.int ((0 : Int32) + ((((u1 - u0) + u3) - u2) + (4 : Int32)))), .val (.int (1 : Int32)), .val (.int (4 : Int32))] [(.int ((0 : Int32) + ((((u1 - u0) + u3) - u2) + (4 : Int32))))])) P
  refine Go.st (fun t_ k_ => XS.aloadN X10.here hx rfl (hb hby d_prog_5_method_21_17) rfl rfl k_) ?_
  show Go pg.tables ev below (T10.setTop (mkF mi 18 #[.val (.ref o), .val (.int ((0 : Int32) + ((((u1 - u0) + u3) - u2) + (4 : Int32)))), .val (.int (1 : Int32)), .val (.int (4 : Int32))] [(.ref o), (.int ((0 : Int32) + ((((u1 - u0) + u3) - u2) + (4 : Int32))))])) P
  obtain ⟨T11, X11, e11, st11⟩ := getF X10 hx hZ hown (host := "") (Or.inl (hw _ (List.mem_of_getElem? (i := 17) rfl))) Via.refl e10 F2 (g := (mkF mi 18 #[.val (.ref o), .val (.int ((0 : Int32) + ((((u1 - u0) + u3) - u2) + (4 : Int32)))), .val (.int (1 : Int32)), .val (.int (4 : Int32))] [(.ref o), (.int ((0 : Int32) + ((((u1 - u0) + u3) - u2) + (4 : Int32))))])) rfl rfl (hb hby d_prog_5_method_21_18)
  refine Go.st st11 ?_
  show Go pg.tables ev below (T11.setTop (mkF mi 21 #[.val (.ref o), .val (.int ((0 : Int32) + ((((u1 - u0) + u3) - u2) + (4 : Int32)))), .val (.int (1 : Int32)), .val (.int (4 : Int32))] [(.ref sp), (.int ((0 : Int32) + ((((u1 - u0) + u3) - u2) + (4 : Int32))))])) P
  refine Go.st (fun t_ k_ => XS.iloadN X11.here hx rfl (hb hby d_prog_5_method_21_21) rfl k_) ?_
  show Go pg.tables ev below (T11.setTop (mkF mi 22 #[.val (.ref o), .val (.int ((0 : Int32) + ((((u1 - u0) + u3) - u2) + (4 : Int32)))), .val (.int (1 : Int32)), .val (.int (4 : Int32))] [(.int (4 : Int32)), (.ref sp), (.int ((0 : Int32) + ((((u1 - u0) + u3) - u2) + (4 : Int32))))])) P
  refine Go.st (fun t_ k_ => XS.iconst X11.here hx rfl (hb hby d_prog_5_method_21_22) k_) ?_
  show Go pg.tables ev below (T11.setTop (mkF mi 23 #[.val (.ref o), .val (.int ((0 : Int32) + ((((u1 - u0) + u3) - u2) + (4 : Int32)))), .val (.int (1 : Int32)), .val (.int (4 : Int32))] [(.int (1 : Int32)), (.int (4 : Int32)), (.ref sp), (.int ((0 : Int32) + ((((u1 - u0) + u3) - u2) + (4 : Int32))))])) P
  refine Go.st (fun t_ k_ => XS.iadd X11.here hx rfl (hb hby d_prog_5_method_21_23) rfl k_) ?_
  show Go pg.tables ev below (T11.setTop (mkF mi 24 #[.val (.ref o), .val (.int ((0 : Int32) + ((((u1 - u0) + u3) - u2) + (4 : Int32)))), .val (.int (1 : Int32)), .val (.int (4 : Int32))] [(.int (5 : Int32)), (.ref sp), (.int ((0 : Int32) + ((((u1 - u0) + u3) - u2) + (4 : Int32))))])) P
  have ov12 := A_sp
  obtain ⟨cl12, Ar12, q12, S12, M12, H12, G12⟩ := ov12
  have hin12 : ¬ ((5 : Int32) < 0 ∨ cl12.slots.size ≤ ((5 : Int32)).toNatClampNeg) := inb_of S12 ⟨by decide, by decide⟩
  have hat12 : cl12.slots[((5 : Int32)).toNatClampNeg]? = some (.int u5) := Has.at H12 hin12 rfl
  refine Go.st (X11.iaload hx (j := (5 : Int32)) (v := (.int u5)) (by rw [e11]; exact Ar12.1) (State.isArrayOf_alike hZ.alike Ar12.2.1) Ar12.2.2 hin12 hat12 (g := (mkF mi 24 #[.val (.ref o), .val (.int ((0 : Int32) + ((((u1 - u0) + u3) - u2) + (4 : Int32)))), .val (.int (1 : Int32)), .val (.int (4 : Int32))] [(.int (5 : Int32)), (.ref sp), (.int ((0 : Int32) + ((((u1 - u0) + u3) - u2) + (4 : Int32))))])) rfl rfl (hb hby d_prog_5_method_21_24)) ?_
  show Go pg.tables ev below (T11.setTop (mkF mi 25 #[.val (.ref o), .val (.int ((0 : Int32) + ((((u1 - u0) + u3) - u2) + (4 : Int32)))), .val (.int (1 : Int32)), .val (.int (4 : Int32))] [(.int u5), (.int ((0 : Int32) + ((((u1 - u0) + u3) - u2) + (4 : Int32))))])) P
  refine Go.st (fun t_ k_ => XS.aloadN X11.here hx rfl (hb hby d_prog_5_method_21_25) rfl rfl k_) ?_
  show Go pg.tables ev below (T11.setTop (mkF mi 26 #[.val (.ref o), .val (.int ((0 : Int32) + ((((u1 - u0) + u3) - u2) + (4 : Int32)))), .val (.int (1 : Int32)), .val (.int (4 : Int32))] [(.ref o), (.int u5), (.int ((0 : Int32) + ((((u1 - u0) + u3) - u2) + (4 : Int32))))])) P
  obtain ⟨T13, X13, e13, st13⟩ := getF X11 hx hZ hown (host := "") (Or.inl (hw _ (List.mem_of_getElem? (i := 17) rfl))) Via.refl e11 F2 (g := (mkF mi 26 #[.val (.ref o), .val (.int ((0 : Int32) + ((((u1 - u0) + u3) - u2) + (4 : Int32)))), .val (.int (1 : Int32)), .val (.int (4 : Int32))] [(.ref o), (.int u5), (.int ((0 : Int32) + ((((u1 - u0) + u3) - u2) + (4 : Int32))))])) rfl rfl (hb hby d_prog_5_method_21_26)
  refine Go.st st13 ?_
  show Go pg.tables ev below (T13.setTop (mkF mi 29 #[.val (.ref o), .val (.int ((0 : Int32) + ((((u1 - u0) + u3) - u2) + (4 : Int32)))), .val (.int (1 : Int32)), .val (.int (4 : Int32))] [(.ref sp), (.int u5), (.int ((0 : Int32) + ((((u1 - u0) + u3) - u2) + (4 : Int32))))])) P
  refine Go.st (fun t_ k_ => XS.iloadN X13.here hx rfl (hb hby d_prog_5_method_21_29) rfl k_) ?_
  show Go pg.tables ev below (T13.setTop (mkF mi 30 #[.val (.ref o), .val (.int ((0 : Int32) + ((((u1 - u0) + u3) - u2) + (4 : Int32)))), .val (.int (1 : Int32)), .val (.int (4 : Int32))] [(.int (4 : Int32)), (.ref sp), (.int u5), (.int ((0 : Int32) + ((((u1 - u0) + u3) - u2) + (4 : Int32))))])) P
  have ov14 := A_sp
  obtain ⟨cl14, Ar14, q14, S14, M14, H14, G14⟩ := ov14
  have hin14 : ¬ ((4 : Int32) < 0 ∨ cl14.slots.size ≤ ((4 : Int32)).toNatClampNeg) := inb_of S14 ⟨by decide, by decide⟩
  have hat14 : cl14.slots[((4 : Int32)).toNatClampNeg]? = some (.int u4) := Has.at H14 hin14 rfl
  refine Go.st (X13.iaload hx (j := (4 : Int32)) (v := (.int u4)) (by rw [e13]; exact Ar14.1) (State.isArrayOf_alike hZ.alike Ar14.2.1) Ar14.2.2 hin14 hat14 (g := (mkF mi 30 #[.val (.ref o), .val (.int ((0 : Int32) + ((((u1 - u0) + u3) - u2) + (4 : Int32)))), .val (.int (1 : Int32)), .val (.int (4 : Int32))] [(.int (4 : Int32)), (.ref sp), (.int u5), (.int ((0 : Int32) + ((((u1 - u0) + u3) - u2) + (4 : Int32))))])) rfl rfl (hb hby d_prog_5_method_21_30)) ?_
  show Go pg.tables ev below (T13.setTop (mkF mi 31 #[.val (.ref o), .val (.int ((0 : Int32) + ((((u1 - u0) + u3) - u2) + (4 : Int32)))), .val (.int (1 : Int32)), .val (.int (4 : Int32))] [(.int u4), (.int u5), (.int ((0 : Int32) + ((((u1 - u0) + u3) - u2) + (4 : Int32))))])) P
  refine Go.st (fun t_ k_ => XS.isub X13.here hx rfl (hb hby d_prog_5_method_21_31) rfl k_) ?_
  show Go pg.tables ev below (T13.setTop (mkF mi 32 #[.val (.ref o), .val (.int ((0 : Int32) + ((((u1 - u0) + u3) - u2) + (4 : Int32)))), .val (.int (1 : Int32)), .val (.int (4 : Int32))] [(.int (u5 - u4)), (.int ((0 : Int32) + ((((u1 - u0) + u3) - u2) + (4 : Int32))))])) P
  refine Go.st (fun t_ k_ => XS.aloadN X13.here hx rfl (hb hby d_prog_5_method_21_32) rfl rfl k_) ?_
  show Go pg.tables ev below (T13.setTop (mkF mi 33 #[.val (.ref o), .val (.int ((0 : Int32) + ((((u1 - u0) + u3) - u2) + (4 : Int32)))), .val (.int (1 : Int32)), .val (.int (4 : Int32))] [(.ref o), (.int (u5 - u4)), (.int ((0 : Int32) + ((((u1 - u0) + u3) - u2) + (4 : Int32))))])) P
  obtain ⟨T15, X15, e15, st15⟩ := getF X13 hx hZ hown (host := "") (Or.inl (hw _ (List.mem_of_getElem? (i := 17) rfl))) Via.refl e13 F2 (g := (mkF mi 33 #[.val (.ref o), .val (.int ((0 : Int32) + ((((u1 - u0) + u3) - u2) + (4 : Int32)))), .val (.int (1 : Int32)), .val (.int (4 : Int32))] [(.ref o), (.int (u5 - u4)), (.int ((0 : Int32) + ((((u1 - u0) + u3) - u2) + (4 : Int32))))])) rfl rfl (hb hby d_prog_5_method_21_33)
  refine Go.st st15 ?_
  show Go pg.tables ev below (T15.setTop (mkF mi 36 #[.val (.ref o), .val (.int ((0 : Int32) + ((((u1 - u0) + u3) - u2) + (4 : Int32)))), .val (.int (1 : Int32)), .val (.int (4 : Int32))] [(.ref sp), (.int (u5 - u4)), (.int ((0 : Int32) + ((((u1 - u0) + u3) - u2) + (4 : Int32))))])) P
  refine Go.st (fun t_ k_ => XS.iloadN X15.here hx rfl (hb hby d_prog_5_method_21_36) rfl k_) ?_
  show Go pg.tables ev below (T15.setTop (mkF mi 37 #[.val (.ref o), .val (.int ((0 : Int32) + ((((u1 - u0) + u3) - u2) + (4 : Int32)))), .val (.int (1 : Int32)), .val (.int (4 : Int32))] [(.int (4 : Int32)), (.ref sp), (.int (u5 - u4)), (.int ((0 : Int32) + ((((u1 - u0) + u3) - u2) + (4 : Int32))))])) P
  refine Go.st (fun t_ k_ => XS.iconst X15.here hx rfl (hb hby d_prog_5_method_21_37) k_) ?_
  show Go pg.tables ev below (T15.setTop (mkF mi 38 #[.val (.ref o), .val (.int ((0 : Int32) + ((((u1 - u0) + u3) - u2) + (4 : Int32)))), .val (.int (1 : Int32)), .val (.int (4 : Int32))] [(.int (3 : Int32)), (.int (4 : Int32)), (.ref sp), (.int (u5 - u4)), (.int ((0 : Int32) + ((((u1 - u0) + u3) - u2) + (4 : Int32))))])) P
  refine Go.st (fun t_ k_ => XS.iadd X15.here hx rfl (hb hby d_prog_5_method_21_38) rfl k_) ?_
  show Go pg.tables ev below (T15.setTop (mkF mi 39 #[.val (.ref o), .val (.int ((0 : Int32) + ((((u1 - u0) + u3) - u2) + (4 : Int32)))), .val (.int (1 : Int32)), .val (.int (4 : Int32))] [(.int (7 : Int32)), (.ref sp), (.int (u5 - u4)), (.int ((0 : Int32) + ((((u1 - u0) + u3) - u2) + (4 : Int32))))])) P
  have ov16 := A_sp
  obtain ⟨cl16, Ar16, q16, S16, M16, H16, G16⟩ := ov16
  have hin16 : ¬ ((7 : Int32) < 0 ∨ cl16.slots.size ≤ ((7 : Int32)).toNatClampNeg) := inb_of S16 ⟨by decide, by decide⟩
  have hat16 : cl16.slots[((7 : Int32)).toNatClampNeg]? = some (.int u7) := Has.at H16 hin16 rfl
  refine Go.st (X15.iaload hx (j := (7 : Int32)) (v := (.int u7)) (by rw [e15]; exact Ar16.1) (State.isArrayOf_alike hZ.alike Ar16.2.1) Ar16.2.2 hin16 hat16 (g := (mkF mi 39 #[.val (.ref o), .val (.int ((0 : Int32) + ((((u1 - u0) + u3) - u2) + (4 : Int32)))), .val (.int (1 : Int32)), .val (.int (4 : Int32))] [(.int (7 : Int32)), (.ref sp), (.int (u5 - u4)), (.int ((0 : Int32) + ((((u1 - u0) + u3) - u2) + (4 : Int32))))])) rfl rfl (hb hby d_prog_5_method_21_39)) ?_
  show Go pg.tables ev below (T15.setTop (mkF mi 40 #[.val (.ref o), .val (.int ((0 : Int32) + ((((u1 - u0) + u3) - u2) + (4 : Int32)))), .val (.int (1 : Int32)), .val (.int (4 : Int32))] [(.int u7), (.int (u5 - u4)), (.int ((0 : Int32) + ((((u1 - u0) + u3) - u2) + (4 : Int32))))])) P
  refine Go.st (fun t_ k_ => XS.iadd X15.here hx rfl (hb hby d_prog_5_method_21_40) rfl k_) ?_
  show Go pg.tables ev below (T15.setTop (mkF mi 41 #[.val (.ref o), .val (.int ((0 : Int32) + ((((u1 - u0) + u3) - u2) + (4 : Int32)))), .val (.int (1 : Int32)), .val (.int (4 : Int32))] [(.int ((u5 - u4) + u7)), (.int ((0 : Int32) + ((((u1 - u0) + u3) - u2) + (4 : Int32))))])) P
  refine Go.st (fun t_ k_ => XS.aloadN X15.here hx rfl (hb hby d_prog_5_method_21_41) rfl rfl k_) ?_
  show Go pg.tables ev below (T15.setTop (mkF mi 42 #[.val (.ref o), .val (.int ((0 : Int32) + ((((u1 - u0) + u3) - u2) + (4 : Int32)))), .val (.int (1 : Int32)), .val (.int (4 : Int32))] [(.ref o), (.int ((u5 - u4) + u7)), (.int ((0 : Int32) + ((((u1 - u0) + u3) - u2) + (4 : Int32))))])) P
  obtain ⟨T17, X17, e17, st17⟩ := getF X15 hx hZ hown (host := "") (Or.inl (hw _ (List.mem_of_getElem? (i := 17) rfl))) Via.refl e15 F2 (g := (mkF mi 42 #[.val (.ref o), .val (.int ((0 : Int32) + ((((u1 - u0) + u3) - u2) + (4 : Int32)))), .val (.int (1 : Int32)), .val (.int (4 : Int32))] [(.ref o), (.int ((u5 - u4) + u7)), (.int ((0 : Int32) + ((((u1 - u0) + u3) - u2) + (4 : Int32))))])) rfl rfl (hb hby d_prog_5_method_21_42)
  refine Go.st st17 ?_
  show Go pg.tables ev below (T17.setTop (mkF mi 45 #[.val (.ref o), .val (.int ((0 : Int32) + ((((u1 - u0) + u3) - u2) + (4 : Int32)))), .val (.int (1 : Int32)), .val (.int (4 : Int32))] [(.ref sp), (.int ((u5 - u4) + u7)), (.int ((0 : Int32) + ((((u1 - u0) + u3) - u2) + (4 : Int32))))])) P
  refine Go.st (fun t_ k_ => XS.iloadN X17.here hx rfl (hb hby d_prog_5_method_21_45) rfl k_) ?_
  show Go pg.tables ev below (T17.setTop (mkF mi 46 #[.val (.ref o), .val (.int ((0 : Int32) + ((((u1 - u0) + u3) - u2) + (4 : Int32)))), .val (.int (1 : Int32)), .val (.int (4 : Int32))] [(.int (4 : Int32)), (.ref sp), (.int ((u5 - u4) + u7)), (.int ((0 : Int32) + ((((u1 - u0) + u3) - u2) + (4 : Int32))))])) P
  refine Go.st (fun t_ k_ => XS.iconst X17.here hx rfl (hb hby d_prog_5_method_21_46) k_) ?_
  show Go pg.tables ev below (T17.setTop (mkF mi 47 #[.val (.ref o), .val (.int ((0 : Int32) + ((((u1 - u0) + u3) - u2) + (4 : Int32)))), .val (.int (1 : Int32)), .val (.int (4 : Int32))] [(.int (2 : Int32)), (.int (4 : Int32)), (.ref sp), (.int ((u5 - u4) + u7)), (.int ((0 : Int32) + ((((u1 - u0) + u3) - u2) + (4 : Int32))))])) P
  refine Go.st (fun t_ k_ => XS.iadd X17.here hx rfl (hb hby d_prog_5_method_21_47) rfl k_) ?_
  show Go pg.tables ev below (T17.setTop (mkF mi 48 #[.val (.ref o), .val (.int ((0 : Int32) + ((((u1 - u0) + u3) - u2) + (4 : Int32)))), .val (.int (1 : Int32)), .val (.int (4 : Int32))] [(.int (6 : Int32)), (.ref sp), (.int ((u5 - u4) + u7)), (.int ((0 : Int32) + ((((u1 - u0) + u3) - u2) + (4 : Int32))))])) P
  have ov18 := A_sp
  obtain ⟨cl18, Ar18, q18, S18, M18, H18, G18⟩ := ov18
  have hin18 : ¬ ((6 : Int32) < 0 ∨ cl18.slots.size ≤ ((6 : Int32)).toNatClampNeg) := inb_of S18 ⟨by decide, by decide⟩
  have hat18 : cl18.slots[((6 : Int32)).toNatClampNeg]? = some (.int u6) := Has.at H18 hin18 rfl
  refine Go.st (X17.iaload hx (j := (6 : Int32)) (v := (.int u6)) (by rw [e17]; exact Ar18.1) (State.isArrayOf_alike hZ.alike Ar18.2.1) Ar18.2.2 hin18 hat18 (g := (mkF mi 48 #[.val (.ref o), .val (.int ((0 : Int32) + ((((u1 - u0) + u3) - u2) + (4 : Int32)))), .val (.int (1 : Int32)), .val (.int (4 : Int32))] [(.int (6 : Int32)), (.ref sp), (.int ((u5 - u4) + u7)), (.int ((0 : Int32) + ((((u1 - u0) + u3) - u2) + (4 : Int32))))])) rfl rfl (hb hby d_prog_5_method_21_48)) ?_
  show Go pg.tables ev below (T17.setTop (mkF mi 49 #[.val (.ref o), .val (.int ((0 : Int32) + ((((u1 - u0) + u3) - u2) + (4 : Int32)))), .val (.int (1 : Int32)), .val (.int (4 : Int32))] [(.int u6), (.int ((u5 - u4) + u7)), (.int ((0 : Int32) + ((((u1 - u0) + u3) - u2) + (4 : Int32))))])) P
  refine Go.st (fun t_ k_ => XS.isub X17.here hx rfl (hb hby d_prog_5_method_21_49) rfl k_) ?_
  show Go pg.tables ev below (T17.setTop (mkF mi 50 #[.val (.ref o), .val (.int ((0 : Int32) + ((((u1 - u0) + u3) - u2) + (4 : Int32)))), .val (.int (1 : Int32)), .val (.int (4 : Int32))] [(.int (((u5 - u4) + u7) - u6)), (.int ((0 : Int32) + ((((u1 - u0) + u3) - u2) + (4 : Int32))))])) P
  refine Go.st (fun t_ k_ => XS.iconst X17.here hx rfl (hb hby d_prog_5_method_21_50) k_) ?_
  show Go pg.tables ev below (T17.setTop (mkF mi 51 #[.val (.ref o), .val (.int ((0 : Int32) + ((((u1 - u0) + u3) - u2) + (4 : Int32)))), .val (.int (1 : Int32)), .val (.int (4 : Int32))] [(.int (4 : Int32)), (.int (((u5 - u4) + u7) - u6)), (.int ((0 : Int32) + ((((u1 - u0) + u3) - u2) + (4 : Int32))))])) P
  refine Go.st (fun t_ k_ => XS.iadd X17.here hx rfl (hb hby d_prog_5_method_21_51) rfl k_) ?_
  show Go pg.tables ev below (T17.setTop (mkF mi 52 #[.val (.ref o), .val (.int ((0 : Int32) + ((((u1 - u0) + u3) - u2) + (4 : Int32)))), .val (.int (1 : Int32)), .val (.int (4 : Int32))] [(.int ((((u5 - u4) + u7) - u6) + (4 : Int32))), (.int ((0 : Int32) + ((((u1 - u0) + u3) - u2) + (4 : Int32))))])) P
  refine Go.st (fun t_ k_ => XS.iadd X17.here hx rfl (hb hby d_prog_5_method_21_52) rfl k_) ?_
  show Go pg.tables ev below (T17.setTop (mkF mi 53 #[.val (.ref o), .val (.int ((0 : Int32) + ((((u1 - u0) + u3) - u2) + (4 : Int32)))), .val (.int (1 : Int32)), .val (.int (4 : Int32))] [(.int (((0 : Int32) + ((((u1 - u0) + u3) - u2) + (4 : Int32))) + ((((u5 - u4) + u7) - u6) + (4 : Int32))))])) P
  refine Go.st (fun t_ k_ => XS.istoreN X17.here hx rfl (hb hby d_prog_5_method_21_53) rfl (l' := #[.val (.ref o), .val (.int (((0 : Int32) + ((((u1 - u0) + u3) - u2) + (4 : Int32))) + ((((u5 - u4) + u7) - u6) + (4 : Int32)))), .val (.int (1 : Int32)), .val (.int (4 : Int32))]) rfl k_) ?_
  show Go pg.tables ev below (T17.setTop (mkF mi 54 #[.val (.ref o), .val (.int (((0 : Int32) + ((((u1 - u0) + u3) - u2) + (4 : Int32))) + ((((u5 - u4) + u7) - u6) + (4 : Int32)))), .val (.int (1 : Int32)), .val (.int (4 : Int32))] [])) P
  refine Go.st (fun t_ k_ => XS.iinc X17.here hx rfl (hb hby d_prog_5_method_21_54) rfl (l' := #[.val (.ref o), .val (.int (((0 : Int32) + ((((u1 - u0) + u3) - u2) + (4 : Int32))) + ((((u5 - u4) + u7) - u6) + (4 : Int32)))), .val (.int (2 : Int32)), .val (.int (4 : Int32))]) rfl k_) ?_
  show Go pg.tables ev below (T17.setTop (mkF mi 57 #[.val (.ref o), .val (.int (((0 : Int32) + ((((u1 - u0) + u3) - u2) + (4 : Int32))) + ((((u5 - u4) + u7) - u6) + (4 : Int32)))), .val (.int (2 : Int32)), .val (.int (4 : Int32))] [])) P
  refine Go.st (fun t_ k_ => XS.goto X17.here hx rfl (pc0 := 57) (pc' := 4) rfl (hb hby d_prog_5_method_21_57) (by decide) (by decide) k_) ?_
  show Go pg.tables ev below (T17.setTop (mkF mi 4 #[.val (.ref o), .val (.int (((0 : Int32) + ((((u1 - u0) + u3) - u2) + (4 : Int32))) + ((((u5 - u4) + u7) - u6) + (4 : Int32)))), .val (.int (2 : Int32)), .val (.int (4 : Int32))] [])) P
  refine Go.st (fun t_ k_ => XS.iloadN X17.here hx rfl (hb hby d_prog_5_method_21_4) rfl k_) ?_
  show Go pg.tables ev below (T17.setTop (mkF mi 5 #[.val (.ref o), .val (.int (((0 : Int32) + ((((u1 - u0) + u3) - u2) + (4 : Int32))) + ((((u5 - u4) + u7) - u6) + (4 : Int32)))), .val (.int (2 : Int32)), .val (.int (4 : Int32))] [(.int (2 : Int32))])) P
  refine Go.st (fun t_ k_ => XS.aloadN X17.here hx rfl (hb hby d_prog_5_method_21_5) rfl rfl k_) ?_
  show Go pg.tables ev below (T17.setTop (mkF mi 6 #[.val (.ref o), .val (.int (((0 : Int32) + ((((u1 - u0) + u3) - u2) + (4 : Int32))) + ((((u5 - u4) + u7) - u6) + (4 : Int32)))), .val (.int (2 : Int32)), .val (.int (4 : Int32))] [(.ref o), (.int (2 : Int32))])) P
  obtain ⟨T19, X19, e19, st19⟩ := getF X17 hx hZ hown (host := "") (Or.inl (hw _ (List.mem_of_getElem? (i := 28) rfl))) Via.refl e17 F4 (g := (mkF mi 6 #[.val (.ref o), .val (.int (((0 : Int32) + ((((u1 - u0) + u3) - u2) + (4 : Int32))) + ((((u5 - u4) + u7) - u6) + (4 : Int32)))), .val (.int (2 : Int32)), .val (.int (4 : Int32))] [(.ref o), (.int (2 : Int32))])) rfl rfl (hb hby d_prog_5_method_21_6)
  refine Go.st st19 ?_
  show Go pg.tables ev below (T19.setTop (mkF mi 9 #[.val (.ref o), .val (.int (((0 : Int32) + ((((u1 - u0) + u3) - u2) + (4 : Int32))) + ((((u5 - u4) + u7) - u6) + (4 : Int32)))), .val (.int (2 : Int32)), .val (.int (4 : Int32))] [(.int (2 : Int32)), (.int (2 : Int32))])) P
  refine Go.st (fun t_ k_ => XS.icmpYes X19.here hx rfl (pc0 := 9) (pc' := 60) rfl (hb hby d_prog_5_method_21_9) rfl (flt (by decide)).2.1 (by decide) (by decide) k_) ?_
  show Go pg.tables ev below (T19.setTop (mkF mi 60 #[.val (.ref o), .val (.int (((0 : Int32) + ((((u1 - u0) + u3) - u2) + (4 : Int32))) + ((((u5 - u4) + u7) - u6) + (4 : Int32)))), .val (.int (2 : Int32)), .val (.int (4 : Int32))] [])) P
  refine Go.st (fun t_ k_ => XS.iloadN X19.here hx rfl (hb hby d_prog_5_method_21_60) rfl k_) ?_
  show Go pg.tables ev below (T19.setTop (mkF mi 61 #[.val (.ref o), .val (.int (((0 : Int32) + ((((u1 - u0) + u3) - u2) + (4 : Int32))) + ((((u5 - u4) + u7) - u6) + (4 : Int32)))), .val (.int (2 : Int32)), .val (.int (4 : Int32))] [(.int (((0 : Int32) + ((((u1 - u0) + u3) - u2) + (4 : Int32))) + ((((u5 - u4) + u7) - u6) + (4 : Int32))))])) P
  obtain ⟨fs, hr, hrun, hended, hW, hsame⟩ := X19.leave (v := some (.int (((0 : Int32) + ((((u1 - u0) + u3) - u2) + (4 : Int32))) + ((((u5 - u4) + u7) - u6) + (4 : Int32))))) (fun h => by rw [Bd.returns] at h; cases h) (BodyLoose.notSynchronized Bd)
  refine ⟨_, _, ?_, hP _ _ ⟨hrun, hended, _, _, rfl, ?_, ⟨_, rfl⟩, hW, hsame.mono (by decide) (by decide)⟩⟩
  · exact retI X19 hx Bd.returns (hb hby d_prog_5_method_21_61) hr
  · show (some (.int (((0 : Int32) + ((((u1 - u0) + u3) - u2) + (4 : Int32))) + ((((u5 - u4) + u7) - u6) + (4 : Int32)))) : Option Value) = some (.int (fZ2 u0 u1 u2 u3 u4 u5 u6 u7)) ∧ Fr n0 _ ∧ T19.heap = h0
    rw [e19]
    exact ⟨rfl, N0, rfl⟩
theorem ef_rmZ3 (mi : MethodId) (o : Addr) (sp : Addr) (kS : ClassId) (u0 : Int32) (u1 : Int32) (u2 : Int32) (u3 : Int32) (u4 : Int32) (u5 : Int32) (u6 : Int32) (u7 : Int32) (u8 : Int32) (u9 : Int32) (u10 : Int32) (u11 : Int32) (vR : List Value) : entryFrame mi #[(.ref o)] 4 = mkF mi 0 #[.val (.ref o), .unset, .unset, .unset] [] := by first | (simp [entryFrame, mkF, argsToLocals, Value.category]; done) | rfl
def fZ3 (u0 u1 u2 u3 u4 u5 u6 u7 u8 u9 u10 u11 : Int32) : Int32 := ((((0 : Int32) + ((((u1 - u0) + u3) - u2) + (4 : Int32))) + ((((u5 - u4) + u7) - u6) + (4 : Int32))) + ((((u9 - u8) + u11) - u10) + (4 : Int32)))
def Q_rmZ3 (Z : State) (o : Addr) (sp : Addr) (kS : ClassId) (u0 : Int32) (u1 : Int32) (u2 : Int32) (u3 : Int32) (u4 : Int32) (u5 : Int32) (u6 : Int32) (u7 : Int32) (u8 : Int32) (u9 : Int32) (u10 : Int32) (u11 : Int32) (vR : List Value) (h0 : Heap) (n0 : Nat) (vv_ : Option Value) (hh_ : Heap) (LL_ : List Loc) : Prop := vv_ = some (.int (fZ3 u0 u1 u2 u3 u4 u5 u6 u7 u8 u9 u10 u11)) ∧ Fr n0 LL_ ∧ hh_ = h0
set_option maxRecDepth 65536 in
set_option maxHeartbeats 40000000 in
theorem rmZ3 (l : Launch) (Z : State) (a0 : Array Value) (hw : ∀ d ∈ tables_1, d.before a0 Z = true) (ws : List Jvm.Cond) (o : Addr) (sp : Addr) (kS : ClassId) (u0 : Int32) (u1 : Int32) (u2 : Int32) (u3 : Int32) (u4 : Int32) (u5 : Int32) (u6 : Int32) (u7 : Int32) (u8 : Int32) (u9 : Int32) (u10 : Int32) (u11 : Int32) (vR : List Value) (h0 : Heap) (n0 : Nat) (Z0 : n0 ≤ h0.size) (F2 : Fld Z h0 o "com/example/gatewright/gatewright/Fields" "spans" "[I" (.ref sp)) (F4 : Fld Z h0 o "com/example/gatewright/gatewright/Fields" "size" "I" (.int (3 : Int32))) (A_sp : Arv Z h0 sp kS .int (32 : Int32) ((.int u0) :: (.int u1) :: (.int u2) :: (.int u3) :: (.int u4) :: (.int u5) :: (.int u6) :: (.int u7) :: (.int u8) :: (.int u9) :: (.int u10) :: (.int u11) :: vR) (.int (0 : Int32))) :
    MetFree l (⟨"com/example/gatewright/gatewright/Fields", "encodedSize", "()I"⟩ : MethodName) (head1 (Jvm.Cond.code (⟨"com/example/gatewright/gatewright/Fields", "encodedSize", "()I"⟩ : MethodName) prog_5_method_21_code 4 (some .int) :: ws) ({ frames := 0, cells := 0, slots := 0, locals := 0 } : Room)) (fun aa_ U => aa_ = #[(.ref o)] ∧ Z.Warmed39 U.vm ∧ U.heap = h0) (fun _ _ _ _ _ => True) (fun _ U oo_ UV_ => ∃ vv_ LL_, oo_ = .returned vv_ ∧ Q_rmZ3 Z o sp kS u0 u1 u2 u3 u4 u5 u6 u7 u8 u9 u10 u11 vR h0 n0 vv_ UV_.heap LL_ ∧ FrameEnd U oo_ UV_ LL_ ({ frames := 0, cells := 0, slots := 0, locals := 0 } : Room).cells ({ frames := 0, cells := 0, slots := 0, locals := 0 } : Room).slots) := by
  refine MetFree.of_bodySF (plainFor_of_name pn_1) hisR ?_
  intro pg ev si mi args below meth ci s₁ Bd hml0 hP0 hK
  obtain ⟨rfl, hZ, hh⟩ := hP0
  have hx := Bd.exec
  have hby := Bd.bytes
  have hml : ci.maxLocals = 4 := hml0
  have hown : si.vm.findClass "com/example/gatewright/gatewright/Fields" = some mi.cls := findClass_of_methodNamed Bd.named
  have hnm := (name_of_methodNamed Bd.named Bd.method).1
  have X0 : Stand pg l ev ({ frames := 0, cells := 0, slots := 0, locals := 0 } : Room) si mi #[(.ref o)] below meth ci s₁ [] 0 0 := Stand.of_body Bd
  have e0 : s₁.heap = h0 := by rw [← hh, Bd.state]; rfl
  have N0 := Fr.nil n0
  refine Go.start (fun P hP => ?_)
  refine Go.st (fun t_ k_ => castTop (ef_rmZ3 mi o sp kS u0 u1 u2 u3 u4 u5 u6 u7 u8 u9 u10 u11 vR) k_) (A := s₁.setTop (mkF mi 0 #[.val (.ref o), .unset, .unset, .unset] [])) ?_
  show Go pg.tables ev below (s₁.setTop (mkF mi 0 #[.val (.ref o), .unset, .unset, .unset] [])) P
  refine Go.st (fun t_ k_ => XS.iconst X0.here hx rfl (hb hby d_prog_5_method_21_0) k_) ?_
  show Go pg.tables ev below (s₁.setTop (mkF mi 1 #[.val (.ref o), .unset, .unset, .unset] [(.int (0 : Int32))])) P
  refine Go.st (fun t_ k_ => XS.istoreN X0.here hx rfl (hb hby d_prog_5_method_21_1) rfl (l' := #[.val (.ref o), .val (.int (0 : Int32)), .unset, .unset]) rfl k_) ?_
  show Go pg.tables ev below (s₁.setTop (mkF mi 2 #[.val (.ref o), .val (.int (0 : Int32)), .unset, .unset] [])) P
  refine Go.st (fun t_ k_ => XS.iconst X0.here hx rfl (hb hby d_prog_5_method_21_2) k_) ?_
  show Go pg.tables ev below (s₁.setTop (mkF mi 3 #[.val (.ref o), .val (.int (0 : Int32)), .unset, .unset] [(.int (0 : Int32))])) P
  refine Go.st (fun t_ k_ => XS.istoreN X0.here hx rfl (hb hby d_prog_5_method_21_3) rfl (l' := #[.val (.ref o), .val (.int (0 : Int32)), .val (.int (0 : Int32)), .unset]) rfl k_) ?_
  show Go pg.tables ev below (s₁.setTop (mkF mi 4 #[.val (.ref o), .val (.int (0 : Int32)), .val (.int (0 : Int32)), .unset] [])) P
  refine Go.st (fun t_ k_ => XS.iloadN X0.here hx rfl (hb hby d_prog_5_method_21_4) rfl k_) ?_
  show Go pg.tables ev below (s₁.setTop (mkF mi 5 #[.val (.ref o), .val (.int (0 : Int32)), .val (.int (0 : Int32)), .unset] [(.int (0 : Int32))])) P
  refine Go.st (fun t_ k_ => XS.aloadN X0.here hx rfl (hb hby d_prog_5_method_21_5) rfl rfl k_) ?_
  show Go pg.tables ev below (s₁.setTop (mkF mi 6 #[.val (.ref o), .val (.int (0 : Int32)), .val (.int (0 : Int32)), .unset] [(.ref o), (.int (0 : Int32))])) P
  obtain ⟨T1, X1, e1, st1⟩ := getF X0 hx hZ hown (host := "") (Or.inl (hw _ (List.mem_of_getElem? (i := 28) rfl))) Via.refl e0 F4 (g := (mkF mi 6 #[.val (.ref o), .val (.int (0 : Int32)), .val (.int (0 : Int32)), .unset] [(.ref o), (.int (0 : Int32))])) rfl rfl (hb hby d_prog_5_method_21_6)
  refine Go.st st1 ?_
  show Go pg.tables ev below (T1.setTop (mkF mi 9 #[.val (.ref o), .val (.int (0 : Int32)), .val (.int (0 : Int32)), .unset] [(.int (3 : Int32)), (.int (0 : Int32))])) P
  refine Go.st (fun t_ k_ => XS.icmpNo X1.here hx rfl (hb hby d_prog_5_method_21_9) rfl (tlt (by decide)).2.1 k_) ?_
  show Go pg.tables ev below (T1.setTop (mkF mi 12 #[.val (.ref o), .val (.int (0 : Int32)), .val (.int (0 : Int32)), .unset] [])) P
  refine Go.st (fun t_ k_ => XS.iconst X1.here hx rfl (hb hby d_prog_5_method_21_12) k_) ?_
  show Go pg.tables ev below (T1.setTop (mkF mi 13 #[.val (.ref o), .val (.int (0 : Int32)), .val (.int (0 : Int32)), .unset] [(.int (4 : Int32))])) P
  refine Go.st (fun t_ k_ => XS.iloadN X1.here hx rfl (hb hby d_prog_5_method_21_13) rfl k_) ?_
  show Go pg.tables ev below (T1.setTop (mkF mi 14 #[.val (.ref o), .val (.int (0 : Int32)), .val (.int (0 : Int32)), .unset] [(.int (0 : Int32)), (.int (4 : Int32))])) P
  refine Go.st (fun t_ k_ => XS.imul X1.here hx rfl (hb hby d_prog_5_method_21_14) rfl k_) ?_
  show Go pg.tables ev below (T1.setTop (mkF mi 15 #[.val (.ref o), .val (.int (0 : Int32)), .val (.int (0 : Int32)), .unset] [(.int (0 : Int32))])) P
  refine Go.st (fun t_ k_ => XS.istoreN X1.here hx rfl (hb hby d_prog_5_method_21_15) rfl (l' := #[.val (.ref o), .val (.int (0 : Int32)), .val (.int (0 : Int32)), .val (.int (0 : Int32))]) rfl k_) ?_
  show Go pg.tables ev below (T1.setTop (mkF mi 16 #[.val (.ref o), .val (.int (0 : Int32)), .val (.int (0 : Int32)), .val (.int (0 : Int32))] [])) P
  refine Go.st (fun t_ k_ => XS.iloadN X1.here hx rfl (hb hby d_prog_5_method_21_16) rfl k_) ?_
  show Go pg.tables ev below (T1.setTop (mkF mi 17 #[.val (.ref o), .val (.int (0 : Int32)), .val (.int (0 : Int32)), .val (.int (0 : Int32))] [(.int (0 : Int32))])) P
  refine Go.st (fun t_ k_ => XS.aloadN X1.here hx rfl (hb hby d_prog_5_method_21_17) rfl rfl k_) ?_
  show Go pg.tables ev below (T1.setTop (mkF mi 18 #[.val (.ref o), .val (.int (0 : Int32)), .val (.int (0 : Int32)), .val (.int (0 : Int32))] [(.ref o), (.int (0 : Int32))])) P
  obtain ⟨T2, X2, e2, st2⟩ := getF X1 hx hZ hown (host := "") (Or.inl (hw _ (List.mem_of_getElem? (i := 17) rfl))) Via.refl e1 F2 (g := (mkF mi 18 #[.val (.ref o), .val (.int (0 : Int32)), .val (.int (0 : Int32)), .val (.int (0 : Int32))] [(.ref o), (.int (0 : Int32))])) rfl rfl (hb hby d_prog_5_method_21_18)
  refine Go.st st2 ?_
  show Go pg.tables ev below (T2.setTop (mkF mi 21 #[.val (.ref o), .val (.int (0 : Int32)), .val (.int (0 : Int32)), .val (.int (0 : Int32))] [(.ref sp), (.int (0 : Int32))])) P
  refine Go.st (fun t_ k_ => XS.iloadN X2.here hx rfl (hb hby d_prog_5_method_21_21) rfl k_) ?_
  show Go pg.tables ev below (T2.setTop (mkF mi 22 #[.val (.ref o), .val (.int (0 : Int32)), .val (.int (0 : Int32)), .val (.int (0 : Int32))] [(.int (0 : Int32)), (.ref sp), (.int (0 : Int32))])) P
  refine Go.st (fun t_ k_ => XS.iconst X2.here hx rfl (hb hby d_prog_5_method_21_22) k_) ?_
  show Go pg.tables ev below (T2.setTop (mkF mi 23 #[.val (.ref o), .val (.int (0 : Int32)), .val (.int (0 : Int32)), .val (.int (0 : Int32))] [(.int (1 : Int32)), (.int (0 : Int32)), (.ref sp), (.int (0 : Int32))])) P
  refine Go.st (fun t_ k_ => XS.iadd X2.here hx rfl (hb hby d_prog_5_method_21_23) rfl k_) ?_
  show Go pg.tables ev below (T2.setTop (mkF mi 24 #[.val (.ref o), .val (.int (0 : Int32)), .val (.int (0 : Int32)), .val (.int (0 : Int32))] [(.int (1 : Int32)), (.ref sp), (.int (0 : Int32))])) P
  have ov3 := A_sp
  obtain ⟨cl3, Ar3, q3, S3, M3, H3, G3⟩ := ov3
  have hin3 : ¬ ((1 : Int32) < 0 ∨ cl3.slots.size ≤ ((1 : Int32)).toNatClampNeg) := inb_of S3 ⟨by decide, by decide⟩
  have hat3 : cl3.slots[((1 : Int32)).toNatClampNeg]? = some (.int u1) := Has.at H3 hin3 rfl
  refine Go.st (X2.iaload hx (j := (1 : Int32)) (v := (.int u1)) (by rw [e2]; exact Ar3.1) (State.isArrayOf_alike hZ.alike Ar3.2.1) Ar3.2.2 hin3 hat3 (g := (mkF mi 24 #[.val (.ref o), .val (.int (0 : Int32)), .val (.int (0 : Int32)), .val (.int (0 : Int32))] [(.int (1 : Int32)), (.ref sp), (.int (0 : Int32))])) rfl rfl (hb hby d_prog_5_method_21_24)) ?_
  show Go pg.tables ev below (T2.setTop (mkF mi 25 #[.val (.ref o), .val (.int (0 : Int32)), .val (.int (0 : Int32)), .val (.int (0 : Int32))] [(.int u1), (.int (0 : Int32))])) P
  refine Go.st (fun t_ k_ => XS.aloadN X2.here hx rfl (hb hby d_prog_5_method_21_25) rfl rfl k_) ?_
  show Go pg.tables ev below (T2.setTop (mkF mi 26 #[.val (.ref o), .val (.int (0 : Int32)), .val (.int (0 : Int32)), .val (.int (0 : Int32))] [(.ref o), (.int u1), (.int (0 : Int32))])) P
  obtain ⟨T4, X4, e4, st4⟩ := getF X2 hx hZ hown (host := "") (Or.inl (hw _ (List.mem_of_getElem? (i := 17) rfl))) Via.refl e2 F2 (g := (mkF mi 26 #[.val (.ref o), .val (.int (0 : Int32)), .val (.int (0 : Int32)), .val (.int (0 : Int32))] [(.ref o), (.int u1), (.int (0 : Int32))])) rfl rfl (hb hby d_prog_5_method_21_26)
  refine Go.st st4 ?_
  show Go pg.tables ev below (T4.setTop (mkF mi 29 #[.val (.ref o), .val (.int (0 : Int32)), .val (.int (0 : Int32)), .val (.int (0 : Int32))] [(.ref sp), (.int u1), (.int (0 : Int32))])) P
  refine Go.st (fun t_ k_ => XS.iloadN X4.here hx rfl (hb hby d_prog_5_method_21_29) rfl k_) ?_
  show Go pg.tables ev below (T4.setTop (mkF mi 30 #[.val (.ref o), .val (.int (0 : Int32)), .val (.int (0 : Int32)), .val (.int (0 : Int32))] [(.int (0 : Int32)), (.ref sp), (.int u1), (.int (0 : Int32))])) P
  have ov5 := A_sp
  obtain ⟨cl5, Ar5, q5, S5, M5, H5, G5⟩ := ov5
  have hin5 : ¬ ((0 : Int32) < 0 ∨ cl5.slots.size ≤ ((0 : Int32)).toNatClampNeg) := inb_of S5 ⟨by decide, by decide⟩
  have hat5 : cl5.slots[((0 : Int32)).toNatClampNeg]? = some (.int u0) := Has.at H5 hin5 rfl
  refine Go.st (X4.iaload hx (j := (0 : Int32)) (v := (.int u0)) (by rw [e4]; exact Ar5.1) (State.isArrayOf_alike hZ.alike Ar5.2.1) Ar5.2.2 hin5 hat5 (g := (mkF mi 30 #[.val (.ref o), .val (.int (0 : Int32)), .val (.int (0 : Int32)), .val (.int (0 : Int32))] [(.int (0 : Int32)), (.ref sp), (.int u1), (.int (0 : Int32))])) rfl rfl (hb hby d_prog_5_method_21_30)) ?_
  show Go pg.tables ev below (T4.setTop (mkF mi 31 #[.val (.ref o), .val (.int (0 : Int32)), .val (.int (0 : Int32)), .val (.int (0 : Int32))] [(.int u0), (.int u1), (.int (0 : Int32))])) P
  refine Go.st (fun t_ k_ => XS.isub X4.here hx rfl (hb hby d_prog_5_method_21_31) rfl k_) ?_
  show Go pg.tables ev below (T4.setTop (mkF mi 32 #[.val (.ref o), .val (.int (0 : Int32)), .val (.int (0 : Int32)), .val (.int (0 : Int32))] [(.int (u1 - u0)), (.int (0 : Int32))])) P
  refine Go.st (fun t_ k_ => XS.aloadN X4.here hx rfl (hb hby d_prog_5_method_21_32) rfl rfl k_) ?_
  show Go pg.tables ev below (T4.setTop (mkF mi 33 #[.val (.ref o), .val (.int (0 : Int32)), .val (.int (0 : Int32)), .val (.int (0 : Int32))] [(.ref o), (.int (u1 - u0)), (.int (0 : Int32))])) P
  obtain ⟨T6, X6, e6, st6⟩ := getF X4 hx hZ hown (host := "") (Or.inl (hw _ (List.mem_of_getElem? (i := 17) rfl))) Via.refl e4 F2 (g := (mkF mi 33 #[.val (.ref o), .val (.int (0 : Int32)), .val (.int (0 : Int32)), .val (.int (0 : Int32))] [(.ref o), (.int (u1 - u0)), (.int (0 : Int32))])) rfl rfl (hb hby d_prog_5_method_21_33)
  refine Go.st st6 ?_
  show Go pg.tables ev below (T6.setTop (mkF mi 36 #[.val (.ref o), .val (.int (0 : Int32)), .val (.int (0 : Int32)), .val (.int (0 : Int32))] [(.ref sp), (.int (u1 - u0)), (.int (0 : Int32))])) P
  refine Go.st (fun t_ k_ => XS.iloadN X6.here hx rfl (hb hby d_prog_5_method_21_36) rfl k_) ?_
  show Go pg.tables ev below (T6.setTop (mkF mi 37 #[.val (.ref o), .val (.int (0 : Int32)), .val (.int (0 : Int32)), .val (.int (0 : Int32))] [(.int (0 : Int32)), (.ref sp), (.int (u1 - u0)), (.int (0 : Int32))])) P
  refine Go.st (fun t_ k_ => XS.iconst X6.here hx rfl (hb hby d_prog_5_method_21_37) k_) ?_
  show Go pg.tables ev below (T6.setTop (mkF mi 38 #[.val (.ref o), .val (.int (0 : Int32)), .val (.int (0 : Int32)), .val (.int (0 : Int32))] [(.int (3 : Int32)), (.int (0 : Int32)), (.ref sp), (.int (u1 - u0)), (.int (0 : Int32))])) P
  refine Go.st (fun t_ k_ => XS.iadd X6.here hx rfl (hb hby d_prog_5_method_21_38) rfl k_) ?_
  show Go pg.tables ev below (T6.setTop (mkF mi 39 #[.val (.ref o), .val (.int (0 : Int32)), .val (.int (0 : Int32)), .val (.int (0 : Int32))] [(.int (3 : Int32)), (.ref sp), (.int (u1 - u0)), (.int (0 : Int32))])) P
  have ov7 := A_sp
  obtain ⟨cl7, Ar7, q7, S7, M7, H7, G7⟩ := ov7
  have hin7 : ¬ ((3 : Int32) < 0 ∨ cl7.slots.size ≤ ((3 : Int32)).toNatClampNeg) := inb_of S7 ⟨by decide, by decide⟩
  have hat7 : cl7.slots[((3 : Int32)).toNatClampNeg]? = some (.int u3) := Has.at H7 hin7 rfl
  refine Go.st (X6.iaload hx (j := (3 : Int32)) (v := (.int u3)) (by rw [e6]; exact Ar7.1) (State.isArrayOf_alike hZ.alike Ar7.2.1) Ar7.2.2 hin7 hat7 (g := (mkF mi 39 #[.val (.ref o), .val (.int (0 : Int32)), .val (.int (0 : Int32)), .val (.int (0 : Int32))] [(.int (3 : Int32)), (.ref sp), (.int (u1 - u0)), (.int (0 : Int32))])) rfl rfl (hb hby d_prog_5_method_21_39)) ?_
  show Go pg.tables ev below (T6.setTop (mkF mi 40 #[.val (.ref o), .val (.int (0 : Int32)), .val (.int (0 : Int32)), .val (.int (0 : Int32))] [(.int u3), (.int (u1 - u0)), (.int (0 : Int32))])) P
  refine Go.st (fun t_ k_ => XS.iadd X6.here hx rfl (hb hby d_prog_5_method_21_40) rfl k_) ?_
  show Go pg.tables ev below (T6.setTop (mkF mi 41 #[.val (.ref o), .val (.int (0 : Int32)), .val (.int (0 : Int32)), .val (.int (0 : Int32))] [(.int ((u1 - u0) + u3)), (.int (0 : Int32))])) P
  refine Go.st (fun t_ k_ => XS.aloadN X6.here hx rfl (hb hby d_prog_5_method_21_41) rfl rfl k_) ?_
  show Go pg.tables ev below (T6.setTop (mkF mi 42 #[.val (.ref o), .val (.int (0 : Int32)), .val (.int (0 : Int32)), .val (.int (0 : Int32))] [(.ref o), (.int ((u1 - u0) + u3)), (.int (0 : Int32))])) P
  obtain ⟨T8, X8, e8, st8⟩ := getF X6 hx hZ hown (host := "") (Or.inl (hw _ (List.mem_of_getElem? (i := 17) rfl))) Via.refl e6 F2 (g := (mkF mi 42 #[.val (.ref o), .val (.int (0 : Int32)), .val (.int (0 : Int32)), .val (.int (0 : Int32))] [(.ref o), (.int ((u1 - u0) + u3)), (.int (0 : Int32))])) rfl rfl (hb hby d_prog_5_method_21_42)
  refine Go.st st8 ?_
  show Go pg.tables ev below (T8.setTop (mkF mi 45 #[.val (.ref o), .val (.int (0 : Int32)), .val (.int (0 : Int32)), .val (.int (0 : Int32))] [(.ref sp), (.int ((u1 - u0) + u3)), (.int (0 : Int32))])) P
  refine Go.st (fun t_ k_ => XS.iloadN X8.here hx rfl (hb hby d_prog_5_method_21_45) rfl k_) ?_
  show Go pg.tables ev below (T8.setTop (mkF mi 46 #[.val (.ref o), .val (.int (0 : Int32)), .val (.int (0 : Int32)), .val (.int (0 : Int32))] [(.int (0 : Int32)), (.ref sp), (.int ((u1 - u0) + u3)), (.int (0 : Int32))])) P
  refine Go.st (fun t_ k_ => XS.iconst X8.here hx rfl (hb hby d_prog_5_method_21_46) k_) ?_
  show Go pg.tables ev below (T8.setTop (mkF mi 47 #[.val (.ref o), .val (.int (0 : Int32)), .val (.int (0 : Int32)), .val (.int (0 : Int32))] [(.int (2 : Int32)), (.int (0 : Int32)), (.ref sp), (.int ((u1 - u0) + u3)), (.int (0 : Int32))])) P
  refine Go.st (fun t_ k_ => XS.iadd X8.here hx rfl (hb hby d_prog_5_method_21_47) rfl k_) ?_
  show Go pg.tables ev below (T8.setTop (mkF mi 48 #[.val (.ref o), .val (.int (0 : Int32)), .val (.int (0 : Int32)), .val (.int (0 : Int32))] [(.int (2 : Int32)), (.ref sp), (.int ((u1 - u0) + u3)), (.int (0 : Int32))])) P
  have ov9 := A_sp
  obtain ⟨cl9, Ar9, q9, S9, M9, H9, G9⟩ := ov9
  have hin9 : ¬ ((2 : Int32) < 0 ∨ cl9.slots.size ≤ ((2 : Int32)).toNatClampNeg) := inb_of S9 ⟨by decide, by decide⟩
  have hat9 : cl9.slots[((2 : Int32)).toNatClampNeg]? = some (.int u2) := Has.at H9 hin9 rfl
  refine Go.st (X8.iaload hx (j := (2 : Int32)) (v := (.int u2)) (by rw [e8]; exact Ar9.1) (State.isArrayOf_alike hZ.alike Ar9.2.1) Ar9.2.2 hin9 hat9 (g := (mkF mi 48 #[.val (.ref o), .val (.int (0 : Int32)), .val (.int (0 : Int32)), .val (.int (0 : Int32))] [(.int (2 : Int32)), (.ref sp), (.int ((u1 - u0) + u3)), (.int (0 : Int32))])) rfl rfl (hb hby d_prog_5_method_21_48)) ?_
  show Go pg.tables ev below (T8.setTop (mkF mi 49 #[.val (.ref o), .val (.int (0 : Int32)), .val (.int (0 : Int32)), .val (.int (0 : Int32))] [(.int u2), (.int ((u1 - u0) + u3)), (.int (0 : Int32))])) P
  refine Go.st (fun t_ k_ => XS.isub X8.here hx rfl (hb hby d_prog_5_method_21_49) rfl k_) ?_
  show Go pg.tables ev below (T8.setTop (mkF mi 50 #[.val (.ref o), .val (.int (0 : Int32)), .val (.int (0 : Int32)), .val (.int (0 : Int32))] [(.int (((u1 - u0) + u3) - u2)), (.int (0 : Int32))])) P
  refine Go.st (fun t_ k_ => XS.iconst X8.here hx rfl (hb hby d_prog_5_method_21_50) k_) ?_
  show Go pg.tables ev below (T8.setTop (mkF mi 51 #[.val (.ref o), .val (.int (0 : Int32)), .val (.int (0 : Int32)), .val (.int (0 : Int32))] [(.int (4 : Int32)), (.int (((u1 - u0) + u3) - u2)), (.int (0 : Int32))])) P
  refine Go.st (fun t_ k_ => XS.iadd X8.here hx rfl (hb hby d_prog_5_method_21_51) rfl k_) ?_
  show Go pg.tables ev below (T8.setTop (mkF mi 52 #[.val (.ref o), .val (.int (0 : Int32)), .val (.int (0 : Int32)), .val (.int (0 : Int32))] [(.int ((((u1 - u0) + u3) - u2) + (4 : Int32))), (.int (0 : Int32))])) P
  refine Go.st (fun t_ k_ => XS.iadd X8.here hx rfl (hb hby d_prog_5_method_21_52) rfl k_) ?_
  show Go pg.tables ev below (T8.setTop (mkF mi 53 #[.val (.ref o), .val (.int (0 : Int32)), .val (.int (0 : Int32)), .val (.int (0 : Int32))] [(.int ((0 : Int32) + ((((u1 - u0) + u3) - u2) + (4 : Int32))))])) P
  refine Go.st (fun t_ k_ => XS.istoreN X8.here hx rfl (hb hby d_prog_5_method_21_53) rfl (l' := #[.val (.ref o), .val (.int ((0 : Int32) + ((((u1 - u0) + u3) - u2) + (4 : Int32)))), .val (.int (0 : Int32)), .val (.int (0 : Int32))]) rfl k_) ?_
  show Go pg.tables ev below (T8.setTop (mkF mi 54 #[.val (.ref o), .val (.int ((0 : Int32) + ((((u1 - u0) + u3) - u2) + (4 : Int32)))), .val (.int (0 : Int32)), .val (.int (0 : Int32))] [])) P
  refine Go.st (fun t_ k_ => XS.iinc X8.here hx rfl (hb hby d_prog_5_method_21_54) rfl (l' := #[.val (.ref o), .val (.int ((0 : Int32) + ((((u1 - u0) + u3) - u2) + (4 : Int32)))), .val (.int (1 : Int32)), .val (.int (0 : Int32))]) rfl k_) ?_
  show Go pg.tables ev below (T8.setTop (mkF mi 57 #[.val (.ref o), .val (.int ((0 : Int32) + ((((u1 - u0) + u3) - u2) + (4 : Int32)))), .val (.int (1 : Int32)), .val (.int (0 : Int32))] [])) P
  refine Go.st (fun t_ k_ => XS.goto X8.here hx rfl (pc0 := 57) (pc' := 4) rfl (hb hby d_prog_5_method_21_57) (by decide) (by decide) k_) ?_
  show Go pg.tables ev below (T8.setTop (mkF mi 4 #[.val (.ref o), .val (.int ((0 : Int32) + ((((u1 - u0) + u3) - u2) + (4 : Int32)))), .val (.int (1 : Int32)), .val (.int (0 : Int32))] [])) P
  refine Go.st (fun t_ k_ => XS.iloadN X8.here hx rfl (hb hby d_prog_5_method_21_4) rfl k_) ?_
  show Go pg.tables ev below (T8.setTop (mkF mi 5 #[.val (.ref o), .val (.int ((0 : Int32) + ((((u1 - u0) + u3) - u2) + (4 : Int32)))), .val (.int (1 : Int32)), .val (.int (0 : Int32))] [(.int (1 : Int32))])) P
  refine Go.st (fun t_ k_ => XS.aloadN X8.here hx rfl (hb hby d_prog_5_method_21_5) rfl rfl k_) ?_
  show Go pg.tables ev below (T8.setTop (mkF mi 6 #[.val (.ref o), .val (.int ((0 : Int32) + ((((u1 - u0) + u3) - u2) + (4 : Int32)))), .val (.int (1 : Int32)), .val (.int (0 : Int32))] [(.ref o), (.int (1 : Int32))])) P
  obtain ⟨T10, X10, e10, st10⟩ := getF X8 hx hZ hown (host := "") (Or.inl (hw _ (List.mem_of_getElem? (i := 28) rfl))) Via.refl e8 F4 (g := (mkF mi 6 #[.val (.ref o), .val (.int ((0 : Int32) + ((((u1 - u0) + u3) - u2) + (4 : Int32)))), .val (.int (1 : Int32)), .val (.int (0 : Int32))] [(.ref o), (.int (1 : Int32))])) rfl rfl (hb hby d_prog_5_method_21_6)
  refine Go.st st10 ?_
  show Go pg.tables ev below (T10.setTop (mkF mi 9 #[.val (.ref o), .val (.int ((0 : Int32) + ((((u1 - u0) + u3) - u2) + (4 : Int32)))), .val (.int (1 : Int32)), .val (.int (0 : Int32))] [(.int (3 : Int32)), (.int (1 : Int32))])) P
  refine Go.st (fun t_ k_ => XS.icmpNo X10.here hx rfl (hb hby d_prog_5_method_21_9) rfl (tlt (by decide)).2.1 k_) ?_
  show Go pg.tables ev below (T10.setTop (mkF mi 12 #[.val (.ref o), .val (.int ((0 : Int32) + ((((u1 - u0) + u3) - u2) + (4 : Int32)))), .val (.int (1 : Int32)), .val (.int (0 : Int32))] [])) P
  refine Go.st (fun t_ k_ => XS.iconst X10.here hx rfl (hb hby d_prog_5_method_21_12) k_) ?_
  show Go pg.tables ev below (T10.setTop (mkF mi 13 #[.val (.ref o), .val (.int ((0 : Int32) + ((((u1 - u0) + u3) - u2) + (4 : Int32)))), .val (.int (1 : Int32)), .val (.int (0 : Int32))] [(.int (4 : Int32))])) P
  refine Go.st (fun t_ k_ => XS.iloadN X10.here hx rfl (hb hby d_prog_5_method_21_13) rfl k_) ?_
  show Go pg.tables ev below (T10.setTop (mkF mi 14 #[.val (.ref o), .val (.int ((0 : Int32) + ((((u1 - u0) + u3) - u2) + (4 : Int32)))), .val (.int (1 : Int32)), .val (.int (0 : Int32))] [(.int (1 : Int32)), (.int (4 : Int32))])) P
  refine Go.st (fun t_ k_ => XS.imul X10.here hx rfl (hb hby d_prog_5_method_21_14) rfl k_) ?_
  show Go pg.tables ev below (T10.setTop (mkF mi 15 #[.val (.ref o), .val (.int ((0 : Int32) + ((((u1 - u0) + u3) - u2) + (4 : Int32)))), .val (.int (1 : Int32)), .val (.int (0 : Int32))] [(.int (4 : Int32))])) P
  refine Go.st (fun t_ k_ => XS.istoreN X10.here hx rfl (hb hby d_prog_5_method_21_15) rfl (l' := #[.val (.ref o), .val (.int ((0 : Int32) + ((((u1 - u0) + u3) - u2) + (4 : Int32)))), .val (.int (1 : Int32)), .val (.int (4 : Int32))]) rfl k_) ?_
  show Go pg.tables ev below (T10.setTop (mkF mi 16 #[.val (.ref o), .val (.int ((0 : Int32) + ((((u1 - u0) + u3) - u2) + (4 : Int32)))), .val (.int (1 : Int32)), .val (.int (4 : Int32))] [])) P
  refine Go.st (fun t_ k_ => XS.iloadN X10.here hx rfl (hb hby d_prog_5_method_21_16) rfl k_) ?_
  show Go pg.tables ev below (T10.setTop (mkF mi 17 #[.val (.ref o), .val (.int ((0 : Int32) + ((((u1 - u0) + u3) - u2) + (4 : Int32)))), .val (.int (1 : Int32)), .val (.int (4 : Int32))] [(.int ((0 : Int32) + ((((u1 - u0) + u3) - u2) + (4 : Int32))))])) P
  refine Go.st (fun t_ k_ => XS.aloadN X10.here hx rfl (hb hby d_prog_5_method_21_17) rfl rfl k_) ?_
  show Go pg.tables ev below (T10.setTop (mkF mi 18 #[.val (.ref o), .val (.int ((0 : Int32) + ((((u1 - u0) + u3) - u2) + (4 : Int32)))), .val (.int (1 : Int32)), .val (.int (4 : Int32))] [(.ref o), (.int ((0 : Int32) + ((((u1 - u0) + u3) - u2) + (4 : Int32))))])) P
  obtain ⟨T11, X11, e11, st11⟩ := getF X10 hx hZ hown (host := "") (Or.inl (hw _ (List.mem_of_getElem? (i := 17) rfl))) Via.refl e10 F2 (g := (mkF mi 18 #[.val (.ref o), .val (.int ((0 : Int32) + ((((u1 - u0) + u3) - u2) + (4 : Int32)))), .val (.int (1 : Int32)), .val (.int (4 : Int32))] [(.ref o), (.int ((0 : Int32) + ((((u1 - u0) + u3) - u2) + (4 : Int32))))])) rfl rfl (hb hby d_prog_5_method_21_18)
  refine Go.st st11 ?_
  show Go pg.tables ev below (T11.setTop (mkF mi 21 #[.val (.ref o), .val (.int ((0 : Int32) + ((((u1 - u0) + u3) - u2) + (4 : Int32)))), .val (.int (1 : Int32)), .val (.int (4 : Int32))] [(.ref sp), (.int ((0 : Int32) + ((((u1 - u0) + u3) - u2) + (4 : Int32))))])) P
  refine Go.st (fun t_ k_ => XS.iloadN X11.here hx rfl (hb hby d_prog_5_method_21_21) rfl k_) ?_
  show Go pg.tables ev below (T11.setTop (mkF mi 22 #[.val (.ref o), .val (.int ((0 : Int32) + ((((u1 - u0) + u3) - u2) + (4 : Int32)))), .val (.int (1 : Int32)), .val (.int (4 : Int32))] [(.int (4 : Int32)), (.ref sp), (.int ((0 : Int32) + ((((u1 - u0) + u3) - u2) + (4 : Int32))))])) P
  refine Go.st (fun t_ k_ => XS.iconst X11.here hx rfl (hb hby d_prog_5_method_21_22) k_) ?_
  show Go pg.tables ev below (T11.setTop (mkF mi 23 #[.val (.ref o), .val (.int ((0 : Int32) + ((((u1 - u0) + u3) - u2) + (4 : Int32)))), .val (.int (1 : Int32)), .val (.int (4 : Int32))] [(.int (1 : Int32)), (.int (4 : Int32)), (.ref sp), (.int ((0 : Int32) + ((((u1 - u0) + u3) - u2) + (4 : Int32))))])) P
  refine Go.st (fun t_ k_ => XS.iadd X11.here hx rfl (hb hby d_prog_5_method_21_23) rfl k_) ?_
  show Go pg.tables ev below (T11.setTop (mkF mi 24 #[.val (.ref o), .val (.int ((0 : Int32) + ((((u1 - u0) + u3) - u2) + (4 : Int32)))), .val (.int (1 : Int32)), .val (.int (4 : Int32))] [(.int (5 : Int32)), (.ref sp), (.int ((0 : Int32) + ((((u1 - u0) + u3) - u2) + (4 : Int32))))])) P
  have ov12 := A_sp
  obtain ⟨cl12, Ar12, q12, S12, M12, H12, G12⟩ := ov12
  have hin12 : ¬ ((5 : Int32) < 0 ∨ cl12.slots.size ≤ ((5 : Int32)).toNatClampNeg) := inb_of S12 ⟨by decide, by decide⟩
  have hat12 : cl12.slots[((5 : Int32)).toNatClampNeg]? = some (.int u5) := Has.at H12 hin12 rfl
  refine Go.st (X11.iaload hx (j := (5 : Int32)) (v := (.int u5)) (by rw [e11]; exact Ar12.1) (State.isArrayOf_alike hZ.alike Ar12.2.1) Ar12.2.2 hin12 hat12 (g := (mkF mi 24 #[.val (.ref o), .val (.int ((0 : Int32) + ((((u1 - u0) + u3) - u2) + (4 : Int32)))), .val (.int (1 : Int32)), .val (.int (4 : Int32))] [(.int (5 : Int32)), (.ref sp), (.int ((0 : Int32) + ((((u1 - u0) + u3) - u2) + (4 : Int32))))])) rfl rfl (hb hby d_prog_5_method_21_24)) ?_
  show Go pg.tables ev below (T11.setTop (mkF mi 25 #[.val (.ref o), .val (.int ((0 : Int32) + ((((u1 - u0) + u3) - u2) + (4 : Int32)))), .val (.int (1 : Int32)), .val (.int (4 : Int32))] [(.int u5), (.int ((0 : Int32) + ((((u1 - u0) + u3) - u2) + (4 : Int32))))])) P
  refine Go.st (fun t_ k_ => XS.aloadN X11.here hx rfl (hb hby d_prog_5_method_21_25) rfl rfl k_) ?_
  show Go pg.tables ev below (T11.setTop (mkF mi 26 #[.val (.ref o), .val (.int ((0 : Int32) + ((((u1 - u0) + u3) - u2) + (4 : Int32)))), .val (.int (1 : Int32)), .val (.int (4 : Int32))] [(.ref o), (.int u5), (.int ((0 : Int32) + ((((u1 - u0) + u3) - u2) + (4 : Int32))))])) P
  obtain ⟨T13, X13, e13, st13⟩ := getF X11 hx hZ hown (host := "") (Or.inl (hw _ (List.mem_of_getElem? (i := 17) rfl))) Via.refl e11 F2 (g := (mkF mi 26 #[.val (.ref o), .val (.int ((0 : Int32) + ((((u1 - u0) + u3) - u2) + (4 : Int32)))), .val (.int (1 : Int32)), .val (.int (4 : Int32))] [(.ref o), (.int u5), (.int ((0 : Int32) + ((((u1 - u0) + u3) - u2) + (4 : Int32))))])) rfl rfl (hb hby d_prog_5_method_21_26)
  refine Go.st st13 ?_
  show Go pg.tables ev below (T13.setTop (mkF mi 29 #[.val (.ref o), .val (.int ((0 : Int32) + ((((u1 - u0) + u3) - u2) + (4 : Int32)))), .val (.int (1 : Int32)), .val (.int (4 : Int32))] [(.ref sp), (.int u5), (.int ((0 : Int32) + ((((u1 - u0) + u3) - u2) + (4 : Int32))))])) P
  refine Go.st (fun t_ k_ => XS.iloadN X13.here hx rfl (hb hby d_prog_5_method_21_29) rfl k_) ?_
  show Go pg.tables ev below (T13.setTop (mkF mi 30 #[.val (.ref o), .val (.int ((0 : Int32) + ((((u1 - u0) + u3) - u2) + (4 : Int32)))), .val (.int (1 : Int32)), .val (.int (4 : Int32))] [(.int (4 : Int32)), (.ref sp), (.int u5), (.int ((0 : Int32) + ((((u1 - u0) + u3) - u2) + (4 : Int32))))])) P
  have ov14 := A_sp
  obtain ⟨cl14, Ar14, q14, S14, M14, H14, G14⟩ := ov14
  have hin14 : ¬ ((4 : Int32) < 0 ∨ cl14.slots.size ≤ ((4 : Int32)).toNatClampNeg) := inb_of S14 ⟨by decide, by decide⟩
  have hat14 : cl14.slots[((4 : Int32)).toNatClampNeg]? = some (.int u4) := Has.at H14 hin14 rfl
  refine Go.st (X13.iaload hx (j := (4 : Int32)) (v := (.int u4)) (by rw [e13]; exact Ar14.1) (State.isArrayOf_alike hZ.alike Ar14.2.1) Ar14.2.2 hin14 hat14 (g := (mkF mi 30 #[.val (.ref o), .val (.int ((0 : Int32) + ((((u1 - u0) + u3) - u2) + (4 : Int32)))), .val (.int (1 : Int32)), .val (.int (4 : Int32))] [(.int (4 : Int32)), (.ref sp), (.int u5), (.int ((0 : Int32) + ((((u1 - u0) + u3) - u2) + (4 : Int32))))])) rfl rfl (hb hby d_prog_5_method_21_30)) ?_
  show Go pg.tables ev below (T13.setTop (mkF mi 31 #[.val (.ref o), .val (.int ((0 : Int32) + ((((u1 - u0) + u3) - u2) + (4 : Int32)))), .val (.int (1 : Int32)), .val (.int (4 : Int32))] [(.int u4), (.int u5), (.int ((0 : Int32) + ((((u1 - u0) + u3) - u2) + (4 : Int32))))])) P
  refine Go.st (fun t_ k_ => XS.isub X13.here hx rfl (hb hby d_prog_5_method_21_31) rfl k_) ?_
  show Go pg.tables ev below (T13.setTop (mkF mi 32 #[.val (.ref o), .val (.int ((0 : Int32) + ((((u1 - u0) + u3) - u2) + (4 : Int32)))), .val (.int (1 : Int32)), .val (.int (4 : Int32))] [(.int (u5 - u4)), (.int ((0 : Int32) + ((((u1 - u0) + u3) - u2) + (4 : Int32))))])) P
  refine Go.st (fun t_ k_ => XS.aloadN X13.here hx rfl (hb hby d_prog_5_method_21_32) rfl rfl k_) ?_
  show Go pg.tables ev below (T13.setTop (mkF mi 33 #[.val (.ref o), .val (.int ((0 : Int32) + ((((u1 - u0) + u3) - u2) + (4 : Int32)))), .val (.int (1 : Int32)), .val (.int (4 : Int32))] [(.ref o), (.int (u5 - u4)), (.int ((0 : Int32) + ((((u1 - u0) + u3) - u2) + (4 : Int32))))])) P
  obtain ⟨T15, X15, e15, st15⟩ := getF X13 hx hZ hown (host := "") (Or.inl (hw _ (List.mem_of_getElem? (i := 17) rfl))) Via.refl e13 F2 (g := (mkF mi 33 #[.val (.ref o), .val (.int ((0 : Int32) + ((((u1 - u0) + u3) - u2) + (4 : Int32)))), .val (.int (1 : Int32)), .val (.int (4 : Int32))] [(.ref o), (.int (u5 - u4)), (.int ((0 : Int32) + ((((u1 - u0) + u3) - u2) + (4 : Int32))))])) rfl rfl (hb hby d_prog_5_method_21_33)
  refine Go.st st15 ?_
  show Go pg.tables ev below (T15.setTop (mkF mi 36 #[.val (.ref o), .val (.int ((0 : Int32) + ((((u1 - u0) + u3) - u2) + (4 : Int32)))), .val (.int (1 : Int32)), .val (.int (4 : Int32))] [(.ref sp), (.int (u5 - u4)), (.int ((0 : Int32) + ((((u1 - u0) + u3) - u2) + (4 : Int32))))])) P
  refine Go.st (fun t_ k_ => XS.iloadN X15.here hx rfl (hb hby d_prog_5_method_21_36) rfl k_) ?_
  show Go pg.tables ev below (T15.setTop (mkF mi 37 #[.val (.ref o), .val (.int ((0 : Int32) + ((((u1 - u0) + u3) - u2) + (4 : Int32)))), .val (.int (1 : Int32)), .val (.int (4 : Int32))] [(.int (4 : Int32)), (.ref sp), (.int (u5 - u4)), (.int ((0 : Int32) + ((((u1 - u0) + u3) - u2) + (4 : Int32))))])) P
  refine Go.st (fun t_ k_ => XS.iconst X15.here hx rfl (hb hby d_prog_5_method_21_37) k_) ?_
  show Go pg.tables ev below (T15.setTop (mkF mi 38 #[.val (.ref o), .val (.int ((0 : Int32) + ((((u1 - u0) + u3) - u2) + (4 : Int32)))), .val (.int (1 : Int32)), .val (.int (4 : Int32))] [(.int (3 : Int32)), (.int (4 : Int32)), (.ref sp), (.int (u5 - u4)), (.int ((0 : Int32) + ((((u1 - u0) + u3) - u2) + (4 : Int32))))])) P
  refine Go.st (fun t_ k_ => XS.iadd X15.here hx rfl (hb hby d_prog_5_method_21_38) rfl k_) ?_
  show Go pg.tables ev below (T15.setTop (mkF mi 39 #[.val (.ref o), .val (.int ((0 : Int32) + ((((u1 - u0) + u3) - u2) + (4 : Int32)))), .val (.int (1 : Int32)), .val (.int (4 : Int32))] [(.int (7 : Int32)), (.ref sp), (.int (u5 - u4)), (.int ((0 : Int32) + ((((u1 - u0) + u3) - u2) + (4 : Int32))))])) P
  have ov16 := A_sp
  obtain ⟨cl16, Ar16, q16, S16, M16, H16, G16⟩ := ov16
  have hin16 : ¬ ((7 : Int32) < 0 ∨ cl16.slots.size ≤ ((7 : Int32)).toNatClampNeg) := inb_of S16 ⟨by decide, by decide⟩
  have hat16 : cl16.slots[((7 : Int32)).toNatClampNeg]? = some (.int u7) := Has.at H16 hin16 rfl
  refine Go.st (X15.iaload hx (j := (7 : Int32)) (v := (.int u7)) (by rw [e15]; exact Ar16.1) (State.isArrayOf_alike hZ.alike Ar16.2.1) Ar16.2.2 hin16 hat16 (g := (mkF mi 39 #[.val (.ref o), .val (.int ((0 : Int32) + ((((u1 - u0) + u3) - u2) + (4 : Int32)))), .val (.int (1 : Int32)), .val (.int (4 : Int32))] [(.int (7 : Int32)), (.ref sp), (.int (u5 - u4)), (.int ((0 : Int32) + ((((u1 - u0) + u3) - u2) + (4 : Int32))))])) rfl rfl (hb hby d_prog_5_method_21_39)) ?_
  show Go pg.tables ev below (T15.setTop (mkF mi 40 #[.val (.ref o), .val (.int ((0 : Int32) + ((((u1 - u0) + u3) - u2) + (4 : Int32)))), .val (.int (1 : Int32)), .val (.int (4 : Int32))] [(.int u7), (.int (u5 - u4)), (.int ((0 : Int32) + ((((u1 - u0) + u3) - u2) + (4 : Int32))))])) P
  refine Go.st (fun t_ k_ => XS.iadd X15.here hx rfl (hb hby d_prog_5_method_21_40) rfl k_) ?_
  show Go pg.tables ev below (T15.setTop (mkF mi 41 #[.val (.ref o), .val (.int ((0 : Int32) + ((((u1 - u0) + u3) - u2) + (4 : Int32)))), .val (.int (1 : Int32)), .val (.int (4 : Int32))] [(.int ((u5 - u4) + u7)), (.int ((0 : Int32) + ((((u1 - u0) + u3) - u2) + (4 : Int32))))])) P
  refine Go.st (fun t_ k_ => XS.aloadN X15.here hx rfl (hb hby d_prog_5_method_21_41) rfl rfl k_) ?_
  show Go pg.tables ev below (T15.setTop (mkF mi 42 #[.val (.ref o), .val (.int ((0 : Int32) + ((((u1 - u0) + u3) - u2) + (4 : Int32)))), .val (.int (1 : Int32)), .val (.int (4 : Int32))] [(.ref o), (.int ((u5 - u4) + u7)), (.int ((0 : Int32) + ((((u1 - u0) + u3) - u2) + (4 : Int32))))])) P
  obtain ⟨T17, X17, e17, st17⟩ := getF X15 hx hZ hown (host := "") (Or.inl (hw _ (List.mem_of_getElem? (i := 17) rfl))) Via.refl e15 F2 (g := (mkF mi 42 #[.val (.ref o), .val (.int ((0 : Int32) + ((((u1 - u0) + u3) - u2) + (4 : Int32)))), .val (.int (1 : Int32)), .val (.int (4 : Int32))] [(.ref o), (.int ((u5 - u4) + u7)), (.int ((0 : Int32) + ((((u1 - u0) + u3) - u2) + (4 : Int32))))])) rfl rfl (hb hby d_prog_5_method_21_42)
  refine Go.st st17 ?_
  show Go pg.tables ev below (T17.setTop (mkF mi 45 #[.val (.ref o), .val (.int ((0 : Int32) + ((((u1 - u0) + u3) - u2) + (4 : Int32)))), .val (.int (1 : Int32)), .val (.int (4 : Int32))] [(.ref sp), (.int ((u5 - u4) + u7)), (.int ((0 : Int32) + ((((u1 - u0) + u3) - u2) + (4 : Int32))))])) P
  refine Go.st (fun t_ k_ => XS.iloadN X17.here hx rfl (hb hby d_prog_5_method_21_45) rfl k_) ?_
  show Go pg.tables ev below (T17.setTop (mkF mi 46 #[.val (.ref o), .val (.int ((0 : Int32) + ((((u1 - u0) + u3) - u2) + (4 : Int32)))), .val (.int (1 : Int32)), .val (.int (4 : Int32))] [(.int (4 : Int32)), (.ref sp), (.int ((u5 - u4) + u7)), (.int ((0 : Int32) + ((((u1 - u0) + u3) - u2) + (4 : Int32))))])) P
  refine Go.st (fun t_ k_ => XS.iconst X17.here hx rfl (hb hby d_prog_5_method_21_46) k_) ?_
  show Go pg.tables ev below (T17.setTop (mkF mi 47 #[.val (.ref o), .val (.int ((0 : Int32) + ((((u1 - u0) + u3) - u2) + (4 : Int32)))), .val (.int (1 : Int32)), .val (.int (4 : Int32))] [(.int (2 : Int32)), (.int (4 : Int32)), (.ref sp), (.int ((u5 - u4) + u7)), (.int ((0 : Int32) + ((((u1 - u0) + u3) - u2) + (4 : Int32))))])) P
  refine Go.st (fun t_ k_ => XS.iadd X17.here hx rfl (hb hby d_prog_5_method_21_47) rfl k_) ?_
  show Go pg.tables ev below (T17.setTop (mkF mi 48 #[.val (.ref o), .val (.int ((0 : Int32) + ((((u1 - u0) + u3) - u2) + (4 : Int32)))), .val (.int (1 : Int32)), .val (.int (4 : Int32))] [(.int (6 : Int32)), (.ref sp), (.int ((u5 - u4) + u7)), (.int ((0 : Int32) + ((((u1 - u0) + u3) - u2) + (4 : Int32))))])) P
  have ov18 := A_sp
  obtain ⟨cl18, Ar18, q18, S18, M18, H18, G18⟩ := ov18
  have hin18 : ¬ ((6 : Int32) < 0 ∨ cl18.slots.size ≤ ((6 : Int32)).toNatClampNeg) := inb_of S18 ⟨by decide, by decide⟩
  have hat18 : cl18.slots[((6 : Int32)).toNatClampNeg]? = some (.int u6) := Has.at H18 hin18 rfl
  refine Go.st (X17.iaload hx (j := (6 : Int32)) (v := (.int u6)) (by rw [e17]; exact Ar18.1) (State.isArrayOf_alike hZ.alike Ar18.2.1) Ar18.2.2 hin18 hat18 (g := (mkF mi 48 #[.val (.ref o), .val (.int ((0 : Int32) + ((((u1 - u0) + u3) - u2) + (4 : Int32)))), .val (.int (1 : Int32)), .val (.int (4 : Int32))] [(.int (6 : Int32)), (.ref sp), (.int ((u5 - u4) + u7)), (.int ((0 : Int32) + ((((u1 - u0) + u3) - u2) + (4 : Int32))))])) rfl rfl (hb hby d_prog_5_method_21_48)) ?_
  show Go pg.tables ev below (T17.setTop (mkF mi 49 #[.val (.ref o), .val (.int ((0 : Int32) + ((((u1 - u0) + u3) - u2) + (4 : Int32)))), .val (.int (1 : Int32)), .val (.int (4 : Int32))] [(.int u6), (.int ((u5 - u4) + u7)), (.int ((0 : Int32) + ((((u1 - u0) + u3) - u2) + (4 : Int32))))])) P
  refine Go.st (fun t_ k_ => XS.isub X17.here hx rfl (hb hby d_prog_5_method_21_49) rfl k_) ?_
  show Go pg.tables ev below (T17.setTop (mkF mi 50 #[.val (.ref o), .val (.int ((0 : Int32) + ((((u1 - u0) + u3) - u2) + (4 : Int32)))), .val (.int (1 : Int32)), .val (.int (4 : Int32))] [(.int (((u5 - u4) + u7) - u6)), (.int ((0 : Int32) + ((((u1 - u0) + u3) - u2) + (4 : Int32))))])) P
  refine Go.st (fun t_ k_ => XS.iconst X17.here hx rfl (hb hby d_prog_5_method_21_50) k_) ?_
  show Go pg.tables ev below (T17.setTop (mkF mi 51 #[.val (.ref o), .val (.int ((0 : Int32) + ((((u1 - u0) + u3) - u2) + (4 : Int32)))), .val (.int (1 : Int32)), .val (.int (4 : Int32))] [(.int (4 : Int32)), (.int (((u5 - u4) + u7) - u6)), (.int ((0 : Int32) + ((((u1 - u0) + u3) - u2) + (4 : Int32))))])) P
  refine Go.st (fun t_ k_ => XS.iadd X17.here hx rfl (hb hby d_prog_5_method_21_51) rfl k_) ?_
  show Go pg.tables ev below (T17.setTop (mkF mi 52 #[.val (.ref o), .val (.int ((0 : Int32) + ((((u1 - u0) + u3) - u2) + (4 : Int32)))), .val (.int (1 : Int32)), .val (.int (4 : Int32))] [(.int ((((u5 - u4) + u7) - u6) + (4 : Int32))), (.int ((0 : Int32) + ((((u1 - u0) + u3) - u2) + (4 : Int32))))])) P
  refine Go.st (fun t_ k_ => XS.iadd X17.here hx rfl (hb hby d_prog_5_method_21_52) rfl k_) ?_
  show Go pg.tables ev below (T17.setTop (mkF mi 53 #[.val (.ref o), .val (.int ((0 : Int32) + ((((u1 - u0) + u3) - u2) + (4 : Int32)))), .val (.int (1 : Int32)), .val (.int (4 : Int32))] [(.int (((0 : Int32) + ((((u1 - u0) + u3) - u2) + (4 : Int32))) + ((((u5 - u4) + u7) - u6) + (4 : Int32))))])) P
  refine Go.st (fun t_ k_ => XS.istoreN X17.here hx rfl (hb hby d_prog_5_method_21_53) rfl (l' := #[.val (.ref o), .val (.int (((0 : Int32) + ((((u1 - u0) + u3) - u2) + (4 : Int32))) + ((((u5 - u4) + u7) - u6) + (4 : Int32)))), .val (.int (1 : Int32)), .val (.int (4 : Int32))]) rfl k_) ?_
  show Go pg.tables ev below (T17.setTop (mkF mi 54 #[.val (.ref o), .val (.int (((0 : Int32) + ((((u1 - u0) + u3) - u2) + (4 : Int32))) + ((((u5 - u4) + u7) - u6) + (4 : Int32)))), .val (.int (1 : Int32)), .val (.int (4 : Int32))] [])) P
  refine Go.st (fun t_ k_ => XS.iinc X17.here hx rfl (hb hby d_prog_5_method_21_54) rfl (l' := #[.val (.ref o), .val (.int (((0 : Int32) + ((((u1 - u0) + u3) - u2) + (4 : Int32))) + ((((u5 - u4) + u7) - u6) + (4 : Int32)))), .val (.int (2 : Int32)), .val (.int (4 : Int32))]) rfl k_) ?_
  show Go pg.tables ev below (T17.setTop (mkF mi 57 #[.val (.ref o), .val (.int (((0 : Int32) + ((((u1 - u0) + u3) - u2) + (4 : Int32))) + ((((u5 - u4) + u7) - u6) + (4 : Int32)))), .val (.int (2 : Int32)), .val (.int (4 : Int32))] [])) P
  refine Go.st (fun t_ k_ => XS.goto X17.here hx rfl (pc0 := 57) (pc' := 4) rfl (hb hby d_prog_5_method_21_57) (by decide) (by decide) k_) ?_
  show Go pg.tables ev below (T17.setTop (mkF mi 4 #[.val (.ref o), .val (.int (((0 : Int32) + ((((u1 - u0) + u3) - u2) + (4 : Int32))) + ((((u5 - u4) + u7) - u6) + (4 : Int32)))), .val (.int (2 : Int32)), .val (.int (4 : Int32))] [])) P
  refine Go.st (fun t_ k_ => XS.iloadN X17.here hx rfl (hb hby d_prog_5_method_21_4) rfl k_) ?_
  show Go pg.tables ev below (T17.setTop (mkF mi 5 #[.val (.ref o), .val (.int (((0 : Int32) + ((((u1 - u0) + u3) - u2) + (4 : Int32))) + ((((u5 - u4) + u7) - u6) + (4 : Int32)))), .val (.int (2 : Int32)), .val (.int (4 : Int32))] [(.int (2 : Int32))])) P
  refine Go.st (fun t_ k_ => XS.aloadN X17.here hx rfl (hb hby d_prog_5_method_21_5) rfl rfl k_) ?_
  show Go pg.tables ev below (T17.setTop (mkF mi 6 #[.val (.ref o), .val (.int (((0 : Int32) + ((((u1 - u0) + u3) - u2) + (4 : Int32))) + ((((u5 - u4) + u7) - u6) + (4 : Int32)))), .val (.int (2 : Int32)), .val (.int (4 : Int32))] [(.ref o), (.int (2 : Int32))])) P
  obtain ⟨T19, X19, e19, st19⟩ := getF X17 hx hZ hown (host := "") (Or.inl (hw _ (List.mem_of_getElem? (i := 28) rfl))) Via.refl e17 F4 (g := (mkF mi 6 #[.val (.ref o), .val (.int (((0 : Int32) + ((((u1 - u0) + u3) - u2) + (4 : Int32))) + ((((u5 - u4) + u7) - u6) + (4 : Int32)))), .val (.int (2 : Int32)), .val (.int (4 : Int32))] [(.ref o), (.int (2 : Int32))])) rfl rfl (hb hby d_prog_5_method_21_6)
  refine Go.st st19 ?_
  show Go pg.tables ev below (T19.setTop (mkF mi 9 #[.val (.ref o), .val (.int (((0 : Int32) + ((((u1 - u0) + u3) - u2) + (4 : Int32))) + ((((u5 - u4) + u7) - u6) + (4 : Int32)))), .val (.int (2 : Int32)), .val (.int (4 : Int32))] [(.int (3 : Int32)), (.int (2 : Int32))])) P
  refine Go.st (fun t_ k_ => XS.icmpNo X19.here hx rfl (hb hby d_prog_5_method_21_9) rfl (tlt (by decide)).2.1 k_) ?_
  show Go pg.tables ev below (T19.setTop (mkF mi 12 #[.val (.ref o), .val (.int (((0 : Int32) + ((((u1 - u0) + u3) - u2) + (4 : Int32))) + ((((u5 - u4) + u7) - u6) + (4 : Int32)))), .val (.int (2 : Int32)), .val (.int (4 : Int32))] [])) P
  refine Go.st (fun t_ k_ => XS.iconst X19.here hx rfl (hb hby d_prog_5_method_21_12) k_) ?_
  show Go pg.tables ev below (T19.setTop (mkF mi 13 #[.val (.ref o), .val (.int (((0 : Int32) + ((((u1 - u0) + u3) - u2) + (4 : Int32))) + ((((u5 - u4) + u7) - u6) + (4 : Int32)))), .val (.int (2 : Int32)), .val (.int (4 : Int32))] [(.int (4 : Int32))])) P
  refine Go.st (fun t_ k_ => XS.iloadN X19.here hx rfl (hb hby d_prog_5_method_21_13) rfl k_) ?_
  show Go pg.tables ev below (T19.setTop (mkF mi 14 #[.val (.ref o), .val (.int (((0 : Int32) + ((((u1 - u0) + u3) - u2) + (4 : Int32))) + ((((u5 - u4) + u7) - u6) + (4 : Int32)))), .val (.int (2 : Int32)), .val (.int (4 : Int32))] [(.int (2 : Int32)), (.int (4 : Int32))])) P
  refine Go.st (fun t_ k_ => XS.imul X19.here hx rfl (hb hby d_prog_5_method_21_14) rfl k_) ?_
  show Go pg.tables ev below (T19.setTop (mkF mi 15 #[.val (.ref o), .val (.int (((0 : Int32) + ((((u1 - u0) + u3) - u2) + (4 : Int32))) + ((((u5 - u4) + u7) - u6) + (4 : Int32)))), .val (.int (2 : Int32)), .val (.int (4 : Int32))] [(.int (8 : Int32))])) P
  refine Go.st (fun t_ k_ => XS.istoreN X19.here hx rfl (hb hby d_prog_5_method_21_15) rfl (l' := #[.val (.ref o), .val (.int (((0 : Int32) + ((((u1 - u0) + u3) - u2) + (4 : Int32))) + ((((u5 - u4) + u7) - u6) + (4 : Int32)))), .val (.int (2 : Int32)), .val (.int (8 : Int32))]) rfl k_) ?_
  show Go pg.tables ev below (T19.setTop (mkF mi 16 #[.val (.ref o), .val (.int (((0 : Int32) + ((((u1 - u0) + u3) - u2) + (4 : Int32))) + ((((u5 - u4) + u7) - u6) + (4 : Int32)))), .val (.int (2 : Int32)), .val (.int (8 : Int32))] [])) P
  refine Go.st (fun t_ k_ => XS.iloadN X19.here hx rfl (hb hby d_prog_5_method_21_16) rfl k_) ?_
  show Go pg.tables ev below (T19.setTop (mkF mi 17 #[.val (.ref o), .val (.int (((0 : Int32) + ((((u1 - u0) + u3) - u2) + (4 : Int32))) + ((((u5 - u4) + u7) - u6) + (4 : Int32)))), .val (.int (2 : Int32)), .val (.int (8 : Int32))] [(.int (((0 : Int32) + ((((u1 - u0) + u3) - u2) + (4 : Int32))) + ((((u5 - u4) + u7) - u6) + (4 : Int32))))])) P
  refine Go.st (fun t_ k_ => XS.aloadN X19.here hx rfl (hb hby d_prog_5_method_21_17) rfl rfl k_) ?_
  show Go pg.tables ev below (T19.setTop (mkF mi 18 #[.val (.ref o), .val (.int (((0 : Int32) + ((((u1 - u0) + u3) - u2) + (4 : Int32))) + ((((u5 - u4) + u7) - u6) + (4 : Int32)))), .val (.int (2 : Int32)), .val (.int (8 : Int32))] [(.ref o), (.int (((0 : Int32) + ((((u1 - u0) + u3) - u2) + (4 : Int32))) + ((((u5 - u4) + u7) - u6) + (4 : Int32))))])) P
  obtain ⟨T20, X20, e20, st20⟩ := getF X19 hx hZ hown (host := "") (Or.inl (hw _ (List.mem_of_getElem? (i := 17) rfl))) Via.refl e19 F2 (g := (mkF mi 18 #[.val (.ref o), .val (.int (((0 : Int32) + ((((u1 - u0) + u3) - u2) + (4 : Int32))) + ((((u5 - u4) + u7) - u6) + (4 : Int32)))), .val (.int (2 : Int32)), .val (.int (8 : Int32))] [(.ref o), (.int (((0 : Int32) + ((((u1 - u0) + u3) - u2) + (4 : Int32))) + ((((u5 - u4) + u7) - u6) + (4 : Int32))))])) rfl rfl (hb hby d_prog_5_method_21_18)
  refine Go.st st20 ?_
  show Go pg.tables ev below (T20.setTop (mkF mi 21 #[.val (.ref o), .val (.int (((0 : Int32) + ((((u1 - u0) + u3) - u2) + (4 : Int32))) + ((((u5 - u4) + u7) - u6) + (4 : Int32)))), .val (.int (2 : Int32)), .val (.int (8 : Int32))] [(.ref sp), (.int (((0 : Int32) + ((((u1 - u0) + u3) - u2) + (4 : Int32))) + ((((u5 - u4) + u7) - u6) + (4 : Int32))))])) P
  refine Go.st (fun t_ k_ => XS.iloadN X20.here hx rfl (hb hby d_prog_5_method_21_21) rfl k_) ?_
  show Go pg.tables ev below (T20.setTop (mkF mi 22 #[.val (.ref o), .val (.int (((0 : Int32) + ((((u1 - u0) + u3) - u2) + (4 : Int32))) + ((((u5 - u4) + u7) - u6) + (4 : Int32)))), .val (.int (2 : Int32)), .val (.int (8 : Int32))] [(.int (8 : Int32)), (.ref sp), (.int (((0 : Int32) + ((((u1 - u0) + u3) - u2) + (4 : Int32))) + ((((u5 - u4) + u7) - u6) + (4 : Int32))))])) P
  refine Go.st (fun t_ k_ => XS.iconst X20.here hx rfl (hb hby d_prog_5_method_21_22) k_) ?_
  show Go pg.tables ev below (T20.setTop (mkF mi 23 #[.val (.ref o), .val (.int (((0 : Int32) + ((((u1 - u0) + u3) - u2) + (4 : Int32))) + ((((u5 - u4) + u7) - u6) + (4 : Int32)))), .val (.int (2 : Int32)), .val (.int (8 : Int32))] [(.int (1 : Int32)), (.int (8 : Int32)), (.ref sp), (.int (((0 : Int32) + ((((u1 - u0) + u3) - u2) + (4 : Int32))) + ((((u5 - u4) + u7) - u6) + (4 : Int32))))])) P
  refine Go.st (fun t_ k_ => XS.iadd X20.here hx rfl (hb hby d_prog_5_method_21_23) rfl k_) ?_
  show Go pg.tables ev below (T20.setTop (mkF mi 24 #[.val (.ref o), .val (.int (((0 : Int32) + ((((u1 - u0) + u3) - u2) + (4 : Int32))) + ((((u5 - u4) + u7) - u6) + (4 : Int32)))), .val (.int (2 : Int32)), .val (.int (8 : Int32))] [(.int (9 : Int32)), (.ref sp), (.int (((0 : Int32) + ((((u1 - u0) + u3) - u2) + (4 : Int32))) + ((((u5 - u4) + u7) - u6) + (4 : Int32))))])) P
  have ov21 := A_sp
  obtain ⟨cl21, Ar21, q21, S21, M21, H21, G21⟩ := ov21
  have hin21 : ¬ ((9 : Int32) < 0 ∨ cl21.slots.size ≤ ((9 : Int32)).toNatClampNeg) := inb_of S21 ⟨by decide, by decide⟩
  have hat21 : cl21.slots[((9 : Int32)).toNatClampNeg]? = some (.int u9) := Has.at H21 hin21 rfl
  refine Go.st (X20.iaload hx (j := (9 : Int32)) (v := (.int u9)) (by rw [e20]; exact Ar21.1) (State.isArrayOf_alike hZ.alike Ar21.2.1) Ar21.2.2 hin21 hat21 (g := (mkF mi 24 #[.val (.ref o), .val (.int (((0 : Int32) + ((((u1 - u0) + u3) - u2) + (4 : Int32))) + ((((u5 - u4) + u7) - u6) + (4 : Int32)))), .val (.int (2 : Int32)), .val (.int (8 : Int32))] [(.int (9 : Int32)), (.ref sp), (.int (((0 : Int32) + ((((u1 - u0) + u3) - u2) + (4 : Int32))) + ((((u5 - u4) + u7) - u6) + (4 : Int32))))])) rfl rfl (hb hby d_prog_5_method_21_24)) ?_
  show Go pg.tables ev below (T20.setTop (mkF mi 25 #[.val (.ref o), .val (.int (((0 : Int32) + ((((u1 - u0) + u3) - u2) + (4 : Int32))) + ((((u5 - u4) + u7) - u6) + (4 : Int32)))), .val (.int (2 : Int32)), .val (.int (8 : Int32))] [(.int u9), (.int (((0 : Int32) + ((((u1 - u0) + u3) - u2) + (4 : Int32))) + ((((u5 - u4) + u7) - u6) + (4 : Int32))))])) P
  refine Go.st (fun t_ k_ => XS.aloadN X20.here hx rfl (hb hby d_prog_5_method_21_25) rfl rfl k_) ?_
  show Go pg.tables ev below (T20.setTop (mkF mi 26 #[.val (.ref o), .val (.int (((0 : Int32) + ((((u1 - u0) + u3) - u2) + (4 : Int32))) + ((((u5 - u4) + u7) - u6) + (4 : Int32)))), .val (.int (2 : Int32)), .val (.int (8 : Int32))] [(.ref o), (.int u9), (.int (((0 : Int32) + ((((u1 - u0) + u3) - u2) + (4 : Int32))) + ((((u5 - u4) + u7) - u6) + (4 : Int32))))])) P
  obtain ⟨T22, X22, e22, st22⟩ := getF X20 hx hZ hown (host := "") (Or.inl (hw _ (List.mem_of_getElem? (i := 17) rfl))) Via.refl e20 F2 (g := (mkF mi 26 #[.val (.ref o), .val (.int (((0 : Int32) + ((((u1 - u0) + u3) - u2) + (4 : Int32))) + ((((u5 - u4) + u7) - u6) + (4 : Int32)))), .val (.int (2 : Int32)), .val (.int (8 : Int32))] [(.ref o), (.int u9), (.int (((0 : Int32) + ((((u1 - u0) + u3) - u2) + (4 : Int32))) + ((((u5 - u4) + u7) - u6) + (4 : Int32))))])) rfl rfl (hb hby d_prog_5_method_21_26)
  refine Go.st st22 ?_
  show Go pg.tables ev below (T22.setTop (mkF mi 29 #[.val (.ref o), .val (.int (((0 : Int32) + ((((u1 - u0) + u3) - u2) + (4 : Int32))) + ((((u5 - u4) + u7) - u6) + (4 : Int32)))), .val (.int (2 : Int32)), .val (.int (8 : Int32))] [(.ref sp), (.int u9), (.int (((0 : Int32) + ((((u1 - u0) + u3) - u2) + (4 : Int32))) + ((((u5 - u4) + u7) - u6) + (4 : Int32))))])) P
  refine Go.st (fun t_ k_ => XS.iloadN X22.here hx rfl (hb hby d_prog_5_method_21_29) rfl k_) ?_
  show Go pg.tables ev below (T22.setTop (mkF mi 30 #[.val (.ref o), .val (.int (((0 : Int32) + ((((u1 - u0) + u3) - u2) + (4 : Int32))) + ((((u5 - u4) + u7) - u6) + (4 : Int32)))), .val (.int (2 : Int32)), .val (.int (8 : Int32))] [(.int (8 : Int32)), (.ref sp), (.int u9), (.int (((0 : Int32) + ((((u1 - u0) + u3) - u2) + (4 : Int32))) + ((((u5 - u4) + u7) - u6) + (4 : Int32))))])) P
  have ov23 := A_sp
  obtain ⟨cl23, Ar23, q23, S23, M23, H23, G23⟩ := ov23
  have hin23 : ¬ ((8 : Int32) < 0 ∨ cl23.slots.size ≤ ((8 : Int32)).toNatClampNeg) := inb_of S23 ⟨by decide, by decide⟩
  have hat23 : cl23.slots[((8 : Int32)).toNatClampNeg]? = some (.int u8) := Has.at H23 hin23 rfl
  refine Go.st (X22.iaload hx (j := (8 : Int32)) (v := (.int u8)) (by rw [e22]; exact Ar23.1) (State.isArrayOf_alike hZ.alike Ar23.2.1) Ar23.2.2 hin23 hat23 (g := (mkF mi 30 #[.val (.ref o), .val (.int (((0 : Int32) + ((((u1 - u0) + u3) - u2) + (4 : Int32))) + ((((u5 - u4) + u7) - u6) + (4 : Int32)))), .val (.int (2 : Int32)), .val (.int (8 : Int32))] [(.int (8 : Int32)), (.ref sp), (.int u9), (.int (((0 : Int32) + ((((u1 - u0) + u3) - u2) + (4 : Int32))) + ((((u5 - u4) + u7) - u6) + (4 : Int32))))])) rfl rfl (hb hby d_prog_5_method_21_30)) ?_
  show Go pg.tables ev below (T22.setTop (mkF mi 31 #[.val (.ref o), .val (.int (((0 : Int32) + ((((u1 - u0) + u3) - u2) + (4 : Int32))) + ((((u5 - u4) + u7) - u6) + (4 : Int32)))), .val (.int (2 : Int32)), .val (.int (8 : Int32))] [(.int u8), (.int u9), (.int (((0 : Int32) + ((((u1 - u0) + u3) - u2) + (4 : Int32))) + ((((u5 - u4) + u7) - u6) + (4 : Int32))))])) P
  refine Go.st (fun t_ k_ => XS.isub X22.here hx rfl (hb hby d_prog_5_method_21_31) rfl k_) ?_
  show Go pg.tables ev below (T22.setTop (mkF mi 32 #[.val (.ref o), .val (.int (((0 : Int32) + ((((u1 - u0) + u3) - u2) + (4 : Int32))) + ((((u5 - u4) + u7) - u6) + (4 : Int32)))), .val (.int (2 : Int32)), .val (.int (8 : Int32))] [(.int (u9 - u8)), (.int (((0 : Int32) + ((((u1 - u0) + u3) - u2) + (4 : Int32))) + ((((u5 - u4) + u7) - u6) + (4 : Int32))))])) P
  refine Go.st (fun t_ k_ => XS.aloadN X22.here hx rfl (hb hby d_prog_5_method_21_32) rfl rfl k_) ?_
  show Go pg.tables ev below (T22.setTop (mkF mi 33 #[.val (.ref o), .val (.int (((0 : Int32) + ((((u1 - u0) + u3) - u2) + (4 : Int32))) + ((((u5 - u4) + u7) - u6) + (4 : Int32)))), .val (.int (2 : Int32)), .val (.int (8 : Int32))] [(.ref o), (.int (u9 - u8)), (.int (((0 : Int32) + ((((u1 - u0) + u3) - u2) + (4 : Int32))) + ((((u5 - u4) + u7) - u6) + (4 : Int32))))])) P
  obtain ⟨T24, X24, e24, st24⟩ := getF X22 hx hZ hown (host := "") (Or.inl (hw _ (List.mem_of_getElem? (i := 17) rfl))) Via.refl e22 F2 (g := (mkF mi 33 #[.val (.ref o), .val (.int (((0 : Int32) + ((((u1 - u0) + u3) - u2) + (4 : Int32))) + ((((u5 - u4) + u7) - u6) + (4 : Int32)))), .val (.int (2 : Int32)), .val (.int (8 : Int32))] [(.ref o), (.int (u9 - u8)), (.int (((0 : Int32) + ((((u1 - u0) + u3) - u2) + (4 : Int32))) + ((((u5 - u4) + u7) - u6) + (4 : Int32))))])) rfl rfl (hb hby d_prog_5_method_21_33)
  refine Go.st st24 ?_
  show Go pg.tables ev below (T24.setTop (mkF mi 36 #[.val (.ref o), .val (.int (((0 : Int32) + ((((u1 - u0) + u3) - u2) + (4 : Int32))) + ((((u5 - u4) + u7) - u6) + (4 : Int32)))), .val (.int (2 : Int32)), .val (.int (8 : Int32))] [(.ref sp), (.int (u9 - u8)), (.int (((0 : Int32) + ((((u1 - u0) + u3) - u2) + (4 : Int32))) + ((((u5 - u4) + u7) - u6) + (4 : Int32))))])) P
  refine Go.st (fun t_ k_ => XS.iloadN X24.here hx rfl (hb hby d_prog_5_method_21_36) rfl k_) ?_
  show Go pg.tables ev below (T24.setTop (mkF mi 37 #[.val (.ref o), .val (.int (((0 : Int32) + ((((u1 - u0) + u3) - u2) + (4 : Int32))) + ((((u5 - u4) + u7) - u6) + (4 : Int32)))), .val (.int (2 : Int32)), .val (.int (8 : Int32))] [(.int (8 : Int32)), (.ref sp), (.int (u9 - u8)), (.int (((0 : Int32) + ((((u1 - u0) + u3) - u2) + (4 : Int32))) + ((((u5 - u4) + u7) - u6) + (4 : Int32))))])) P
  refine Go.st (fun t_ k_ => XS.iconst X24.here hx rfl (hb hby d_prog_5_method_21_37) k_) ?_
  show Go pg.tables ev below (T24.setTop (mkF mi 38 #[.val (.ref o), .val (.int (((0 : Int32) + ((((u1 - u0) + u3) - u2) + (4 : Int32))) + ((((u5 - u4) + u7) - u6) + (4 : Int32)))), .val (.int (2 : Int32)), .val (.int (8 : Int32))] [(.int (3 : Int32)), (.int (8 : Int32)), (.ref sp), (.int (u9 - u8)), (.int (((0 : Int32) + ((((u1 - u0) + u3) - u2) + (4 : Int32))) + ((((u5 - u4) + u7) - u6) + (4 : Int32))))])) P
  refine Go.st (fun t_ k_ => XS.iadd X24.here hx rfl (hb hby d_prog_5_method_21_38) rfl k_) ?_
  show Go pg.tables ev below (T24.setTop (mkF mi 39 #[.val (.ref o), .val (.int (((0 : Int32) + ((((u1 - u0) + u3) - u2) + (4 : Int32))) + ((((u5 - u4) + u7) - u6) + (4 : Int32)))), .val (.int (2 : Int32)), .val (.int (8 : Int32))] [(.int (11 : Int32)), (.ref sp), (.int (u9 - u8)), (.int (((0 : Int32) + ((((u1 - u0) + u3) - u2) + (4 : Int32))) + ((((u5 - u4) + u7) - u6) + (4 : Int32))))])) P
  have ov25 := A_sp
  obtain ⟨cl25, Ar25, q25, S25, M25, H25, G25⟩ := ov25
  have hin25 : ¬ ((11 : Int32) < 0 ∨ cl25.slots.size ≤ ((11 : Int32)).toNatClampNeg) := inb_of S25 ⟨by decide, by decide⟩
  have hat25 : cl25.slots[((11 : Int32)).toNatClampNeg]? = some (.int u11) := Has.at H25 hin25 rfl
  refine Go.st (X24.iaload hx (j := (11 : Int32)) (v := (.int u11)) (by rw [e24]; exact Ar25.1) (State.isArrayOf_alike hZ.alike Ar25.2.1) Ar25.2.2 hin25 hat25 (g := (mkF mi 39 #[.val (.ref o), .val (.int (((0 : Int32) + ((((u1 - u0) + u3) - u2) + (4 : Int32))) + ((((u5 - u4) + u7) - u6) + (4 : Int32)))), .val (.int (2 : Int32)), .val (.int (8 : Int32))] [(.int (11 : Int32)), (.ref sp), (.int (u9 - u8)), (.int (((0 : Int32) + ((((u1 - u0) + u3) - u2) + (4 : Int32))) + ((((u5 - u4) + u7) - u6) + (4 : Int32))))])) rfl rfl (hb hby d_prog_5_method_21_39)) ?_
  show Go pg.tables ev below (T24.setTop (mkF mi 40 #[.val (.ref o), .val (.int (((0 : Int32) + ((((u1 - u0) + u3) - u2) + (4 : Int32))) + ((((u5 - u4) + u7) - u6) + (4 : Int32)))), .val (.int (2 : Int32)), .val (.int (8 : Int32))] [(.int u11), (.int (u9 - u8)), (.int (((0 : Int32) + ((((u1 - u0) + u3) - u2) + (4 : Int32))) + ((((u5 - u4) + u7) - u6) + (4 : Int32))))])) P
  refine Go.st (fun t_ k_ => XS.iadd X24.here hx rfl (hb hby d_prog_5_method_21_40) rfl k_) ?_
  show Go pg.tables ev below (T24.setTop (mkF mi 41 #[.val (.ref o), .val (.int (((0 : Int32) + ((((u1 - u0) + u3) - u2) + (4 : Int32))) + ((((u5 - u4) + u7) - u6) + (4 : Int32)))), .val (.int (2 : Int32)), .val (.int (8 : Int32))] [(.int ((u9 - u8) + u11)), (.int (((0 : Int32) + ((((u1 - u0) + u3) - u2) + (4 : Int32))) + ((((u5 - u4) + u7) - u6) + (4 : Int32))))])) P
  refine Go.st (fun t_ k_ => XS.aloadN X24.here hx rfl (hb hby d_prog_5_method_21_41) rfl rfl k_) ?_
  show Go pg.tables ev below (T24.setTop (mkF mi 42 #[.val (.ref o), .val (.int (((0 : Int32) + ((((u1 - u0) + u3) - u2) + (4 : Int32))) + ((((u5 - u4) + u7) - u6) + (4 : Int32)))), .val (.int (2 : Int32)), .val (.int (8 : Int32))] [(.ref o), (.int ((u9 - u8) + u11)), (.int (((0 : Int32) + ((((u1 - u0) + u3) - u2) + (4 : Int32))) + ((((u5 - u4) + u7) - u6) + (4 : Int32))))])) P
  obtain ⟨T26, X26, e26, st26⟩ := getF X24 hx hZ hown (host := "") (Or.inl (hw _ (List.mem_of_getElem? (i := 17) rfl))) Via.refl e24 F2 (g := (mkF mi 42 #[.val (.ref o), .val (.int (((0 : Int32) + ((((u1 - u0) + u3) - u2) + (4 : Int32))) + ((((u5 - u4) + u7) - u6) + (4 : Int32)))), .val (.int (2 : Int32)), .val (.int (8 : Int32))] [(.ref o), (.int ((u9 - u8) + u11)), (.int (((0 : Int32) + ((((u1 - u0) + u3) - u2) + (4 : Int32))) + ((((u5 - u4) + u7) - u6) + (4 : Int32))))])) rfl rfl (hb hby d_prog_5_method_21_42)
  refine Go.st st26 ?_
  show Go pg.tables ev below (T26.setTop (mkF mi 45 #[.val (.ref o), .val (.int (((0 : Int32) + ((((u1 - u0) + u3) - u2) + (4 : Int32))) + ((((u5 - u4) + u7) - u6) + (4 : Int32)))), .val (.int (2 : Int32)), .val (.int (8 : Int32))] [(.ref sp), (.int ((u9 - u8) + u11)), (.int (((0 : Int32) + ((((u1 - u0) + u3) - u2) + (4 : Int32))) + ((((u5 - u4) + u7) - u6) + (4 : Int32))))])) P
  refine Go.st (fun t_ k_ => XS.iloadN X26.here hx rfl (hb hby d_prog_5_method_21_45) rfl k_) ?_
  show Go pg.tables ev below (T26.setTop (mkF mi 46 #[.val (.ref o), .val (.int (((0 : Int32) + ((((u1 - u0) + u3) - u2) + (4 : Int32))) + ((((u5 - u4) + u7) - u6) + (4 : Int32)))), .val (.int (2 : Int32)), .val (.int (8 : Int32))] [(.int (8 : Int32)), (.ref sp), (.int ((u9 - u8) + u11)), (.int (((0 : Int32) + ((((u1 - u0) + u3) - u2) + (4 : Int32))) + ((((u5 - u4) + u7) - u6) + (4 : Int32))))])) P
  refine Go.st (fun t_ k_ => XS.iconst X26.here hx rfl (hb hby d_prog_5_method_21_46) k_) ?_
  show Go pg.tables ev below (T26.setTop (mkF mi 47 #[.val (.ref o), .val (.int (((0 : Int32) + ((((u1 - u0) + u3) - u2) + (4 : Int32))) + ((((u5 - u4) + u7) - u6) + (4 : Int32)))), .val (.int (2 : Int32)), .val (.int (8 : Int32))] [(.int (2 : Int32)), (.int (8 : Int32)), (.ref sp), (.int ((u9 - u8) + u11)), (.int (((0 : Int32) + ((((u1 - u0) + u3) - u2) + (4 : Int32))) + ((((u5 - u4) + u7) - u6) + (4 : Int32))))])) P
  refine Go.st (fun t_ k_ => XS.iadd X26.here hx rfl (hb hby d_prog_5_method_21_47) rfl k_) ?_
  show Go pg.tables ev below (T26.setTop (mkF mi 48 #[.val (.ref o), .val (.int (((0 : Int32) + ((((u1 - u0) + u3) - u2) + (4 : Int32))) + ((((u5 - u4) + u7) - u6) + (4 : Int32)))), .val (.int (2 : Int32)), .val (.int (8 : Int32))] [(.int (10 : Int32)), (.ref sp), (.int ((u9 - u8) + u11)), (.int (((0 : Int32) + ((((u1 - u0) + u3) - u2) + (4 : Int32))) + ((((u5 - u4) + u7) - u6) + (4 : Int32))))])) P
  have ov27 := A_sp
  obtain ⟨cl27, Ar27, q27, S27, M27, H27, G27⟩ := ov27
  have hin27 : ¬ ((10 : Int32) < 0 ∨ cl27.slots.size ≤ ((10 : Int32)).toNatClampNeg) := inb_of S27 ⟨by decide, by decide⟩
  have hat27 : cl27.slots[((10 : Int32)).toNatClampNeg]? = some (.int u10) := Has.at H27 hin27 rfl
  refine Go.st (X26.iaload hx (j := (10 : Int32)) (v := (.int u10)) (by rw [e26]; exact Ar27.1) (State.isArrayOf_alike hZ.alike Ar27.2.1) Ar27.2.2 hin27 hat27 (g := (mkF mi 48 #[.val (.ref o), .val (.int (((0 : Int32) + ((((u1 - u0) + u3) - u2) + (4 : Int32))) + ((((u5 - u4) + u7) - u6) + (4 : Int32)))), .val (.int (2 : Int32)), .val (.int (8 : Int32))] [(.int (10 : Int32)), (.ref sp), (.int ((u9 - u8) + u11)), (.int (((0 : Int32) + ((((u1 - u0) + u3) - u2) + (4 : Int32))) + ((((u5 - u4) + u7) - u6) + (4 : Int32))))])) rfl rfl (hb hby d_prog_5_method_21_48)) ?_
  show Go pg.tables ev below (T26.setTop (mkF mi 49 #[.val (.ref o), .val (.int (((0 : Int32) + ((((u1 - u0) + u3) - u2) + (4 : Int32))) + ((((u5 - u4) + u7) - u6) + (4 : Int32)))), .val (.int (2 : Int32)), .val (.int (8 : Int32))] [(.int u10), (.int ((u9 - u8) + u11)), (.int (((0 : Int32) + ((((u1 - u0) + u3) - u2) + (4 : Int32))) + ((((u5 - u4) + u7) - u6) + (4 : Int32))))])) P
  refine Go.st (fun t_ k_ => XS.isub X26.here hx rfl (hb hby d_prog_5_method_21_49) rfl k_) ?_
  show Go pg.tables ev below (T26.setTop (mkF mi 50 #[.val (.ref o), .val (.int (((0 : Int32) + ((((u1 - u0) + u3) - u2) + (4 : Int32))) + ((((u5 - u4) + u7) - u6) + (4 : Int32)))), .val (.int (2 : Int32)), .val (.int (8 : Int32))] [(.int (((u9 - u8) + u11) - u10)), (.int (((0 : Int32) + ((((u1 - u0) + u3) - u2) + (4 : Int32))) + ((((u5 - u4) + u7) - u6) + (4 : Int32))))])) P
  refine Go.st (fun t_ k_ => XS.iconst X26.here hx rfl (hb hby d_prog_5_method_21_50) k_) ?_
  show Go pg.tables ev below (T26.setTop (mkF mi 51 #[.val (.ref o), .val (.int (((0 : Int32) + ((((u1 - u0) + u3) - u2) + (4 : Int32))) + ((((u5 - u4) + u7) - u6) + (4 : Int32)))), .val (.int (2 : Int32)), .val (.int (8 : Int32))] [(.int (4 : Int32)), (.int (((u9 - u8) + u11) - u10)), (.int (((0 : Int32) + ((((u1 - u0) + u3) - u2) + (4 : Int32))) + ((((u5 - u4) + u7) - u6) + (4 : Int32))))])) P
  refine Go.st (fun t_ k_ => XS.iadd X26.here hx rfl (hb hby d_prog_5_method_21_51) rfl k_) ?_
  show Go pg.tables ev below (T26.setTop (mkF mi 52 #[.val (.ref o), .val (.int (((0 : Int32) + ((((u1 - u0) + u3) - u2) + (4 : Int32))) + ((((u5 - u4) + u7) - u6) + (4 : Int32)))), .val (.int (2 : Int32)), .val (.int (8 : Int32))] [(.int ((((u9 - u8) + u11) - u10) + (4 : Int32))), (.int (((0 : Int32) + ((((u1 - u0) + u3) - u2) + (4 : Int32))) + ((((u5 - u4) + u7) - u6) + (4 : Int32))))])) P
  refine Go.st (fun t_ k_ => XS.iadd X26.here hx rfl (hb hby d_prog_5_method_21_52) rfl k_) ?_
  show Go pg.tables ev below (T26.setTop (mkF mi 53 #[.val (.ref o), .val (.int (((0 : Int32) + ((((u1 - u0) + u3) - u2) + (4 : Int32))) + ((((u5 - u4) + u7) - u6) + (4 : Int32)))), .val (.int (2 : Int32)), .val (.int (8 : Int32))] [(.int ((((0 : Int32) + ((((u1 - u0) + u3) - u2) + (4 : Int32))) + ((((u5 - u4) + u7) - u6) + (4 : Int32))) + ((((u9 - u8) + u11) - u10) + (4 : Int32))))])) P
  refine Go.st (fun t_ k_ => XS.istoreN X26.here hx rfl (hb hby d_prog_5_method_21_53) rfl (l' := #[.val (.ref o), .val (.int ((((0 : Int32) + ((((u1 - u0) + u3) - u2) + (4 : Int32))) + ((((u5 - u4) + u7) - u6) + (4 : Int32))) + ((((u9 - u8) + u11) - u10) + (4 : Int32)))), .val (.int (2 : Int32)), .val (.int (8 : Int32))]) rfl k_) ?_
  show Go pg.tables ev below (T26.setTop (mkF mi 54 #[.val (.ref o), .val (.int ((((0 : Int32) + ((((u1 - u0) + u3) - u2) + (4 : Int32))) + ((((u5 - u4) + u7) - u6) + (4 : Int32))) + ((((u9 - u8) + u11) - u10) + (4 : Int32)))), .val (.int (2 : Int32)), .val (.int (8 : Int32))] [])) P
  refine Go.st (fun t_ k_ => XS.iinc X26.here hx rfl (hb hby d_prog_5_method_21_54) rfl (l' := #[.val (.ref o), .val (.int ((((0 : Int32) + ((((u1 - u0) + u3) - u2) + (4 : Int32))) + ((((u5 - u4) + u7) - u6) + (4 : Int32))) + ((((u9 - u8) + u11) - u10) + (4 : Int32)))), .val (.int (3 : Int32)), .val (.int (8 : Int32))]) rfl k_) ?_
  show Go pg.tables ev below (T26.setTop (mkF mi 57 #[.val (.ref o), .val (.int ((((0 : Int32) + ((((u1 - u0) + u3) - u2) + (4 : Int32))) + ((((u5 - u4) + u7) - u6) + (4 : Int32))) + ((((u9 - u8) + u11) - u10) + (4 : Int32)))), .val (.int (3 : Int32)), .val (.int (8 : Int32))] [])) P
  refine Go.st (fun t_ k_ => XS.goto X26.here hx rfl (pc0 := 57) (pc' := 4) rfl (hb hby d_prog_5_method_21_57) (by decide) (by decide) k_) ?_
  show Go pg.tables ev below (T26.setTop (mkF mi 4 #[.val (.ref o), .val (.int ((((0 : Int32) + ((((u1 - u0) + u3) - u2) + (4 : Int32))) + ((((u5 - u4) + u7) - u6) + (4 : Int32))) + ((((u9 - u8) + u11) - u10) + (4 : Int32)))), .val (.int (3 : Int32)), .val (.int (8 : Int32))] [])) P
  refine Go.st (fun t_ k_ => XS.iloadN X26.here hx rfl (hb hby d_prog_5_method_21_4) rfl k_) ?_
  show Go pg.tables ev below (T26.setTop (mkF mi 5 #[.val (.ref o), .val (.int ((((0 : Int32) + ((((u1 - u0) + u3) - u2) + (4 : Int32))) + ((((u5 - u4) + u7) - u6) + (4 : Int32))) + ((((u9 - u8) + u11) - u10) + (4 : Int32)))), .val (.int (3 : Int32)), .val (.int (8 : Int32))] [(.int (3 : Int32))])) P
  refine Go.st (fun t_ k_ => XS.aloadN X26.here hx rfl (hb hby d_prog_5_method_21_5) rfl rfl k_) ?_
  show Go pg.tables ev below (T26.setTop (mkF mi 6 #[.val (.ref o), .val (.int ((((0 : Int32) + ((((u1 - u0) + u3) - u2) + (4 : Int32))) + ((((u5 - u4) + u7) - u6) + (4 : Int32))) + ((((u9 - u8) + u11) - u10) + (4 : Int32)))), .val (.int (3 : Int32)), .val (.int (8 : Int32))] [(.ref o), (.int (3 : Int32))])) P
  obtain ⟨T28, X28, e28, st28⟩ := getF X26 hx hZ hown (host := "") (Or.inl (hw _ (List.mem_of_getElem? (i := 28) rfl))) Via.refl e26 F4 (g := (mkF mi 6 #[.val (.ref o), .val (.int ((((0 : Int32) + ((((u1 - u0) + u3) - u2) + (4 : Int32))) + ((((u5 - u4) + u7) - u6) + (4 : Int32))) + ((((u9 - u8) + u11) - u10) + (4 : Int32)))), .val (.int (3 : Int32)), .val (.int (8 : Int32))] [(.ref o), (.int (3 : Int32))])) rfl rfl (hb hby d_prog_5_method_21_6)
  refine Go.st st28 ?_
  show Go pg.tables ev below (T28.setTop (mkF mi 9 #[.val (.ref o), .val (.int ((((0 : Int32) + ((((u1 - u0) + u3) - u2) + (4 : Int32))) + ((((u5 - u4) + u7) - u6) + (4 : Int32))) + ((((u9 - u8) + u11) - u10) + (4 : Int32)))), .val (.int (3 : Int32)), .val (.int (8 : Int32))] [(.int (3 : Int32)), (.int (3 : Int32))])) P
  refine Go.st (fun t_ k_ => XS.icmpYes X28.here hx rfl (pc0 := 9) (pc' := 60) rfl (hb hby d_prog_5_method_21_9) rfl (flt (by decide)).2.1 (by decide) (by decide) k_) ?_
  show Go pg.tables ev below (T28.setTop (mkF mi 60 #[.val (.ref o), .val (.int ((((0 : Int32) + ((((u1 - u0) + u3) - u2) + (4 : Int32))) + ((((u5 - u4) + u7) - u6) + (4 : Int32))) + ((((u9 - u8) + u11) - u10) + (4 : Int32)))), .val (.int (3 : Int32)), .val (.int (8 : Int32))] [])) P
  refine Go.st (fun t_ k_ => XS.iloadN X28.here hx rfl (hb hby d_prog_5_method_21_60) rfl k_) ?_
  show Go pg.tables ev below (T28.setTop (mkF mi 61 #[.val (.ref o), .val (.int ((((0 : Int32) + ((((u1 - u0) + u3) - u2) + (4 : Int32))) + ((((u5 - u4) + u7) - u6) + (4 : Int32))) + ((((u9 - u8) + u11) - u10) + (4 : Int32)))), .val (.int (3 : Int32)), .val (.int (8 : Int32))] [(.int ((((0 : Int32) + ((((u1 - u0) + u3) - u2) + (4 : Int32))) + ((((u5 - u4) + u7) - u6) + (4 : Int32))) + ((((u9 - u8) + u11) - u10) + (4 : Int32))))])) P
  obtain ⟨fs, hr, hrun, hended, hW, hsame⟩ := X28.leave (v := some (.int ((((0 : Int32) + ((((u1 - u0) + u3) - u2) + (4 : Int32))) + ((((u5 - u4) + u7) - u6) + (4 : Int32))) + ((((u9 - u8) + u11) - u10) + (4 : Int32))))) (fun h => by rw [Bd.returns] at h; cases h) (BodyLoose.notSynchronized Bd)
  refine ⟨_, _, ?_, hP _ _ ⟨hrun, hended, _, _, rfl, ?_, ⟨_, rfl⟩, hW, hsame.mono (by decide) (by decide)⟩⟩
  · exact retI X28 hx Bd.returns (hb hby d_prog_5_method_21_61) hr
  · show (some (.int ((((0 : Int32) + ((((u1 - u0) + u3) - u2) + (4 : Int32))) + ((((u5 - u4) + u7) - u6) + (4 : Int32))) + ((((u9 - u8) + u11) - u10) + (4 : Int32)))) : Option Value) = some (.int (fZ3 u0 u1 u2 u3 u4 u5 u6 u7 u8 u9 u10 u11)) ∧ Fr n0 _ ∧ T28.heap = h0
    rw [e28]
    exact ⟨rfl, N0, rfl⟩
theorem own_ring (a b c d : Int32) : (((((a + b) - a) + (c + d)) - c) + (4 : Int32)) = ((b + d) + (4 : Int32)) := by
  rw [show (a + b) - a = b by rw [Int32.add_comm a b, Int32.add_sub_cancel], Int32.add_comm c d, ← Int32.add_assoc, Int32.add_sub_cancel]
theorem own_sum0 : fZ0 = (0 : Int32) := rfl
theorem own_sum1 (p : Int32) : fZ1 (fNS p) ((fNS p) + (fNL p)) (fVS p) ((fVS p) + (fVL p)) = ((0 : Int32) + (fLS p)) := by
  unfold fZ1 fLS; rw [own_ring]
theorem own_sum2 (p q : Int32) : fZ2 (fNS p) ((fNS p) + (fNL p)) (fVS p) ((fVS p) + (fVL p)) (fNS q) ((fNS q) + (fNL q)) (fVS q) ((fVS q) + (fVL q)) = (((0 : Int32) + (fLS p)) + (fLS q)) := by
  unfold fZ2 fLS; rw [own_ring, own_ring]
theorem own_sum3 (p q r : Int32) : fZ3 (fNS p) ((fNS p) + (fNL p)) (fVS p) ((fVS p) + (fVL p)) (fNS q) ((fNS q) + (fNL q)) (fVS q) ((fVS q) + (fVL q)) (fNS r) ((fNS r) + (fNL r)) (fVS r) ((fVS r) + (fVL r)) = ((((0 : Int32) + (fLS p)) + (fLS q)) + (fLS r)) := by
  unfold fZ3 fLS; rw [own_ring, own_ring, own_ring]
theorem own_up {x a b : Int32} (h : x < a) (hab : a ≤ b) : x < b := Int32.lt_of_lt_of_le h hab
theorem pd_3 : parseMethodDescriptor "()V" = some ⟨[], none⟩ := by decide +kernel
theorem pd_4 : parseMethodDescriptor "()I" = some ⟨[], some .int⟩ := by decide +kernel
theorem pd_5 : parseMethodDescriptor "(Lcom/example/gatewright/gatewright/Fields;[BI)V" = some ⟨[(.object "com/example/gatewright/gatewright/Fields"), (.array .byte), .int], none⟩ := by decide +kernel
theorem ef_rm0 (mi : MethodId) (cnt : Int32) (f0 : Int32) (f1 : Int32) (f2 : Int32) : entryFrame mi #[(.int cnt), (.int f0), (.int f1), (.int f2)] maxLocals = mkF mi 0 #[.val (.int cnt), .val (.int f0), .val (.int f1), .val (.int f2), .unset, .unset, .unset, .unset] [] := by first | (simp [entryFrame, mkF, argsToLocals, Value.category, maxLocals]; done) | rfl
def Q_rm0 (Z : State) (cnt : Int32) (f0 : Int32) (f1 : Int32) (f2 : Int32) (h0 : Heap) (n0 : Nat) (vv_ : Option Value) (hh_ : Heap) (LL_ : List Loc) : Prop := vv_ = some (.int 1) ∧ Fr n0 LL_
set_option maxRecDepth 65536 in
set_option maxHeartbeats 40000000 in
theorem rm0 (l : Launch) (Z : State) (a0 : Array Value) (hw : ∀ d ∈ tables_1, d.before a0 Z = true) (ws : List Jvm.Cond) (cnt : Int32) (f0 : Int32) (f1 : Int32) (f2 : Int32) (h0 : Heap) (n0 : Nat) (Z0 : n0 ≤ h0.size) :
    MetFree l x (head1 (Jvm.Cond.code x code maxLocals ret :: ws) room_1) (fun aa_ U => aa_ = #[(.int cnt), (.int f0), (.int f1), (.int f2)] ∧ Z.Warmed39 U.vm ∧ U.heap = h0) (fun _ _ _ _ _ => True) (fun _ U oo_ UV_ => ∃ vv_ LL_, oo_ = .returned vv_ ∧ Q_rm0 Z cnt f0 f1 f2 h0 n0 vv_ UV_.heap LL_ ∧ FrameEnd U oo_ UV_ LL_ room_1.cells room_1.slots) := by
  refine MetFree.of_bodySF (plainFor_of_name pn_0) hisR ?_
  intro pg ev si mi args below meth ci s₁ Bd hml0 hP0 hK
  obtain ⟨rfl, hZ, hh⟩ := hP0
  have hx := Bd.exec
  have hby := Bd.bytes
  have hml : ci.maxLocals = 8 := hml0
  have hown : si.vm.findClass "com/example/gatewright/gatewright/FieldsEncodedSizePinLaw" = some mi.cls := findClass_of_methodNamed Bd.named
  have hnm := (name_of_methodNamed Bd.named Bd.method).1
  have X0 : Stand pg l ev room_1 si mi #[(.int cnt), (.int f0), (.int f1), (.int f2)] below meth ci s₁ [] 0 0 := Stand.of_body Bd
  have e0 : s₁.heap = h0 := by rw [← hh, Bd.state]; rfl
  have N0 := Fr.nil n0
  refine Go.start (fun P hP => ?_)
  refine Go.st (fun t_ k_ => castTop (ef_rm0 mi cnt f0 f1 f2) k_) (A := s₁.setTop (mkF mi 0 #[.val (.int cnt), .val (.int f0), .val (.int f1), .val (.int f2), .unset, .unset, .unset, .unset] [])) ?_
  show Go pg.tables ev below (s₁.setTop (mkF mi 0 #[.val (.int cnt), .val (.int f0), .val (.int f1), .val (.int f2), .unset, .unset, .unset, .unset] [])) P
  refine Go.st (fun t_ k_ => XS.iloadN X0.here hx rfl (hb hby at_0) rfl k_) ?_
  show Go pg.tables ev below (s₁.setTop (mkF mi 1 #[.val (.int cnt), .val (.int f0), .val (.int f1), .val (.int f2), .unset, .unset, .unset, .unset] [(.int cnt)])) P
  refine Go.st (fun t_ k_ => XS.iconst X0.here hx rfl (hb hby at_1) k_) ?_
  show Go pg.tables ev below (s₁.setTop (mkF mi 2 #[.val (.int cnt), .val (.int f0), .val (.int f1), .val (.int f2), .unset, .unset, .unset, .unset] [(.int (3 : Int32)), (.int cnt)])) P
  refine Go.st (fun t_ k_ => XS.iand X0.here hx rfl (hb hby at_2) rfl k_) ?_
  show Go pg.tables ev below (s₁.setTop (mkF mi 3 #[.val (.int cnt), .val (.int f0), .val (.int f1), .val (.int f2), .unset, .unset, .unset, .unset] [(.int (cnt &&& (3 : Int32)))])) P
  refine Go.st (fun t_ k_ => XS.istore X0.here hx rfl (hb hby at_3) rfl (l' := #[.val (.int cnt), .val (.int f0), .val (.int f1), .val (.int f2), .val (.int (cnt &&& (3 : Int32))), .unset, .unset, .unset]) rfl k_) ?_
  show Go pg.tables ev below (s₁.setTop (mkF mi 5 #[.val (.int cnt), .val (.int f0), .val (.int f1), .val (.int f2), .val (.int (cnt &&& (3 : Int32))), .unset, .unset, .unset] [])) P
  refine Go.st (fun t_ k_ => XS.bipush X0.here hx rfl (hb hby at_5) k_) ?_
  show Go pg.tables ev below (s₁.setTop (mkF mi 7 #[.val (.int cnt), .val (.int f0), .val (.int f1), .val (.int f2), .val (.int (cnt &&& (3 : Int32))), .unset, .unset, .unset] [(.int (64 : Int32))])) P
  obtain ⟨T1, h1, k1, X1, e1, E1, A1, EX1, st1⟩ := newPE X0 hx hZ (hw _ (List.mem_of_getElem? (i := 0) rfl)) e0 (g := (mkF mi 7 #[.val (.int cnt), .val (.int f0), .val (.int f1), .val (.int f2), .val (.int (cnt &&& (3 : Int32))), .unset, .unset, .unset] [(.int (64 : Int32))])) rfl (hb hby at_7) rfl (by decide) (cap := 64) (by decide) (by decide) (by decide) (by decide) (ad := "[B") (by decide)
  obtain ⟨b1, g1⟩ : ∃ z, z = h0.size := ⟨_, rfl⟩
  rw [← g1] at A1 EX1 st1
  have Zs2 : n0 ≤ h1.size := Nat.le_trans Z0 E1.1
  have g_b1 : n0 ≤ b1 := Nat.le_trans Z0 (Nat.le_of_eq g1.symm)
  have V1 : Arv Z h1 b1 k1 .byte (64 : Int32) [] (.int (0 : Int32)) := Arv.new A1 (by decide)
  refine Go.st st1 ?_
  show Go pg.tables ev below (T1.setTop (mkF mi 9 #[.val (.int cnt), .val (.int f0), .val (.int f1), .val (.int f2), .val (.int (cnt &&& (3 : Int32))), .unset, .unset, .unset] [(.ref b1)])) P
  refine Go.st (fun t_ k_ => XS.astore X1.here hx rfl (hb hby at_9) rfl rfl (l' := #[.val (.int cnt), .val (.int f0), .val (.int f1), .val (.int f2), .val (.int (cnt &&& (3 : Int32))), .val (.ref b1), .unset, .unset]) rfl k_) ?_
  show Go pg.tables ev below (T1.setTop (mkF mi 11 #[.val (.int cnt), .val (.int f0), .val (.int f1), .val (.int f2), .val (.int (cnt &&& (3 : Int32))), .val (.ref b1), .unset, .unset] [])) P
  obtain ⟨T3, h3, X3, e3, E3, A3, D3, -, st3⟩ := newO X1 hx hZ hown (hw _ (List.mem_of_getElem? (i := 1) rfl)) (hw _ (List.mem_of_getElem? (i := 2) rfl)) (hw _ (List.mem_of_getElem? (i := 3) rfl)) e1 (g := (mkF mi 11 #[.val (.int cnt), .val (.int f0), .val (.int f1), .val (.int f2), .val (.int (cnt &&& (3 : Int32))), .val (.ref b1), .unset, .unset] [])) rfl (hb hby at_11) (by decide) (by decide)
  obtain ⟨b3, g3⟩ : ∃ z, z = h1.size := ⟨_, rfl⟩
  rw [← g3] at A3 D3 st3
  have Zs4 : n0 ≤ h3.size := Nat.le_trans Zs2 E3.1
  have g_b3 : n0 ≤ b3 := Nat.le_trans Zs2 (Nat.le_of_eq g3.symm)
  have ne_b1_b3 : b1 ≠ b3 := Nat.ne_of_lt (Nat.lt_of_lt_of_le EX1.lt (Nat.le_of_eq g3.symm))
  have F3_13 : Fld Z h3 b3 "com/example/gatewright/gatewright/Fields" "nameBytes" "[[B" .null := D3 (Or.inl (hw _ (List.mem_of_getElem? (i := 13) rfl))) (ty := (.array (.array .byte))) (by decide)
  have F3_15 : Fld Z h3 b3 "com/example/gatewright/gatewright/Fields" "valueBytes" "[[B" .null := D3 (Or.inl (hw _ (List.mem_of_getElem? (i := 15) rfl))) (ty := (.array (.array .byte))) (by decide)
  have F3_18 : Fld Z h3 b3 "com/example/gatewright/gatewright/Fields" "spans" "[I" .null := D3 (Or.inl (hw _ (List.mem_of_getElem? (i := 18) rfl))) (ty := (.array .int)) (by decide)
  have F3_22 : Fld Z h3 b3 "com/example/gatewright/gatewright/Fields" "known" "[Lcom/example/gatewright/gatewright/FieldName;" .null := D3 (Or.inl (hw _ (List.mem_of_getElem? (i := 22) rfl))) (ty := (.array (.object "com/example/gatewright/gatewright/FieldName"))) (by decide)
  have F3_29 : Fld Z h3 b3 "com/example/gatewright/gatewright/Fields" "size" "I" (.int (0 : Int32)) := D3 (Or.inl (hw _ (List.mem_of_getElem? (i := 29) rfl))) (ty := .int) (by decide)
  have F3_60 : Fld Z h3 b3 "com/example/gatewright/gatewright/Fields" "texts" "[Ljava/lang/String;" .null := D3 (Or.inl (hw _ (List.mem_of_getElem? (i := 60) rfl))) (ty := (.array (.object "java/lang/String"))) (by decide)
  refine Go.st st3 ?_
  show Go pg.tables ev below (T3.setTop (mkF mi 14 #[.val (.int cnt), .val (.int f0), .val (.int f1), .val (.int f2), .val (.int (cnt &&& (3 : Int32))), .val (.ref b1), .unset, .unset] [(.ref b3)])) P
  refine Go.st (fun t_ k_ => XS.dup X3.here hx rfl (hb hby at_14) rfl rfl k_) ?_
  show Go pg.tables ev below (T3.setTop (mkF mi 15 #[.val (.int cnt), .val (.int f0), .val (.int f1), .val (.int f2), .val (.int (cnt &&& (3 : Int32))), .val (.ref b1), .unset, .unset] [(.ref b3), (.ref b3)])) P
  obtain ⟨_, _, ⟨T5, L5, k5, n5⟩, -, X5, ⟨Lc5, hQ5, l5, y5, z5⟩, st5⟩ := X3.specialBack hx (y := (⟨"com/example/gatewright/gatewright/Fields", "<init>", "()V"⟩ : MethodName)) rfl hown (mvT hZ (hw _ (List.mem_of_getElem? (i := 4) rfl))) (mvT hZ (hw _ (List.mem_of_getElem? (i := 5) rfl))) (mvT hZ (hw _ (List.mem_of_getElem? (i := 6) rfl))) (by decide) (backOf (W := 1) (rmI l Z a0 hw [] b3 h3 n0 Zs4 A3 g_b3 F3_13 F3_15 F3_18 F3_22 F3_29) hZ (hw _ (List.mem_of_getElem? (i := 6) rfl)) (hw _ (List.mem_of_getElem? (i := 3) rfl)) (by decide) (by decide)) (g := (mkF mi 15 #[.val (.int cnt), .val (.int f0), .val (.int f1), .val (.int f2), .val (.int (cnt &&& (3 : Int32))), .val (.ref b1), .unset, .unset] [(.ref b3), (.ref b3)])) rfl (by rw [hml]; rfl) (Steps.refl _) (a := b3) (argsL := []) (rest := [(.ref b3)]) (lenOf pd_3 rfl) rfl (by show 2 * 0 + _ ≤ _; exact Nat.le_of_eq rfl) (hb hby at_15) (fun _ _ => ⟨rfl, e3, (by decide : 2 + 4 ≤ _), (by decide : 70 + 56 ≤ _)⟩)
  dsimp only [Pt.U, Pt.locs, Pt.cells, Pt.slots] at X5 l5 y5 z5 st5 hQ5
  subst l5 y5 z5
  have f6 := (EX1.ext E3)
  obtain ⟨h5, e5⟩ : ∃ z, T5.heap = z := ⟨_, rfl⟩
  rw [e5] at hQ5
  obtain ⟨rfl, N5q, K5, nb, vb, sp, kn, kN, kV, kS, kK, z_nb, z_vb, z_sp, z_kn, g_nb, g_vb, g_sp, g_kn, ne_o_nb, ne_o_vb, ne_o_sp, ne_o_kn, ne_nb_vb, ne_nb_sp, ne_nb_kn, ne_vb_sp, ne_vb_kn, ne_sp_kn, FI0, FI1, FI2, FI3, FI4, V_nb, V_vb, V_sp, V_kn, O_nb, O_vb⟩ := hQ5
  have N5 := Fr.app N0 N5q
  have Zs7 : n0 ≤ h5.size := Nat.le_trans Zs4 K5.1
  have ne_b1_nb : b1 ≠ nb := Nat.ne_of_lt (Nat.lt_of_lt_of_le f6.lt z_nb)
  have ne_b1_vb : b1 ≠ vb := Nat.ne_of_lt (Nat.lt_of_lt_of_le f6.lt z_vb)
  have ne_b1_sp : b1 ≠ sp := Nat.ne_of_lt (Nat.lt_of_lt_of_le f6.lt z_sp)
  have ne_b1_kn : b1 ≠ kn := Nat.ne_of_lt (Nat.lt_of_lt_of_le f6.lt z_kn)
  refine Go.tr st5 ?_
  show Go pg.tables ev below (T5.setTop (mkF mi 18 #[.val (.int cnt), .val (.int f0), .val (.int f1), .val (.int f2), .val (.int (cnt &&& (3 : Int32))), .val (.ref b1), .unset, .unset] [(.ref b3)])) P
  refine Go.st (fun t_ k_ => XS.astore X5.here hx rfl (hb hby at_18) rfl rfl (l' := #[.val (.int cnt), .val (.int f0), .val (.int f1), .val (.int f2), .val (.int (cnt &&& (3 : Int32))), .val (.ref b1), .val (.ref b3), .unset]) rfl k_) ?_
  show Go pg.tables ev below (T5.setTop (mkF mi 20 #[.val (.int cnt), .val (.int f0), .val (.int f1), .val (.int f2), .val (.int (cnt &&& (3 : Int32))), .val (.ref b1), .val (.ref b3), .unset] [])) P
  refine Go.st (fun t_ k_ => XS.iconst X5.here hx rfl (hb hby at_20) k_) ?_
  show Go pg.tables ev below (T5.setTop (mkF mi 21 #[.val (.int cnt), .val (.int f0), .val (.int f1), .val (.int f2), .val (.int (cnt &&& (3 : Int32))), .val (.ref b1), .val (.ref b3), .unset] [(.int (0 : Int32))])) P
  refine Go.st (fun t_ k_ => XS.istore X5.here hx rfl (hb hby at_21) rfl (l' := #[.val (.int cnt), .val (.int f0), .val (.int f1), .val (.int f2), .val (.int (cnt &&& (3 : Int32))), .val (.ref b1), .val (.ref b3), .val (.int (0 : Int32))]) rfl k_) ?_
  show Go pg.tables ev below (T5.setTop (mkF mi 23 #[.val (.int cnt), .val (.int f0), .val (.int f1), .val (.int f2), .val (.int (cnt &&& (3 : Int32))), .val (.ref b1), .val (.ref b3), .val (.int (0 : Int32))] [])) P
  refine Go.st (fun t_ k_ => XS.iload X5.here hx rfl (hb hby at_23) rfl k_) ?_
  show Go pg.tables ev below (T5.setTop (mkF mi 25 #[.val (.int cnt), .val (.int f0), .val (.int f1), .val (.int f2), .val (.int (cnt &&& (3 : Int32))), .val (.ref b1), .val (.ref b3), .val (.int (0 : Int32))] [(.int (cnt &&& (3 : Int32)))])) P
  refine Go.st (fun t_ k_ => XS.iconst X5.here hx rfl (hb hby at_25) k_) ?_
  show Go pg.tables ev below (T5.setTop (mkF mi 26 #[.val (.int cnt), .val (.int f0), .val (.int f1), .val (.int f2), .val (.int (cnt &&& (3 : Int32))), .val (.ref b1), .val (.ref b3), .val (.int (0 : Int32))] [(.int (1 : Int32)), (.int (cnt &&& (3 : Int32)))])) P
  by_cases hc26_1 : (cnt &&& (3 : Int32)) < (1 : Int32)
  · refine Go.st (fun t_ k_ => XS.icmpYes X5.here hx rfl (pc0 := 26) (pc' := 46) rfl (hb hby at_26) rfl (tlt hc26_1).1 (by decide) (by decide) k_) ?_
    show Go pg.tables ev below (T5.setTop (mkF mi 46 #[.val (.int cnt), .val (.int f0), .val (.int f1), .val (.int f2), .val (.int (cnt &&& (3 : Int32))), .val (.ref b1), .val (.ref b3), .val (.int (0 : Int32))] [])) P
    refine Go.st (fun t_ k_ => XS.iload X5.here hx rfl (hb hby at_46) rfl k_) ?_
    show Go pg.tables ev below (T5.setTop (mkF mi 48 #[.val (.int cnt), .val (.int f0), .val (.int f1), .val (.int f2), .val (.int (cnt &&& (3 : Int32))), .val (.ref b1), .val (.ref b3), .val (.int (0 : Int32))] [(.int (cnt &&& (3 : Int32)))])) P
    refine Go.st (fun t_ k_ => XS.iconst X5.here hx rfl (hb hby at_48) k_) ?_
    show Go pg.tables ev below (T5.setTop (mkF mi 49 #[.val (.int cnt), .val (.int f0), .val (.int f1), .val (.int f2), .val (.int (cnt &&& (3 : Int32))), .val (.ref b1), .val (.ref b3), .val (.int (0 : Int32))] [(.int (2 : Int32)), (.int (cnt &&& (3 : Int32)))])) P
    refine Go.st (fun t_ k_ => XS.icmpYes X5.here hx rfl (pc0 := 49) (pc' := 69) rfl (hb hby at_49) rfl (tlt (own_up hc26_1 (by decide))).1 (by decide) (by decide) k_) ?_
    show Go pg.tables ev below (T5.setTop (mkF mi 69 #[.val (.int cnt), .val (.int f0), .val (.int f1), .val (.int f2), .val (.int (cnt &&& (3 : Int32))), .val (.ref b1), .val (.ref b3), .val (.int (0 : Int32))] [])) P
    refine Go.st (fun t_ k_ => XS.iload X5.here hx rfl (hb hby at_69) rfl k_) ?_
    show Go pg.tables ev below (T5.setTop (mkF mi 71 #[.val (.int cnt), .val (.int f0), .val (.int f1), .val (.int f2), .val (.int (cnt &&& (3 : Int32))), .val (.ref b1), .val (.ref b3), .val (.int (0 : Int32))] [(.int (cnt &&& (3 : Int32)))])) P
    refine Go.st (fun t_ k_ => XS.iconst X5.here hx rfl (hb hby at_71) k_) ?_
    show Go pg.tables ev below (T5.setTop (mkF mi 72 #[.val (.int cnt), .val (.int f0), .val (.int f1), .val (.int f2), .val (.int (cnt &&& (3 : Int32))), .val (.ref b1), .val (.ref b3), .val (.int (0 : Int32))] [(.int (3 : Int32)), (.int (cnt &&& (3 : Int32)))])) P
    refine Go.st (fun t_ k_ => XS.icmpYes X5.here hx rfl (pc0 := 72) (pc' := 92) rfl (hb hby at_72) rfl (tlt (own_up hc26_1 (by decide))).1 (by decide) (by decide) k_) ?_
    show Go pg.tables ev below (T5.setTop (mkF mi 92 #[.val (.int cnt), .val (.int f0), .val (.int f1), .val (.int f2), .val (.int (cnt &&& (3 : Int32))), .val (.ref b1), .val (.ref b3), .val (.int (0 : Int32))] [])) P
    refine Go.st (fun t_ k_ => XS.aload X5.here hx rfl (hb hby at_92) rfl rfl k_) ?_
    show Go pg.tables ev below (T5.setTop (mkF mi 94 #[.val (.int cnt), .val (.int f0), .val (.int f1), .val (.int f2), .val (.int (cnt &&& (3 : Int32))), .val (.ref b1), .val (.ref b3), .val (.int (0 : Int32))] [(.ref b3)])) P
    have f9 := (A3.keep K5)
    obtain ⟨cq8, kq8, q8a, q8b, q8c⟩ := isOf hZ e5 f9
    obtain ⟨_, _, ⟨T8, L8, k8, n8⟩, -, X8, ⟨Lc8, hQ8, l8, y8, z8⟩, st8⟩ := X5.virtualBack hx (y := (⟨"com/example/gatewright/gatewright/Fields", "encodedSize", "()I"⟩ : MethodName)) (z := (⟨"com/example/gatewright/gatewright/Fields", "encodedSize", "()I"⟩ : MethodName)) hown (mvT hZ (hw _ (List.mem_of_getElem? (i := 23) rfl))) (mvT hZ (hw _ (List.mem_of_getElem? (i := 24) rfl))) (notFace_of_selects (args := #[]) (mvT hZ (hw _ (List.mem_of_getElem? (i := 26) rfl)))) (mvT hZ (hw _ (List.mem_of_getElem? (i := 26) rfl))) (mvT hZ (hw _ (List.mem_of_getElem? (i := 25) rfl))) (by decide) (backOf (W := 0) (rmZ0 l Z a0 hw [] b3 sp kS  [(.int (0 : Int32)), (.int (0 : Int32)), (.int (0 : Int32)), (.int (0 : Int32)), (.int (0 : Int32)), (.int (0 : Int32)), (.int (0 : Int32)), (.int (0 : Int32)), (.int (0 : Int32)), (.int (0 : Int32)), (.int (0 : Int32)), (.int (0 : Int32)), (.int (0 : Int32)), (.int (0 : Int32)), (.int (0 : Int32)), (.int (0 : Int32)), (.int (0 : Int32)), (.int (0 : Int32)), (.int (0 : Int32)), (.int (0 : Int32)), (.int (0 : Int32)), (.int (0 : Int32)), (.int (0 : Int32)), (.int (0 : Int32)), (.int (0 : Int32)), (.int (0 : Int32)), (.int (0 : Int32)), (.int (0 : Int32)), (.int (0 : Int32)), (.int (0 : Int32)), (.int (0 : Int32)), (.int (0 : Int32))] h5 n0 Zs7 FI2 FI4 V_sp) hZ (hw _ (List.mem_of_getElem? (i := 27) rfl)) (hw _ (List.mem_of_getElem? (i := 3) rfl)) (by decide) (by decide)) q8a q8c (g := (mkF mi 94 #[.val (.int cnt), .val (.int f0), .val (.int f1), .val (.int f2), .val (.int (cnt &&& (3 : Int32))), .val (.ref b1), .val (.ref b3), .val (.int (0 : Int32))] [(.ref b3)])) rfl (by rw [hml]; rfl) (Steps.refl _) (argsL := []) (rest := []) (lenOf pd_4 rfl) rfl (by show 2 * 0 + _ ≤ _; exact Nat.le_of_eq rfl) (hb hby at_94) (fun _ _ => ⟨rfl, e5, (by decide : 6 + 0 ≤ _), (by decide : 126 + 0 ≤ _)⟩)
    dsimp only [Pt.U, Pt.locs, Pt.cells, Pt.slots] at X8 l8 y8 z8 st8 hQ8
    subst l8 y8 z8
    obtain ⟨rfl, N8q, e8⟩ := hQ8
    have N8 := Fr.app N5 N8q
    refine Go.tr st8 ?_
    show Go pg.tables ev below (T8.setTop (mkF mi 97 #[.val (.int cnt), .val (.int f0), .val (.int f1), .val (.int f2), .val (.int (cnt &&& (3 : Int32))), .val (.ref b1), .val (.ref b3), .val (.int (0 : Int32))] [(.int fZ0)])) P
    refine Go.st (fun t_ k_ => XS.iload X8.here hx rfl (hb hby at_97) rfl k_) ?_
    show Go pg.tables ev below (T8.setTop (mkF mi 99 #[.val (.int cnt), .val (.int f0), .val (.int f1), .val (.int f2), .val (.int (cnt &&& (3 : Int32))), .val (.ref b1), .val (.ref b3), .val (.int (0 : Int32))] [(.int (0 : Int32)), (.int fZ0)])) P
    refine Go.st (fun t_ k_ => XS.icmpNo X8.here hx rfl (hb hby at_99) rfl (teq own_sum0).2 k_) ?_
    show Go pg.tables ev below (T8.setTop (mkF mi 102 #[.val (.int cnt), .val (.int f0), .val (.int f1), .val (.int f2), .val (.int (cnt &&& (3 : Int32))), .val (.ref b1), .val (.ref b3), .val (.int (0 : Int32))] [])) P
    refine Go.st (fun t_ k_ => XS.iconst X8.here hx rfl (hb hby at_102) k_) ?_
    show Go pg.tables ev below (T8.setTop (mkF mi 103 #[.val (.int cnt), .val (.int f0), .val (.int f1), .val (.int f2), .val (.int (cnt &&& (3 : Int32))), .val (.ref b1), .val (.ref b3), .val (.int (0 : Int32))] [(.int (1 : Int32))])) P
    refine Go.st (fun t_ k_ => XS.goto X8.here hx rfl (pc0 := 103) (pc' := 107) rfl (hb hby at_103) (by decide) (by decide) k_) ?_
    show Go pg.tables ev below (T8.setTop (mkF mi 107 #[.val (.int cnt), .val (.int f0), .val (.int f1), .val (.int f2), .val (.int (cnt &&& (3 : Int32))), .val (.ref b1), .val (.ref b3), .val (.int (0 : Int32))] [(.int (1 : Int32))])) P
    obtain ⟨fs, hr, hrun, hended, hW, hsame⟩ := X8.leave (v := some (.int (1 : Int32))) (fun h => by rw [Bd.returns] at h; cases h) (BodyLoose.notSynchronized Bd)
    refine ⟨_, _, ?_, hP _ _ ⟨hrun, hended, _, _, rfl, ?_, ⟨_, rfl⟩, hW, hsame.mono (by decide) (by decide)⟩⟩
    · exact retN X8 hx (t := .boolean) Bd.returns (by simp) (hb hby at_107) hr
    · show (some (.int (1 : Int32)) : Option Value) = some (.int 1) ∧ Fr n0 _
      exact ⟨rfl, N8⟩
  · refine Go.st (fun t_ k_ => XS.icmpNo X5.here hx rfl (hb hby at_26) rfl (flt hc26_1).1 k_) ?_
    show Go pg.tables ev below (T5.setTop (mkF mi 29 #[.val (.int cnt), .val (.int f0), .val (.int f1), .val (.int f2), .val (.int (cnt &&& (3 : Int32))), .val (.ref b1), .val (.ref b3), .val (.int (0 : Int32))] [])) P
    refine Go.st (fun t_ k_ => XS.aload X5.here hx rfl (hb hby at_29) rfl rfl k_) ?_
    show Go pg.tables ev below (T5.setTop (mkF mi 31 #[.val (.int cnt), .val (.int f0), .val (.int f1), .val (.int f2), .val (.int (cnt &&& (3 : Int32))), .val (.ref b1), .val (.ref b3), .val (.int (0 : Int32))] [(.ref b3)])) P
    refine Go.st (fun t_ k_ => XS.aload X5.here hx rfl (hb hby at_31) rfl rfl k_) ?_
    show Go pg.tables ev below (T5.setTop (mkF mi 33 #[.val (.int cnt), .val (.int f0), .val (.int f1), .val (.int f2), .val (.int (cnt &&& (3 : Int32))), .val (.ref b1), .val (.ref b3), .val (.int (0 : Int32))] [(.ref b1), (.ref b3)])) P
    refine Go.st (fun t_ k_ => XS.iloadN X5.here hx rfl (hb hby at_33) rfl k_) ?_
    show Go pg.tables ev below (T5.setTop (mkF mi 34 #[.val (.int cnt), .val (.int f0), .val (.int f1), .val (.int f2), .val (.int (cnt &&& (3 : Int32))), .val (.ref b1), .val (.ref b3), .val (.int (0 : Int32))] [(.int f0), (.ref b1), (.ref b3)])) P
    have f11 := (A3.keep K5)
    have f12 := (f6.keep K5)
    obtain ⟨_, _, ⟨T10, L10, k10, n10⟩, -, X10, ⟨Lc10, hQ10, l10, y10, z10⟩, st10⟩ := Jvm.LawKit.callS X5 hx (y := (⟨"com/example/gatewright/gatewright/FieldsEncodedSizePinLaw", "addField", "(Lcom/example/gatewright/gatewright/Fields;[BI)V"⟩ : MethodName)) hown (mvT hZ (hw _ (List.mem_of_getElem? (i := 30) rfl))) (mvT hZ (hw _ (List.mem_of_getElem? (i := 31) rfl))) (mvT hZ (hw _ (List.mem_of_getElem? (i := 32) rfl))) (mvT hZ (hw _ (List.mem_of_getElem? (i := 33) rfl))) (by decide) (backOf (W := 0) (rmAF_0 l Z a0 hw [] b3 b1 f0 nb vb sp kn kN kV kS kK [.null, .null, .null, .null, .null, .null, .null, .null] [.null, .null, .null, .null, .null, .null, .null, .null] [(.int (0 : Int32)), (.int (0 : Int32)), (.int (0 : Int32)), (.int (0 : Int32)), (.int (0 : Int32)), (.int (0 : Int32)), (.int (0 : Int32)), (.int (0 : Int32)), (.int (0 : Int32)), (.int (0 : Int32)), (.int (0 : Int32)), (.int (0 : Int32)), (.int (0 : Int32)), (.int (0 : Int32)), (.int (0 : Int32)), (.int (0 : Int32)), (.int (0 : Int32)), (.int (0 : Int32)), (.int (0 : Int32)), (.int (0 : Int32)), (.int (0 : Int32)), (.int (0 : Int32)), (.int (0 : Int32)), (.int (0 : Int32)), (.int (0 : Int32)), (.int (0 : Int32)), (.int (0 : Int32)), (.int (0 : Int32)), (.int (0 : Int32)), (.int (0 : Int32)), (.int (0 : Int32)), (.int (0 : Int32))] [.null, .null, .null, .null, .null, .null, .null, .null] h5 n0 Zs7 f11 g_b3 f12 g_nb g_vb g_sp g_kn ne_o_nb ne_o_vb ne_o_sp ne_o_kn ne_nb_vb ne_nb_sp ne_nb_kn ne_vb_sp ne_vb_kn ne_sp_kn FI0 FI1 FI2 FI3 FI4 V_nb V_vb V_sp V_kn rfl rfl rfl rfl O_nb O_vb) hZ (hw _ (List.mem_of_getElem? (i := 33) rfl)) (hw _ (List.mem_of_getElem? (i := 32) rfl)) (by decide) (by decide)) (g := (mkF mi 34 #[.val (.int cnt), .val (.int f0), .val (.int f1), .val (.int f2), .val (.int (cnt &&& (3 : Int32))), .val (.ref b1), .val (.ref b3), .val (.int (0 : Int32))] [(.int f0), (.ref b1), (.ref b3)])) rfl (by rw [hml]; rfl) (argsL := [(.ref b3), (.ref b1), (.int f0)]) (rest := []) (lenOf pd_5 rfl) rfl (by show 2 * 0 + _ ≤ _; exact Nat.le_of_eq rfl) (hb hby at_34) (fun _ _ => ⟨rfl, e5, (by decide : 6 + 0 ≤ _), (by decide : 126 + 0 ≤ _)⟩)
    dsimp only [Pt.U, Pt.locs, Pt.cells, Pt.slots] at X10 l10 y10 z10 st10 hQ10
    subst l10 y10 z10
    obtain ⟨h10, e10⟩ : ∃ z, T10.heap = z := ⟨_, rfl⟩
    rw [e10] at hQ10
    obtain ⟨rfl, N10q, K10, FA10_0, FA10_1, FA10_2, FA10_3, FA10_4, AA10_nb, AA10_vb, AA10_sp, AA10_kn⟩ := hQ10
    have N10 := Fr.app N5 N10q
    have Zs13 : n0 ≤ h10.size := Nat.le_trans Zs7 K10.1
    have AB10_nb : Arv Z h10 nb kN (.array .byte) (8 : Int32) [(.ref b1), .null, .null, .null, .null, .null, .null, .null] .null := AA10_nb
    have AB10_vb : Arv Z h10 vb kV (.array .byte) (8 : Int32) [(.ref b1), .null, .null, .null, .null, .null, .null, .null] .null := AA10_vb
    have AB10_sp : Arv Z h10 sp kS .int (32 : Int32) [(.int (fNS f0)), (.int ((fNS f0) + (fNL f0))), (.int (fVS f0)), (.int ((fVS f0) + (fVL f0))), (.int (0 : Int32)), (.int (0 : Int32)), (.int (0 : Int32)), (.int (0 : Int32)), (.int (0 : Int32)), (.int (0 : Int32)), (.int (0 : Int32)), (.int (0 : Int32)), (.int (0 : Int32)), (.int (0 : Int32)), (.int (0 : Int32)), (.int (0 : Int32)), (.int (0 : Int32)), (.int (0 : Int32)), (.int (0 : Int32)), (.int (0 : Int32)), (.int (0 : Int32)), (.int (0 : Int32)), (.int (0 : Int32)), (.int (0 : Int32)), (.int (0 : Int32)), (.int (0 : Int32)), (.int (0 : Int32)), (.int (0 : Int32)), (.int (0 : Int32)), (.int (0 : Int32)), (.int (0 : Int32)), (.int (0 : Int32))] (.int (0 : Int32)) := AA10_sp
    have AB10_kn : Arv Z h10 kn kK (.object "com/example/gatewright/gatewright/FieldName") (8 : Int32) [.null, .null, .null, .null, .null, .null, .null, .null] .null := AA10_kn
    refine Go.st st10 ?_
    show Go pg.tables ev below (T10.setTop (mkF mi 37 #[.val (.int cnt), .val (.int f0), .val (.int f1), .val (.int f2), .val (.int (cnt &&& (3 : Int32))), .val (.ref b1), .val (.ref b3), .val (.int (0 : Int32))] [])) P
    refine Go.st (fun t_ k_ => XS.iload X10.here hx rfl (hb hby at_37) rfl k_) ?_
    show Go pg.tables ev below (T10.setTop (mkF mi 39 #[.val (.int cnt), .val (.int f0), .val (.int f1), .val (.int f2), .val (.int (cnt &&& (3 : Int32))), .val (.ref b1), .val (.ref b3), .val (.int (0 : Int32))] [(.int (0 : Int32))])) P
    refine Go.st (fun t_ k_ => XS.iloadN X10.here hx rfl (hb hby at_39) rfl k_) ?_
    show Go pg.tables ev below (T10.setTop (mkF mi 40 #[.val (.int cnt), .val (.int f0), .val (.int f1), .val (.int f2), .val (.int (cnt &&& (3 : Int32))), .val (.ref b1), .val (.ref b3), .val (.int (0 : Int32))] [(.int f0), (.int (0 : Int32))])) P
    obtain ⟨_, _, ⟨T14, L14, k14, n14⟩, -, X14, ⟨Lc14, hQ14, l14, y14, z14⟩, st14⟩ := Jvm.LawKit.callS X10 hx (y := (⟨"com/example/gatewright/gatewright/FieldsEncodedSizePinLaw", "lineSize", "(I)I"⟩ : MethodName)) hown (mvT hZ (hw _ (List.mem_of_getElem? (i := 56) rfl))) (mvT hZ (hw _ (List.mem_of_getElem? (i := 57) rfl))) (mvT hZ (hw _ (List.mem_of_getElem? (i := 32) rfl))) (mvT hZ (hw _ (List.mem_of_getElem? (i := 58) rfl))) (by decide) (backOf (W := 1) (rmLS l Z a0 hw [] f0 h10 n0 Zs13) hZ (hw _ (List.mem_of_getElem? (i := 58) rfl)) (hw _ (List.mem_of_getElem? (i := 32) rfl)) (by decide) (by decide)) (g := (mkF mi 40 #[.val (.int cnt), .val (.int f0), .val (.int f1), .val (.int f2), .val (.int (cnt &&& (3 : Int32))), .val (.ref b1), .val (.ref b3), .val (.int (0 : Int32))] [(.int f0), (.int (0 : Int32))])) rfl (by rw [hml]; rfl) (argsL := [(.int f0)]) (rest := [(.int (0 : Int32))]) (lenOf pd_0 rfl) rfl (by show 2 * 0 + _ ≤ _; exact Nat.le_of_eq rfl) (hb hby at_40) (fun _ _ => ⟨rfl, e10, (by decide : 6 + 0 ≤ _), (by decide : 126 + 0 ≤ _)⟩)
    dsimp only [Pt.U, Pt.locs, Pt.cells, Pt.slots] at X14 l14 y14 z14 st14 hQ14
    subst l14 y14 z14
    obtain ⟨rfl, N14q, e14⟩ := hQ14
    have N14 := Fr.app N10 N14q
    refine Go.st st14 ?_
    show Go pg.tables ev below (T14.setTop (mkF mi 43 #[.val (.int cnt), .val (.int f0), .val (.int f1), .val (.int f2), .val (.int (cnt &&& (3 : Int32))), .val (.ref b1), .val (.ref b3), .val (.int (0 : Int32))] [(.int (fLS f0)), (.int (0 : Int32))])) P
    refine Go.st (fun t_ k_ => XS.iadd X14.here hx rfl (hb hby at_43) rfl k_) ?_
    show Go pg.tables ev below (T14.setTop (mkF mi 44 #[.val (.int cnt), .val (.int f0), .val (.int f1), .val (.int f2), .val (.int (cnt &&& (3 : Int32))), .val (.ref b1), .val (.ref b3), .val (.int (0 : Int32))] [(.int ((0 : Int32) + (fLS f0)))])) P
    refine Go.st (fun t_ k_ => XS.istore X14.here hx rfl (hb hby at_44) rfl (l' := #[.val (.int cnt), .val (.int f0), .val (.int f1), .val (.int f2), .val (.int (cnt &&& (3 : Int32))), .val (.ref b1), .val (.ref b3), .val (.int ((0 : Int32) + (fLS f0)))]) rfl k_) ?_
    show Go pg.tables ev below (T14.setTop (mkF mi 46 #[.val (.int cnt), .val (.int f0), .val (.int f1), .val (.int f2), .val (.int (cnt &&& (3 : Int32))), .val (.ref b1), .val (.ref b3), .val (.int ((0 : Int32) + (fLS f0)))] [])) P
    refine Go.st (fun t_ k_ => XS.iload X14.here hx rfl (hb hby at_46) rfl k_) ?_
    show Go pg.tables ev below (T14.setTop (mkF mi 48 #[.val (.int cnt), .val (.int f0), .val (.int f1), .val (.int f2), .val (.int (cnt &&& (3 : Int32))), .val (.ref b1), .val (.ref b3), .val (.int ((0 : Int32) + (fLS f0)))] [(.int (cnt &&& (3 : Int32)))])) P
    refine Go.st (fun t_ k_ => XS.iconst X14.here hx rfl (hb hby at_48) k_) ?_
    show Go pg.tables ev below (T14.setTop (mkF mi 49 #[.val (.int cnt), .val (.int f0), .val (.int f1), .val (.int f2), .val (.int (cnt &&& (3 : Int32))), .val (.ref b1), .val (.ref b3), .val (.int ((0 : Int32) + (fLS f0)))] [(.int (2 : Int32)), (.int (cnt &&& (3 : Int32)))])) P
    by_cases hc49_2 : (cnt &&& (3 : Int32)) < (2 : Int32)
    · refine Go.st (fun t_ k_ => XS.icmpYes X14.here hx rfl (pc0 := 49) (pc' := 69) rfl (hb hby at_49) rfl (tlt hc49_2).1 (by decide) (by decide) k_) ?_
      show Go pg.tables ev below (T14.setTop (mkF mi 69 #[.val (.int cnt), .val (.int f0), .val (.int f1), .val (.int f2), .val (.int (cnt &&& (3 : Int32))), .val (.ref b1), .val (.ref b3), .val (.int ((0 : Int32) + (fLS f0)))] [])) P
      refine Go.st (fun t_ k_ => XS.iload X14.here hx rfl (hb hby at_69) rfl k_) ?_
      show Go pg.tables ev below (T14.setTop (mkF mi 71 #[.val (.int cnt), .val (.int f0), .val (.int f1), .val (.int f2), .val (.int (cnt &&& (3 : Int32))), .val (.ref b1), .val (.ref b3), .val (.int ((0 : Int32) + (fLS f0)))] [(.int (cnt &&& (3 : Int32)))])) P
      refine Go.st (fun t_ k_ => XS.iconst X14.here hx rfl (hb hby at_71) k_) ?_
      show Go pg.tables ev below (T14.setTop (mkF mi 72 #[.val (.int cnt), .val (.int f0), .val (.int f1), .val (.int f2), .val (.int (cnt &&& (3 : Int32))), .val (.ref b1), .val (.ref b3), .val (.int ((0 : Int32) + (fLS f0)))] [(.int (3 : Int32)), (.int (cnt &&& (3 : Int32)))])) P
      refine Go.st (fun t_ k_ => XS.icmpYes X14.here hx rfl (pc0 := 72) (pc' := 92) rfl (hb hby at_72) rfl (tlt (own_up hc49_2 (by decide))).1 (by decide) (by decide) k_) ?_
      show Go pg.tables ev below (T14.setTop (mkF mi 92 #[.val (.int cnt), .val (.int f0), .val (.int f1), .val (.int f2), .val (.int (cnt &&& (3 : Int32))), .val (.ref b1), .val (.ref b3), .val (.int ((0 : Int32) + (fLS f0)))] [])) P
      refine Go.st (fun t_ k_ => XS.aload X14.here hx rfl (hb hby at_92) rfl rfl k_) ?_
      show Go pg.tables ev below (T14.setTop (mkF mi 94 #[.val (.int cnt), .val (.int f0), .val (.int f1), .val (.int f2), .val (.int (cnt &&& (3 : Int32))), .val (.ref b1), .val (.ref b3), .val (.int ((0 : Int32) + (fLS f0)))] [(.ref b3)])) P
      have f16 := (f11.keep K10)
      obtain ⟨cq15, kq15, q15a, q15b, q15c⟩ := isOf hZ e14 f16
      obtain ⟨_, _, ⟨T15, L15, k15, n15⟩, -, X15, ⟨Lc15, hQ15, l15, y15, z15⟩, st15⟩ := X14.virtualBack hx (y := (⟨"com/example/gatewright/gatewright/Fields", "encodedSize", "()I"⟩ : MethodName)) (z := (⟨"com/example/gatewright/gatewright/Fields", "encodedSize", "()I"⟩ : MethodName)) hown (mvT hZ (hw _ (List.mem_of_getElem? (i := 23) rfl))) (mvT hZ (hw _ (List.mem_of_getElem? (i := 24) rfl))) (notFace_of_selects (args := #[]) (mvT hZ (hw _ (List.mem_of_getElem? (i := 26) rfl)))) (mvT hZ (hw _ (List.mem_of_getElem? (i := 26) rfl))) (mvT hZ (hw _ (List.mem_of_getElem? (i := 25) rfl))) (by decide) (backOf (W := 0) (rmZ1 l Z a0 hw [] b3 sp kS (fNS f0) ((fNS f0) + (fNL f0)) (fVS f0) ((fVS f0) + (fVL f0)) [(.int (0 : Int32)), (.int (0 : Int32)), (.int (0 : Int32)), (.int (0 : Int32)), (.int (0 : Int32)), (.int (0 : Int32)), (.int (0 : Int32)), (.int (0 : Int32)), (.int (0 : Int32)), (.int (0 : Int32)), (.int (0 : Int32)), (.int (0 : Int32)), (.int (0 : Int32)), (.int (0 : Int32)), (.int (0 : Int32)), (.int (0 : Int32)), (.int (0 : Int32)), (.int (0 : Int32)), (.int (0 : Int32)), (.int (0 : Int32)), (.int (0 : Int32)), (.int (0 : Int32)), (.int (0 : Int32)), (.int (0 : Int32)), (.int (0 : Int32)), (.int (0 : Int32)), (.int (0 : Int32)), (.int (0 : Int32))] h10 n0 Zs13 FA10_2 FA10_4 AB10_sp) hZ (hw _ (List.mem_of_getElem? (i := 27) rfl)) (hw _ (List.mem_of_getElem? (i := 3) rfl)) (by decide) (by decide)) q15a q15c (g := (mkF mi 94 #[.val (.int cnt), .val (.int f0), .val (.int f1), .val (.int f2), .val (.int (cnt &&& (3 : Int32))), .val (.ref b1), .val (.ref b3), .val (.int ((0 : Int32) + (fLS f0)))] [(.ref b3)])) rfl (by rw [hml]; rfl) (Steps.refl _) (argsL := []) (rest := []) (lenOf pd_4 rfl) rfl (by show 2 * 0 + _ ≤ _; exact Nat.le_of_eq rfl) (hb hby at_94) (fun _ _ => ⟨rfl, e14, (by decide : 6 + 0 ≤ _), (by decide : 126 + 0 ≤ _)⟩)
      dsimp only [Pt.U, Pt.locs, Pt.cells, Pt.slots] at X15 l15 y15 z15 st15 hQ15
      subst l15 y15 z15
      obtain ⟨rfl, N15q, e15⟩ := hQ15
      have N15 := Fr.app N14 N15q
      refine Go.tr st15 ?_
      show Go pg.tables ev below (T15.setTop (mkF mi 97 #[.val (.int cnt), .val (.int f0), .val (.int f1), .val (.int f2), .val (.int (cnt &&& (3 : Int32))), .val (.ref b1), .val (.ref b3), .val (.int ((0 : Int32) + (fLS f0)))] [(.int (fZ1 (fNS f0) ((fNS f0) + (fNL f0)) (fVS f0) ((fVS f0) + (fVL f0))))])) P
      refine Go.st (fun t_ k_ => XS.iload X15.here hx rfl (hb hby at_97) rfl k_) ?_
      show Go pg.tables ev below (T15.setTop (mkF mi 99 #[.val (.int cnt), .val (.int f0), .val (.int f1), .val (.int f2), .val (.int (cnt &&& (3 : Int32))), .val (.ref b1), .val (.ref b3), .val (.int ((0 : Int32) + (fLS f0)))] [(.int ((0 : Int32) + (fLS f0))), (.int (fZ1 (fNS f0) ((fNS f0) + (fNL f0)) (fVS f0) ((fVS f0) + (fVL f0))))])) P
      refine Go.st (fun t_ k_ => XS.icmpNo X15.here hx rfl (hb hby at_99) rfl (teq (own_sum1 f0)).2 k_) ?_
      show Go pg.tables ev below (T15.setTop (mkF mi 102 #[.val (.int cnt), .val (.int f0), .val (.int f1), .val (.int f2), .val (.int (cnt &&& (3 : Int32))), .val (.ref b1), .val (.ref b3), .val (.int ((0 : Int32) + (fLS f0)))] [])) P
      refine Go.st (fun t_ k_ => XS.iconst X15.here hx rfl (hb hby at_102) k_) ?_
      show Go pg.tables ev below (T15.setTop (mkF mi 103 #[.val (.int cnt), .val (.int f0), .val (.int f1), .val (.int f2), .val (.int (cnt &&& (3 : Int32))), .val (.ref b1), .val (.ref b3), .val (.int ((0 : Int32) + (fLS f0)))] [(.int (1 : Int32))])) P
      refine Go.st (fun t_ k_ => XS.goto X15.here hx rfl (pc0 := 103) (pc' := 107) rfl (hb hby at_103) (by decide) (by decide) k_) ?_
      show Go pg.tables ev below (T15.setTop (mkF mi 107 #[.val (.int cnt), .val (.int f0), .val (.int f1), .val (.int f2), .val (.int (cnt &&& (3 : Int32))), .val (.ref b1), .val (.ref b3), .val (.int ((0 : Int32) + (fLS f0)))] [(.int (1 : Int32))])) P
      obtain ⟨fs, hr, hrun, hended, hW, hsame⟩ := X15.leave (v := some (.int (1 : Int32))) (fun h => by rw [Bd.returns] at h; cases h) (BodyLoose.notSynchronized Bd)
      refine ⟨_, _, ?_, hP _ _ ⟨hrun, hended, _, _, rfl, ?_, ⟨_, rfl⟩, hW, hsame.mono (by decide) (by decide)⟩⟩
      · exact retN X15 hx (t := .boolean) Bd.returns (by simp) (hb hby at_107) hr
      · show (some (.int (1 : Int32)) : Option Value) = some (.int 1) ∧ Fr n0 _
        exact ⟨rfl, N15⟩
    · refine Go.st (fun t_ k_ => XS.icmpNo X14.here hx rfl (hb hby at_49) rfl (flt hc49_2).1 k_) ?_
      show Go pg.tables ev below (T14.setTop (mkF mi 52 #[.val (.int cnt), .val (.int f0), .val (.int f1), .val (.int f2), .val (.int (cnt &&& (3 : Int32))), .val (.ref b1), .val (.ref b3), .val (.int ((0 : Int32) + (fLS f0)))] [])) P
      refine Go.st (fun t_ k_ => XS.aload X14.here hx rfl (hb hby at_52) rfl rfl k_) ?_
      show Go pg.tables ev below (T14.setTop (mkF mi 54 #[.val (.int cnt), .val (.int f0), .val (.int f1), .val (.int f2), .val (.int (cnt &&& (3 : Int32))), .val (.ref b1), .val (.ref b3), .val (.int ((0 : Int32) + (fLS f0)))] [(.ref b3)])) P
      refine Go.st (fun t_ k_ => XS.aload X14.here hx rfl (hb hby at_54) rfl rfl k_) ?_
      show Go pg.tables ev below (T14.setTop (mkF mi 56 #[.val (.int cnt), .val (.int f0), .val (.int f1), .val (.int f2), .val (.int (cnt &&& (3 : Int32))), .val (.ref b1), .val (.ref b3), .val (.int ((0 : Int32) + (fLS f0)))] [(.ref b1), (.ref b3)])) P
      refine Go.st (fun t_ k_ => XS.iloadN X14.here hx rfl (hb hby at_56) rfl k_) ?_
      show Go pg.tables ev below (T14.setTop (mkF mi 57 #[.val (.int cnt), .val (.int f0), .val (.int f1), .val (.int f2), .val (.int (cnt &&& (3 : Int32))), .val (.ref b1), .val (.ref b3), .val (.int ((0 : Int32) + (fLS f0)))] [(.int f1), (.ref b1), (.ref b3)])) P
      have f18 := (f11.keep K10)
      have f19 := (f12.keep K10)
      obtain ⟨_, _, ⟨T17, L17, k17, n17⟩, -, X17, ⟨Lc17, hQ17, l17, y17, z17⟩, st17⟩ := Jvm.LawKit.callS X14 hx (y := (⟨"com/example/gatewright/gatewright/FieldsEncodedSizePinLaw", "addField", "(Lcom/example/gatewright/gatewright/Fields;[BI)V"⟩ : MethodName)) hown (mvT hZ (hw _ (List.mem_of_getElem? (i := 30) rfl))) (mvT hZ (hw _ (List.mem_of_getElem? (i := 31) rfl))) (mvT hZ (hw _ (List.mem_of_getElem? (i := 32) rfl))) (mvT hZ (hw _ (List.mem_of_getElem? (i := 33) rfl))) (by decide) (backOf (W := 0) (rmAF_1 l Z a0 hw [] b3 b1 f1 nb vb sp kn kN kV kS kK [(.ref b1), .null, .null, .null, .null, .null, .null, .null] [(.ref b1), .null, .null, .null, .null, .null, .null, .null] [(.int (fNS f0)), (.int ((fNS f0) + (fNL f0))), (.int (fVS f0)), (.int ((fVS f0) + (fVL f0))), (.int (0 : Int32)), (.int (0 : Int32)), (.int (0 : Int32)), (.int (0 : Int32)), (.int (0 : Int32)), (.int (0 : Int32)), (.int (0 : Int32)), (.int (0 : Int32)), (.int (0 : Int32)), (.int (0 : Int32)), (.int (0 : Int32)), (.int (0 : Int32)), (.int (0 : Int32)), (.int (0 : Int32)), (.int (0 : Int32)), (.int (0 : Int32)), (.int (0 : Int32)), (.int (0 : Int32)), (.int (0 : Int32)), (.int (0 : Int32)), (.int (0 : Int32)), (.int (0 : Int32)), (.int (0 : Int32)), (.int (0 : Int32)), (.int (0 : Int32)), (.int (0 : Int32)), (.int (0 : Int32)), (.int (0 : Int32))] [.null, .null, .null, .null, .null, .null, .null, .null] h10 n0 Zs13 f18 g_b3 f19 g_nb g_vb g_sp g_kn ne_o_nb ne_o_vb ne_o_sp ne_o_kn ne_nb_vb ne_nb_sp ne_nb_kn ne_vb_sp ne_vb_kn ne_sp_kn FA10_0 FA10_1 FA10_2 FA10_3 FA10_4 AB10_nb AB10_vb AB10_sp AB10_kn rfl rfl rfl rfl O_nb O_vb) hZ (hw _ (List.mem_of_getElem? (i := 33) rfl)) (hw _ (List.mem_of_getElem? (i := 32) rfl)) (by decide) (by decide)) (g := (mkF mi 57 #[.val (.int cnt), .val (.int f0), .val (.int f1), .val (.int f2), .val (.int (cnt &&& (3 : Int32))), .val (.ref b1), .val (.ref b3), .val (.int ((0 : Int32) + (fLS f0)))] [(.int f1), (.ref b1), (.ref b3)])) rfl (by rw [hml]; rfl) (argsL := [(.ref b3), (.ref b1), (.int f1)]) (rest := []) (lenOf pd_5 rfl) rfl (by show 2 * 0 + _ ≤ _; exact Nat.le_of_eq rfl) (hb hby at_57) (fun _ _ => ⟨rfl, e14, (by decide : 6 + 0 ≤ _), (by decide : 126 + 0 ≤ _)⟩)
      dsimp only [Pt.U, Pt.locs, Pt.cells, Pt.slots] at X17 l17 y17 z17 st17 hQ17
      subst l17 y17 z17
      obtain ⟨h17, e17⟩ : ∃ z, T17.heap = z := ⟨_, rfl⟩
      rw [e17] at hQ17
      obtain ⟨rfl, N17q, K17, FA17_0, FA17_1, FA17_2, FA17_3, FA17_4, AA17_nb, AA17_vb, AA17_sp, AA17_kn⟩ := hQ17
      have N17 := Fr.app N14 N17q
      have Zs20 : n0 ≤ h17.size := Nat.le_trans Zs13 K17.1
      have AB17_nb : Arv Z h17 nb kN (.array .byte) (8 : Int32) [(.ref b1), (.ref b1), .null, .null, .null, .null, .null, .null] .null := AA17_nb
      have AB17_vb : Arv Z h17 vb kV (.array .byte) (8 : Int32) [(.ref b1), (.ref b1), .null, .null, .null, .null, .null, .null] .null := AA17_vb
      have AB17_sp : Arv Z h17 sp kS .int (32 : Int32) [(.int (fNS f0)), (.int ((fNS f0) + (fNL f0))), (.int (fVS f0)), (.int ((fVS f0) + (fVL f0))), (.int (fNS f1)), (.int ((fNS f1) + (fNL f1))), (.int (fVS f1)), (.int ((fVS f1) + (fVL f1))), (.int (0 : Int32)), (.int (0 : Int32)), (.int (0 : Int32)), (.int (0 : Int32)), (.int (0 : Int32)), (.int (0 : Int32)), (.int (0 : Int32)), (.int (0 : Int32)), (.int (0 : Int32)), (.int (0 : Int32)), (.int (0 : Int32)), (.int (0 : Int32)), (.int (0 : Int32)), (.int (0 : Int32)), (.int (0 : Int32)), (.int (0 : Int32)), (.int (0 : Int32)), (.int (0 : Int32)), (.int (0 : Int32)), (.int (0 : Int32)), (.int (0 : Int32)), (.int (0 : Int32)), (.int (0 : Int32)), (.int (0 : Int32))] (.int (0 : Int32)) := AA17_sp
      have AB17_kn : Arv Z h17 kn kK (.object "com/example/gatewright/gatewright/FieldName") (8 : Int32) [.null, .null, .null, .null, .null, .null, .null, .null] .null := AA17_kn
      refine Go.st st17 ?_
      show Go pg.tables ev below (T17.setTop (mkF mi 60 #[.val (.int cnt), .val (.int f0), .val (.int f1), .val (.int f2), .val (.int (cnt &&& (3 : Int32))), .val (.ref b1), .val (.ref b3), .val (.int ((0 : Int32) + (fLS f0)))] [])) P
      refine Go.st (fun t_ k_ => XS.iload X17.here hx rfl (hb hby at_60) rfl k_) ?_
      show Go pg.tables ev below (T17.setTop (mkF mi 62 #[.val (.int cnt), .val (.int f0), .val (.int f1), .val (.int f2), .val (.int (cnt &&& (3 : Int32))), .val (.ref b1), .val (.ref b3), .val (.int ((0 : Int32) + (fLS f0)))] [(.int ((0 : Int32) + (fLS f0)))])) P
      refine Go.st (fun t_ k_ => XS.iloadN X17.here hx rfl (hb hby at_62) rfl k_) ?_
      show Go pg.tables ev below (T17.setTop (mkF mi 63 #[.val (.int cnt), .val (.int f0), .val (.int f1), .val (.int f2), .val (.int (cnt &&& (3 : Int32))), .val (.ref b1), .val (.ref b3), .val (.int ((0 : Int32) + (fLS f0)))] [(.int f1), (.int ((0 : Int32) + (fLS f0)))])) P
      obtain ⟨_, _, ⟨T21, L21, k21, n21⟩, -, X21, ⟨Lc21, hQ21, l21, y21, z21⟩, st21⟩ := Jvm.LawKit.callS X17 hx (y := (⟨"com/example/gatewright/gatewright/FieldsEncodedSizePinLaw", "lineSize", "(I)I"⟩ : MethodName)) hown (mvT hZ (hw _ (List.mem_of_getElem? (i := 56) rfl))) (mvT hZ (hw _ (List.mem_of_getElem? (i := 57) rfl))) (mvT hZ (hw _ (List.mem_of_getElem? (i := 32) rfl))) (mvT hZ (hw _ (List.mem_of_getElem? (i := 58) rfl))) (by decide) (backOf (W := 1) (rmLS l Z a0 hw [] f1 h17 n0 Zs20) hZ (hw _ (List.mem_of_getElem? (i := 58) rfl)) (hw _ (List.mem_of_getElem? (i := 32) rfl)) (by decide) (by decide)) (g := (mkF mi 63 #[.val (.int cnt), .val (.int f0), .val (.int f1), .val (.int f2), .val (.int (cnt &&& (3 : Int32))), .val (.ref b1), .val (.ref b3), .val (.int ((0 : Int32) + (fLS f0)))] [(.int f1), (.int ((0 : Int32) + (fLS f0)))])) rfl (by rw [hml]; rfl) (argsL := [(.int f1)]) (rest := [(.int ((0 : Int32) + (fLS f0)))]) (lenOf pd_0 rfl) rfl (by show 2 * 0 + _ ≤ _; exact Nat.le_of_eq rfl) (hb hby at_63) (fun _ _ => ⟨rfl, e17, (by decide : 6 + 0 ≤ _), (by decide : 126 + 0 ≤ _)⟩)
      dsimp only [Pt.U, Pt.locs, Pt.cells, Pt.slots] at X21 l21 y21 z21 st21 hQ21
      subst l21 y21 z21
      obtain ⟨rfl, N21q, e21⟩ := hQ21
      have N21 := Fr.app N17 N21q
      refine Go.st st21 ?_
      show Go pg.tables ev below (T21.setTop (mkF mi 66 #[.val (.int cnt), .val (.int f0), .val (.int f1), .val (.int f2), .val (.int (cnt &&& (3 : Int32))), .val (.ref b1), .val (.ref b3), .val (.int ((0 : Int32) + (fLS f0)))] [(.int (fLS f1)), (.int ((0 : Int32) + (fLS f0)))])) P
      refine Go.st (fun t_ k_ => XS.iadd X21.here hx rfl (hb hby at_66) rfl k_) ?_
      show Go pg.tables ev below (T21.setTop (mkF mi 67 #[.val (.int cnt), .val (.int f0), .val (.int f1), .val (.int f2), .val (.int (cnt &&& (3 : Int32))), .val (.ref b1), .val (.ref b3), .val (.int ((0 : Int32) + (fLS f0)))] [(.int (((0 : Int32) + (fLS f0)) + (fLS f1)))])) P
      refine Go.st (fun t_ k_ => XS.istore X21.here hx rfl (hb hby at_67) rfl (l' := #[.val (.int cnt), .val (.int f0), .val (.int f1), .val (.int f2), .val (.int (cnt &&& (3 : Int32))), .val (.ref b1), .val (.ref b3), .val (.int (((0 : Int32) + (fLS f0)) + (fLS f1)))]) rfl k_) ?_
      show Go pg.tables ev below (T21.setTop (mkF mi 69 #[.val (.int cnt), .val (.int f0), .val (.int f1), .val (.int f2), .val (.int (cnt &&& (3 : Int32))), .val (.ref b1), .val (.ref b3), .val (.int (((0 : Int32) + (fLS f0)) + (fLS f1)))] [])) P
      refine Go.st (fun t_ k_ => XS.iload X21.here hx rfl (hb hby at_69) rfl k_) ?_
      show Go pg.tables ev below (T21.setTop (mkF mi 71 #[.val (.int cnt), .val (.int f0), .val (.int f1), .val (.int f2), .val (.int (cnt &&& (3 : Int32))), .val (.ref b1), .val (.ref b3), .val (.int (((0 : Int32) + (fLS f0)) + (fLS f1)))] [(.int (cnt &&& (3 : Int32)))])) P
      refine Go.st (fun t_ k_ => XS.iconst X21.here hx rfl (hb hby at_71) k_) ?_
      show Go pg.tables ev below (T21.setTop (mkF mi 72 #[.val (.int cnt), .val (.int f0), .val (.int f1), .val (.int f2), .val (.int (cnt &&& (3 : Int32))), .val (.ref b1), .val (.ref b3), .val (.int (((0 : Int32) + (fLS f0)) + (fLS f1)))] [(.int (3 : Int32)), (.int (cnt &&& (3 : Int32)))])) P
      by_cases hc72_3 : (cnt &&& (3 : Int32)) < (3 : Int32)
      · refine Go.st (fun t_ k_ => XS.icmpYes X21.here hx rfl (pc0 := 72) (pc' := 92) rfl (hb hby at_72) rfl (tlt hc72_3).1 (by decide) (by decide) k_) ?_
        show Go pg.tables ev below (T21.setTop (mkF mi 92 #[.val (.int cnt), .val (.int f0), .val (.int f1), .val (.int f2), .val (.int (cnt &&& (3 : Int32))), .val (.ref b1), .val (.ref b3), .val (.int (((0 : Int32) + (fLS f0)) + (fLS f1)))] [])) P
        refine Go.st (fun t_ k_ => XS.aload X21.here hx rfl (hb hby at_92) rfl rfl k_) ?_
        show Go pg.tables ev below (T21.setTop (mkF mi 94 #[.val (.int cnt), .val (.int f0), .val (.int f1), .val (.int f2), .val (.int (cnt &&& (3 : Int32))), .val (.ref b1), .val (.ref b3), .val (.int (((0 : Int32) + (fLS f0)) + (fLS f1)))] [(.ref b3)])) P
        have f23 := (f18.keep K17)
        obtain ⟨cq22, kq22, q22a, q22b, q22c⟩ := isOf hZ e21 f23
        obtain ⟨_, _, ⟨T22, L22, k22, n22⟩, -, X22, ⟨Lc22, hQ22, l22, y22, z22⟩, st22⟩ := X21.virtualBack hx (y := (⟨"com/example/gatewright/gatewright/Fields", "encodedSize", "()I"⟩ : MethodName)) (z := (⟨"com/example/gatewright/gatewright/Fields", "encodedSize", "()I"⟩ : MethodName)) hown (mvT hZ (hw _ (List.mem_of_getElem? (i := 23) rfl))) (mvT hZ (hw _ (List.mem_of_getElem? (i := 24) rfl))) (notFace_of_selects (args := #[]) (mvT hZ (hw _ (List.mem_of_getElem? (i := 26) rfl)))) (mvT hZ (hw _ (List.mem_of_getElem? (i := 26) rfl))) (mvT hZ (hw _ (List.mem_of_getElem? (i := 25) rfl))) (by decide) (backOf (W := 0) (rmZ2 l Z a0 hw [] b3 sp kS (fNS f0) ((fNS f0) + (fNL f0)) (fVS f0) ((fVS f0) + (fVL f0)) (fNS f1) ((fNS f1) + (fNL f1)) (fVS f1) ((fVS f1) + (fVL f1)) [(.int (0 : Int32)), (.int (0 : Int32)), (.int (0 : Int32)), (.int (0 : Int32)), (.int (0 : Int32)), (.int (0 : Int32)), (.int (0 : Int32)), (.int (0 : Int32)), (.int (0 : Int32)), (.int (0 : Int32)), (.int (0 : Int32)), (.int (0 : Int32)), (.int (0 : Int32)), (.int (0 : Int32)), (.int (0 : Int32)), (.int (0 : Int32)), (.int (0 : Int32)), (.int (0 : Int32)), (.int (0 : Int32)), (.int (0 : Int32)), (.int (0 : Int32)), (.int (0 : Int32)), (.int (0 : Int32)), (.int (0 : Int32))] h17 n0 Zs20 FA17_2 FA17_4 AB17_sp) hZ (hw _ (List.mem_of_getElem? (i := 27) rfl)) (hw _ (List.mem_of_getElem? (i := 3) rfl)) (by decide) (by decide)) q22a q22c (g := (mkF mi 94 #[.val (.int cnt), .val (.int f0), .val (.int f1), .val (.int f2), .val (.int (cnt &&& (3 : Int32))), .val (.ref b1), .val (.ref b3), .val (.int (((0 : Int32) + (fLS f0)) + (fLS f1)))] [(.ref b3)])) rfl (by rw [hml]; rfl) (Steps.refl _) (argsL := []) (rest := []) (lenOf pd_4 rfl) rfl (by show 2 * 0 + _ ≤ _; exact Nat.le_of_eq rfl) (hb hby at_94) (fun _ _ => ⟨rfl, e21, (by decide : 6 + 0 ≤ _), (by decide : 126 + 0 ≤ _)⟩)
        dsimp only [Pt.U, Pt.locs, Pt.cells, Pt.slots] at X22 l22 y22 z22 st22 hQ22
        subst l22 y22 z22
        obtain ⟨rfl, N22q, e22⟩ := hQ22
        have N22 := Fr.app N21 N22q
        refine Go.tr st22 ?_
        show Go pg.tables ev below (T22.setTop (mkF mi 97 #[.val (.int cnt), .val (.int f0), .val (.int f1), .val (.int f2), .val (.int (cnt &&& (3 : Int32))), .val (.ref b1), .val (.ref b3), .val (.int (((0 : Int32) + (fLS f0)) + (fLS f1)))] [(.int (fZ2 (fNS f0) ((fNS f0) + (fNL f0)) (fVS f0) ((fVS f0) + (fVL f0)) (fNS f1) ((fNS f1) + (fNL f1)) (fVS f1) ((fVS f1) + (fVL f1))))])) P
        refine Go.st (fun t_ k_ => XS.iload X22.here hx rfl (hb hby at_97) rfl k_) ?_
        show Go pg.tables ev below (T22.setTop (mkF mi 99 #[.val (.int cnt), .val (.int f0), .val (.int f1), .val (.int f2), .val (.int (cnt &&& (3 : Int32))), .val (.ref b1), .val (.ref b3), .val (.int (((0 : Int32) + (fLS f0)) + (fLS f1)))] [(.int (((0 : Int32) + (fLS f0)) + (fLS f1))), (.int (fZ2 (fNS f0) ((fNS f0) + (fNL f0)) (fVS f0) ((fVS f0) + (fVL f0)) (fNS f1) ((fNS f1) + (fNL f1)) (fVS f1) ((fVS f1) + (fVL f1))))])) P
        refine Go.st (fun t_ k_ => XS.icmpNo X22.here hx rfl (hb hby at_99) rfl (teq (own_sum2 f0 f1)).2 k_) ?_
        show Go pg.tables ev below (T22.setTop (mkF mi 102 #[.val (.int cnt), .val (.int f0), .val (.int f1), .val (.int f2), .val (.int (cnt &&& (3 : Int32))), .val (.ref b1), .val (.ref b3), .val (.int (((0 : Int32) + (fLS f0)) + (fLS f1)))] [])) P
        refine Go.st (fun t_ k_ => XS.iconst X22.here hx rfl (hb hby at_102) k_) ?_
        show Go pg.tables ev below (T22.setTop (mkF mi 103 #[.val (.int cnt), .val (.int f0), .val (.int f1), .val (.int f2), .val (.int (cnt &&& (3 : Int32))), .val (.ref b1), .val (.ref b3), .val (.int (((0 : Int32) + (fLS f0)) + (fLS f1)))] [(.int (1 : Int32))])) P
        refine Go.st (fun t_ k_ => XS.goto X22.here hx rfl (pc0 := 103) (pc' := 107) rfl (hb hby at_103) (by decide) (by decide) k_) ?_
        show Go pg.tables ev below (T22.setTop (mkF mi 107 #[.val (.int cnt), .val (.int f0), .val (.int f1), .val (.int f2), .val (.int (cnt &&& (3 : Int32))), .val (.ref b1), .val (.ref b3), .val (.int (((0 : Int32) + (fLS f0)) + (fLS f1)))] [(.int (1 : Int32))])) P
        obtain ⟨fs, hr, hrun, hended, hW, hsame⟩ := X22.leave (v := some (.int (1 : Int32))) (fun h => by rw [Bd.returns] at h; cases h) (BodyLoose.notSynchronized Bd)
        refine ⟨_, _, ?_, hP _ _ ⟨hrun, hended, _, _, rfl, ?_, ⟨_, rfl⟩, hW, hsame.mono (by decide) (by decide)⟩⟩
        · exact retN X22 hx (t := .boolean) Bd.returns (by simp) (hb hby at_107) hr
        · show (some (.int (1 : Int32)) : Option Value) = some (.int 1) ∧ Fr n0 _
          exact ⟨rfl, N22⟩
      · refine Go.st (fun t_ k_ => XS.icmpNo X21.here hx rfl (hb hby at_72) rfl (flt hc72_3).1 k_) ?_
        show Go pg.tables ev below (T21.setTop (mkF mi 75 #[.val (.int cnt), .val (.int f0), .val (.int f1), .val (.int f2), .val (.int (cnt &&& (3 : Int32))), .val (.ref b1), .val (.ref b3), .val (.int (((0 : Int32) + (fLS f0)) + (fLS f1)))] [])) P
        refine Go.st (fun t_ k_ => XS.aload X21.here hx rfl (hb hby at_75) rfl rfl k_) ?_
        show Go pg.tables ev below (T21.setTop (mkF mi 77 #[.val (.int cnt), .val (.int f0), .val (.int f1), .val (.int f2), .val (.int (cnt &&& (3 : Int32))), .val (.ref b1), .val (.ref b3), .val (.int (((0 : Int32) + (fLS f0)) + (fLS f1)))] [(.ref b3)])) P
        refine Go.st (fun t_ k_ => XS.aload X21.here hx rfl (hb hby at_77) rfl rfl k_) ?_
        show Go pg.tables ev below (T21.setTop (mkF mi 79 #[.val (.int cnt), .val (.int f0), .val (.int f1), .val (.int f2), .val (.int (cnt &&& (3 : Int32))), .val (.ref b1), .val (.ref b3), .val (.int (((0 : Int32) + (fLS f0)) + (fLS f1)))] [(.ref b1), (.ref b3)])) P
        refine Go.st (fun t_ k_ => XS.iloadN X21.here hx rfl (hb hby at_79) rfl k_) ?_
        show Go pg.tables ev below (T21.setTop (mkF mi 80 #[.val (.int cnt), .val (.int f0), .val (.int f1), .val (.int f2), .val (.int (cnt &&& (3 : Int32))), .val (.ref b1), .val (.ref b3), .val (.int (((0 : Int32) + (fLS f0)) + (fLS f1)))] [(.int f2), (.ref b1), (.ref b3)])) P
        have f25 := (f18.keep K17)
        have f26 := (f19.keep K17)
        obtain ⟨_, _, ⟨T24, L24, k24, n24⟩, -, X24, ⟨Lc24, hQ24, l24, y24, z24⟩, st24⟩ := Jvm.LawKit.callS X21 hx (y := (⟨"com/example/gatewright/gatewright/FieldsEncodedSizePinLaw", "addField", "(Lcom/example/gatewright/gatewright/Fields;[BI)V"⟩ : MethodName)) hown (mvT hZ (hw _ (List.mem_of_getElem? (i := 30) rfl))) (mvT hZ (hw _ (List.mem_of_getElem? (i := 31) rfl))) (mvT hZ (hw _ (List.mem_of_getElem? (i := 32) rfl))) (mvT hZ (hw _ (List.mem_of_getElem? (i := 33) rfl))) (by decide) (backOf (W := 0) (rmAF_2 l Z a0 hw [] b3 b1 f2 nb vb sp kn kN kV kS kK [(.ref b1), (.ref b1), .null, .null, .null, .null, .null, .null] [(.ref b1), (.ref b1), .null, .null, .null, .null, .null, .null] [(.int (fNS f0)), (.int ((fNS f0) + (fNL f0))), (.int (fVS f0)), (.int ((fVS f0) + (fVL f0))), (.int (fNS f1)), (.int ((fNS f1) + (fNL f1))), (.int (fVS f1)), (.int ((fVS f1) + (fVL f1))), (.int (0 : Int32)), (.int (0 : Int32)), (.int (0 : Int32)), (.int (0 : Int32)), (.int (0 : Int32)), (.int (0 : Int32)), (.int (0 : Int32)), (.int (0 : Int32)), (.int (0 : Int32)), (.int (0 : Int32)), (.int (0 : Int32)), (.int (0 : Int32)), (.int (0 : Int32)), (.int (0 : Int32)), (.int (0 : Int32)), (.int (0 : Int32)), (.int (0 : Int32)), (.int (0 : Int32)), (.int (0 : Int32)), (.int (0 : Int32)), (.int (0 : Int32)), (.int (0 : Int32)), (.int (0 : Int32)), (.int (0 : Int32))] [.null, .null, .null, .null, .null, .null, .null, .null] h17 n0 Zs20 f25 g_b3 f26 g_nb g_vb g_sp g_kn ne_o_nb ne_o_vb ne_o_sp ne_o_kn ne_nb_vb ne_nb_sp ne_nb_kn ne_vb_sp ne_vb_kn ne_sp_kn FA17_0 FA17_1 FA17_2 FA17_3 FA17_4 AB17_nb AB17_vb AB17_sp AB17_kn rfl rfl rfl rfl O_nb O_vb) hZ (hw _ (List.mem_of_getElem? (i := 33) rfl)) (hw _ (List.mem_of_getElem? (i := 32) rfl)) (by decide) (by decide)) (g := (mkF mi 80 #[.val (.int cnt), .val (.int f0), .val (.int f1), .val (.int f2), .val (.int (cnt &&& (3 : Int32))), .val (.ref b1), .val (.ref b3), .val (.int (((0 : Int32) + (fLS f0)) + (fLS f1)))] [(.int f2), (.ref b1), (.ref b3)])) rfl (by rw [hml]; rfl) (argsL := [(.ref b3), (.ref b1), (.int f2)]) (rest := []) (lenOf pd_5 rfl) rfl (by show 2 * 0 + _ ≤ _; exact Nat.le_of_eq rfl) (hb hby at_80) (fun _ _ => ⟨rfl, e21, (by decide : 6 + 0 ≤ _), (by decide : 126 + 0 ≤ _)⟩)
        dsimp only [Pt.U, Pt.locs, Pt.cells, Pt.slots] at X24 l24 y24 z24 st24 hQ24
        subst l24 y24 z24
        obtain ⟨h24, e24⟩ : ∃ z, T24.heap = z := ⟨_, rfl⟩
        rw [e24] at hQ24
        obtain ⟨rfl, N24q, K24, FA24_0, FA24_1, FA24_2, FA24_3, FA24_4, AA24_nb, AA24_vb, AA24_sp, AA24_kn⟩ := hQ24
        have N24 := Fr.app N21 N24q
        have Zs27 : n0 ≤ h24.size := Nat.le_trans Zs20 K24.1
        have AB24_nb : Arv Z h24 nb kN (.array .byte) (8 : Int32) [(.ref b1), (.ref b1), (.ref b1), .null, .null, .null, .null, .null] .null := AA24_nb
        have AB24_vb : Arv Z h24 vb kV (.array .byte) (8 : Int32) [(.ref b1), (.ref b1), (.ref b1), .null, .null, .null, .null, .null] .null := AA24_vb
        have AB24_sp : Arv Z h24 sp kS .int (32 : Int32) [(.int (fNS f0)), (.int ((fNS f0) + (fNL f0))), (.int (fVS f0)), (.int ((fVS f0) + (fVL f0))), (.int (fNS f1)), (.int ((fNS f1) + (fNL f1))), (.int (fVS f1)), (.int ((fVS f1) + (fVL f1))), (.int (fNS f2)), (.int ((fNS f2) + (fNL f2))), (.int (fVS f2)), (.int ((fVS f2) + (fVL f2))), (.int (0 : Int32)), (.int (0 : Int32)), (.int (0 : Int32)), (.int (0 : Int32)), (.int (0 : Int32)), (.int (0 : Int32)), (.int (0 : Int32)), (.int (0 : Int32)), (.int (0 : Int32)), (.int (0 : Int32)), (.int (0 : Int32)), (.int (0 : Int32)), (.int (0 : Int32)), (.int (0 : Int32)), (.int (0 : Int32)), (.int (0 : Int32)), (.int (0 : Int32)), (.int (0 : Int32)), (.int (0 : Int32)), (.int (0 : Int32))] (.int (0 : Int32)) := AA24_sp
        have AB24_kn : Arv Z h24 kn kK (.object "com/example/gatewright/gatewright/FieldName") (8 : Int32) [.null, .null, .null, .null, .null, .null, .null, .null] .null := AA24_kn
        refine Go.st st24 ?_
        show Go pg.tables ev below (T24.setTop (mkF mi 83 #[.val (.int cnt), .val (.int f0), .val (.int f1), .val (.int f2), .val (.int (cnt &&& (3 : Int32))), .val (.ref b1), .val (.ref b3), .val (.int (((0 : Int32) + (fLS f0)) + (fLS f1)))] [])) P
        refine Go.st (fun t_ k_ => XS.iload X24.here hx rfl (hb hby at_83) rfl k_) ?_
        show Go pg.tables ev below (T24.setTop (mkF mi 85 #[.val (.int cnt), .val (.int f0), .val (.int f1), .val (.int f2), .val (.int (cnt &&& (3 : Int32))), .val (.ref b1), .val (.ref b3), .val (.int (((0 : Int32) + (fLS f0)) + (fLS f1)))] [(.int (((0 : Int32) + (fLS f0)) + (fLS f1)))])) P
        refine Go.st (fun t_ k_ => XS.iloadN X24.here hx rfl (hb hby at_85) rfl k_) ?_
        show Go pg.tables ev below (T24.setTop (mkF mi 86 #[.val (.int cnt), .val (.int f0), .val (.int f1), .val (.int f2), .val (.int (cnt &&& (3 : Int32))), .val (.ref b1), .val (.ref b3), .val (.int (((0 : Int32) + (fLS f0)) + (fLS f1)))] [(.int f2), (.int (((0 : Int32) + (fLS f0)) + (fLS f1)))])) P
        obtain ⟨_, _, ⟨T28, L28, k28, n28⟩, -, X28, ⟨Lc28, hQ28, l28, y28, z28⟩, st28⟩ := Jvm.LawKit.callS X24 hx (y := (⟨"com/example/gatewright/gatewright/FieldsEncodedSizePinLaw", "lineSize", "(I)I"⟩ : MethodName)) hown (mvT hZ (hw _ (List.mem_of_getElem? (i := 56) rfl))) (mvT hZ (hw _ (List.mem_of_getElem? (i := 57) rfl))) (mvT hZ (hw _ (List.mem_of_getElem? (i := 32) rfl))) (mvT hZ (hw _ (List.mem_of_getElem? (i := 58) rfl))) (by decide) (backOf (W := 1) (rmLS l Z a0 hw [] f2 h24 n0 Zs27) hZ (hw _ (List.mem_of_getElem? (i := 58) rfl)) (hw _ (List.mem_of_getElem? (i := 32) rfl)) (by decide) (by decide)) (g := (mkF mi 86 #[.val (.int cnt), .val (.int f0), .val (.int f1), .val (.int f2), .val (.int (cnt &&& (3 : Int32))), .val (.ref b1), .val (.ref b3), .val (.int (((0 : Int32) + (fLS f0)) + (fLS f1)))] [(.int f2), (.int (((0 : Int32) + (fLS f0)) + (fLS f1)))])) rfl (by rw [hml]; rfl) (argsL := [(.int f2)]) (rest := [(.int (((0 : Int32) + (fLS f0)) + (fLS f1)))]) (lenOf pd_0 rfl) rfl (by show 2 * 0 + _ ≤ _; exact Nat.le_of_eq rfl) (hb hby at_86) (fun _ _ => ⟨rfl, e24, (by decide : 6 + 0 ≤ _), (by decide : 126 + 0 ≤ _)⟩)
        dsimp only [Pt.U, Pt.locs, Pt.cells, Pt.slots] at X28 l28 y28 z28 st28 hQ28
        subst l28 y28 z28
        obtain ⟨rfl, N28q, e28⟩ := hQ28
        have N28 := Fr.app N24 N28q
        refine Go.st st28 ?_
        show Go pg.tables ev below (T28.setTop (mkF mi 89 #[.val (.int cnt), .val (.int f0), .val (.int f1), .val (.int f2), .val (.int (cnt &&& (3 : Int32))), .val (.ref b1), .val (.ref b3), .val (.int (((0 : Int32) + (fLS f0)) + (fLS f1)))] [(.int (fLS f2)), (.int (((0 : Int32) + (fLS f0)) + (fLS f1)))])) P
        refine Go.st (fun t_ k_ => XS.iadd X28.here hx rfl (hb hby at_89) rfl k_) ?_
        show Go pg.tables ev below (T28.setTop (mkF mi 90 #[.val (.int cnt), .val (.int f0), .val (.int f1), .val (.int f2), .val (.int (cnt &&& (3 : Int32))), .val (.ref b1), .val (.ref b3), .val (.int (((0 : Int32) + (fLS f0)) + (fLS f1)))] [(.int ((((0 : Int32) + (fLS f0)) + (fLS f1)) + (fLS f2)))])) P
        refine Go.st (fun t_ k_ => XS.istore X28.here hx rfl (hb hby at_90) rfl (l' := #[.val (.int cnt), .val (.int f0), .val (.int f1), .val (.int f2), .val (.int (cnt &&& (3 : Int32))), .val (.ref b1), .val (.ref b3), .val (.int ((((0 : Int32) + (fLS f0)) + (fLS f1)) + (fLS f2)))]) rfl k_) ?_
        show Go pg.tables ev below (T28.setTop (mkF mi 92 #[.val (.int cnt), .val (.int f0), .val (.int f1), .val (.int f2), .val (.int (cnt &&& (3 : Int32))), .val (.ref b1), .val (.ref b3), .val (.int ((((0 : Int32) + (fLS f0)) + (fLS f1)) + (fLS f2)))] [])) P
        refine Go.st (fun t_ k_ => XS.aload X28.here hx rfl (hb hby at_92) rfl rfl k_) ?_
        show Go pg.tables ev below (T28.setTop (mkF mi 94 #[.val (.int cnt), .val (.int f0), .val (.int f1), .val (.int f2), .val (.int (cnt &&& (3 : Int32))), .val (.ref b1), .val (.ref b3), .val (.int ((((0 : Int32) + (fLS f0)) + (fLS f1)) + (fLS f2)))] [(.ref b3)])) P
        have f30 := (f25.keep K24)
        obtain ⟨cq29, kq29, q29a, q29b, q29c⟩ := isOf hZ e28 f30
        obtain ⟨_, _, ⟨T29, L29, k29, n29⟩, -, X29, ⟨Lc29, hQ29, l29, y29, z29⟩, st29⟩ := X28.virtualBack hx (y := (⟨"com/example/gatewright/gatewright/Fields", "encodedSize", "()I"⟩ : MethodName)) (z := (⟨"com/example/gatewright/gatewright/Fields", "encodedSize", "()I"⟩ : MethodName)) hown (mvT hZ (hw _ (List.mem_of_getElem? (i := 23) rfl))) (mvT hZ (hw _ (List.mem_of_getElem? (i := 24) rfl))) (notFace_of_selects (args := #[]) (mvT hZ (hw _ (List.mem_of_getElem? (i := 26) rfl)))) (mvT hZ (hw _ (List.mem_of_getElem? (i := 26) rfl))) (mvT hZ (hw _ (List.mem_of_getElem? (i := 25) rfl))) (by decide) (backOf (W := 0) (rmZ3 l Z a0 hw [] b3 sp kS (fNS f0) ((fNS f0) + (fNL f0)) (fVS f0) ((fVS f0) + (fVL f0)) (fNS f1) ((fNS f1) + (fNL f1)) (fVS f1) ((fVS f1) + (fVL f1)) (fNS f2) ((fNS f2) + (fNL f2)) (fVS f2) ((fVS f2) + (fVL f2)) [(.int (0 : Int32)), (.int (0 : Int32)), (.int (0 : Int32)), (.int (0 : Int32)), (.int (0 : Int32)), (.int (0 : Int32)), (.int (0 : Int32)), (.int (0 : Int32)), (.int (0 : Int32)), (.int (0 : Int32)), (.int (0 : Int32)), (.int (0 : Int32)), (.int (0 : Int32)), (.int (0 : Int32)), (.int (0 : Int32)), (.int (0 : Int32)), (.int (0 : Int32)), (.int (0 : Int32)), (.int (0 : Int32)), (.int (0 : Int32))] h24 n0 Zs27 FA24_2 FA24_4 AB24_sp) hZ (hw _ (List.mem_of_getElem? (i := 27) rfl)) (hw _ (List.mem_of_getElem? (i := 3) rfl)) (by decide) (by decide)) q29a q29c (g := (mkF mi 94 #[.val (.int cnt), .val (.int f0), .val (.int f1), .val (.int f2), .val (.int (cnt &&& (3 : Int32))), .val (.ref b1), .val (.ref b3), .val (.int ((((0 : Int32) + (fLS f0)) + (fLS f1)) + (fLS f2)))] [(.ref b3)])) rfl (by rw [hml]; rfl) (Steps.refl _) (argsL := []) (rest := []) (lenOf pd_4 rfl) rfl (by show 2 * 0 + _ ≤ _; exact Nat.le_of_eq rfl) (hb hby at_94) (fun _ _ => ⟨rfl, e28, (by decide : 6 + 0 ≤ _), (by decide : 126 + 0 ≤ _)⟩)
        dsimp only [Pt.U, Pt.locs, Pt.cells, Pt.slots] at X29 l29 y29 z29 st29 hQ29
        subst l29 y29 z29
        obtain ⟨rfl, N29q, e29⟩ := hQ29
        have N29 := Fr.app N28 N29q
        refine Go.tr st29 ?_
        show Go pg.tables ev below (T29.setTop (mkF mi 97 #[.val (.int cnt), .val (.int f0), .val (.int f1), .val (.int f2), .val (.int (cnt &&& (3 : Int32))), .val (.ref b1), .val (.ref b3), .val (.int ((((0 : Int32) + (fLS f0)) + (fLS f1)) + (fLS f2)))] [(.int (fZ3 (fNS f0) ((fNS f0) + (fNL f0)) (fVS f0) ((fVS f0) + (fVL f0)) (fNS f1) ((fNS f1) + (fNL f1)) (fVS f1) ((fVS f1) + (fVL f1)) (fNS f2) ((fNS f2) + (fNL f2)) (fVS f2) ((fVS f2) + (fVL f2))))])) P
        refine Go.st (fun t_ k_ => XS.iload X29.here hx rfl (hb hby at_97) rfl k_) ?_
        show Go pg.tables ev below (T29.setTop (mkF mi 99 #[.val (.int cnt), .val (.int f0), .val (.int f1), .val (.int f2), .val (.int (cnt &&& (3 : Int32))), .val (.ref b1), .val (.ref b3), .val (.int ((((0 : Int32) + (fLS f0)) + (fLS f1)) + (fLS f2)))] [(.int ((((0 : Int32) + (fLS f0)) + (fLS f1)) + (fLS f2))), (.int (fZ3 (fNS f0) ((fNS f0) + (fNL f0)) (fVS f0) ((fVS f0) + (fVL f0)) (fNS f1) ((fNS f1) + (fNL f1)) (fVS f1) ((fVS f1) + (fVL f1)) (fNS f2) ((fNS f2) + (fNL f2)) (fVS f2) ((fVS f2) + (fVL f2))))])) P
        refine Go.st (fun t_ k_ => XS.icmpNo X29.here hx rfl (hb hby at_99) rfl (teq (own_sum3 f0 f1 f2)).2 k_) ?_
        show Go pg.tables ev below (T29.setTop (mkF mi 102 #[.val (.int cnt), .val (.int f0), .val (.int f1), .val (.int f2), .val (.int (cnt &&& (3 : Int32))), .val (.ref b1), .val (.ref b3), .val (.int ((((0 : Int32) + (fLS f0)) + (fLS f1)) + (fLS f2)))] [])) P
        refine Go.st (fun t_ k_ => XS.iconst X29.here hx rfl (hb hby at_102) k_) ?_
        show Go pg.tables ev below (T29.setTop (mkF mi 103 #[.val (.int cnt), .val (.int f0), .val (.int f1), .val (.int f2), .val (.int (cnt &&& (3 : Int32))), .val (.ref b1), .val (.ref b3), .val (.int ((((0 : Int32) + (fLS f0)) + (fLS f1)) + (fLS f2)))] [(.int (1 : Int32))])) P
        refine Go.st (fun t_ k_ => XS.goto X29.here hx rfl (pc0 := 103) (pc' := 107) rfl (hb hby at_103) (by decide) (by decide) k_) ?_
        show Go pg.tables ev below (T29.setTop (mkF mi 107 #[.val (.int cnt), .val (.int f0), .val (.int f1), .val (.int f2), .val (.int (cnt &&& (3 : Int32))), .val (.ref b1), .val (.ref b3), .val (.int ((((0 : Int32) + (fLS f0)) + (fLS f1)) + (fLS f2)))] [(.int (1 : Int32))])) P
        obtain ⟨fs, hr, hrun, hended, hW, hsame⟩ := X29.leave (v := some (.int (1 : Int32))) (fun h => by rw [Bd.returns] at h; cases h) (BodyLoose.notSynchronized Bd)
        refine ⟨_, _, ?_, hP _ _ ⟨hrun, hended, _, _, rfl, ?_, ⟨_, rfl⟩, hW, hsame.mono (by decide) (by decide)⟩⟩
        · exact retN X29 hx (t := .boolean) Bd.returns (by simp) (hb hby at_107) hr
        · show (some (.int (1 : Int32)) : Option Value) = some (.int 1) ∧ Fr n0 _
          exact ⟨rfl, N29⟩
set_option maxRecDepth 65536 in
set_option maxHeartbeats 40000000 in
theorem comes_1 {Post : Tables → Env → Array Value → State → Outcome → State → Prop} (hpost : ∀ tb e args s v u, (limb_1_1.after args s (.returned v) u = true ∧ limb_1_2.after args s (.returned v) u = true ∧ True) → FrameEnd s (.returned v) u (Jvm.fieldLocs frame_1_writes args s ++ Jvm.arrayLocs frame_1_arrays args s ++ Jvm.staticLocs frame_1_statics s) 24 320 → Post tb e args s (.returned v) u) :
    ArmFor flags0 classFile x code maxLocals ret World_1 tables_1 room_1 Calls_1 rest_1 Pre_1 Post := by
  intro l hfl _ _ p e ha hc hk s m args below hf hA hF happ hP
  obtain ⟨hcalls, hrest, hpre⟩ := hP
  obtain ⟨-, -, -, hnamed, -, -, -, hat⟩ := (Spec.applies_iff hf).mp happ
  obtain ⟨hg, hn⟩ := and_e (Cond.before_iff.mp (show (Jvm.Cond.and given_1 narrow_1).before args s = true from hpre))
  obtain ⟨g1, g2⟩ := and_e hg
  obtain ⟨g3, g4⟩ := and_e g2
  obtain ⟨g5, g6⟩ := and_e g4
  obtain ⟨g7, g8⟩ := and_e g6
  obtain ⟨w0, w1, w2, w3, rfl⟩ : ∃ w0 w1 w2 w3 : Value, args = #[w0, w1, w2, w3] := by
    have hs : args.size = 4 := by simpa [Cond.value, given_1] using g1
    obtain ⟨L⟩ := args
    match L, hs with
    | [w0, w1, w2, w3], _ => exact ⟨w0, w1, w2, w3, rfl⟩
  have hw := fun d (hd : d ∈ tables_1) => atoms_spec (ws := Jvm.Cond.code x code maxLocals ret :: tables_1) hat d (List.mem_cons_of_mem _ hd)
  have hfit : Fit s := fun {y c} hc i hi => by
    obtain ⟨ha, rfl⟩ := Array.getElem?_eq_some_iff.mp hc
    have q := List.all_eq_true.mp ((Array.all_eq_true_iff_forall_mem.mp hF) _ (Array.getElem_mem ha)) i (List.mem_range.mpr hi)
    simpa [Array.getElem?_eq_getElem hi] using q
  obtain ⟨i0, ei0⟩ := is_v g3
  obtain rfl : w0 = (.int i0) := Option.some.inj ei0
  obtain ⟨i1, ei1⟩ := is_v g5
  obtain rfl : w1 = (.int i1) := Option.some.inj ei1
  obtain ⟨i2, ei2⟩ := is_v g7
  obtain rfl : w2 = (.int i2) := Option.some.inj ei2
  obtain ⟨i3, ei3⟩ := is_v g8
  obtain rfl : w3 = (.int i3) := Option.some.inj ei3
  obtain ⟨n, o, h1, h2, h3, _, L, rfl, ⟨rfl, N⟩, hq⟩ := rm0 l s _ hw tables_1 i0 i1 i2 i3  s.heap s.heap.size (Nat.le_refl _)  p e ha hc hk s m _ below hf ((Spec.applies_iff_loose hf).mp happ).1 ⟨rfl, State.Warmed39.refl s, rfl⟩ trivial
  refine ⟨n, _, h1, h2, h3, hpost _ _ _ _ _ _ ⟨Cond.after_iff.mpr rfl, Cond.after_iff.mpr (eq_i res_at (Term.int_eval (1)) rfl), trivial⟩ ⟨hq.1, hq.2.1, (hq.2.2.sift fun y hy => Or.inr (N y hy)).mono (by decide) (by decide)⟩⟩
theorem main_1_1 : Claimed_1_1 := comes_1 fun _ _ _ _ _ _ h hF => ⟨h.1, hF⟩
theorem main_1_2 : Claimed_1_2 := comes_1 fun _ _ _ _ _ _ h hF => ⟨h.2.1, hF⟩
end Jvm.Pilot.@@N@@
namespace Jvm.Pilot.@@N@@
open Jvm Jvm.ClassFile Sem Op Lib Jvm.Free Jvm.Stand Jvm.Pilot.@@N@@.Jvm.D
/-! MADE BY PROGRAM (witnessworld.py) out of the Statement's table words and the real class files: 14 classes; the members and pool entries that the words name. The judged class is class 1, her method 7. -/
namespace start1
open Jvm.ClassFile
def u (s : String) : CpInfo := .utf8 (stringToUtf16 s)
/-- a pool by its gaps: so many unusable entries, then the entry; so many at the end -/
def gap : Nat → List CpInfo → List CpInfo
  | 0, r => r
  | n + 1, r => .unusable :: gap n r
def poolList (es : List (Nat × CpInfo)) (last : Nat) : List CpInfo := es.foldr (fun e r => gap e.1 (e.2 :: r)) (gap last [])
def pool (es : List (Nat × CpInfo)) (last : Nat) : Array CpInfo := ⟨poolList es last⟩
def fileOf (pool : Array CpInfo) (this : Nat) (attrs : Array Attribute := #[]) (ms : Array MethodInfo := #[]) (fl : Nat := 33) (sup : Nat := 0) (ifs : Array Nat := #[]) (fds : Array FieldInfo := #[]) : ClassFile where
  minorVersion := 0
  majorVersion := 65
  constantPool := pool
  accessFlags := fl
  thisClass := this
  superClass := sup
  interfaces := ifs
  fields := fds
  methods := ms
  attributes := attrs
def plain (name : String) (sup : Option ClassId) : Class where
  name := name
  kind := .ordinary
  loader := none
  accessFlags := 33
  super := sup
  interfaces := #[]
  cf := none
  fields := #[]
  methods := #[]
  instanceTypes := #[]
  staticTypes := #[]
  resolved := #[]
  callSites := []
  init := .initialized
  statics := none
  mirror := none

def pool0 : Array CpInfo := pool [(5, u "<init>"), (0, u "()V"), (1, .class_ 10), (1, u "java/lang/Object")] 113

def k0c0 : Code := { maxStack := 0, maxLocals := 1, code := object_method_1_code, exceptionTable := #[], attributes := #[] }
def k0m0 : Method := { name := "<init>", desc := "()V", sig := { parameters := [], returnType := none }, accessFlags := 1, code := some k0c0 }
/-- java/lang/Object -/
def k0 : Class := { plain "java/lang/Object" none with
  accessFlags := 33
  interfaces := #[]
  cf := some (fileOf pool0 8 #[] #[{ accessFlags := 1, nameIndex := 5, descriptorIndex := 6, attributes := #[] }] 33 0 #[] #[])
  fields := #[]
  methods := #[k0m0]
  instanceTypes := #[]
  staticTypes := #[]
  resolved := Array.replicate 124 none
  statics := none }

def pool1 : Array CpInfo := pool [(2, .class_ 4), (0, .nameAndType 5 6), (0, u "java/lang/Object"), (0, u "<init>"), (0, u "()V"), (0, .methodref 8 9), (0, .class_ 10), (0, .nameAndType 11 12), (0, u "com/example/gatewright/gatewright/FieldsEncodedSizePinLaw"), (0, u "nameStart"), (0, u "(I)I"), (0, .methodref 8 14), (0, .nameAndType 15 12), (0, u "valueStart"), (2, .methodref 8 19), (0, .nameAndType 20 12), (0, u "nameLength"), (0, .methodref 8 22), (0, .nameAndType 23 12), (0, u "valueLength"), (0, .methodref 25 26), (0, .class_ 27), (0, .nameAndType 28 29), (0, u "com/example/gatewright/gatewright/Fields"), (0, u "add"), (0, u "(Lcom/example/gatewright/gatewright/FieldName;[BIIII)V"), (0, .methodref 25 3), (0, .methodref 8 32), (0, .nameAndType 33 34), (0, u "addField"), (0, u "(Lcom/example/gatewright/gatewright/Fields;[BI)V"), (0, .methodref 8 36), (0, .nameAndType 37 12), (0, u "lineSize"), (0, .methodref 25 39), (0, .nameAndType 40 41), (0, u "encodedSize"), (0, u "()I"), (2, u "law"), (0, u "(IIII)Z")] 5

def k1m0 : Method := { name := "<init>", desc := "()V", sig := { parameters := [], returnType := none }, accessFlags := 1, code := none }
def k1c1 : Code := { maxStack := 2, maxLocals := 1, code := method_2_code, exceptionTable := #[], attributes := #[] }
def k1m1 : Method := { name := "nameStart", desc := "(I)I", sig := { parameters := [.int], returnType := some .int }, accessFlags := 10, code := some k1c1 }
def k1c2 : Code := { maxStack := 2, maxLocals := 1, code := method_3_code, exceptionTable := #[], attributes := #[] }
def k1m2 : Method := { name := "nameLength", desc := "(I)I", sig := { parameters := [.int], returnType := some .int }, accessFlags := 10, code := some k1c2 }
def k1c3 : Code := { maxStack := 2, maxLocals := 1, code := method_4_code, exceptionTable := #[], attributes := #[] }
def k1m3 : Method := { name := "valueStart", desc := "(I)I", sig := { parameters := [.int], returnType := some .int }, accessFlags := 10, code := some k1c3 }
def k1c4 : Code := { maxStack := 2, maxLocals := 1, code := method_5_code, exceptionTable := #[], attributes := #[] }
def k1m4 : Method := { name := "valueLength", desc := "(I)I", sig := { parameters := [.int], returnType := some .int }, accessFlags := 10, code := some k1c4 }
def k1c5 : Code := { maxStack := 8, maxLocals := 5, code := method_6_code, exceptionTable := #[], attributes := #[] }
def k1m5 : Method := { name := "addField", desc := "(Lcom/example/gatewright/gatewright/Fields;[BI)V", sig := { parameters := [(.object "com/example/gatewright/gatewright/Fields"), (.array .byte), .int], returnType := none }, accessFlags := 10, code := some k1c5 }
def k1c6 : Code := { maxStack := 2, maxLocals := 1, code := method_7_code, exceptionTable := #[], attributes := #[] }
def k1m6 : Method := { name := "lineSize", desc := "(I)I", sig := { parameters := [.int], returnType := some .int }, accessFlags := 10, code := some k1c6 }
def k1c7 : Code := { maxStack := 3, maxLocals := 8, code := code, exceptionTable := #[], attributes := #[] }
def k1m7 : Method := { name := "law", desc := "(IIII)Z", sig := { parameters := [.int, .int, .int, .int], returnType := some .boolean }, accessFlags := 9, code := some k1c7 }
/-- com/example/gatewright/gatewright/FieldsEncodedSizePinLaw -/
def k1 : Class := { plain "com/example/gatewright/gatewright/FieldsEncodedSizePinLaw" (some 0) with
  accessFlags := 49
  interfaces := #[]
  cf := some (fileOf pool1 8 #[] #[{ accessFlags := 1, nameIndex := 5, descriptorIndex := 6, attributes := #[] }, { accessFlags := 10, nameIndex := 11, descriptorIndex := 12, attributes := #[] }, { accessFlags := 10, nameIndex := 20, descriptorIndex := 12, attributes := #[] }, { accessFlags := 10, nameIndex := 15, descriptorIndex := 12, attributes := #[] }, { accessFlags := 10, nameIndex := 23, descriptorIndex := 12, attributes := #[] }, { accessFlags := 10, nameIndex := 33, descriptorIndex := 34, attributes := #[] }, { accessFlags := 10, nameIndex := 37, descriptorIndex := 12, attributes := #[] }, { accessFlags := 9, nameIndex := 44, descriptorIndex := 45, attributes := #[] }] 49 2 #[] #[])
  fields := #[]
  methods := #[k1m0, k1m1, k1m2, k1m3, k1m4, k1m5, k1m6, k1m7]
  instanceTypes := #[]
  staticTypes := #[]
  resolved := Array.replicate 51 none
  statics := none }

def pool2 : Array CpInfo := pool [(1, .methodref 2 3), (0, .class_ 4), (0, .nameAndType 5 6), (0, u "java/lang/Object"), (0, u "<init>"), (0, u "()V"), (0, .class_ 8), (0, u "[B"), (0, .fieldref 10 11), (0, .class_ 12), (0, .nameAndType 13 14), (0, u "com/example/gatewright/gatewright/Fields"), (0, u "nameBytes"), (0, u "[[B"), (0, .fieldref 10 16), (0, .nameAndType 17 14), (0, u "valueBytes"), (0, .fieldref 10 19), (0, .nameAndType 20 21), (0, u "spans"), (0, u "[I"), (0, .class_ 23), (0, u "com/example/gatewright/gatewright/FieldName"), (0, .fieldref 10 25), (0, .nameAndType 26 27), (0, u "known"), (0, u "[Lcom/example/gatewright/gatewright/FieldName;"), (30, u "add"), (1, .methodref 10 61), (0, .nameAndType 58 62), (0, u "(Lcom/example/gatewright/gatewright/FieldName;[BII[BII)V"), (0, .fieldref 10 64), (0, .nameAndType 65 66), (0, u "size"), (0, u "I"), (11, .fieldref 10 79), (0, .nameAndType 80 81), (0, u "texts"), (0, u "[Ljava/lang/String;"), (93, .class_ 177), (1, u "com/example/gatewright/gatewright/Fields$MemberTest"), (13, u "()I"), (49, u "FRAMING_BYTES"), (8, u "(Lcom/example/gatewright/gatewright/FieldName;[BIIII)V"), (15, u "encodedSize")] 33

def k2c0 : Code := { maxStack := 2, maxLocals := 1, code := prog_5_method_1_code, exceptionTable := #[], attributes := #[] }
def k2m0 : Method := { name := "<init>", desc := "()V", sig := { parameters := [], returnType := none }, accessFlags := 0, code := some k2c0 }
def k2c1 : Code := { maxStack := 8, maxLocals := 7, code := prog_5_method_5_code, exceptionTable := #[], attributes := #[] }
def k2m1 : Method := { name := "add", desc := "(Lcom/example/gatewright/gatewright/FieldName;[BIIII)V", sig := { parameters := [(.object "com/example/gatewright/gatewright/FieldName"), (.array .byte), .int, .int, .int, .int], returnType := none }, accessFlags := 0, code := some k2c1 }
def k2c2 : Code := { maxStack := 4, maxLocals := 9, code := prog_5_method_7_code, exceptionTable := #[], attributes := #[] }
def k2m2 : Method := { name := "add", desc := "(Lcom/example/gatewright/gatewright/FieldName;[BII[BII)V", sig := { parameters := [(.object "com/example/gatewright/gatewright/FieldName"), (.array .byte), .int, .int, (.array .byte), .int, .int], returnType := none }, accessFlags := 2, code := some k2c2 }
def k2c3 : Code := { maxStack := 5, maxLocals := 4, code := prog_5_method_21_code, exceptionTable := #[], attributes := #[] }
def k2m3 : Method := { name := "encodedSize", desc := "()I", sig := { parameters := [], returnType := some .int }, accessFlags := 0, code := some k2c3 }
/-- com/example/gatewright/gatewright/Fields -/
def k2 : Class := { plain "com/example/gatewright/gatewright/Fields" (some 0) with
  accessFlags := 48
  interfaces := #[]
  cf := some (fileOf pool2 10 #[.nestMembers #[175]] #[{ accessFlags := 0, nameIndex := 5, descriptorIndex := 6, attributes := #[] }, { accessFlags := 0, nameIndex := 58, descriptorIndex := 250, attributes := #[] }, { accessFlags := 2, nameIndex := 58, descriptorIndex := 62, attributes := #[] }, { accessFlags := 0, nameIndex := 266, descriptorIndex := 191, attributes := #[] }] 48 2 #[] #[{ accessFlags := 26, nameIndex := 241, descriptorIndex := 66, attributes := #[] }, { accessFlags := 2, nameIndex := 13, descriptorIndex := 14, attributes := #[] }, { accessFlags := 2, nameIndex := 17, descriptorIndex := 14, attributes := #[] }, { accessFlags := 2, nameIndex := 20, descriptorIndex := 21, attributes := #[] }, { accessFlags := 2, nameIndex := 26, descriptorIndex := 27, attributes := #[] }, { accessFlags := 2, nameIndex := 80, descriptorIndex := 81, attributes := #[] }, { accessFlags := 2, nameIndex := 65, descriptorIndex := 66, attributes := #[] }])
  fields := #[{ name := "FRAMING_BYTES", type := .int, accessFlags := 26, slot := 0, constantValue := 0 }, { name := "nameBytes", type := (.array (.array .byte)), accessFlags := 2, slot := 0, constantValue := 0 }, { name := "valueBytes", type := (.array (.array .byte)), accessFlags := 2, slot := 1, constantValue := 0 }, { name := "spans", type := (.array .int), accessFlags := 2, slot := 2, constantValue := 0 }, { name := "known", type := (.array (.object "com/example/gatewright/gatewright/FieldName")), accessFlags := 2, slot := 3, constantValue := 0 }, { name := "texts", type := (.array (.object "java/lang/String")), accessFlags := 2, slot := 4, constantValue := 0 }, { name := "size", type := .int, accessFlags := 2, slot := 5, constantValue := 0 }]
  methods := #[k2m0, k2m1, k2m2, k2m3]
  instanceTypes := #[(.array (.array .byte)), (.array (.array .byte)), (.array .int), (.array (.object "com/example/gatewright/gatewright/FieldName")), (.array (.object "java/lang/String")), .int]
  staticTypes := #[.int]
  resolved := Array.replicate 300 none
  statics := none }

def pool3 : Array CpInfo := pool [(1, .class_ 2), (0, u "java/lang/constant/Constable"), (0, .class_ 4), (0, u "java/lang/Object")] 6

/-- java/lang/constant/Constable -/
def k3 : Class := { plain "java/lang/constant/Constable" (some 0) with
  accessFlags := 1537
  interfaces := #[]
  cf := some (fileOf pool3 1 #[] #[] 1537 3 #[] #[])
  fields := #[]
  methods := #[]
  instanceTypes := #[]
  staticTypes := #[]
  resolved := Array.replicate 11 none
  statics := none }

def pool4 : Array CpInfo := pool [(1, .class_ 2), (0, u "java/lang/Comparable"), (0, .class_ 4), (0, u "java/lang/Object")] 7

/-- java/lang/Comparable -/
def k4 : Class := { plain "java/lang/Comparable" (some 0) with
  accessFlags := 1537
  interfaces := #[]
  cf := some (fileOf pool4 1 #[] #[] 1537 3 #[] #[])
  fields := #[]
  methods := #[]
  instanceTypes := #[]
  staticTypes := #[]
  resolved := Array.replicate 12 none
  statics := none }

def pool5 : Array CpInfo := pool [(1, .class_ 2), (0, u "java/io/Serializable"), (0, .class_ 4), (0, u "java/lang/Object")] 2

/-- java/io/Serializable -/
def k5 : Class := { plain "java/io/Serializable" (some 0) with
  accessFlags := 1537
  interfaces := #[]
  cf := some (fileOf pool5 1 #[] #[] 1537 3 #[] #[])
  fields := #[]
  methods := #[]
  instanceTypes := #[]
  staticTypes := #[]
  resolved := Array.replicate 7 none
  statics := none }

def pool6 : Array CpInfo := pool [(2, .class_ 4), (1, u "java/lang/Enum"), (0, u "name"), (0, u "Ljava/lang/String;"), (2, u "ordinal"), (0, u "I"), (1, .class_ 14), (1, u "java/lang/Object"), (4, u "hash"), (86, .class_ 108), (1, u "java/lang/Enum$EnumDesc"), (2, .class_ 112), (0, u "java/lang/constant/Constable"), (0, .class_ 114), (0, u "java/lang/Comparable"), (0, .class_ 116), (0, u "java/io/Serializable")] 87

/-- java/lang/Enum -/
def k6 : Class := { plain "java/lang/Enum" (some 0) with
  accessFlags := 1057
  interfaces := #[3, 4, 5]
  cf := some (fileOf pool6 2 #[.nestMembers #[106]] #[] 1057 12 #[111, 113, 115] #[{ accessFlags := 18, nameIndex := 5, descriptorIndex := 6, attributes := #[] }, { accessFlags := 18, nameIndex := 9, descriptorIndex := 10, attributes := #[] }, { accessFlags := 2, nameIndex := 19, descriptorIndex := 10, attributes := #[] }])
  fields := #[{ name := "name", type := (.object "java/lang/String"), accessFlags := 18, slot := 0, constantValue := 0 }, { name := "ordinal", type := .int, accessFlags := 18, slot := 1, constantValue := 0 }, { name := "hash", type := .int, accessFlags := 2, slot := 2, constantValue := 0 }]
  methods := #[]
  instanceTypes := #[(.object "java/lang/String"), .int, .int]
  staticTypes := #[]
  resolved := Array.replicate 204 none
  statics := none }

def pool7 : Array CpInfo := pool [(1, .class_ 2), (0, u "com/example/gatewright/gatewright/FieldName"), (2, u "HOST"), (0, u "Lcom/example/gatewright/gatewright/FieldName;"), (2, u "CONTENT_LENGTH"), (2, u "TRANSFER_ENCODING"), (2, u "CONNECTION"), (2, u "KEEP_ALIVE"), (2, u "PROXY_CONNECTION"), (2, u "TE"), (2, u "TRAILER"), (2, u "UPGRADE"), (2, u "EXPECT"), (2, u "VIA"), (2, u "X_FORWARDED_FOR"), (2, u "X_FORWARDED_PROTO"), (2, u "X_FORWARDED_HOST"), (2, u "X_REQUEST_ID"), (2, u "X_RETRY_COUNT"), (2, u "X_CONSUMER"), (2, u "X_API_KEY"), (2, u "$VALUES"), (0, u "[Lcom/example/gatewright/gatewright/FieldName;"), (6, .class_ 70), (1, u "java/lang/Enum"), (8, u "text"), (0, u "Ljava/lang/String;"), (14, u "bytes"), (0, u "[B"), (12, u "lower"), (6, u "BY_LENGTH"), (0, u "[[Lcom/example/gatewright/gatewright/FieldName;")] 116

/-- com/example/gatewright/gatewright/FieldName -/
def k7 : Class := { plain "com/example/gatewright/gatewright/FieldName" (some 6) with
  accessFlags := 16432
  interfaces := #[]
  cf := some (fileOf pool7 1 #[] #[] 16432 68 #[] #[{ accessFlags := 16409, nameIndex := 5, descriptorIndex := 6, attributes := #[] }, { accessFlags := 16409, nameIndex := 9, descriptorIndex := 6, attributes := #[] }, { accessFlags := 16409, nameIndex := 12, descriptorIndex := 6, attributes := #[] }, { accessFlags := 16409, nameIndex := 15, descriptorIndex := 6, attributes := #[] }, { accessFlags := 16409, nameIndex := 18, descriptorIndex := 6, attributes := #[] }, { accessFlags := 16409, nameIndex := 21, descriptorIndex := 6, attributes := #[] }, { accessFlags := 16409, nameIndex := 24, descriptorIndex := 6, attributes := #[] }, { accessFlags := 16409, nameIndex := 27, descriptorIndex := 6, attributes := #[] }, { accessFlags := 16409, nameIndex := 30, descriptorIndex := 6, attributes := #[] }, { accessFlags := 16409, nameIndex := 33, descriptorIndex := 6, attributes := #[] }, { accessFlags := 16409, nameIndex := 36, descriptorIndex := 6, attributes := #[] }, { accessFlags := 16409, nameIndex := 39, descriptorIndex := 6, attributes := #[] }, { accessFlags := 16409, nameIndex := 42, descriptorIndex := 6, attributes := #[] }, { accessFlags := 16409, nameIndex := 45, descriptorIndex := 6, attributes := #[] }, { accessFlags := 16409, nameIndex := 48, descriptorIndex := 6, attributes := #[] }, { accessFlags := 16409, nameIndex := 51, descriptorIndex := 6, attributes := #[] }, { accessFlags := 16409, nameIndex := 54, descriptorIndex := 6, attributes := #[] }, { accessFlags := 16409, nameIndex := 57, descriptorIndex := 6, attributes := #[] }, { accessFlags := 26, nameIndex := 116, descriptorIndex := 117, attributes := #[] }, { accessFlags := 18, nameIndex := 79, descriptorIndex := 80, attributes := #[] }, { accessFlags := 18, nameIndex := 95, descriptorIndex := 96, attributes := #[] }, { accessFlags := 18, nameIndex := 109, descriptorIndex := 96, attributes := #[] }, { accessFlags := 4122, nameIndex := 60, descriptorIndex := 61, attributes := #[] }])
  fields := #[{ name := "HOST", type := (.object "com/example/gatewright/gatewright/FieldName"), accessFlags := 16409, slot := 0, constantValue := 0 }, { name := "CONTENT_LENGTH", type := (.object "com/example/gatewright/gatewright/FieldName"), accessFlags := 16409, slot := 1, constantValue := 0 }, { name := "TRANSFER_ENCODING", type := (.object "com/example/gatewright/gatewright/FieldName"), accessFlags := 16409, slot := 2, constantValue := 0 }, { name := "CONNECTION", type := (.object "com/example/gatewright/gatewright/FieldName"), accessFlags := 16409, slot := 3, constantValue := 0 }, { name := "KEEP_ALIVE", type := (.object "com/example/gatewright/gatewright/FieldName"), accessFlags := 16409, slot := 4, constantValue := 0 }, { name := "PROXY_CONNECTION", type := (.object "com/example/gatewright/gatewright/FieldName"), accessFlags := 16409, slot := 5, constantValue := 0 }, { name := "TE", type := (.object "com/example/gatewright/gatewright/FieldName"), accessFlags := 16409, slot := 6, constantValue := 0 }, { name := "TRAILER", type := (.object "com/example/gatewright/gatewright/FieldName"), accessFlags := 16409, slot := 7, constantValue := 0 }, { name := "UPGRADE", type := (.object "com/example/gatewright/gatewright/FieldName"), accessFlags := 16409, slot := 8, constantValue := 0 }, { name := "EXPECT", type := (.object "com/example/gatewright/gatewright/FieldName"), accessFlags := 16409, slot := 9, constantValue := 0 }, { name := "VIA", type := (.object "com/example/gatewright/gatewright/FieldName"), accessFlags := 16409, slot := 10, constantValue := 0 }, { name := "X_FORWARDED_FOR", type := (.object "com/example/gatewright/gatewright/FieldName"), accessFlags := 16409, slot := 11, constantValue := 0 }, { name := "X_FORWARDED_PROTO", type := (.object "com/example/gatewright/gatewright/FieldName"), accessFlags := 16409, slot := 12, constantValue := 0 }, { name := "X_FORWARDED_HOST", type := (.object "com/example/gatewright/gatewright/FieldName"), accessFlags := 16409, slot := 13, constantValue := 0 }, { name := "X_REQUEST_ID", type := (.object "com/example/gatewright/gatewright/FieldName"), accessFlags := 16409, slot := 14, constantValue := 0 }, { name := "X_RETRY_COUNT", type := (.object "com/example/gatewright/gatewright/FieldName"), accessFlags := 16409, slot := 15, constantValue := 0 }, { name := "X_CONSUMER", type := (.object "com/example/gatewright/gatewright/FieldName"), accessFlags := 16409, slot := 16, constantValue := 0 }, { name := "X_API_KEY", type := (.object "com/example/gatewright/gatewright/FieldName"), accessFlags := 16409, slot := 17, constantValue := 0 }, { name := "BY_LENGTH", type := (.array (.array (.object "com/example/gatewright/gatewright/FieldName"))), accessFlags := 26, slot := 18, constantValue := 0 }, { name := "text", type := (.object "java/lang/String"), accessFlags := 18, slot := 3, constantValue := 0 }, { name := "bytes", type := (.array .byte), accessFlags := 18, slot := 4, constantValue := 0 }, { name := "lower", type := (.array .byte), accessFlags := 18, slot := 5, constantValue := 0 }, { name := "$VALUES", type := (.array (.object "com/example/gatewright/gatewright/FieldName")), accessFlags := 4122, slot := 19, constantValue := 0 }]
  methods := #[]
  instanceTypes := #[(.object "java/lang/String"), .int, .int, (.object "java/lang/String"), (.array .byte), (.array .byte)]
  staticTypes := #[(.object "com/example/gatewright/gatewright/FieldName"), (.object "com/example/gatewright/gatewright/FieldName"), (.object "com/example/gatewright/gatewright/FieldName"), (.object "com/example/gatewright/gatewright/FieldName"), (.object "com/example/gatewright/gatewright/FieldName"), (.object "com/example/gatewright/gatewright/FieldName"), (.object "com/example/gatewright/gatewright/FieldName"), (.object "com/example/gatewright/gatewright/FieldName"), (.object "com/example/gatewright/gatewright/FieldName"), (.object "com/example/gatewright/gatewright/FieldName"), (.object "com/example/gatewright/gatewright/FieldName"), (.object "com/example/gatewright/gatewright/FieldName"), (.object "com/example/gatewright/gatewright/FieldName"), (.object "com/example/gatewright/gatewright/FieldName"), (.object "com/example/gatewright/gatewright/FieldName"), (.object "com/example/gatewright/gatewright/FieldName"), (.object "com/example/gatewright/gatewright/FieldName"), (.object "com/example/gatewright/gatewright/FieldName"), (.array (.array (.object "com/example/gatewright/gatewright/FieldName"))), (.array (.object "com/example/gatewright/gatewright/FieldName"))]
  resolved := Array.replicate 234 none
  statics := none }

def pool8 : Array CpInfo := pool [(1, u "java/lang/Cloneable"), (0, .class_ 1), (0, u "java/lang/Object"), (0, .class_ 3)] 3

/-- java/lang/Cloneable -/
def k8 : Class := { plain "java/lang/Cloneable" (some 0) with
  accessFlags := 1537
  interfaces := #[]
  cf := some (fileOf pool8 2 #[] #[] 1537 4 #[] #[])
  fields := #[]
  methods := #[]
  instanceTypes := #[]
  staticTypes := #[]
  resolved := Array.replicate 8 none
  statics := none }

/-- the primitive byte -/
def k9 : Class := { plain "byte" none with kind := .primitive 'B', accessFlags := 0x411 }
/-- [B -/
def k10 : Class := { plain "[B" (some 0) with kind := .array 9 .byte, interfaces := #[8, 5], accessFlags := 1041 }

/-- the primitive int -/
def k11 : Class := { plain "int" none with kind := .primitive 'I', accessFlags := 0x411 }
/-- [I -/
def k12 : Class := { plain "[I" (some 0) with kind := .array 11 .int, interfaces := #[8, 5], accessFlags := 1041 }

/-- [Lcom/example/gatewright/gatewright/FieldName; -/
def k13 : Class := { plain "[Lcom/example/gatewright/gatewright/FieldName;" (some 0) with kind := .array 7 (.object "com/example/gatewright/gatewright/FieldName"), interfaces := #[8, 5], accessFlags := 1041 }

def k14 : Class := { plain "[[B" (some 0) with kind := .array 10 (.array .byte), interfaces := #[8, 5], accessFlags := 1041 }
def heap : Heap := #[]
def classes : Array Class := #[k0, k1, k2, k3, k4, k5, k6, k7, k8, k9, k10, k11, k12, k13, k14]
def interned : List (Array UInt16 × Addr) := []
def slotsUsed : Nat := 0
def theMethod : MethodId := ⟨1, 7⟩
def args0 : Array Value := #[.int 3, .int 5, .int 6, .int 7]
def aboutOver (below : List Frame) : State where
  vm := { classes := classes, interned := interned.toArray }
  heap := heap
  slotsUsed := slotsUsed
  threads := #[{ frames := .invoking theMethod args0 :: below }]
def below0 : List Frame := [.native { method := ⟨0, 0⟩, args := #[] }]
def about1 : State := aboutOver below0
def p0 : Program := .bare "" "" ""
def e0 : Env := launch0.env 0 0 0
theorem w_frames : about1.frames = Frame.invoking theMethod args0 :: below0 := rfl
set_option maxRecDepth 65536 in
theorem w_args : argsFit about1.vm theMethod args0 = true := by decide +kernel
set_option maxRecDepth 65536 in
theorem w_heap : heapFits about1 = true := by decide +kernel
set_option maxRecDepth 65536 in
theorem w_runnable : about1.curStatus? = some .runnable := by decide +kernel
set_option maxRecDepth 65536 in
theorem w_alone : about1.alone = true := by decide +kernel
set_option maxRecDepth 65536 in
theorem w_named : about1.methodNamed? x = some theMethod := by decide +kernel
set_option maxRecDepth 65536 in
theorem w_hears : about1.hears theMethod below0 = true := by decide +kernel
set_option maxRecDepth 65536 in
theorem w_ripe : about1.ripe theMethod args0 below0 = true := by decide +kernel
theorem w_running : about1.status = .running := rfl
set_option maxRecDepth 65536 in
theorem w_room : about1.hasRoom e0.platform room_1 = true :=
  launch0.hasRoom_least _ room_1 (by decide +kernel) (by decide +kernel) (by decide +kernel) (by decide +kernel) (by decide +kernel) (by decide +kernel)
theorem allAtoms_all (ts : List Jvm.Cond) (a : Array Jvm.Value) (st : Jvm.State) : (allAtoms ts).before a st = ts.all (fun c => c.before a st) := by
  induction ts with
  | nil => rfl
  | cons c t ih =>
    show (Jvm.Cond.and c (allAtoms t)).before a st = _
    rw [Jvm.Cond.before_and, ih, List.all_cons]
def words1 : List Jvm.Cond := Jvm.Cond.code x code maxLocals ret :: tables_1
/-- a 'code' word, met by the world's own term for the bytes: nothing is compared byte by byte -/
theorem code_word {y : MethodName} {bytes : ByteArray} {mx : Nat} {rt : Option FieldType} {a : Array Value} {s : State} {m : MethodId} {meth : Method} {c : Code} (h1 : s.methodNamed? y = some m) (h2 : s.vm.method? m = some meth) (h3 : meth.code = some c) (h4 : c.code = bytes)
    (h5 : (c.maxLocals == mx && c.exceptionTable.isEmpty && decide (c.maxStack ≤ mostOperands) && decide (meth.sig.returnType = rt) && !meth.locks && decide (parseMethodDescriptor y.desc = some meth.sig)) = true) : (Jvm.Cond.code y bytes mx rt).before a s = true := by
  simp only [Bool.and_eq_true, beq_iff_eq, Bool.not_eq_true', decide_eq_true_eq] at h5
  obtain ⟨⟨⟨⟨⟨g1, g2⟩, g3⟩, g4⟩, g5⟩, g6⟩ := h5
  simp [Cond.before, Cond.holds, Cond.value, h1, h2, h3, h4, g1, g2, g3, g4, g5, g6]
def isCode : Jvm.Cond → Bool
  | .code _ _ _ _ => true
  | _ => false
theorem all_split {L : List Jvm.Cond} {P : Jvm.Cond → Bool} (h1 : L.all (fun c => isCode c || P c) = true) (h2 : ∀ c ∈ L.filter isCode, P c = true) : L.all P = true := by
  refine List.all_eq_true.mpr fun c hc => ?_
  have h := List.all_eq_true.mp h1 c hc
  rcases Bool.eq_false_or_eq_true (isCode c) with hi | hi
  · exact h2 c (List.mem_filter.mpr ⟨hc, hi⟩)
  · simpa [hi] using h
set_option maxRecDepth 65536 in
theorem w_c0 : (Jvm.Cond.code x code maxLocals ret).before args0 about1 = true := code_word (m := ⟨1, 7⟩) (meth := k1m7) (c := k1c7) (by decide +kernel) rfl rfl rfl (by decide +kernel)
set_option maxRecDepth 65536 in
theorem w_c1 : (Jvm.Cond.code ({ cls := "com/example/gatewright/gatewright/Fields", name := "<init>", desc := "()V" } : Jvm.MethodName) prog_5_method_1_code (1 : Nat) (Option.none : Option Jvm.ClassFile.FieldType)).before args0 about1 = true := code_word (m := ⟨2, 0⟩) (meth := k2m0) (c := k2c0) (by decide +kernel) rfl rfl rfl (by decide +kernel)
set_option maxRecDepth 65536 in
theorem w_c2 : (Jvm.Cond.code ({ cls := "java/lang/Object", name := "<init>", desc := "()V" } : Jvm.MethodName) object_method_1_code (1 : Nat) (Option.none : Option Jvm.ClassFile.FieldType)).before args0 about1 = true := code_word (m := ⟨0, 0⟩) (meth := k0m0) (c := k0c0) (by decide +kernel) rfl rfl rfl (by decide +kernel)
set_option maxRecDepth 65536 in
theorem w_c3 : (Jvm.Cond.code ({ cls := "com/example/gatewright/gatewright/Fields", name := "encodedSize", desc := "()I" } : Jvm.MethodName) prog_5_method_21_code (4 : Nat) (Option.some Jvm.ClassFile.FieldType.int)).before args0 about1 = true := code_word (m := ⟨2, 3⟩) (meth := k2m3) (c := k2c3) (by decide +kernel) rfl rfl rfl (by decide +kernel)
set_option maxRecDepth 65536 in
theorem w_c4 : (Jvm.Cond.code ({ cls := "com/example/gatewright/gatewright/FieldsEncodedSizePinLaw", name := "addField", desc := "(Lcom/example/gatewright/gatewright/Fields;[BI)V" } : Jvm.MethodName) method_6_code (5 : Nat) (Option.none : Option Jvm.ClassFile.FieldType)).before args0 about1 = true := code_word (m := ⟨1, 5⟩) (meth := k1m5) (c := k1c5) (by decide +kernel) rfl rfl rfl (by decide +kernel)
set_option maxRecDepth 65536 in
theorem w_c5 : (Jvm.Cond.code ({ cls := "com/example/gatewright/gatewright/FieldsEncodedSizePinLaw", name := "nameStart", desc := "(I)I" } : Jvm.MethodName) method_2_code (1 : Nat) (Option.some Jvm.ClassFile.FieldType.int)).before args0 about1 = true := code_word (m := ⟨1, 1⟩) (meth := k1m1) (c := k1c1) (by decide +kernel) rfl rfl rfl (by decide +kernel)
set_option maxRecDepth 65536 in
theorem w_c6 : (Jvm.Cond.code ({ cls := "com/example/gatewright/gatewright/FieldsEncodedSizePinLaw", name := "valueStart", desc := "(I)I" } : Jvm.MethodName) method_4_code (1 : Nat) (Option.some Jvm.ClassFile.FieldType.int)).before args0 about1 = true := code_word (m := ⟨1, 3⟩) (meth := k1m3) (c := k1c3) (by decide +kernel) rfl rfl rfl (by decide +kernel)
set_option maxRecDepth 65536 in
theorem w_c7 : (Jvm.Cond.code ({ cls := "com/example/gatewright/gatewright/FieldsEncodedSizePinLaw", name := "nameLength", desc := "(I)I" } : Jvm.MethodName) method_3_code (1 : Nat) (Option.some Jvm.ClassFile.FieldType.int)).before args0 about1 = true := code_word (m := ⟨1, 2⟩) (meth := k1m2) (c := k1c2) (by decide +kernel) rfl rfl rfl (by decide +kernel)
set_option maxRecDepth 65536 in
theorem w_c8 : (Jvm.Cond.code ({ cls := "com/example/gatewright/gatewright/FieldsEncodedSizePinLaw", name := "valueLength", desc := "(I)I" } : Jvm.MethodName) method_5_code (1 : Nat) (Option.some Jvm.ClassFile.FieldType.int)).before args0 about1 = true := code_word (m := ⟨1, 4⟩) (meth := k1m4) (c := k1c4) (by decide +kernel) rfl rfl rfl (by decide +kernel)
set_option maxRecDepth 65536 in
theorem w_c9 : (Jvm.Cond.code ({ cls := "com/example/gatewright/gatewright/Fields", name := "add", desc := "(Lcom/example/gatewright/gatewright/FieldName;[BIIII)V" } : Jvm.MethodName) prog_5_method_5_code (7 : Nat) (Option.none : Option Jvm.ClassFile.FieldType)).before args0 about1 = true := code_word (m := ⟨2, 1⟩) (meth := k2m1) (c := k2c1) (by decide +kernel) rfl rfl rfl (by decide +kernel)
set_option maxRecDepth 65536 in
theorem w_c10 : (Jvm.Cond.code ({ cls := "com/example/gatewright/gatewright/Fields", name := "add", desc := "(Lcom/example/gatewright/gatewright/FieldName;[BII[BII)V" } : Jvm.MethodName) prog_5_method_7_code (9 : Nat) (Option.none : Option Jvm.ClassFile.FieldType)).before args0 about1 = true := code_word (m := ⟨2, 2⟩) (meth := k2m2) (c := k2c2) (by decide +kernel) rfl rfl rfl (by decide +kernel)
set_option maxRecDepth 65536 in
theorem w_c11 : (Jvm.Cond.code ({ cls := "com/example/gatewright/gatewright/FieldsEncodedSizePinLaw", name := "lineSize", desc := "(I)I" } : Jvm.MethodName) method_7_code (1 : Nat) (Option.some Jvm.ClassFile.FieldType.int)).before args0 about1 = true := code_word (m := ⟨1, 6⟩) (meth := k1m6) (c := k1c6) (by decide +kernel) rfl rfl rfl (by decide +kernel)
def codes1 : List Jvm.Cond := [Jvm.Cond.code x code maxLocals ret, Jvm.Cond.code ({ cls := "com/example/gatewright/gatewright/Fields", name := "<init>", desc := "()V" } : Jvm.MethodName) prog_5_method_1_code (1 : Nat) (Option.none : Option Jvm.ClassFile.FieldType), Jvm.Cond.code ({ cls := "java/lang/Object", name := "<init>", desc := "()V" } : Jvm.MethodName) object_method_1_code (1 : Nat) (Option.none : Option Jvm.ClassFile.FieldType), Jvm.Cond.code ({ cls := "com/example/gatewright/gatewright/Fields", name := "encodedSize", desc := "()I" } : Jvm.MethodName) prog_5_method_21_code (4 : Nat) (Option.some Jvm.ClassFile.FieldType.int), Jvm.Cond.code ({ cls := "com/example/gatewright/gatewright/FieldsEncodedSizePinLaw", name := "addField", desc := "(Lcom/example/gatewright/gatewright/Fields;[BI)V" } : Jvm.MethodName) method_6_code (5 : Nat) (Option.none : Option Jvm.ClassFile.FieldType), Jvm.Cond.code ({ cls := "com/example/gatewright/gatewright/FieldsEncodedSizePinLaw", name := "nameStart", desc := "(I)I" } : Jvm.MethodName) method_2_code (1 : Nat) (Option.some Jvm.ClassFile.FieldType.int), Jvm.Cond.code ({ cls := "com/example/gatewright/gatewright/FieldsEncodedSizePinLaw", name := "valueStart", desc := "(I)I" } : Jvm.MethodName) method_4_code (1 : Nat) (Option.some Jvm.ClassFile.FieldType.int), Jvm.Cond.code ({ cls := "com/example/gatewright/gatewright/FieldsEncodedSizePinLaw", name := "nameLength", desc := "(I)I" } : Jvm.MethodName) method_3_code (1 : Nat) (Option.some Jvm.ClassFile.FieldType.int), Jvm.Cond.code ({ cls := "com/example/gatewright/gatewright/FieldsEncodedSizePinLaw", name := "valueLength", desc := "(I)I" } : Jvm.MethodName) method_5_code (1 : Nat) (Option.some Jvm.ClassFile.FieldType.int), Jvm.Cond.code ({ cls := "com/example/gatewright/gatewright/Fields", name := "add", desc := "(Lcom/example/gatewright/gatewright/FieldName;[BIIII)V" } : Jvm.MethodName) prog_5_method_5_code (7 : Nat) (Option.none : Option Jvm.ClassFile.FieldType), Jvm.Cond.code ({ cls := "com/example/gatewright/gatewright/Fields", name := "add", desc := "(Lcom/example/gatewright/gatewright/FieldName;[BII[BII)V" } : Jvm.MethodName) prog_5_method_7_code (9 : Nat) (Option.none : Option Jvm.ClassFile.FieldType), Jvm.Cond.code ({ cls := "com/example/gatewright/gatewright/FieldsEncodedSizePinLaw", name := "lineSize", desc := "(I)I" } : Jvm.MethodName) method_7_code (1 : Nat) (Option.some Jvm.ClassFile.FieldType.int)]
set_option maxRecDepth 65536 in
theorem codes_eq : words1.filter isCode = codes1 := rfl
theorem w_codes : ∀ c ∈ words1.filter isCode, c.before args0 about1 = true := by
  rw [codes_eq]
  intro c hc
  simp only [codes1, List.mem_cons, List.not_mem_nil, or_false] at hc
  rcases hc with rfl | rfl | rfl | rfl | rfl | rfl | rfl | rfl | rfl | rfl | rfl | rfl
  · exact w_c0
  · exact w_c1
  · exact w_c2
  · exact w_c3
  · exact w_c4
  · exact w_c5
  · exact w_c6
  · exact w_c7
  · exact w_c8
  · exact w_c9
  · exact w_c10
  · exact w_c11
set_option maxRecDepth 65536 in
theorem w_t1 : (words1.take 24).all (fun c => isCode c || c.before args0 about1) = true := by decide +kernel
set_option maxRecDepth 65536 in
theorem w_t2 : ((words1.drop 24).take 24).all (fun c => isCode c || c.before args0 about1) = true := by decide +kernel
set_option maxRecDepth 65536 in
theorem w_t3 : ((words1.drop 24).drop 24).all (fun c => isCode c || c.before args0 about1) = true := by decide +kernel
theorem w_tables : (allAtoms (Jvm.Cond.code x code maxLocals ret :: tables_1)).before args0 about1 = true := by
  rw [allAtoms_all]
  show words1.all (fun c => c.before args0 about1) = true
  refine all_split ?_ w_codes
  rw [← List.take_append_drop 24 words1, List.all_append, w_t1, ← List.take_append_drop 24 (words1.drop 24), List.all_append, w_t2, w_t3]
  rfl
set_option maxRecDepth 65536 in
theorem w_case : (Jvm.Cond.and given_1 narrow_1).before args0 about1 = true := by decide +kernel
theorem w_applies : (headSpec (Jvm.Cond.code x code maxLocals ret :: tables_1) room_1).applies x e0.platform about1 = true :=
  (Spec.applies_iff w_frames).mpr ⟨w_running, w_runnable, w_alone, w_named, w_hears, w_ripe, w_room, w_tables⟩
theorem atStart : AtStart classFile x code maxLocals ret World_1 tables_1 room_1 Calls_1 rest_1 Pre_1 launch0 p0 e0 about1 theMethod args0 below0 :=
  ⟨lists_1, trivial, launch0.admits_env _ _ _, launch0.least_env, fairChoices_fair.cas, fairChoices_fair.clock, w_frames, w_args, w_heap, w_applies, trivial, trivial, w_case⟩
end start1
theorem witness_1 : WitnessClaimed_1 := ⟨start1.p0, start1.e0, start1.about1, start1.theMethod, start1.args0, start1.below0, start1.atStart⟩
end Jvm.Pilot.@@N@@
