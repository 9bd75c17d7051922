import JvmDerived
import JvmDerived.Pilot.@@N@@Statement
import JvmDerived.Pilot.@@N@@Code
set_option linter.unusedVariables false
set_option linter.unusedSimpArgs false
namespace Jvm.RoadKit
open Sem ClassFile Op Lib Jvm.Stand Jvm.Free Jvm.LawKit
section New
variable {p : Program} {l : Launch} {e : Env} {R : Room} {s : State} {m : MethodId} {args : Array Value} {below : List Frame} {meth : Method} {c : Code} {T : State} {locs : List Loc} {cells slots : Nat}
theorem retI (X : Stand p l e R s m args below meth c T locs cells slots) (hx : p.tables.exec = Jvm.exec) {pc : Nat} {Ls : Array Slot} {z : Int32} {rest : List Value} (hret : meth.sig.returnType = some .int) (hd : decode c.code pc = .ok (.ireturn, 1)) {fs : List Frame}
    (hl : ∀ (f : JFrame) (acts : List Action), f.method = m → f.locked = none → f.entered = [] → (doReturn e (T.setTop f) acts (some (.int z))).1 = T.setFrames fs) : Steps p.tables e below (T.setTop (mkF m pc Ls (.int z :: rest))) (T.setFrames fs) := by
  have hm' : T.vm.method? m = some meth := X.method'
  have hn : narrow .int (.int z) = .int z := rfl
  show Steps p.tables e below (T.setTop { method := m, pc := pc, locals := Ls, stack := _ :: rest, locked := none }) _
  jvm_step X.here [X.here.top, hx, hd, hm', hret, hn]
  first | (intro acts; rw [hl _ acts rfl rfl rfl]) | rw [hl _ _ rfl rfl rfl]
  exact Steps.refl _
theorem own_nb {t : FieldType} {c : Prop} [Decidable c] {a b : Int32} (ha : nar t a = a) (hb : nar t b = b) : nar t (if c then a else b) = (if c then a else b) := by
  by_cases h : c
  · rw [if_pos h]; exact ha
  · rw [if_neg h]; exact hb
theorem own_retN (X : Stand p l e R s m args below meth c T locs cells slots) (hx : p.tables.exec = Jvm.exec) {pc : Nat} {Ls : Array Slot} {z : Int32} {t : FieldType} {rest : List Value} (hret : meth.sig.returnType = some t) (ht : t = .boolean ∨ t = .byte ∨ t = .char ∨ t = .short) (hz : nar t z = z)
    (hd : decode c.code pc = .ok (.ireturn, 1)) {fs : List Frame} (hl : ∀ (f : JFrame) (acts : List Action), f.method = m → f.locked = none → f.entered = [] → (doReturn e (T.setTop f) acts (some (.int z))).1 = T.setFrames fs) :
    Steps p.tables e below (T.setTop (mkF m pc Ls (.int z :: rest))) (T.setFrames fs) := retN X hx hret ht hd (by rw [hz]; exact hl)
end New
end Jvm.RoadKit
namespace Jvm.Pilot.@@N@@
open Jvm Jvm.ClassFile Sem Op Lib Jvm.Free Jvm.Stand Jvm.LawKit Jvm.RoadKit Bundle Jvm.Pilot.@@N@@.Jvm.D
/-- from the state A the run comes to some end that P takes -/
def Go (tb : Tables) (e : Env) (below : List Frame) (A : State) (P : State → Outcome → Prop) : Prop := ∃ t o, Steps tb e below A t ∧ P t o
theorem Go.st {tb : Tables} {e : Env} {below : List Frame} {A B : State} {P : State → Outcome → Prop} (h : ∀ t, Steps tb e below A t → Steps tb e below B t) (k : Go tb e below A P) : Go tb e below B P := by
  obtain ⟨t, o, h1, h2⟩ := k; exact ⟨t, o, h t h1, h2⟩
theorem Go.tr {tb : Tables} {e : Env} {below : List Frame} {A B : State} {P : State → Outcome → Prop} (h : Steps tb e below B A) (k : Go tb e below A P) : Go tb e below B P := by
  obtain ⟨t, o, h1, h2⟩ := k; exact ⟨t, o, h.trans h1, h2⟩
theorem Go.start {tb : Tables} {e : Env} {below : List Frame} {A : State} {P0 : State → Outcome → Prop} (h : ∀ P : State → Outcome → Prop, (∀ t o, P0 t o → P t o) → Go tb e below A P) : ∃ t o, Steps tb e below A t ∧ P0 t o := h P0 (fun _ _ q => q)
theorem own_cat {v : Value} (h : v.isRef = true) : v.category = 1 := by rcases ref_cases h with rfl | ⟨_, rfl⟩ <;> rfl
theorem own_cst {tb : Tables} {e : Env} {below : List Frame} {T : State} {m : MethodId} {J : Nat} {Ls : Array Slot} {a b : Int32} {rest : List Value} {t : State} (h : a = b) (k : Steps tb e below (T.setTop (mkF m J Ls (.int a :: rest))) t) : Steps tb e below (T.setTop (mkF m J Ls (.int b :: rest))) t := h ▸ k
theorem own_lt {x y : Int64} (h : x < y) : lcmpW x y < 0 := (lw_lt x y).mpr h
theorem own_nlt {x y : Int64} (h : ¬ x < y) : ¬ lcmpW x y < 0 := fun q => h ((lw_lt x y).mp q)
theorem own_gt {x y : Int64} (h : y < x) : 0 < lcmpW x y := (lw_gt x y).mpr h
theorem own_ngt {x y : Int64} (h : ¬ y < x) : ¬ 0 < lcmpW x y := fun q => h ((lw_gt x y).mp q)
theorem own_eq {x y : Int64} (h : x = y) : lcmpW x y = 0 := (lw_eq x y).mpr h
theorem own_neq {x y : Int64} (h : ¬ x = y) : ¬ lcmpW x y = 0 := fun q => h ((lw_eq x y).mp q)
theorem own_eqI {args : Array Value} {first s : State} {o : Option Outcome} {idx : List Nat} {t : Term} {z : Int32} (h : (Cond.eq t (.int z)).value args first o s idx = some true) : t.eval args first o idx s = some (.int z) := by
  simp only [Cond.value, Term.eval] at h
  cases ht : t.eval args first o idx s with
  | none => simp [ht] at h
  | some x => cases x <;> simp [ht] at h ⊢; exact h
theorem own_eqR {args : Array Value} {first s : State} {o : Option Outcome} {idx : List Nat} {t u : Term} {b : Addr} (hu : u.eval args first o idx s = some (.ref b)) (h : (Cond.eq t u).value args first o s idx = some true) : t.eval args first o idx s = some (.ref b) := by
  simp only [Cond.value, hu] at h
  cases ht : t.eval args first o idx s with
  | none => simp [ht] at h
  | some x => cases x <;> simp [ht] at h ⊢; exact h
theorem own_neR {args : Array Value} {first s : State} {o : Option Outcome} {idx : List Nat} {t u : Term} {a b : Addr} (ht : t.eval args first o idx s = some (.ref a)) (hu : u.eval args first o idx s = some (.ref b)) (h : (Cond.not (.eq t u)).value args first o s idx = some true) : a ≠ b := fun q => by
  subst q
  simp [Cond.value, ht, hu] at h
theorem own_len {args : Array Value} {first s : State} {o : Option Outcome} {idx : List Nat} {t : Term} {a : Addr} {cl : Cell} {z : Int32} (ht : t.eval args first o idx s = some (.ref a)) (hc : s.heap[a]? = some cl) (h : (Term.length t).eval args first o idx s = some (.int z)) : cl.slots.size < 2 ^ 31 ∧ cl.slots.size.toInt32 = z := by
  obtain ⟨a', cell, e1, e2, e3, e4⟩ := Jvm.Free.SB.Term.length_small h
  cases ht.symm.trans e1
  cases hc.symm.trans (State.arrayAt?_spec e2).1
  cases e3
  exact ⟨e4, rfl⟩
theorem d_prog_46_method_6_0 : decode prog_46_method_6_code 0 = .ok (.getstatic 68, 3) := by decide +kernel
theorem d_prog_46_method_6_3 : decode prog_46_method_6_code 3 = .ok (.astore_n 1, 1) := by decide +kernel
theorem d_prog_46_method_6_4 : decode prog_46_method_6_code 4 = .ok (.aload_n 1, 1) := by decide +kernel
theorem d_prog_46_method_6_5 : decode prog_46_method_6_code 5 = .ok (.arraylength, 1) := by decide +kernel
theorem d_prog_46_method_6_6 : decode prog_46_method_6_code 6 = .ok (.istore_n 2, 1) := by decide +kernel
theorem d_prog_46_method_6_7 : decode prog_46_method_6_code 7 = .ok (.iconst 0, 1) := by decide +kernel
theorem d_prog_46_method_6_8 : decode prog_46_method_6_code 8 = .ok (.istore_n 3, 1) := by decide +kernel
theorem d_prog_46_method_6_9 : decode prog_46_method_6_code 9 = .ok (.iload_n 3, 1) := by decide +kernel
theorem d_prog_46_method_6_10 : decode prog_46_method_6_code 10 = .ok (.iload_n 2, 1) := by decide +kernel
theorem d_prog_46_method_6_11 : decode prog_46_method_6_code 11 = .ok (.if_icmp .ge 26, 3) := by decide +kernel
theorem d_prog_46_method_6_14 : decode prog_46_method_6_code 14 = .ok (.aload_n 1, 1) := by decide +kernel
theorem d_prog_46_method_6_15 : decode prog_46_method_6_code 15 = .ok (.iload_n 3, 1) := by decide +kernel
theorem d_prog_46_method_6_16 : decode prog_46_method_6_code 16 = .ok (.aaload, 1) := by decide +kernel
theorem d_prog_46_method_6_17 : decode prog_46_method_6_code 17 = .ok (.astore 4, 2) := by decide +kernel
theorem d_prog_46_method_6_19 : decode prog_46_method_6_code 19 = .ok (.aload 4, 2) := by decide +kernel
theorem d_prog_46_method_6_21 : decode prog_46_method_6_code 21 = .ok (.getfield 44, 3) := by decide +kernel
theorem d_prog_46_method_6_24 : decode prog_46_method_6_code 24 = .ok (.iload_n 0, 1) := by decide +kernel
theorem d_prog_46_method_6_25 : decode prog_46_method_6_code 25 = .ok (.if_icmp .ne 6, 3) := by decide +kernel
theorem d_prog_46_method_6_28 : decode prog_46_method_6_code 28 = .ok (.aload 4, 2) := by decide +kernel
theorem d_prog_46_method_6_30 : decode prog_46_method_6_code 30 = .ok (.areturn, 1) := by decide +kernel
theorem d_prog_46_method_6_31 : decode prog_46_method_6_code 31 = .ok (.iinc 3 1, 3) := by decide +kernel
theorem d_prog_46_method_6_34 : decode prog_46_method_6_code 34 = .ok (.goto (-25), 3) := by decide +kernel
theorem d_prog_46_method_6_37 : decode prog_46_method_6_code 37 = .ok (.aconst_null, 1) := by decide +kernel
theorem d_prog_46_method_6_38 : decode prog_46_method_6_code 38 = .ok (.areturn, 1) := by decide +kernel
theorem pn_0 : plainName "com/example/dicewright/dicewright/games/ciub/Colour" = true := by first | (simp [plainName, overriddenIn]; done) | decide +kernel
theorem ef_rmO (mi : MethodId) (p : Int32) (ar : Addr) (ka : ClassId) (c0 : Addr) (c1 : Addr) (c2 : Addr) (c3 : Addr) (c4 : Addr) (c5 : Addr) (c6 : Addr) : entryFrame mi #[(.int p)] 5 = mkF mi 0 #[.val (.int p), .unset, .unset, .unset, .unset] [] := by first | (simp [entryFrame, mkF, argsToLocals, Value.category]; done) | rfl
def fO (p : Int32) (c0 c1 c2 c3 c4 c5 c6 : Addr) : Value := (if (119 : Int32) = p then (.ref c0) else (if (114 : Int32) = p then (.ref c1) else (if (111 : Int32) = p then (.ref c2) else (if (121 : Int32) = p then (.ref c3) else (if (103 : Int32) = p then (.ref c4) else (if (98 : Int32) = p then (.ref c5) else (if (112 : Int32) = p then (.ref c6) else .null)))))))
def Q_rmO (Z : State) (p : Int32) (ar : Addr) (ka : ClassId) (c0 : Addr) (c1 : Addr) (c2 : Addr) (c3 : Addr) (c4 : Addr) (c5 : Addr) (c6 : Addr) (h0 : Heap) (n0 : Nat) (vv_ : Option Value) (hh_ : Heap) (LL_ : List Loc) : Prop := vv_ = some (fO p c0 c1 c2 c3 c4 c5 c6) ∧ Fr n0 LL_ ∧ hh_ = h0
set_option maxRecDepth 65536 in
set_option maxHeartbeats 40000000 in
theorem rmO (l : Launch) (Z : State) (a0 : Array Value) (hw : ∀ d ∈ tables_1, d.before a0 Z = true) (ws : List Jvm.Cond) (p : Int32) (ar : Addr) (ka : ClassId) (c0 : Addr) (c1 : Addr) (c2 : Addr) (c3 : Addr) (c4 : Addr) (c5 : Addr) (c6 : Addr) (h0 : Heap) (n0 : Nat) (Z0 : n0 ≤ h0.size) (ST0 : Sta Z h0 "com/example/dicewright/dicewright/games/ciub/Colour" "ALL" "[Lcom/example/dicewright/dicewright/games/ciub/Colour;" (.ref ar)) (A0 : Arv Z h0 ar ka (.object "com/example/dicewright/dicewright/games/ciub/Colour") (7 : Int32) [(.ref c0), (.ref c1), (.ref c2), (.ref c3), (.ref c4), (.ref c5), (.ref c6)] .null) (F0 : Fld Z h0 c0 "com/example/dicewright/dicewright/games/ciub/Colour" "letter" "C" (.int (119 : Int32))) (F1 : Fld Z h0 c1 "com/example/dicewright/dicewright/games/ciub/Colour" "letter" "C" (.int (114 : Int32))) (F2 : Fld Z h0 c2 "com/example/dicewright/dicewright/games/ciub/Colour" "letter" "C" (.int (111 : Int32))) (F3 : Fld Z h0 c3 "com/example/dicewright/dicewright/games/ciub/Colour" "letter" "C" (.int (121 : Int32))) (F4 : Fld Z h0 c4 "com/example/dicewright/dicewright/games/ciub/Colour" "letter" "C" (.int (103 : Int32))) (F5 : Fld Z h0 c5 "com/example/dicewright/dicewright/games/ciub/Colour" "letter" "C" (.int (98 : Int32))) (F6 : Fld Z h0 c6 "com/example/dicewright/dicewright/games/ciub/Colour" "letter" "C" (.int (112 : Int32))) :
    MetFree l (⟨"com/example/dicewright/dicewright/games/ciub/Colour", "ofLetter", "(C)Lcom/example/dicewright/dicewright/games/ciub/Colour;"⟩ : MethodName) (head1 (Jvm.Cond.code (⟨"com/example/dicewright/dicewright/games/ciub/Colour", "ofLetter", "(C)Lcom/example/dicewright/dicewright/games/ciub/Colour;"⟩ : MethodName) prog_46_method_6_code 5 (some (.object "com/example/dicewright/dicewright/games/ciub/Colour")) :: ws) ({ frames := 0, cells := 0, slots := 0, locals := 0 } : Room)) (fun aa_ U => aa_ = #[(.int p)] ∧ Z.Warmed39 U.vm ∧ U.heap = h0) (fun _ _ _ _ _ => True) (fun _ U oo_ UV_ => ∃ vv_ LL_, oo_ = .returned vv_ ∧ Q_rmO Z p ar ka c0 c1 c2 c3 c4 c5 c6 h0 n0 vv_ UV_.heap LL_ ∧ FrameEnd U oo_ UV_ LL_ ({ frames := 0, cells := 0, slots := 0, locals := 0 } : Room).cells ({ frames := 0, cells := 0, slots := 0, locals := 0 } : Room).slots) := by
  refine MetFree.of_bodySF (plainFor_of_name pn_0) hisR ?_
  intro pg ev si mi args below meth ci s₁ Bd hml0 hP0 hK
  obtain ⟨rfl, hZ, hh⟩ := hP0
  have hx := Bd.exec
  have hby := Bd.bytes
  have hml : ci.maxLocals = 5 := hml0
  have hown : si.vm.findClass "com/example/dicewright/dicewright/games/ciub/Colour" = some mi.cls := findClass_of_methodNamed Bd.named
  have hnm := (name_of_methodNamed Bd.named Bd.method).1
  have X0 : Stand pg l ev ({ frames := 0, cells := 0, slots := 0, locals := 0 } : Room) si mi #[(.int p)] below meth ci s₁ [] 0 0 := Stand.of_body Bd
  have e0 : s₁.heap = h0 := by rw [← hh, Bd.state]; rfl
  have N0 := Fr.nil n0
  refine Go.start (fun P hP => ?_)
  refine Go.st (fun t_ k_ => castTop (ef_rmO mi p ar ka c0 c1 c2 c3 c4 c5 c6) k_) (A := s₁.setTop (mkF mi 0 #[.val (.int p), .unset, .unset, .unset, .unset] [])) ?_
  show Go pg.tables ev below (s₁.setTop (mkF mi 0 #[.val (.int p), .unset, .unset, .unset, .unset] [])) P
  obtain ⟨T1, X1, e1, st1⟩ := getS2 X0 hx hZ hown (host := "") (Or.inl (hw _ (List.mem_of_getElem? (i := 6) rfl))) Via.refl e0 ST0 (g := (mkF mi 0 #[.val (.int p), .unset, .unset, .unset, .unset] [])) rfl (hb hby d_prog_46_method_6_0)
  refine Go.st st1 ?_
  show Go pg.tables ev below (T1.setTop (mkF mi 3 #[.val (.int p), .unset, .unset, .unset, .unset] [(.ref ar)])) P
  refine Go.st (fun t_ k_ => XS.astoreN X1.here hx rfl (hb hby d_prog_46_method_6_3) rfl rfl (l' := #[.val (.int p), .val (.ref ar), .unset, .unset, .unset]) rfl k_) ?_
  show Go pg.tables ev below (T1.setTop (mkF mi 4 #[.val (.int p), .val (.ref ar), .unset, .unset, .unset] [])) P
  refine Go.st (fun t_ k_ => XS.aloadN X1.here hx rfl (hb hby d_prog_46_method_6_4) rfl rfl k_) ?_
  show Go pg.tables ev below (T1.setTop (mkF mi 5 #[.val (.int p), .val (.ref ar), .unset, .unset, .unset] [(.ref ar)])) P
  have ov2 := A0
  obtain ⟨cl2, Ar2, q2, S2, M2, H2, G2⟩ := ov2
  refine Go.st (X1.arraylength hx (by rw [e1]; exact Ar2.1) (State.isArrayOf_alike hZ.alike Ar2.2.1) (g := (mkF mi 5 #[.val (.int p), .val (.ref ar), .unset, .unset, .unset] [(.ref ar)])) rfl rfl (hb hby d_prog_46_method_6_5)) ?_
  rw [len_of S2 M2]
  show Go pg.tables ev below (T1.setTop (mkF mi 6 #[.val (.int p), .val (.ref ar), .unset, .unset, .unset] [(.int (7 : Int32))])) P
  refine Go.st (fun t_ k_ => XS.istoreN X1.here hx rfl (hb hby d_prog_46_method_6_6) rfl (l' := #[.val (.int p), .val (.ref ar), .val (.int (7 : Int32)), .unset, .unset]) rfl k_) ?_
  show Go pg.tables ev below (T1.setTop (mkF mi 7 #[.val (.int p), .val (.ref ar), .val (.int (7 : Int32)), .unset, .unset] [])) P
  refine Go.st (fun t_ k_ => XS.iconst X1.here hx rfl (hb hby d_prog_46_method_6_7) k_) ?_
  show Go pg.tables ev below (T1.setTop (mkF mi 8 #[.val (.int p), .val (.ref ar), .val (.int (7 : Int32)), .unset, .unset] [(.int (0 : Int32))])) P
  refine Go.st (fun t_ k_ => XS.istoreN X1.here hx rfl (hb hby d_prog_46_method_6_8) rfl (l' := #[.val (.int p), .val (.ref ar), .val (.int (7 : Int32)), .val (.int (0 : Int32)), .unset]) rfl k_) ?_
  show Go pg.tables ev below (T1.setTop (mkF mi 9 #[.val (.int p), .val (.ref ar), .val (.int (7 : Int32)), .val (.int (0 : Int32)), .unset] [])) P
  refine Go.st (fun t_ k_ => XS.iloadN X1.here hx rfl (hb hby d_prog_46_method_6_9) rfl k_) ?_
  show Go pg.tables ev below (T1.setTop (mkF mi 10 #[.val (.int p), .val (.ref ar), .val (.int (7 : Int32)), .val (.int (0 : Int32)), .unset] [(.int (0 : Int32))])) P
  refine Go.st (fun t_ k_ => XS.iloadN X1.here hx rfl (hb hby d_prog_46_method_6_10) rfl k_) ?_
  show Go pg.tables ev below (T1.setTop (mkF mi 11 #[.val (.int p), .val (.ref ar), .val (.int (7 : Int32)), .val (.int (0 : Int32)), .unset] [(.int (7 : Int32)), (.int (0 : Int32))])) P
  refine Go.st (fun t_ k_ => XS.icmpNo X1.here hx rfl (hb hby d_prog_46_method_6_11) rfl (tlt (by decide)).2.1 k_) ?_
  show Go pg.tables ev below (T1.setTop (mkF mi 14 #[.val (.int p), .val (.ref ar), .val (.int (7 : Int32)), .val (.int (0 : Int32)), .unset] [])) P
  refine Go.st (fun t_ k_ => XS.aloadN X1.here hx rfl (hb hby d_prog_46_method_6_14) rfl rfl k_) ?_
  show Go pg.tables ev below (T1.setTop (mkF mi 15 #[.val (.int p), .val (.ref ar), .val (.int (7 : Int32)), .val (.int (0 : Int32)), .unset] [(.ref ar)])) P
  refine Go.st (fun t_ k_ => XS.iloadN X1.here hx rfl (hb hby d_prog_46_method_6_15) rfl k_) ?_
  show Go pg.tables ev below (T1.setTop (mkF mi 16 #[.val (.int p), .val (.ref ar), .val (.int (7 : Int32)), .val (.int (0 : Int32)), .unset] [(.int (0 : Int32)), (.ref ar)])) P
  have ov3 := A0
  obtain ⟨cl3, Ar3, q3, S3, M3, H3, G3⟩ := ov3
  have hin3 : ¬ ((0 : Int32) < 0 ∨ cl3.slots.size ≤ ((0 : Int32)).toNatClampNeg) := inb_of S3 ⟨by decide, by decide⟩
  have hat3 : cl3.slots[((0 : Int32)).toNatClampNeg]? = some (.ref c0) := Has.at H3 hin3 rfl
  refine Go.st (X1.aaload hx (j := (0 : Int32)) (v := (.ref c0)) (by rw [e1]; exact Ar3.1) (State.isArrayOf_alike hZ.alike Ar3.2.1) rfl Ar3.2.2 hin3 hat3 (g := (mkF mi 16 #[.val (.int p), .val (.ref ar), .val (.int (7 : Int32)), .val (.int (0 : Int32)), .unset] [(.int (0 : Int32)), (.ref ar)])) rfl rfl (hb hby d_prog_46_method_6_16)) ?_
  show Go pg.tables ev below (T1.setTop (mkF mi 17 #[.val (.int p), .val (.ref ar), .val (.int (7 : Int32)), .val (.int (0 : Int32)), .unset] [(.ref c0)])) P
  refine Go.st (fun t_ k_ => XS.astore X1.here hx rfl (hb hby d_prog_46_method_6_17) rfl rfl (l' := #[.val (.int p), .val (.ref ar), .val (.int (7 : Int32)), .val (.int (0 : Int32)), .val (.ref c0)]) rfl k_) ?_
  show Go pg.tables ev below (T1.setTop (mkF mi 19 #[.val (.int p), .val (.ref ar), .val (.int (7 : Int32)), .val (.int (0 : Int32)), .val (.ref c0)] [])) P
  refine Go.st (fun t_ k_ => XS.aload X1.here hx rfl (hb hby d_prog_46_method_6_19) rfl rfl k_) ?_
  show Go pg.tables ev below (T1.setTop (mkF mi 21 #[.val (.int p), .val (.ref ar), .val (.int (7 : Int32)), .val (.int (0 : Int32)), .val (.ref c0)] [(.ref c0)])) P
  obtain ⟨T4, X4, e4, st4⟩ := getF X1 hx hZ hown (host := "") (Or.inl (hw _ (List.mem_of_getElem? (i := 9) rfl))) Via.refl e1 F0 (g := (mkF mi 21 #[.val (.int p), .val (.ref ar), .val (.int (7 : Int32)), .val (.int (0 : Int32)), .val (.ref c0)] [(.ref c0)])) rfl rfl (hb hby d_prog_46_method_6_21)
  refine Go.st st4 ?_
  show Go pg.tables ev below (T4.setTop (mkF mi 24 #[.val (.int p), .val (.ref ar), .val (.int (7 : Int32)), .val (.int (0 : Int32)), .val (.ref c0)] [(.int (119 : Int32))])) P
  refine Go.st (fun t_ k_ => XS.iloadN X4.here hx rfl (hb hby d_prog_46_method_6_24) rfl k_) ?_
  show Go pg.tables ev below (T4.setTop (mkF mi 25 #[.val (.int p), .val (.ref ar), .val (.int (7 : Int32)), .val (.int (0 : Int32)), .val (.ref c0)] [(.int p), (.int (119 : Int32))])) P
  by_cases hc25_1 : (119 : Int32) = p
  · refine Go.st (fun t_ k_ => XS.icmpNo X4.here hx rfl (hb hby d_prog_46_method_6_25) rfl (teq hc25_1).2 k_) ?_
    show Go pg.tables ev below (T4.setTop (mkF mi 28 #[.val (.int p), .val (.ref ar), .val (.int (7 : Int32)), .val (.int (0 : Int32)), .val (.ref c0)] [])) P
    refine Go.st (fun t_ k_ => XS.aload X4.here hx rfl (hb hby d_prog_46_method_6_28) rfl rfl k_) ?_
    show Go pg.tables ev below (T4.setTop (mkF mi 30 #[.val (.int p), .val (.ref ar), .val (.int (7 : Int32)), .val (.int (0 : Int32)), .val (.ref c0)] [(.ref c0)])) P
    obtain ⟨fs, hr, hrun, hended, hW, hsame⟩ := X4.leave (v := some (.ref c0)) (fun h => by rw [Bd.returns] at h; cases h) (BodyLoose.notSynchronized Bd)
    refine ⟨_, _, ?_, hP _ _ ⟨hrun, hended, _, _, rfl, ?_, ⟨_, rfl⟩, hW, hsame.mono (by decide) (by decide)⟩⟩
    · exact retOut X4 hx Bd.returns rfl (Or.inr (Or.inr (Or.inr (Or.inr ⟨rfl, rfl, rfl⟩)))) (hb hby d_prog_46_method_6_30) hr
    · show (some (.ref c0) : Option Value) = some (fO p c0 c1 c2 c3 c4 c5 c6) ∧ Fr n0 _ ∧ T4.heap = h0
      rw [e4]
      exact ⟨by rw [show fO p c0 c1 c2 c3 c4 c5 c6 = (.ref c0) from ((if_pos hc25_1).trans rfl)], N0, rfl⟩
  · refine Go.st (fun t_ k_ => XS.icmpYes X4.here hx rfl (pc0 := 25) (pc' := 31) rfl (hb hby d_prog_46_method_6_25) rfl (feq hc25_1).2 (by decide) (by decide) k_) ?_
    show Go pg.tables ev below (T4.setTop (mkF mi 31 #[.val (.int p), .val (.ref ar), .val (.int (7 : Int32)), .val (.int (0 : Int32)), .val (.ref c0)] [])) P
    refine Go.st (fun t_ k_ => XS.iinc X4.here hx rfl (hb hby d_prog_46_method_6_31) rfl (l' := #[.val (.int p), .val (.ref ar), .val (.int (7 : Int32)), .val (.int (1 : Int32)), .val (.ref c0)]) rfl k_) ?_
    show Go pg.tables ev below (T4.setTop (mkF mi 34 #[.val (.int p), .val (.ref ar), .val (.int (7 : Int32)), .val (.int (1 : Int32)), .val (.ref c0)] [])) P
    refine Go.st (fun t_ k_ => XS.goto X4.here hx rfl (pc0 := 34) (pc' := 9) rfl (hb hby d_prog_46_method_6_34) (by decide) (by decide) k_) ?_
    show Go pg.tables ev below (T4.setTop (mkF mi 9 #[.val (.int p), .val (.ref ar), .val (.int (7 : Int32)), .val (.int (1 : Int32)), .val (.ref c0)] [])) P
    refine Go.st (fun t_ k_ => XS.iloadN X4.here hx rfl (hb hby d_prog_46_method_6_9) rfl k_) ?_
    show Go pg.tables ev below (T4.setTop (mkF mi 10 #[.val (.int p), .val (.ref ar), .val (.int (7 : Int32)), .val (.int (1 : Int32)), .val (.ref c0)] [(.int (1 : Int32))])) P
    refine Go.st (fun t_ k_ => XS.iloadN X4.here hx rfl (hb hby d_prog_46_method_6_10) rfl k_) ?_
    show Go pg.tables ev below (T4.setTop (mkF mi 11 #[.val (.int p), .val (.ref ar), .val (.int (7 : Int32)), .val (.int (1 : Int32)), .val (.ref c0)] [(.int (7 : Int32)), (.int (1 : Int32))])) P
    refine Go.st (fun t_ k_ => XS.icmpNo X4.here hx rfl (hb hby d_prog_46_method_6_11) rfl (tlt (by decide)).2.1 k_) ?_
    show Go pg.tables ev below (T4.setTop (mkF mi 14 #[.val (.int p), .val (.ref ar), .val (.int (7 : Int32)), .val (.int (1 : Int32)), .val (.ref c0)] [])) P
    refine Go.st (fun t_ k_ => XS.aloadN X4.here hx rfl (hb hby d_prog_46_method_6_14) rfl rfl k_) ?_
    show Go pg.tables ev below (T4.setTop (mkF mi 15 #[.val (.int p), .val (.ref ar), .val (.int (7 : Int32)), .val (.int (1 : Int32)), .val (.ref c0)] [(.ref ar)])) P
    refine Go.st (fun t_ k_ => XS.iloadN X4.here hx rfl (hb hby d_prog_46_method_6_15) rfl k_) ?_
    show Go pg.tables ev below (T4.setTop (mkF mi 16 #[.val (.int p), .val (.ref ar), .val (.int (7 : Int32)), .val (.int (1 : Int32)), .val (.ref c0)] [(.int (1 : Int32)), (.ref ar)])) P
    have ov5 := A0
    obtain ⟨cl5, Ar5, q5, S5, M5, H5, G5⟩ := ov5
    have hin5 : ¬ ((1 : Int32) < 0 ∨ cl5.slots.size ≤ ((1 : Int32)).toNatClampNeg) := inb_of S5 ⟨by decide, by decide⟩
    have hat5 : cl5.slots[((1 : Int32)).toNatClampNeg]? = some (.ref c1) := Has.at H5 hin5 rfl
    refine Go.st (X4.aaload hx (j := (1 : Int32)) (v := (.ref c1)) (by rw [e4]; exact Ar5.1) (State.isArrayOf_alike hZ.alike Ar5.2.1) rfl Ar5.2.2 hin5 hat5 (g := (mkF mi 16 #[.val (.int p), .val (.ref ar), .val (.int (7 : Int32)), .val (.int (1 : Int32)), .val (.ref c0)] [(.int (1 : Int32)), (.ref ar)])) rfl rfl (hb hby d_prog_46_method_6_16)) ?_
    show Go pg.tables ev below (T4.setTop (mkF mi 17 #[.val (.int p), .val (.ref ar), .val (.int (7 : Int32)), .val (.int (1 : Int32)), .val (.ref c0)] [(.ref c1)])) P
    refine Go.st (fun t_ k_ => XS.astore X4.here hx rfl (hb hby d_prog_46_method_6_17) rfl rfl (l' := #[.val (.int p), .val (.ref ar), .val (.int (7 : Int32)), .val (.int (1 : Int32)), .val (.ref c1)]) rfl k_) ?_
    show Go pg.tables ev below (T4.setTop (mkF mi 19 #[.val (.int p), .val (.ref ar), .val (.int (7 : Int32)), .val (.int (1 : Int32)), .val (.ref c1)] [])) P
    refine Go.st (fun t_ k_ => XS.aload X4.here hx rfl (hb hby d_prog_46_method_6_19) rfl rfl k_) ?_
    show Go pg.tables ev below (T4.setTop (mkF mi 21 #[.val (.int p), .val (.ref ar), .val (.int (7 : Int32)), .val (.int (1 : Int32)), .val (.ref c1)] [(.ref c1)])) P
    obtain ⟨T6, X6, e6, st6⟩ := getF X4 hx hZ hown (host := "") (Or.inl (hw _ (List.mem_of_getElem? (i := 9) rfl))) Via.refl e4 F1 (g := (mkF mi 21 #[.val (.int p), .val (.ref ar), .val (.int (7 : Int32)), .val (.int (1 : Int32)), .val (.ref c1)] [(.ref c1)])) rfl rfl (hb hby d_prog_46_method_6_21)
    refine Go.st st6 ?_
    show Go pg.tables ev below (T6.setTop (mkF mi 24 #[.val (.int p), .val (.ref ar), .val (.int (7 : Int32)), .val (.int (1 : Int32)), .val (.ref c1)] [(.int (114 : Int32))])) P
    refine Go.st (fun t_ k_ => XS.iloadN X6.here hx rfl (hb hby d_prog_46_method_6_24) rfl k_) ?_
    show Go pg.tables ev below (T6.setTop (mkF mi 25 #[.val (.int p), .val (.ref ar), .val (.int (7 : Int32)), .val (.int (1 : Int32)), .val (.ref c1)] [(.int p), (.int (114 : Int32))])) P
    by_cases hc25_2 : (114 : Int32) = p
    · refine Go.st (fun t_ k_ => XS.icmpNo X6.here hx rfl (hb hby d_prog_46_method_6_25) rfl (teq hc25_2).2 k_) ?_
      show Go pg.tables ev below (T6.setTop (mkF mi 28 #[.val (.int p), .val (.ref ar), .val (.int (7 : Int32)), .val (.int (1 : Int32)), .val (.ref c1)] [])) P
      refine Go.st (fun t_ k_ => XS.aload X6.here hx rfl (hb hby d_prog_46_method_6_28) rfl rfl k_) ?_
      show Go pg.tables ev below (T6.setTop (mkF mi 30 #[.val (.int p), .val (.ref ar), .val (.int (7 : Int32)), .val (.int (1 : Int32)), .val (.ref c1)] [(.ref c1)])) P
      obtain ⟨fs, hr, hrun, hended, hW, hsame⟩ := X6.leave (v := some (.ref c1)) (fun h => by rw [Bd.returns] at h; cases h) (BodyLoose.notSynchronized Bd)
      refine ⟨_, _, ?_, hP _ _ ⟨hrun, hended, _, _, rfl, ?_, ⟨_, rfl⟩, hW, hsame.mono (by decide) (by decide)⟩⟩
      · exact retOut X6 hx Bd.returns rfl (Or.inr (Or.inr (Or.inr (Or.inr ⟨rfl, rfl, rfl⟩)))) (hb hby d_prog_46_method_6_30) hr
      · show (some (.ref c1) : Option Value) = some (fO p c0 c1 c2 c3 c4 c5 c6) ∧ Fr n0 _ ∧ T6.heap = h0
        rw [e6]
        exact ⟨by rw [show fO p c0 c1 c2 c3 c4 c5 c6 = (.ref c1) from ((if_neg hc25_1).trans ((if_pos hc25_2).trans rfl))], N0, rfl⟩
    · refine Go.st (fun t_ k_ => XS.icmpYes X6.here hx rfl (pc0 := 25) (pc' := 31) rfl (hb hby d_prog_46_method_6_25) rfl (feq hc25_2).2 (by decide) (by decide) k_) ?_
      show Go pg.tables ev below (T6.setTop (mkF mi 31 #[.val (.int p), .val (.ref ar), .val (.int (7 : Int32)), .val (.int (1 : Int32)), .val (.ref c1)] [])) P
      refine Go.st (fun t_ k_ => XS.iinc X6.here hx rfl (hb hby d_prog_46_method_6_31) rfl (l' := #[.val (.int p), .val (.ref ar), .val (.int (7 : Int32)), .val (.int (2 : Int32)), .val (.ref c1)]) rfl k_) ?_
      show Go pg.tables ev below (T6.setTop (mkF mi 34 #[.val (.int p), .val (.ref ar), .val (.int (7 : Int32)), .val (.int (2 : Int32)), .val (.ref c1)] [])) P
      refine Go.st (fun t_ k_ => XS.goto X6.here hx rfl (pc0 := 34) (pc' := 9) rfl (hb hby d_prog_46_method_6_34) (by decide) (by decide) k_) ?_
      show Go pg.tables ev below (T6.setTop (mkF mi 9 #[.val (.int p), .val (.ref ar), .val (.int (7 : Int32)), .val (.int (2 : Int32)), .val (.ref c1)] [])) P
      refine Go.st (fun t_ k_ => XS.iloadN X6.here hx rfl (hb hby d_prog_46_method_6_9) rfl k_) ?_
      show Go pg.tables ev below (T6.setTop (mkF mi 10 #[.val (.int p), .val (.ref ar), .val (.int (7 : Int32)), .val (.int (2 : Int32)), .val (.ref c1)] [(.int (2 : Int32))])) P
      refine Go.st (fun t_ k_ => XS.iloadN X6.here hx rfl (hb hby d_prog_46_method_6_10) rfl k_) ?_
      show Go pg.tables ev below (T6.setTop (mkF mi 11 #[.val (.int p), .val (.ref ar), .val (.int (7 : Int32)), .val (.int (2 : Int32)), .val (.ref c1)] [(.int (7 : Int32)), (.int (2 : Int32))])) P
      refine Go.st (fun t_ k_ => XS.icmpNo X6.here hx rfl (hb hby d_prog_46_method_6_11) rfl (tlt (by decide)).2.1 k_) ?_
      show Go pg.tables ev below (T6.setTop (mkF mi 14 #[.val (.int p), .val (.ref ar), .val (.int (7 : Int32)), .val (.int (2 : Int32)), .val (.ref c1)] [])) P
      refine Go.st (fun t_ k_ => XS.aloadN X6.here hx rfl (hb hby d_prog_46_method_6_14) rfl rfl k_) ?_
      show Go pg.tables ev below (T6.setTop (mkF mi 15 #[.val (.int p), .val (.ref ar), .val (.int (7 : Int32)), .val (.int (2 : Int32)), .val (.ref c1)] [(.ref ar)])) P
      refine Go.st (fun t_ k_ => XS.iloadN X6.here hx rfl (hb hby d_prog_46_method_6_15) rfl k_) ?_
      show Go pg.tables ev below (T6.setTop (mkF mi 16 #[.val (.int p), .val (.ref ar), .val (.int (7 : Int32)), .val (.int (2 : Int32)), .val (.ref c1)] [(.int (2 : Int32)), (.ref ar)])) P
      have ov7 := A0
      obtain ⟨cl7, Ar7, q7, S7, M7, H7, G7⟩ := ov7
      have hin7 : ¬ ((2 : Int32) < 0 ∨ cl7.slots.size ≤ ((2 : Int32)).toNatClampNeg) := inb_of S7 ⟨by decide, by decide⟩
      have hat7 : cl7.slots[((2 : Int32)).toNatClampNeg]? = some (.ref c2) := Has.at H7 hin7 rfl
      refine Go.st (X6.aaload hx (j := (2 : Int32)) (v := (.ref c2)) (by rw [e6]; exact Ar7.1) (State.isArrayOf_alike hZ.alike Ar7.2.1) rfl Ar7.2.2 hin7 hat7 (g := (mkF mi 16 #[.val (.int p), .val (.ref ar), .val (.int (7 : Int32)), .val (.int (2 : Int32)), .val (.ref c1)] [(.int (2 : Int32)), (.ref ar)])) rfl rfl (hb hby d_prog_46_method_6_16)) ?_
      show Go pg.tables ev below (T6.setTop (mkF mi 17 #[.val (.int p), .val (.ref ar), .val (.int (7 : Int32)), .val (.int (2 : Int32)), .val (.ref c1)] [(.ref c2)])) P
      refine Go.st (fun t_ k_ => XS.astore X6.here hx rfl (hb hby d_prog_46_method_6_17) rfl rfl (l' := #[.val (.int p), .val (.ref ar), .val (.int (7 : Int32)), .val (.int (2 : Int32)), .val (.ref c2)]) rfl k_) ?_
      show Go pg.tables ev below (T6.setTop (mkF mi 19 #[.val (.int p), .val (.ref ar), .val (.int (7 : Int32)), .val (.int (2 : Int32)), .val (.ref c2)] [])) P
      refine Go.st (fun t_ k_ => XS.aload X6.here hx rfl (hb hby d_prog_46_method_6_19) rfl rfl k_) ?_
      show Go pg.tables ev below (T6.setTop (mkF mi 21 #[.val (.int p), .val (.ref ar), .val (.int (7 : Int32)), .val (.int (2 : Int32)), .val (.ref c2)] [(.ref c2)])) P
      obtain ⟨T8, X8, e8, st8⟩ := getF X6 hx hZ hown (host := "") (Or.inl (hw _ (List.mem_of_getElem? (i := 9) rfl))) Via.refl e6 F2 (g := (mkF mi 21 #[.val (.int p), .val (.ref ar), .val (.int (7 : Int32)), .val (.int (2 : Int32)), .val (.ref c2)] [(.ref c2)])) rfl rfl (hb hby d_prog_46_method_6_21)
      refine Go.st st8 ?_
      show Go pg.tables ev below (T8.setTop (mkF mi 24 #[.val (.int p), .val (.ref ar), .val (.int (7 : Int32)), .val (.int (2 : Int32)), .val (.ref c2)] [(.int (111 : Int32))])) P
      refine Go.st (fun t_ k_ => XS.iloadN X8.here hx rfl (hb hby d_prog_46_method_6_24) rfl k_) ?_
      show Go pg.tables ev below (T8.setTop (mkF mi 25 #[.val (.int p), .val (.ref ar), .val (.int (7 : Int32)), .val (.int (2 : Int32)), .val (.ref c2)] [(.int p), (.int (111 : Int32))])) P
      by_cases hc25_3 : (111 : Int32) = p
      · refine Go.st (fun t_ k_ => XS.icmpNo X8.here hx rfl (hb hby d_prog_46_method_6_25) rfl (teq hc25_3).2 k_) ?_
        show Go pg.tables ev below (T8.setTop (mkF mi 28 #[.val (.int p), .val (.ref ar), .val (.int (7 : Int32)), .val (.int (2 : Int32)), .val (.ref c2)] [])) P
        refine Go.st (fun t_ k_ => XS.aload X8.here hx rfl (hb hby d_prog_46_method_6_28) rfl rfl k_) ?_
        show Go pg.tables ev below (T8.setTop (mkF mi 30 #[.val (.int p), .val (.ref ar), .val (.int (7 : Int32)), .val (.int (2 : Int32)), .val (.ref c2)] [(.ref c2)])) P
        obtain ⟨fs, hr, hrun, hended, hW, hsame⟩ := X8.leave (v := some (.ref c2)) (fun h => by rw [Bd.returns] at h; cases h) (BodyLoose.notSynchronized Bd)
        refine ⟨_, _, ?_, hP _ _ ⟨hrun, hended, _, _, rfl, ?_, ⟨_, rfl⟩, hW, hsame.mono (by decide) (by decide)⟩⟩
        · exact retOut X8 hx Bd.returns rfl (Or.inr (Or.inr (Or.inr (Or.inr ⟨rfl, rfl, rfl⟩)))) (hb hby d_prog_46_method_6_30) hr
        · show (some (.ref c2) : Option Value) = some (fO p c0 c1 c2 c3 c4 c5 c6) ∧ Fr n0 _ ∧ T8.heap = h0
          rw [e8]
          exact ⟨by rw [show fO p c0 c1 c2 c3 c4 c5 c6 = (.ref c2) from ((if_neg hc25_1).trans ((if_neg hc25_2).trans ((if_pos hc25_3).trans rfl)))], N0, rfl⟩
      · refine Go.st (fun t_ k_ => XS.icmpYes X8.here hx rfl (pc0 := 25) (pc' := 31) rfl (hb hby d_prog_46_method_6_25) rfl (feq hc25_3).2 (by decide) (by decide) k_) ?_
        show Go pg.tables ev below (T8.setTop (mkF mi 31 #[.val (.int p), .val (.ref ar), .val (.int (7 : Int32)), .val (.int (2 : Int32)), .val (.ref c2)] [])) P
        refine Go.st (fun t_ k_ => XS.iinc X8.here hx rfl (hb hby d_prog_46_method_6_31) rfl (l' := #[.val (.int p), .val (.ref ar), .val (.int (7 : Int32)), .val (.int (3 : Int32)), .val (.ref c2)]) rfl k_) ?_
        show Go pg.tables ev below (T8.setTop (mkF mi 34 #[.val (.int p), .val (.ref ar), .val (.int (7 : Int32)), .val (.int (3 : Int32)), .val (.ref c2)] [])) P
        refine Go.st (fun t_ k_ => XS.goto X8.here hx rfl (pc0 := 34) (pc' := 9) rfl (hb hby d_prog_46_method_6_34) (by decide) (by decide) k_) ?_
        show Go pg.tables ev below (T8.setTop (mkF mi 9 #[.val (.int p), .val (.ref ar), .val (.int (7 : Int32)), .val (.int (3 : Int32)), .val (.ref c2)] [])) P
        refine Go.st (fun t_ k_ => XS.iloadN X8.here hx rfl (hb hby d_prog_46_method_6_9) rfl k_) ?_
        show Go pg.tables ev below (T8.setTop (mkF mi 10 #[.val (.int p), .val (.ref ar), .val (.int (7 : Int32)), .val (.int (3 : Int32)), .val (.ref c2)] [(.int (3 : Int32))])) P
        refine Go.st (fun t_ k_ => XS.iloadN X8.here hx rfl (hb hby d_prog_46_method_6_10) rfl k_) ?_
        show Go pg.tables ev below (T8.setTop (mkF mi 11 #[.val (.int p), .val (.ref ar), .val (.int (7 : Int32)), .val (.int (3 : Int32)), .val (.ref c2)] [(.int (7 : Int32)), (.int (3 : Int32))])) P
        refine Go.st (fun t_ k_ => XS.icmpNo X8.here hx rfl (hb hby d_prog_46_method_6_11) rfl (tlt (by decide)).2.1 k_) ?_
        show Go pg.tables ev below (T8.setTop (mkF mi 14 #[.val (.int p), .val (.ref ar), .val (.int (7 : Int32)), .val (.int (3 : Int32)), .val (.ref c2)] [])) P
        refine Go.st (fun t_ k_ => XS.aloadN X8.here hx rfl (hb hby d_prog_46_method_6_14) rfl rfl k_) ?_
        show Go pg.tables ev below (T8.setTop (mkF mi 15 #[.val (.int p), .val (.ref ar), .val (.int (7 : Int32)), .val (.int (3 : Int32)), .val (.ref c2)] [(.ref ar)])) P
        refine Go.st (fun t_ k_ => XS.iloadN X8.here hx rfl (hb hby d_prog_46_method_6_15) rfl k_) ?_
        show Go pg.tables ev below (T8.setTop (mkF mi 16 #[.val (.int p), .val (.ref ar), .val (.int (7 : Int32)), .val (.int (3 : Int32)), .val (.ref c2)] [(.int (3 : Int32)), (.ref ar)])) P
        have ov9 := A0
        obtain ⟨cl9, Ar9, q9, S9, M9, H9, G9⟩ := ov9
        have hin9 : ¬ ((3 : Int32) < 0 ∨ cl9.slots.size ≤ ((3 : Int32)).toNatClampNeg) := inb_of S9 ⟨by decide, by decide⟩
        have hat9 : cl9.slots[((3 : Int32)).toNatClampNeg]? = some (.ref c3) := Has.at H9 hin9 rfl
        refine Go.st (X8.aaload hx (j := (3 : Int32)) (v := (.ref c3)) (by rw [e8]; exact Ar9.1) (State.isArrayOf_alike hZ.alike Ar9.2.1) rfl Ar9.2.2 hin9 hat9 (g := (mkF mi 16 #[.val (.int p), .val (.ref ar), .val (.int (7 : Int32)), .val (.int (3 : Int32)), .val (.ref c2)] [(.int (3 : Int32)), (.ref ar)])) rfl rfl (hb hby d_prog_46_method_6_16)) ?_
        show Go pg.tables ev below (T8.setTop (mkF mi 17 #[.val (.int p), .val (.ref ar), .val (.int (7 : Int32)), .val (.int (3 : Int32)), .val (.ref c2)] [(.ref c3)])) P
        refine Go.st (fun t_ k_ => XS.astore X8.here hx rfl (hb hby d_prog_46_method_6_17) rfl rfl (l' := #[.val (.int p), .val (.ref ar), .val (.int (7 : Int32)), .val (.int (3 : Int32)), .val (.ref c3)]) rfl k_) ?_
        show Go pg.tables ev below (T8.setTop (mkF mi 19 #[.val (.int p), .val (.ref ar), .val (.int (7 : Int32)), .val (.int (3 : Int32)), .val (.ref c3)] [])) P
        refine Go.st (fun t_ k_ => XS.aload X8.here hx rfl (hb hby d_prog_46_method_6_19) rfl rfl k_) ?_
        show Go pg.tables ev below (T8.setTop (mkF mi 21 #[.val (.int p), .val (.ref ar), .val (.int (7 : Int32)), .val (.int (3 : Int32)), .val (.ref c3)] [(.ref c3)])) P
        obtain ⟨T10, X10, e10, st10⟩ := getF X8 hx hZ hown (host := "") (Or.inl (hw _ (List.mem_of_getElem? (i := 9) rfl))) Via.refl e8 F3 (g := (mkF mi 21 #[.val (.int p), .val (.ref ar), .val (.int (7 : Int32)), .val (.int (3 : Int32)), .val (.ref c3)] [(.ref c3)])) rfl rfl (hb hby d_prog_46_method_6_21)
        refine Go.st st10 ?_
        show Go pg.tables ev below (T10.setTop (mkF mi 24 #[.val (.int p), .val (.ref ar), .val (.int (7 : Int32)), .val (.int (3 : Int32)), .val (.ref c3)] [(.int (121 : Int32))])) P
        refine Go.st (fun t_ k_ => XS.iloadN X10.here hx rfl (hb hby d_prog_46_method_6_24) rfl k_) ?_
        show Go pg.tables ev below (T10.setTop (mkF mi 25 #[.val (.int p), .val (.ref ar), .val (.int (7 : Int32)), .val (.int (3 : Int32)), .val (.ref c3)] [(.int p), (.int (121 : Int32))])) P
        by_cases hc25_4 : (121 : Int32) = p
        · refine Go.st (fun t_ k_ => XS.icmpNo X10.here hx rfl (hb hby d_prog_46_method_6_25) rfl (teq hc25_4).2 k_) ?_
          show Go pg.tables ev below (T10.setTop (mkF mi 28 #[.val (.int p), .val (.ref ar), .val (.int (7 : Int32)), .val (.int (3 : Int32)), .val (.ref c3)] [])) P
          refine Go.st (fun t_ k_ => XS.aload X10.here hx rfl (hb hby d_prog_46_method_6_28) rfl rfl k_) ?_
          show Go pg.tables ev below (T10.setTop (mkF mi 30 #[.val (.int p), .val (.ref ar), .val (.int (7 : Int32)), .val (.int (3 : Int32)), .val (.ref c3)] [(.ref c3)])) P
          obtain ⟨fs, hr, hrun, hended, hW, hsame⟩ := X10.leave (v := some (.ref c3)) (fun h => by rw [Bd.returns] at h; cases h) (BodyLoose.notSynchronized Bd)
          refine ⟨_, _, ?_, hP _ _ ⟨hrun, hended, _, _, rfl, ?_, ⟨_, rfl⟩, hW, hsame.mono (by decide) (by decide)⟩⟩
          · exact retOut X10 hx Bd.returns rfl (Or.inr (Or.inr (Or.inr (Or.inr ⟨rfl, rfl, rfl⟩)))) (hb hby d_prog_46_method_6_30) hr
          · show (some (.ref c3) : Option Value) = some (fO p c0 c1 c2 c3 c4 c5 c6) ∧ Fr n0 _ ∧ T10.heap = h0
            rw [e10]
            exact ⟨by rw [show fO p c0 c1 c2 c3 c4 c5 c6 = (.ref c3) from ((if_neg hc25_1).trans ((if_neg hc25_2).trans ((if_neg hc25_3).trans ((if_pos hc25_4).trans rfl))))], N0, rfl⟩
        · refine Go.st (fun t_ k_ => XS.icmpYes X10.here hx rfl (pc0 := 25) (pc' := 31) rfl (hb hby d_prog_46_method_6_25) rfl (feq hc25_4).2 (by decide) (by decide) k_) ?_
          show Go pg.tables ev below (T10.setTop (mkF mi 31 #[.val (.int p), .val (.ref ar), .val (.int (7 : Int32)), .val (.int (3 : Int32)), .val (.ref c3)] [])) P
          refine Go.st (fun t_ k_ => XS.iinc X10.here hx rfl (hb hby d_prog_46_method_6_31) rfl (l' := #[.val (.int p), .val (.ref ar), .val (.int (7 : Int32)), .val (.int (4 : Int32)), .val (.ref c3)]) rfl k_) ?_
          show Go pg.tables ev below (T10.setTop (mkF mi 34 #[.val (.int p), .val (.ref ar), .val (.int (7 : Int32)), .val (.int (4 : Int32)), .val (.ref c3)] [])) P
          refine Go.st (fun t_ k_ => XS.goto X10.here hx rfl (pc0 := 34) (pc' := 9) rfl (hb hby d_prog_46_method_6_34) (by decide) (by decide) k_) ?_
          show Go pg.tables ev below (T10.setTop (mkF mi 9 #[.val (.int p), .val (.ref ar), .val (.int (7 : Int32)), .val (.int (4 : Int32)), .val (.ref c3)] [])) P
          refine Go.st (fun t_ k_ => XS.iloadN X10.here hx rfl (hb hby d_prog_46_method_6_9) rfl k_) ?_
          show Go pg.tables ev below (T10.setTop (mkF mi 10 #[.val (.int p), .val (.ref ar), .val (.int (7 : Int32)), .val (.int (4 : Int32)), .val (.ref c3)] [(.int (4 : Int32))])) P
          refine Go.st (fun t_ k_ => XS.iloadN X10.here hx rfl (hb hby d_prog_46_method_6_10) rfl k_) ?_
          show Go pg.tables ev below (T10.setTop (mkF mi 11 #[.val (.int p), .val (.ref ar), .val (.int (7 : Int32)), .val (.int (4 : Int32)), .val (.ref c3)] [(.int (7 : Int32)), (.int (4 : Int32))])) P
          refine Go.st (fun t_ k_ => XS.icmpNo X10.here hx rfl (hb hby d_prog_46_method_6_11) rfl (tlt (by decide)).2.1 k_) ?_
          show Go pg.tables ev below (T10.setTop (mkF mi 14 #[.val (.int p), .val (.ref ar), .val (.int (7 : Int32)), .val (.int (4 : Int32)), .val (.ref c3)] [])) P
          refine Go.st (fun t_ k_ => XS.aloadN X10.here hx rfl (hb hby d_prog_46_method_6_14) rfl rfl k_) ?_
          show Go pg.tables ev below (T10.setTop (mkF mi 15 #[.val (.int p), .val (.ref ar), .val (.int (7 : Int32)), .val (.int (4 : Int32)), .val (.ref c3)] [(.ref ar)])) P
          refine Go.st (fun t_ k_ => XS.iloadN X10.here hx rfl (hb hby d_prog_46_method_6_15) rfl k_) ?_
          show Go pg.tables ev below (T10.setTop (mkF mi 16 #[.val (.int p), .val (.ref ar), .val (.int (7 : Int32)), .val (.int (4 : Int32)), .val (.ref c3)] [(.int (4 : Int32)), (.ref ar)])) P
          have ov11 := A0
          obtain ⟨cl11, Ar11, q11, S11, M11, H11, G11⟩ := ov11
          have hin11 : ¬ ((4 : Int32) < 0 ∨ cl11.slots.size ≤ ((4 : Int32)).toNatClampNeg) := inb_of S11 ⟨by decide, by decide⟩
          have hat11 : cl11.slots[((4 : Int32)).toNatClampNeg]? = some (.ref c4) := Has.at H11 hin11 rfl
          refine Go.st (X10.aaload hx (j := (4 : Int32)) (v := (.ref c4)) (by rw [e10]; exact Ar11.1) (State.isArrayOf_alike hZ.alike Ar11.2.1) rfl Ar11.2.2 hin11 hat11 (g := (mkF mi 16 #[.val (.int p), .val (.ref ar), .val (.int (7 : Int32)), .val (.int (4 : Int32)), .val (.ref c3)] [(.int (4 : Int32)), (.ref ar)])) rfl rfl (hb hby d_prog_46_method_6_16)) ?_
          show Go pg.tables ev below (T10.setTop (mkF mi 17 #[.val (.int p), .val (.ref ar), .val (.int (7 : Int32)), .val (.int (4 : Int32)), .val (.ref c3)] [(.ref c4)])) P
          refine Go.st (fun t_ k_ => XS.astore X10.here hx rfl (hb hby d_prog_46_method_6_17) rfl rfl (l' := #[.val (.int p), .val (.ref ar), .val (.int (7 : Int32)), .val (.int (4 : Int32)), .val (.ref c4)]) rfl k_) ?_
          show Go pg.tables ev below (T10.setTop (mkF mi 19 #[.val (.int p), .val (.ref ar), .val (.int (7 : Int32)), .val (.int (4 : Int32)), .val (.ref c4)] [])) P
          refine Go.st (fun t_ k_ => XS.aload X10.here hx rfl (hb hby d_prog_46_method_6_19) rfl rfl k_) ?_
          show Go pg.tables ev below (T10.setTop (mkF mi 21 #[.val (.int p), .val (.ref ar), .val (.int (7 : Int32)), .val (.int (4 : Int32)), .val (.ref c4)] [(.ref c4)])) P
          obtain ⟨T12, X12, e12, st12⟩ := getF X10 hx hZ hown (host := "") (Or.inl (hw _ (List.mem_of_getElem? (i := 9) rfl))) Via.refl e10 F4 (g := (mkF mi 21 #[.val (.int p), .val (.ref ar), .val (.int (7 : Int32)), .val (.int (4 : Int32)), .val (.ref c4)] [(.ref c4)])) rfl rfl (hb hby d_prog_46_method_6_21)
          refine Go.st st12 ?_
          show Go pg.tables ev below (T12.setTop (mkF mi 24 #[.val (.int p), .val (.ref ar), .val (.int (7 : Int32)), .val (.int (4 : Int32)), .val (.ref c4)] [(.int (103 : Int32))])) P
          refine Go.st (fun t_ k_ => XS.iloadN X12.here hx rfl (hb hby d_prog_46_method_6_24) rfl k_) ?_
          show Go pg.tables ev below (T12.setTop (mkF mi 25 #[.val (.int p), .val (.ref ar), .val (.int (7 : Int32)), .val (.int (4 : Int32)), .val (.ref c4)] [(.int p), (.int (103 : Int32))])) P
          by_cases hc25_5 : (103 : Int32) = p
          · refine Go.st (fun t_ k_ => XS.icmpNo X12.here hx rfl (hb hby d_prog_46_method_6_25) rfl (teq hc25_5).2 k_) ?_
            show Go pg.tables ev below (T12.setTop (mkF mi 28 #[.val (.int p), .val (.ref ar), .val (.int (7 : Int32)), .val (.int (4 : Int32)), .val (.ref c4)] [])) P
            refine Go.st (fun t_ k_ => XS.aload X12.here hx rfl (hb hby d_prog_46_method_6_28) rfl rfl k_) ?_
            show Go pg.tables ev below (T12.setTop (mkF mi 30 #[.val (.int p), .val (.ref ar), .val (.int (7 : Int32)), .val (.int (4 : Int32)), .val (.ref c4)] [(.ref c4)])) P
            obtain ⟨fs, hr, hrun, hended, hW, hsame⟩ := X12.leave (v := some (.ref c4)) (fun h => by rw [Bd.returns] at h; cases h) (BodyLoose.notSynchronized Bd)
            refine ⟨_, _, ?_, hP _ _ ⟨hrun, hended, _, _, rfl, ?_, ⟨_, rfl⟩, hW, hsame.mono (by decide) (by decide)⟩⟩
            · exact retOut X12 hx Bd.returns rfl (Or.inr (Or.inr (Or.inr (Or.inr ⟨rfl, rfl, rfl⟩)))) (hb hby d_prog_46_method_6_30) hr
            · show (some (.ref c4) : Option Value) = some (fO p c0 c1 c2 c3 c4 c5 c6) ∧ Fr n0 _ ∧ T12.heap = h0
              rw [e12]
              exact ⟨by rw [show fO p c0 c1 c2 c3 c4 c5 c6 = (.ref c4) from ((if_neg hc25_1).trans ((if_neg hc25_2).trans ((if_neg hc25_3).trans ((if_neg hc25_4).trans ((if_pos hc25_5).trans rfl)))))], N0, rfl⟩
          · refine Go.st (fun t_ k_ => XS.icmpYes X12.here hx rfl (pc0 := 25) (pc' := 31) rfl (hb hby d_prog_46_method_6_25) rfl (feq hc25_5).2 (by decide) (by decide) k_) ?_
            show Go pg.tables ev below (T12.setTop (mkF mi 31 #[.val (.int p), .val (.ref ar), .val (.int (7 : Int32)), .val (.int (4 : Int32)), .val (.ref c4)] [])) P
            refine Go.st (fun t_ k_ => XS.iinc X12.here hx rfl (hb hby d_prog_46_method_6_31) rfl (l' := #[.val (.int p), .val (.ref ar), .val (.int (7 : Int32)), .val (.int (5 : Int32)), .val (.ref c4)]) rfl k_) ?_
            show Go pg.tables ev below (T12.setTop (mkF mi 34 #[.val (.int p), .val (.ref ar), .val (.int (7 : Int32)), .val (.int (5 : Int32)), .val (.ref c4)] [])) P
            refine Go.st (fun t_ k_ => XS.goto X12.here hx rfl (pc0 := 34) (pc' := 9) rfl (hb hby d_prog_46_method_6_34) (by decide) (by decide) k_) ?_
            show Go pg.tables ev below (T12.setTop (mkF mi 9 #[.val (.int p), .val (.ref ar), .val (.int (7 : Int32)), .val (.int (5 : Int32)), .val (.ref c4)] [])) P
            refine Go.st (fun t_ k_ => XS.iloadN X12.here hx rfl (hb hby d_prog_46_method_6_9) rfl k_) ?_
            show Go pg.tables ev below (T12.setTop (mkF mi 10 #[.val (.int p), .val (.ref ar), .val (.int (7 : Int32)), .val (.int (5 : Int32)), .val (.ref c4)] [(.int (5 : Int32))])) P
            refine Go.st (fun t_ k_ => XS.iloadN X12.here hx rfl (hb hby d_prog_46_method_6_10) rfl k_) ?_
            show Go pg.tables ev below (T12.setTop (mkF mi 11 #[.val (.int p), .val (.ref ar), .val (.int (7 : Int32)), .val (.int (5 : Int32)), .val (.ref c4)] [(.int (7 : Int32)), (.int (5 : Int32))])) P
            refine Go.st (fun t_ k_ => XS.icmpNo X12.here hx rfl (hb hby d_prog_46_method_6_11) rfl (tlt (by decide)).2.1 k_) ?_
            show Go pg.tables ev below (T12.setTop (mkF mi 14 #[.val (.int p), .val (.ref ar), .val (.int (7 : Int32)), .val (.int (5 : Int32)), .val (.ref c4)] [])) P
            refine Go.st (fun t_ k_ => XS.aloadN X12.here hx rfl (hb hby d_prog_46_method_6_14) rfl rfl k_) ?_
            show Go pg.tables ev below (T12.setTop (mkF mi 15 #[.val (.int p), .val (.ref ar), .val (.int (7 : Int32)), .val (.int (5 : Int32)), .val (.ref c4)] [(.ref ar)])) P
            refine Go.st (fun t_ k_ => XS.iloadN X12.here hx rfl (hb hby d_prog_46_method_6_15) rfl k_) ?_
            show Go pg.tables ev below (T12.setTop (mkF mi 16 #[.val (.int p), .val (.ref ar), .val (.int (7 : Int32)), .val (.int (5 : Int32)), .val (.ref c4)] [(.int (5 : Int32)), (.ref ar)])) P
            have ov13 := A0
            obtain ⟨cl13, Ar13, q13, S13, M13, H13, G13⟩ := ov13
            have hin13 : ¬ ((5 : Int32) < 0 ∨ cl13.slots.size ≤ ((5 : Int32)).toNatClampNeg) := inb_of S13 ⟨by decide, by decide⟩
            have hat13 : cl13.slots[((5 : Int32)).toNatClampNeg]? = some (.ref c5) := Has.at H13 hin13 rfl
            refine Go.st (X12.aaload hx (j := (5 : Int32)) (v := (.ref c5)) (by rw [e12]; exact Ar13.1) (State.isArrayOf_alike hZ.alike Ar13.2.1) rfl Ar13.2.2 hin13 hat13 (g := (mkF mi 16 #[.val (.int p), .val (.ref ar), .val (.int (7 : Int32)), .val (.int (5 : Int32)), .val (.ref c4)] [(.int (5 : Int32)), (.ref ar)])) rfl rfl (hb hby d_prog_46_method_6_16)) ?_
            show Go pg.tables ev below (T12.setTop (mkF mi 17 #[.val (.int p), .val (.ref ar), .val (.int (7 : Int32)), .val (.int (5 : Int32)), .val (.ref c4)] [(.ref c5)])) P
            refine Go.st (fun t_ k_ => XS.astore X12.here hx rfl (hb hby d_prog_46_method_6_17) rfl rfl (l' := #[.val (.int p), .val (.ref ar), .val (.int (7 : Int32)), .val (.int (5 : Int32)), .val (.ref c5)]) rfl k_) ?_
            show Go pg.tables ev below (T12.setTop (mkF mi 19 #[.val (.int p), .val (.ref ar), .val (.int (7 : Int32)), .val (.int (5 : Int32)), .val (.ref c5)] [])) P
            refine Go.st (fun t_ k_ => XS.aload X12.here hx rfl (hb hby d_prog_46_method_6_19) rfl rfl k_) ?_
            show Go pg.tables ev below (T12.setTop (mkF mi 21 #[.val (.int p), .val (.ref ar), .val (.int (7 : Int32)), .val (.int (5 : Int32)), .val (.ref c5)] [(.ref c5)])) P
            obtain ⟨T14, X14, e14, st14⟩ := getF X12 hx hZ hown (host := "") (Or.inl (hw _ (List.mem_of_getElem? (i := 9) rfl))) Via.refl e12 F5 (g := (mkF mi 21 #[.val (.int p), .val (.ref ar), .val (.int (7 : Int32)), .val (.int (5 : Int32)), .val (.ref c5)] [(.ref c5)])) rfl rfl (hb hby d_prog_46_method_6_21)
            refine Go.st st14 ?_
            show Go pg.tables ev below (T14.setTop (mkF mi 24 #[.val (.int p), .val (.ref ar), .val (.int (7 : Int32)), .val (.int (5 : Int32)), .val (.ref c5)] [(.int (98 : Int32))])) P
            refine Go.st (fun t_ k_ => XS.iloadN X14.here hx rfl (hb hby d_prog_46_method_6_24) rfl k_) ?_
            show Go pg.tables ev below (T14.setTop (mkF mi 25 #[.val (.int p), .val (.ref ar), .val (.int (7 : Int32)), .val (.int (5 : Int32)), .val (.ref c5)] [(.int p), (.int (98 : Int32))])) P
            by_cases hc25_6 : (98 : Int32) = p
            · refine Go.st (fun t_ k_ => XS.icmpNo X14.here hx rfl (hb hby d_prog_46_method_6_25) rfl (teq hc25_6).2 k_) ?_
              show Go pg.tables ev below (T14.setTop (mkF mi 28 #[.val (.int p), .val (.ref ar), .val (.int (7 : Int32)), .val (.int (5 : Int32)), .val (.ref c5)] [])) P
              refine Go.st (fun t_ k_ => XS.aload X14.here hx rfl (hb hby d_prog_46_method_6_28) rfl rfl k_) ?_
              show Go pg.tables ev below (T14.setTop (mkF mi 30 #[.val (.int p), .val (.ref ar), .val (.int (7 : Int32)), .val (.int (5 : Int32)), .val (.ref c5)] [(.ref c5)])) P
              obtain ⟨fs, hr, hrun, hended, hW, hsame⟩ := X14.leave (v := some (.ref c5)) (fun h => by rw [Bd.returns] at h; cases h) (BodyLoose.notSynchronized Bd)
              refine ⟨_, _, ?_, hP _ _ ⟨hrun, hended, _, _, rfl, ?_, ⟨_, rfl⟩, hW, hsame.mono (by decide) (by decide)⟩⟩
              · exact retOut X14 hx Bd.returns rfl (Or.inr (Or.inr (Or.inr (Or.inr ⟨rfl, rfl, rfl⟩)))) (hb hby d_prog_46_method_6_30) hr
              · show (some (.ref c5) : Option Value) = some (fO p c0 c1 c2 c3 c4 c5 c6) ∧ Fr n0 _ ∧ T14.heap = h0
                rw [e14]
                exact ⟨by rw [show fO p c0 c1 c2 c3 c4 c5 c6 = (.ref c5) from ((if_neg hc25_1).trans ((if_neg hc25_2).trans ((if_neg hc25_3).trans ((if_neg hc25_4).trans ((if_neg hc25_5).trans ((if_pos hc25_6).trans rfl))))))], N0, rfl⟩
            · refine Go.st (fun t_ k_ => XS.icmpYes X14.here hx rfl (pc0 := 25) (pc' := 31) rfl (hb hby d_prog_46_method_6_25) rfl (feq hc25_6).2 (by decide) (by decide) k_) ?_
              show Go pg.tables ev below (T14.setTop (mkF mi 31 #[.val (.int p), .val (.ref ar), .val (.int (7 : Int32)), .val (.int (5 : Int32)), .val (.ref c5)] [])) P
              refine Go.st (fun t_ k_ => XS.iinc X14.here hx rfl (hb hby d_prog_46_method_6_31) rfl (l' := #[.val (.int p), .val (.ref ar), .val (.int (7 : Int32)), .val (.int (6 : Int32)), .val (.ref c5)]) rfl k_) ?_
              show Go pg.tables ev below (T14.setTop (mkF mi 34 #[.val (.int p), .val (.ref ar), .val (.int (7 : Int32)), .val (.int (6 : Int32)), .val (.ref c5)] [])) P
              refine Go.st (fun t_ k_ => XS.goto X14.here hx rfl (pc0 := 34) (pc' := 9) rfl (hb hby d_prog_46_method_6_34) (by decide) (by decide) k_) ?_
              show Go pg.tables ev below (T14.setTop (mkF mi 9 #[.val (.int p), .val (.ref ar), .val (.int (7 : Int32)), .val (.int (6 : Int32)), .val (.ref c5)] [])) P
              refine Go.st (fun t_ k_ => XS.iloadN X14.here hx rfl (hb hby d_prog_46_method_6_9) rfl k_) ?_
              show Go pg.tables ev below (T14.setTop (mkF mi 10 #[.val (.int p), .val (.ref ar), .val (.int (7 : Int32)), .val (.int (6 : Int32)), .val (.ref c5)] [(.int (6 : Int32))])) P
              refine Go.st (fun t_ k_ => XS.iloadN X14.here hx rfl (hb hby d_prog_46_method_6_10) rfl k_) ?_
              show Go pg.tables ev below (T14.setTop (mkF mi 11 #[.val (.int p), .val (.ref ar), .val (.int (7 : Int32)), .val (.int (6 : Int32)), .val (.ref c5)] [(.int (7 : Int32)), (.int (6 : Int32))])) P
              refine Go.st (fun t_ k_ => XS.icmpNo X14.here hx rfl (hb hby d_prog_46_method_6_11) rfl (tlt (by decide)).2.1 k_) ?_
              show Go pg.tables ev below (T14.setTop (mkF mi 14 #[.val (.int p), .val (.ref ar), .val (.int (7 : Int32)), .val (.int (6 : Int32)), .val (.ref c5)] [])) P
              refine Go.st (fun t_ k_ => XS.aloadN X14.here hx rfl (hb hby d_prog_46_method_6_14) rfl rfl k_) ?_
              show Go pg.tables ev below (T14.setTop (mkF mi 15 #[.val (.int p), .val (.ref ar), .val (.int (7 : Int32)), .val (.int (6 : Int32)), .val (.ref c5)] [(.ref ar)])) P
              refine Go.st (fun t_ k_ => XS.iloadN X14.here hx rfl (hb hby d_prog_46_method_6_15) rfl k_) ?_
              show Go pg.tables ev below (T14.setTop (mkF mi 16 #[.val (.int p), .val (.ref ar), .val (.int (7 : Int32)), .val (.int (6 : Int32)), .val (.ref c5)] [(.int (6 : Int32)), (.ref ar)])) P
              have ov15 := A0
              obtain ⟨cl15, Ar15, q15, S15, M15, H15, G15⟩ := ov15
              have hin15 : ¬ ((6 : Int32) < 0 ∨ cl15.slots.size ≤ ((6 : Int32)).toNatClampNeg) := inb_of S15 ⟨by decide, by decide⟩
              have hat15 : cl15.slots[((6 : Int32)).toNatClampNeg]? = some (.ref c6) := Has.at H15 hin15 rfl
              refine Go.st (X14.aaload hx (j := (6 : Int32)) (v := (.ref c6)) (by rw [e14]; exact Ar15.1) (State.isArrayOf_alike hZ.alike Ar15.2.1) rfl Ar15.2.2 hin15 hat15 (g := (mkF mi 16 #[.val (.int p), .val (.ref ar), .val (.int (7 : Int32)), .val (.int (6 : Int32)), .val (.ref c5)] [(.int (6 : Int32)), (.ref ar)])) rfl rfl (hb hby d_prog_46_method_6_16)) ?_
              show Go pg.tables ev below (T14.setTop (mkF mi 17 #[.val (.int p), .val (.ref ar), .val (.int (7 : Int32)), .val (.int (6 : Int32)), .val (.ref c5)] [(.ref c6)])) P
              refine Go.st (fun t_ k_ => XS.astore X14.here hx rfl (hb hby d_prog_46_method_6_17) rfl rfl (l' := #[.val (.int p), .val (.ref ar), .val (.int (7 : Int32)), .val (.int (6 : Int32)), .val (.ref c6)]) rfl k_) ?_
              show Go pg.tables ev below (T14.setTop (mkF mi 19 #[.val (.int p), .val (.ref ar), .val (.int (7 : Int32)), .val (.int (6 : Int32)), .val (.ref c6)] [])) P
              refine Go.st (fun t_ k_ => XS.aload X14.here hx rfl (hb hby d_prog_46_method_6_19) rfl rfl k_) ?_
              show Go pg.tables ev below (T14.setTop (mkF mi 21 #[.val (.int p), .val (.ref ar), .val (.int (7 : Int32)), .val (.int (6 : Int32)), .val (.ref c6)] [(.ref c6)])) P
              obtain ⟨T16, X16, e16, st16⟩ := getF X14 hx hZ hown (host := "") (Or.inl (hw _ (List.mem_of_getElem? (i := 9) rfl))) Via.refl e14 F6 (g := (mkF mi 21 #[.val (.int p), .val (.ref ar), .val (.int (7 : Int32)), .val (.int (6 : Int32)), .val (.ref c6)] [(.ref c6)])) rfl rfl (hb hby d_prog_46_method_6_21)
              refine Go.st st16 ?_
              show Go pg.tables ev below (T16.setTop (mkF mi 24 #[.val (.int p), .val (.ref ar), .val (.int (7 : Int32)), .val (.int (6 : Int32)), .val (.ref c6)] [(.int (112 : Int32))])) P
              refine Go.st (fun t_ k_ => XS.iloadN X16.here hx rfl (hb hby d_prog_46_method_6_24) rfl k_) ?_
              show Go pg.tables ev below (T16.setTop (mkF mi 25 #[.val (.int p), .val (.ref ar), .val (.int (7 : Int32)), .val (.int (6 : Int32)), .val (.ref c6)] [(.int p), (.int (112 : Int32))])) P
              by_cases hc25_7 : (112 : Int32) = p
              · refine Go.st (fun t_ k_ => XS.icmpNo X16.here hx rfl (hb hby d_prog_46_method_6_25) rfl (teq hc25_7).2 k_) ?_
                show Go pg.tables ev below (T16.setTop (mkF mi 28 #[.val (.int p), .val (.ref ar), .val (.int (7 : Int32)), .val (.int (6 : Int32)), .val (.ref c6)] [])) P
                refine Go.st (fun t_ k_ => XS.aload X16.here hx rfl (hb hby d_prog_46_method_6_28) rfl rfl k_) ?_
                show Go pg.tables ev below (T16.setTop (mkF mi 30 #[.val (.int p), .val (.ref ar), .val (.int (7 : Int32)), .val (.int (6 : Int32)), .val (.ref c6)] [(.ref c6)])) P
                obtain ⟨fs, hr, hrun, hended, hW, hsame⟩ := X16.leave (v := some (.ref c6)) (fun h => by rw [Bd.returns] at h; cases h) (BodyLoose.notSynchronized Bd)
                refine ⟨_, _, ?_, hP _ _ ⟨hrun, hended, _, _, rfl, ?_, ⟨_, rfl⟩, hW, hsame.mono (by decide) (by decide)⟩⟩
                · exact retOut X16 hx Bd.returns rfl (Or.inr (Or.inr (Or.inr (Or.inr ⟨rfl, rfl, rfl⟩)))) (hb hby d_prog_46_method_6_30) hr
                · show (some (.ref c6) : Option Value) = some (fO p c0 c1 c2 c3 c4 c5 c6) ∧ Fr n0 _ ∧ T16.heap = h0
                  rw [e16]
                  exact ⟨by rw [show fO p c0 c1 c2 c3 c4 c5 c6 = (.ref c6) from ((if_neg hc25_1).trans ((if_neg hc25_2).trans ((if_neg hc25_3).trans ((if_neg hc25_4).trans ((if_neg hc25_5).trans ((if_neg hc25_6).trans ((if_pos hc25_7).trans rfl)))))))], N0, rfl⟩
              · refine Go.st (fun t_ k_ => XS.icmpYes X16.here hx rfl (pc0 := 25) (pc' := 31) rfl (hb hby d_prog_46_method_6_25) rfl (feq hc25_7).2 (by decide) (by decide) k_) ?_
                show Go pg.tables ev below (T16.setTop (mkF mi 31 #[.val (.int p), .val (.ref ar), .val (.int (7 : Int32)), .val (.int (6 : Int32)), .val (.ref c6)] [])) P
                refine Go.st (fun t_ k_ => XS.iinc X16.here hx rfl (hb hby d_prog_46_method_6_31) rfl (l' := #[.val (.int p), .val (.ref ar), .val (.int (7 : Int32)), .val (.int (7 : Int32)), .val (.ref c6)]) rfl k_) ?_
                show Go pg.tables ev below (T16.setTop (mkF mi 34 #[.val (.int p), .val (.ref ar), .val (.int (7 : Int32)), .val (.int (7 : Int32)), .val (.ref c6)] [])) P
                refine Go.st (fun t_ k_ => XS.goto X16.here hx rfl (pc0 := 34) (pc' := 9) rfl (hb hby d_prog_46_method_6_34) (by decide) (by decide) k_) ?_
                show Go pg.tables ev below (T16.setTop (mkF mi 9 #[.val (.int p), .val (.ref ar), .val (.int (7 : Int32)), .val (.int (7 : Int32)), .val (.ref c6)] [])) P
                refine Go.st (fun t_ k_ => XS.iloadN X16.here hx rfl (hb hby d_prog_46_method_6_9) rfl k_) ?_
                show Go pg.tables ev below (T16.setTop (mkF mi 10 #[.val (.int p), .val (.ref ar), .val (.int (7 : Int32)), .val (.int (7 : Int32)), .val (.ref c6)] [(.int (7 : Int32))])) P
                refine Go.st (fun t_ k_ => XS.iloadN X16.here hx rfl (hb hby d_prog_46_method_6_10) rfl k_) ?_
                show Go pg.tables ev below (T16.setTop (mkF mi 11 #[.val (.int p), .val (.ref ar), .val (.int (7 : Int32)), .val (.int (7 : Int32)), .val (.ref c6)] [(.int (7 : Int32)), (.int (7 : Int32))])) P
                refine Go.st (fun t_ k_ => XS.icmpYes X16.here hx rfl (pc0 := 11) (pc' := 37) rfl (hb hby d_prog_46_method_6_11) rfl (flt (by decide)).2.1 (by decide) (by decide) k_) ?_
                show Go pg.tables ev below (T16.setTop (mkF mi 37 #[.val (.int p), .val (.ref ar), .val (.int (7 : Int32)), .val (.int (7 : Int32)), .val (.ref c6)] [])) P
                refine Go.st (fun t_ k_ => XS.aconstNull X16.here hx rfl (hb hby d_prog_46_method_6_37) k_) ?_
                show Go pg.tables ev below (T16.setTop (mkF mi 38 #[.val (.int p), .val (.ref ar), .val (.int (7 : Int32)), .val (.int (7 : Int32)), .val (.ref c6)] [.null])) P
                obtain ⟨fs, hr, hrun, hended, hW, hsame⟩ := X16.leave (v := some .null) (fun h => by rw [Bd.returns] at h; cases h) (BodyLoose.notSynchronized Bd)
                refine ⟨_, _, ?_, hP _ _ ⟨hrun, hended, _, _, rfl, ?_, ⟨_, rfl⟩, hW, hsame.mono (by decide) (by decide)⟩⟩
                · exact retOut X16 hx Bd.returns rfl (Or.inr (Or.inr (Or.inr (Or.inr ⟨rfl, rfl, rfl⟩)))) (hb hby d_prog_46_method_6_38) hr
                · show (some .null : Option Value) = some (fO p c0 c1 c2 c3 c4 c5 c6) ∧ Fr n0 _ ∧ T16.heap = h0
                  rw [e16]
                  exact ⟨by rw [show fO p c0 c1 c2 c3 c4 c5 c6 = .null from ((if_neg hc25_1).trans ((if_neg hc25_2).trans ((if_neg hc25_3).trans ((if_neg hc25_4).trans ((if_neg hc25_5).trans ((if_neg hc25_6).trans ((if_neg hc25_7).trans rfl)))))))], N0, rfl⟩
theorem d_method_2_0 : decode method_2_code 0 = .ok (.iload_n 0, 1) := by decide +kernel
theorem d_method_2_1 : decode method_2_code 1 = .ok (.bipush 119, 2) := by decide +kernel
theorem d_method_2_3 : decode method_2_code 3 = .ok (.if_icmp .ne 7, 3) := by decide +kernel
theorem d_method_2_6 : decode method_2_code 6 = .ok (.getstatic 7, 3) := by decide +kernel
theorem d_method_2_9 : decode method_2_code 9 = .ok (.areturn, 1) := by decide +kernel
theorem d_method_2_10 : decode method_2_code 10 = .ok (.iload_n 0, 1) := by decide +kernel
theorem d_method_2_11 : decode method_2_code 11 = .ok (.bipush 114, 2) := by decide +kernel
theorem d_method_2_13 : decode method_2_code 13 = .ok (.if_icmp .ne 7, 3) := by decide +kernel
theorem d_method_2_16 : decode method_2_code 16 = .ok (.getstatic 13, 3) := by decide +kernel
theorem d_method_2_19 : decode method_2_code 19 = .ok (.areturn, 1) := by decide +kernel
theorem d_method_2_20 : decode method_2_code 20 = .ok (.iload_n 0, 1) := by decide +kernel
theorem d_method_2_21 : decode method_2_code 21 = .ok (.bipush 111, 2) := by decide +kernel
theorem d_method_2_23 : decode method_2_code 23 = .ok (.if_icmp .ne 7, 3) := by decide +kernel
theorem d_method_2_26 : decode method_2_code 26 = .ok (.getstatic 16, 3) := by decide +kernel
theorem d_method_2_29 : decode method_2_code 29 = .ok (.areturn, 1) := by decide +kernel
theorem d_method_2_30 : decode method_2_code 30 = .ok (.iload_n 0, 1) := by decide +kernel
theorem d_method_2_31 : decode method_2_code 31 = .ok (.bipush 121, 2) := by decide +kernel
theorem d_method_2_33 : decode method_2_code 33 = .ok (.if_icmp .ne 7, 3) := by decide +kernel
theorem d_method_2_36 : decode method_2_code 36 = .ok (.getstatic 19, 3) := by decide +kernel
theorem d_method_2_39 : decode method_2_code 39 = .ok (.areturn, 1) := by decide +kernel
theorem d_method_2_40 : decode method_2_code 40 = .ok (.iload_n 0, 1) := by decide +kernel
theorem d_method_2_41 : decode method_2_code 41 = .ok (.bipush 103, 2) := by decide +kernel
theorem d_method_2_43 : decode method_2_code 43 = .ok (.if_icmp .ne 7, 3) := by decide +kernel
theorem d_method_2_46 : decode method_2_code 46 = .ok (.getstatic 22, 3) := by decide +kernel
theorem d_method_2_49 : decode method_2_code 49 = .ok (.areturn, 1) := by decide +kernel
theorem d_method_2_50 : decode method_2_code 50 = .ok (.iload_n 0, 1) := by decide +kernel
theorem d_method_2_51 : decode method_2_code 51 = .ok (.bipush 98, 2) := by decide +kernel
theorem d_method_2_53 : decode method_2_code 53 = .ok (.if_icmp .ne 7, 3) := by decide +kernel
theorem d_method_2_56 : decode method_2_code 56 = .ok (.getstatic 25, 3) := by decide +kernel
theorem d_method_2_59 : decode method_2_code 59 = .ok (.areturn, 1) := by decide +kernel
theorem d_method_2_60 : decode method_2_code 60 = .ok (.iload_n 0, 1) := by decide +kernel
theorem d_method_2_61 : decode method_2_code 61 = .ok (.bipush 112, 2) := by decide +kernel
theorem d_method_2_63 : decode method_2_code 63 = .ok (.if_icmp .ne 7, 3) := by decide +kernel
theorem d_method_2_66 : decode method_2_code 66 = .ok (.getstatic 28, 3) := by decide +kernel
theorem d_method_2_69 : decode method_2_code 69 = .ok (.areturn, 1) := by decide +kernel
theorem d_method_2_70 : decode method_2_code 70 = .ok (.aconst_null, 1) := by decide +kernel
theorem d_method_2_71 : decode method_2_code 71 = .ok (.areturn, 1) := by decide +kernel
theorem pn_1 : plainName "com/example/dicewright/dicewright/games/ciub/ColourOfLetterPinLaw" = true := by first | (simp [plainName, overriddenIn]; done) | decide +kernel
theorem ef_rmE (mi : MethodId) (p : Int32) (c0 : Addr) (c1 : Addr) (c2 : Addr) (c3 : Addr) (c4 : Addr) (c5 : Addr) (c6 : Addr) : entryFrame mi #[(.int p)] 1 = mkF mi 0 #[.val (.int p)] [] := by first | (simp [entryFrame, mkF, argsToLocals, Value.category]; done) | rfl
def fE (p : Int32) (c0 c1 c2 c3 c4 c5 c6 : Addr) : Value := (if p = (119 : Int32) then (.ref c0) else (if p = (114 : Int32) then (.ref c1) else (if p = (111 : Int32) then (.ref c2) else (if p = (121 : Int32) then (.ref c3) else (if p = (103 : Int32) then (.ref c4) else (if p = (98 : Int32) then (.ref c5) else (if p = (112 : Int32) then (.ref c6) else .null)))))))
def Q_rmE (Z : State) (p : Int32) (c0 : Addr) (c1 : Addr) (c2 : Addr) (c3 : Addr) (c4 : Addr) (c5 : Addr) (c6 : Addr) (h0 : Heap) (n0 : Nat) (vv_ : Option Value) (hh_ : Heap) (LL_ : List Loc) : Prop := vv_ = some (fE p c0 c1 c2 c3 c4 c5 c6) ∧ Fr n0 LL_ ∧ hh_ = h0
set_option maxRecDepth 65536 in
set_option maxHeartbeats 40000000 in
theorem rmE (l : Launch) (Z : State) (a0 : Array Value) (hw : ∀ d ∈ tables_1, d.before a0 Z = true) (ws : List Jvm.Cond) (p : Int32) (c0 : Addr) (c1 : Addr) (c2 : Addr) (c3 : Addr) (c4 : Addr) (c5 : Addr) (c6 : Addr) (h0 : Heap) (n0 : Nat) (Z0 : n0 ≤ h0.size) (ST1 : Sta Z h0 "com/example/dicewright/dicewright/games/ciub/Colour" "WHITE" "Lcom/example/dicewright/dicewright/games/ciub/Colour;" (.ref c0)) (ST2 : Sta Z h0 "com/example/dicewright/dicewright/games/ciub/Colour" "RED" "Lcom/example/dicewright/dicewright/games/ciub/Colour;" (.ref c1)) (ST3 : Sta Z h0 "com/example/dicewright/dicewright/games/ciub/Colour" "ORANGE" "Lcom/example/dicewright/dicewright/games/ciub/Colour;" (.ref c2)) (ST4 : Sta Z h0 "com/example/dicewright/dicewright/games/ciub/Colour" "YELLOW" "Lcom/example/dicewright/dicewright/games/ciub/Colour;" (.ref c3)) (ST5 : Sta Z h0 "com/example/dicewright/dicewright/games/ciub/Colour" "GREEN" "Lcom/example/dicewright/dicewright/games/ciub/Colour;" (.ref c4)) (ST6 : Sta Z h0 "com/example/dicewright/dicewright/games/ciub/Colour" "BLUE" "Lcom/example/dicewright/dicewright/games/ciub/Colour;" (.ref c5)) (ST7 : Sta Z h0 "com/example/dicewright/dicewright/games/ciub/Colour" "PURPLE" "Lcom/example/dicewright/dicewright/games/ciub/Colour;" (.ref c6)) :
    MetFree l (⟨"com/example/dicewright/dicewright/games/ciub/ColourOfLetterPinLaw", "expected", "(C)Lcom/example/dicewright/dicewright/games/ciub/Colour;"⟩ : MethodName) (head1 (Jvm.Cond.code (⟨"com/example/dicewright/dicewright/games/ciub/ColourOfLetterPinLaw", "expected", "(C)Lcom/example/dicewright/dicewright/games/ciub/Colour;"⟩ : MethodName) method_2_code 1 (some (.object "com/example/dicewright/dicewright/games/ciub/Colour")) :: ws) ({ frames := 0, cells := 0, slots := 0, locals := 0 } : Room)) (fun aa_ U => aa_ = #[(.int p)] ∧ Z.Warmed39 U.vm ∧ U.heap = h0) (fun _ _ _ _ _ => True) (fun _ U oo_ UV_ => ∃ vv_ LL_, oo_ = .returned vv_ ∧ Q_rmE Z p c0 c1 c2 c3 c4 c5 c6 h0 n0 vv_ UV_.heap LL_ ∧ FrameEnd U oo_ UV_ LL_ ({ frames := 0, cells := 0, slots := 0, locals := 0 } : Room).cells ({ frames := 0, cells := 0, slots := 0, locals := 0 } : Room).slots) := by
  refine MetFree.of_bodySF (plainFor_of_name pn_1) hisR ?_
  intro pg ev si mi args below meth ci s₁ Bd hml0 hP0 hK
  obtain ⟨rfl, hZ, hh⟩ := hP0
  have hx := Bd.exec
  have hby := Bd.bytes
  have hml : ci.maxLocals = 1 := hml0
  have hown : si.vm.findClass "com/example/dicewright/dicewright/games/ciub/ColourOfLetterPinLaw" = some mi.cls := findClass_of_methodNamed Bd.named
  have hnm := (name_of_methodNamed Bd.named Bd.method).1
  have X0 : Stand pg l ev ({ frames := 0, cells := 0, slots := 0, locals := 0 } : Room) si mi #[(.int p)] below meth ci s₁ [] 0 0 := Stand.of_body Bd
  have e0 : s₁.heap = h0 := by rw [← hh, Bd.state]; rfl
  have N0 := Fr.nil n0
  refine Go.start (fun P hP => ?_)
  refine Go.st (fun t_ k_ => castTop (ef_rmE mi p c0 c1 c2 c3 c4 c5 c6) k_) (A := s₁.setTop (mkF mi 0 #[.val (.int p)] [])) ?_
  show Go pg.tables ev below (s₁.setTop (mkF mi 0 #[.val (.int p)] [])) P
  refine Go.st (fun t_ k_ => XS.iloadN X0.here hx rfl (hb hby d_method_2_0) rfl k_) ?_
  show Go pg.tables ev below (s₁.setTop (mkF mi 1 #[.val (.int p)] [(.int p)])) P
  refine Go.st (fun t_ k_ => XS.bipush X0.here hx rfl (hb hby d_method_2_1) k_) ?_
  show Go pg.tables ev below (s₁.setTop (mkF mi 3 #[.val (.int p)] [(.int (119 : Int32)), (.int p)])) P
  by_cases hc3_1 : p = (119 : Int32)
  · refine Go.st (fun t_ k_ => XS.icmpNo X0.here hx rfl (hb hby d_method_2_3) rfl (teq hc3_1).2 k_) ?_
    show Go pg.tables ev below (s₁.setTop (mkF mi 6 #[.val (.int p)] [])) P
    obtain ⟨T1, X1, e1, st1⟩ := getS2 X0 hx hZ hown (host := "") (Or.inl (hw _ (List.mem_of_getElem? (i := 15) rfl))) Via.refl e0 ST1 (g := (mkF mi 6 #[.val (.int p)] [])) rfl (hb hby d_method_2_6)
    refine Go.st st1 ?_
    show Go pg.tables ev below (T1.setTop (mkF mi 9 #[.val (.int p)] [(.ref c0)])) P
    obtain ⟨fs, hr, hrun, hended, hW, hsame⟩ := X1.leave (v := some (.ref c0)) (fun h => by rw [Bd.returns] at h; cases h) (BodyLoose.notSynchronized Bd)
    refine ⟨_, _, ?_, hP _ _ ⟨hrun, hended, _, _, rfl, ?_, ⟨_, rfl⟩, hW, hsame.mono (by decide) (by decide)⟩⟩
    · exact retOut X1 hx Bd.returns rfl (Or.inr (Or.inr (Or.inr (Or.inr ⟨rfl, rfl, rfl⟩)))) (hb hby d_method_2_9) hr
    · show (some (.ref c0) : Option Value) = some (fE p c0 c1 c2 c3 c4 c5 c6) ∧ Fr n0 _ ∧ T1.heap = h0
      rw [e1]
      exact ⟨by rw [show fE p c0 c1 c2 c3 c4 c5 c6 = (.ref c0) from ((if_pos hc3_1).trans rfl)], N0, rfl⟩
  · refine Go.st (fun t_ k_ => XS.icmpYes X0.here hx rfl (pc0 := 3) (pc' := 10) rfl (hb hby d_method_2_3) rfl (feq hc3_1).2 (by decide) (by decide) k_) ?_
    show Go pg.tables ev below (s₁.setTop (mkF mi 10 #[.val (.int p)] [])) P
    refine Go.st (fun t_ k_ => XS.iloadN X0.here hx rfl (hb hby d_method_2_10) rfl k_) ?_
    show Go pg.tables ev below (s₁.setTop (mkF mi 11 #[.val (.int p)] [(.int p)])) P
    refine Go.st (fun t_ k_ => XS.bipush X0.here hx rfl (hb hby d_method_2_11) k_) ?_
    show Go pg.tables ev below (s₁.setTop (mkF mi 13 #[.val (.int p)] [(.int (114 : Int32)), (.int p)])) P
    by_cases hc13_2 : p = (114 : Int32)
    · refine Go.st (fun t_ k_ => XS.icmpNo X0.here hx rfl (hb hby d_method_2_13) rfl (teq hc13_2).2 k_) ?_
      show Go pg.tables ev below (s₁.setTop (mkF mi 16 #[.val (.int p)] [])) P
      obtain ⟨T2, X2, e2, st2⟩ := getS2 X0 hx hZ hown (host := "") (Or.inl (hw _ (List.mem_of_getElem? (i := 26) rfl))) Via.refl e0 ST2 (g := (mkF mi 16 #[.val (.int p)] [])) rfl (hb hby d_method_2_16)
      refine Go.st st2 ?_
      show Go pg.tables ev below (T2.setTop (mkF mi 19 #[.val (.int p)] [(.ref c1)])) P
      obtain ⟨fs, hr, hrun, hended, hW, hsame⟩ := X2.leave (v := some (.ref c1)) (fun h => by rw [Bd.returns] at h; cases h) (BodyLoose.notSynchronized Bd)
      refine ⟨_, _, ?_, hP _ _ ⟨hrun, hended, _, _, rfl, ?_, ⟨_, rfl⟩, hW, hsame.mono (by decide) (by decide)⟩⟩
      · exact retOut X2 hx Bd.returns rfl (Or.inr (Or.inr (Or.inr (Or.inr ⟨rfl, rfl, rfl⟩)))) (hb hby d_method_2_19) hr
      · show (some (.ref c1) : Option Value) = some (fE p c0 c1 c2 c3 c4 c5 c6) ∧ Fr n0 _ ∧ T2.heap = h0
        rw [e2]
        exact ⟨by rw [show fE p c0 c1 c2 c3 c4 c5 c6 = (.ref c1) from ((if_neg hc3_1).trans ((if_pos hc13_2).trans rfl))], N0, rfl⟩
    · refine Go.st (fun t_ k_ => XS.icmpYes X0.here hx rfl (pc0 := 13) (pc' := 20) rfl (hb hby d_method_2_13) rfl (feq hc13_2).2 (by decide) (by decide) k_) ?_
      show Go pg.tables ev below (s₁.setTop (mkF mi 20 #[.val (.int p)] [])) P
      refine Go.st (fun t_ k_ => XS.iloadN X0.here hx rfl (hb hby d_method_2_20) rfl k_) ?_
      show Go pg.tables ev below (s₁.setTop (mkF mi 21 #[.val (.int p)] [(.int p)])) P
      refine Go.st (fun t_ k_ => XS.bipush X0.here hx rfl (hb hby d_method_2_21) k_) ?_
      show Go pg.tables ev below (s₁.setTop (mkF mi 23 #[.val (.int p)] [(.int (111 : Int32)), (.int p)])) P
      by_cases hc23_3 : p = (111 : Int32)
      · refine Go.st (fun t_ k_ => XS.icmpNo X0.here hx rfl (hb hby d_method_2_23) rfl (teq hc23_3).2 k_) ?_
        show Go pg.tables ev below (s₁.setTop (mkF mi 26 #[.val (.int p)] [])) P
        obtain ⟨T3, X3, e3, st3⟩ := getS2 X0 hx hZ hown (host := "") (Or.inl (hw _ (List.mem_of_getElem? (i := 27) rfl))) Via.refl e0 ST3 (g := (mkF mi 26 #[.val (.int p)] [])) rfl (hb hby d_method_2_26)
        refine Go.st st3 ?_
        show Go pg.tables ev below (T3.setTop (mkF mi 29 #[.val (.int p)] [(.ref c2)])) P
        obtain ⟨fs, hr, hrun, hended, hW, hsame⟩ := X3.leave (v := some (.ref c2)) (fun h => by rw [Bd.returns] at h; cases h) (BodyLoose.notSynchronized Bd)
        refine ⟨_, _, ?_, hP _ _ ⟨hrun, hended, _, _, rfl, ?_, ⟨_, rfl⟩, hW, hsame.mono (by decide) (by decide)⟩⟩
        · exact retOut X3 hx Bd.returns rfl (Or.inr (Or.inr (Or.inr (Or.inr ⟨rfl, rfl, rfl⟩)))) (hb hby d_method_2_29) hr
        · show (some (.ref c2) : Option Value) = some (fE p c0 c1 c2 c3 c4 c5 c6) ∧ Fr n0 _ ∧ T3.heap = h0
          rw [e3]
          exact ⟨by rw [show fE p c0 c1 c2 c3 c4 c5 c6 = (.ref c2) from ((if_neg hc3_1).trans ((if_neg hc13_2).trans ((if_pos hc23_3).trans rfl)))], N0, rfl⟩
      · refine Go.st (fun t_ k_ => XS.icmpYes X0.here hx rfl (pc0 := 23) (pc' := 30) rfl (hb hby d_method_2_23) rfl (feq hc23_3).2 (by decide) (by decide) k_) ?_
        show Go pg.tables ev below (s₁.setTop (mkF mi 30 #[.val (.int p)] [])) P
        refine Go.st (fun t_ k_ => XS.iloadN X0.here hx rfl (hb hby d_method_2_30) rfl k_) ?_
        show Go pg.tables ev below (s₁.setTop (mkF mi 31 #[.val (.int p)] [(.int p)])) P
        refine Go.st (fun t_ k_ => XS.bipush X0.here hx rfl (hb hby d_method_2_31) k_) ?_
        show Go pg.tables ev below (s₁.setTop (mkF mi 33 #[.val (.int p)] [(.int (121 : Int32)), (.int p)])) P
        by_cases hc33_4 : p = (121 : Int32)
        · refine Go.st (fun t_ k_ => XS.icmpNo X0.here hx rfl (hb hby d_method_2_33) rfl (teq hc33_4).2 k_) ?_
          show Go pg.tables ev below (s₁.setTop (mkF mi 36 #[.val (.int p)] [])) P
          obtain ⟨T4, X4, e4, st4⟩ := getS2 X0 hx hZ hown (host := "") (Or.inl (hw _ (List.mem_of_getElem? (i := 25) rfl))) Via.refl e0 ST4 (g := (mkF mi 36 #[.val (.int p)] [])) rfl (hb hby d_method_2_36)
          refine Go.st st4 ?_
          show Go pg.tables ev below (T4.setTop (mkF mi 39 #[.val (.int p)] [(.ref c3)])) P
          obtain ⟨fs, hr, hrun, hended, hW, hsame⟩ := X4.leave (v := some (.ref c3)) (fun h => by rw [Bd.returns] at h; cases h) (BodyLoose.notSynchronized Bd)
          refine ⟨_, _, ?_, hP _ _ ⟨hrun, hended, _, _, rfl, ?_, ⟨_, rfl⟩, hW, hsame.mono (by decide) (by decide)⟩⟩
          · exact retOut X4 hx Bd.returns rfl (Or.inr (Or.inr (Or.inr (Or.inr ⟨rfl, rfl, rfl⟩)))) (hb hby d_method_2_39) hr
          · show (some (.ref c3) : Option Value) = some (fE p c0 c1 c2 c3 c4 c5 c6) ∧ Fr n0 _ ∧ T4.heap = h0
            rw [e4]
            exact ⟨by rw [show fE p c0 c1 c2 c3 c4 c5 c6 = (.ref c3) from ((if_neg hc3_1).trans ((if_neg hc13_2).trans ((if_neg hc23_3).trans ((if_pos hc33_4).trans rfl))))], N0, rfl⟩
        · refine Go.st (fun t_ k_ => XS.icmpYes X0.here hx rfl (pc0 := 33) (pc' := 40) rfl (hb hby d_method_2_33) rfl (feq hc33_4).2 (by decide) (by decide) k_) ?_
          show Go pg.tables ev below (s₁.setTop (mkF mi 40 #[.val (.int p)] [])) P
          refine Go.st (fun t_ k_ => XS.iloadN X0.here hx rfl (hb hby d_method_2_40) rfl k_) ?_
          show Go pg.tables ev below (s₁.setTop (mkF mi 41 #[.val (.int p)] [(.int p)])) P
          refine Go.st (fun t_ k_ => XS.bipush X0.here hx rfl (hb hby d_method_2_41) k_) ?_
          show Go pg.tables ev below (s₁.setTop (mkF mi 43 #[.val (.int p)] [(.int (103 : Int32)), (.int p)])) P
          by_cases hc43_5 : p = (103 : Int32)
          · refine Go.st (fun t_ k_ => XS.icmpNo X0.here hx rfl (hb hby d_method_2_43) rfl (teq hc43_5).2 k_) ?_
            show Go pg.tables ev below (s₁.setTop (mkF mi 46 #[.val (.int p)] [])) P
            obtain ⟨T5, X5, e5, st5⟩ := getS2 X0 hx hZ hown (host := "") (Or.inl (hw _ (List.mem_of_getElem? (i := 23) rfl))) Via.refl e0 ST5 (g := (mkF mi 46 #[.val (.int p)] [])) rfl (hb hby d_method_2_46)
            refine Go.st st5 ?_
            show Go pg.tables ev below (T5.setTop (mkF mi 49 #[.val (.int p)] [(.ref c4)])) P
            obtain ⟨fs, hr, hrun, hended, hW, hsame⟩ := X5.leave (v := some (.ref c4)) (fun h => by rw [Bd.returns] at h; cases h) (BodyLoose.notSynchronized Bd)
            refine ⟨_, _, ?_, hP _ _ ⟨hrun, hended, _, _, rfl, ?_, ⟨_, rfl⟩, hW, hsame.mono (by decide) (by decide)⟩⟩
            · exact retOut X5 hx Bd.returns rfl (Or.inr (Or.inr (Or.inr (Or.inr ⟨rfl, rfl, rfl⟩)))) (hb hby d_method_2_49) hr
            · show (some (.ref c4) : Option Value) = some (fE p c0 c1 c2 c3 c4 c5 c6) ∧ Fr n0 _ ∧ T5.heap = h0
              rw [e5]
              exact ⟨by rw [show fE p c0 c1 c2 c3 c4 c5 c6 = (.ref c4) from ((if_neg hc3_1).trans ((if_neg hc13_2).trans ((if_neg hc23_3).trans ((if_neg hc33_4).trans ((if_pos hc43_5).trans rfl)))))], N0, rfl⟩
          · refine Go.st (fun t_ k_ => XS.icmpYes X0.here hx rfl (pc0 := 43) (pc' := 50) rfl (hb hby d_method_2_43) rfl (feq hc43_5).2 (by decide) (by decide) k_) ?_
            show Go pg.tables ev below (s₁.setTop (mkF mi 50 #[.val (.int p)] [])) P
            refine Go.st (fun t_ k_ => XS.iloadN X0.here hx rfl (hb hby d_method_2_50) rfl k_) ?_
            show Go pg.tables ev below (s₁.setTop (mkF mi 51 #[.val (.int p)] [(.int p)])) P
            refine Go.st (fun t_ k_ => XS.bipush X0.here hx rfl (hb hby d_method_2_51) k_) ?_
            show Go pg.tables ev below (s₁.setTop (mkF mi 53 #[.val (.int p)] [(.int (98 : Int32)), (.int p)])) P
            by_cases hc53_6 : p = (98 : Int32)
            · refine Go.st (fun t_ k_ => XS.icmpNo X0.here hx rfl (hb hby d_method_2_53) rfl (teq hc53_6).2 k_) ?_
              show Go pg.tables ev below (s₁.setTop (mkF mi 56 #[.val (.int p)] [])) P
              obtain ⟨T6, X6, e6, st6⟩ := getS2 X0 hx hZ hown (host := "") (Or.inl (hw _ (List.mem_of_getElem? (i := 24) rfl))) Via.refl e0 ST6 (g := (mkF mi 56 #[.val (.int p)] [])) rfl (hb hby d_method_2_56)
              refine Go.st st6 ?_
              show Go pg.tables ev below (T6.setTop (mkF mi 59 #[.val (.int p)] [(.ref c5)])) P
              obtain ⟨fs, hr, hrun, hended, hW, hsame⟩ := X6.leave (v := some (.ref c5)) (fun h => by rw [Bd.returns] at h; cases h) (BodyLoose.notSynchronized Bd)
              refine ⟨_, _, ?_, hP _ _ ⟨hrun, hended, _, _, rfl, ?_, ⟨_, rfl⟩, hW, hsame.mono (by decide) (by decide)⟩⟩
              · exact retOut X6 hx Bd.returns rfl (Or.inr (Or.inr (Or.inr (Or.inr ⟨rfl, rfl, rfl⟩)))) (hb hby d_method_2_59) hr
              · show (some (.ref c5) : Option Value) = some (fE p c0 c1 c2 c3 c4 c5 c6) ∧ Fr n0 _ ∧ T6.heap = h0
                rw [e6]
                exact ⟨by rw [show fE p c0 c1 c2 c3 c4 c5 c6 = (.ref c5) from ((if_neg hc3_1).trans ((if_neg hc13_2).trans ((if_neg hc23_3).trans ((if_neg hc33_4).trans ((if_neg hc43_5).trans ((if_pos hc53_6).trans rfl))))))], N0, rfl⟩
            · refine Go.st (fun t_ k_ => XS.icmpYes X0.here hx rfl (pc0 := 53) (pc' := 60) rfl (hb hby d_method_2_53) rfl (feq hc53_6).2 (by decide) (by decide) k_) ?_
              show Go pg.tables ev below (s₁.setTop (mkF mi 60 #[.val (.int p)] [])) P
              refine Go.st (fun t_ k_ => XS.iloadN X0.here hx rfl (hb hby d_method_2_60) rfl k_) ?_
              show Go pg.tables ev below (s₁.setTop (mkF mi 61 #[.val (.int p)] [(.int p)])) P
              refine Go.st (fun t_ k_ => XS.bipush X0.here hx rfl (hb hby d_method_2_61) k_) ?_
              show Go pg.tables ev below (s₁.setTop (mkF mi 63 #[.val (.int p)] [(.int (112 : Int32)), (.int p)])) P
              by_cases hc63_7 : p = (112 : Int32)
              · refine Go.st (fun t_ k_ => XS.icmpNo X0.here hx rfl (hb hby d_method_2_63) rfl (teq hc63_7).2 k_) ?_
                show Go pg.tables ev below (s₁.setTop (mkF mi 66 #[.val (.int p)] [])) P
                obtain ⟨T7, X7, e7, st7⟩ := getS2 X0 hx hZ hown (host := "") (Or.inl (hw _ (List.mem_of_getElem? (i := 22) rfl))) Via.refl e0 ST7 (g := (mkF mi 66 #[.val (.int p)] [])) rfl (hb hby d_method_2_66)
                refine Go.st st7 ?_
                show Go pg.tables ev below (T7.setTop (mkF mi 69 #[.val (.int p)] [(.ref c6)])) P
                obtain ⟨fs, hr, hrun, hended, hW, hsame⟩ := X7.leave (v := some (.ref c6)) (fun h => by rw [Bd.returns] at h; cases h) (BodyLoose.notSynchronized Bd)
                refine ⟨_, _, ?_, hP _ _ ⟨hrun, hended, _, _, rfl, ?_, ⟨_, rfl⟩, hW, hsame.mono (by decide) (by decide)⟩⟩
                · exact retOut X7 hx Bd.returns rfl (Or.inr (Or.inr (Or.inr (Or.inr ⟨rfl, rfl, rfl⟩)))) (hb hby d_method_2_69) hr
                · show (some (.ref c6) : Option Value) = some (fE p c0 c1 c2 c3 c4 c5 c6) ∧ Fr n0 _ ∧ T7.heap = h0
                  rw [e7]
                  exact ⟨by rw [show fE p c0 c1 c2 c3 c4 c5 c6 = (.ref c6) from ((if_neg hc3_1).trans ((if_neg hc13_2).trans ((if_neg hc23_3).trans ((if_neg hc33_4).trans ((if_neg hc43_5).trans ((if_neg hc53_6).trans ((if_pos hc63_7).trans rfl)))))))], N0, rfl⟩
              · refine Go.st (fun t_ k_ => XS.icmpYes X0.here hx rfl (pc0 := 63) (pc' := 70) rfl (hb hby d_method_2_63) rfl (feq hc63_7).2 (by decide) (by decide) k_) ?_
                show Go pg.tables ev below (s₁.setTop (mkF mi 70 #[.val (.int p)] [])) P
                refine Go.st (fun t_ k_ => XS.aconstNull X0.here hx rfl (hb hby d_method_2_70) k_) ?_
                show Go pg.tables ev below (s₁.setTop (mkF mi 71 #[.val (.int p)] [.null])) P
                obtain ⟨fs, hr, hrun, hended, hW, hsame⟩ := X0.leave (v := some .null) (fun h => by rw [Bd.returns] at h; cases h) (BodyLoose.notSynchronized Bd)
                refine ⟨_, _, ?_, hP _ _ ⟨hrun, hended, _, _, rfl, ?_, ⟨_, rfl⟩, hW, hsame.mono (by decide) (by decide)⟩⟩
                · exact retOut X0 hx Bd.returns rfl (Or.inr (Or.inr (Or.inr (Or.inr ⟨rfl, rfl, rfl⟩)))) (hb hby d_method_2_71) hr
                · show (some .null : Option Value) = some (fE p c0 c1 c2 c3 c4 c5 c6) ∧ Fr n0 _ ∧ s₁.heap = h0
                  rw [e0]
                  exact ⟨by rw [show fE p c0 c1 c2 c3 c4 c5 c6 = .null from ((if_neg hc3_1).trans ((if_neg hc13_2).trans ((if_neg hc23_3).trans ((if_neg hc33_4).trans ((if_neg hc43_5).trans ((if_neg hc53_6).trans ((if_neg hc63_7).trans rfl)))))))], N0, rfl⟩
theorem own_law (p : Int32) (c0 c1 c2 c3 c4 c5 c6 : Addr) : fO p c0 c1 c2 c3 c4 c5 c6 = fE p c0 c1 c2 c3 c4 c5 c6 := by
  unfold fO fE
  simp only [eq_comm (b := p)]
theorem own_ref (p : Int32) (c0 c1 c2 c3 c4 c5 c6 : Addr) : (fE p c0 c1 c2 c3 c4 c5 c6).isRef = true := by
  unfold fE
  repeat' split
  all_goals rfl
theorem own_in (x : Int32) : ¬ ((x &&& (2147483647 : Int32)) % (8 : Int32)) < 0 ∧ ((x &&& (2147483647 : Int32)) % (8 : Int32)) < (8 : Int32) := by
  have e := c_mask x 2147483647 31 (by decide) (by decide)
  have e2 := c_irem (x &&& (2147483647 : Int32)) 8 8 rfl
  have l0 : (0 : Int32).toInt = 0 := rfl
  have l1 : (8 : Int32).toInt = 8 := rfl
  simp only [Int32.lt_iff_toInt_lt]; omega
theorem own_fit {v : Value} (h : fits .char v = true) : ∃ z, v = .int z := by cases v <;> simp [fits] at h ⊢
theorem pd_0 : parseMethodDescriptor "(C)Lcom/example/dicewright/dicewright/games/ciub/Colour;" = some ⟨[.char], some (.object "com/example/dicewright/dicewright/games/ciub/Colour")⟩ := by decide +kernel
theorem ef_rm0 (mi : MethodId) (x0 : Int32) (pk : Int32) (ar : Addr) (ka : ClassId) (c0 : Addr) (c1 : Addr) (c2 : Addr) (c3 : Addr) (c4 : Addr) (c5 : Addr) (c6 : Addr) : entryFrame mi #[(.int x0), (.int pk)] maxLocals = mkF mi 0 #[.val (.int x0), .val (.int pk), .unset, .unset] [] := by first | (simp [entryFrame, mkF, argsToLocals, Value.category, maxLocals]; done) | rfl
def Q_rm0 (Z : State) (x0 : Int32) (pk : Int32) (ar : Addr) (ka : ClassId) (c0 : Addr) (c1 : Addr) (c2 : Addr) (c3 : Addr) (c4 : Addr) (c5 : Addr) (c6 : Addr) (h0 : Heap) (n0 : Nat) (vv_ : Option Value) (hh_ : Heap) (LL_ : List Loc) : Prop := vv_ = some (.int 1) ∧ Fr n0 LL_
set_option maxRecDepth 65536 in
set_option maxHeartbeats 40000000 in
theorem rm0 (l : Launch) (Z : State) (a0 : Array Value) (hw : ∀ d ∈ tables_1, d.before a0 Z = true) (ws : List Jvm.Cond) (x0 : Int32) (pk : Int32) (ar : Addr) (ka : ClassId) (c0 : Addr) (c1 : Addr) (c2 : Addr) (c3 : Addr) (c4 : Addr) (c5 : Addr) (c6 : Addr) (h0 : Heap) (n0 : Nat) (Z0 : n0 ≤ h0.size) (ST0 : Sta Z h0 "com/example/dicewright/dicewright/games/ciub/Colour" "ALL" "[Lcom/example/dicewright/dicewright/games/ciub/Colour;" (.ref ar)) (A0 : Arv Z h0 ar ka (.object "com/example/dicewright/dicewright/games/ciub/Colour") (7 : Int32) [(.ref c0), (.ref c1), (.ref c2), (.ref c3), (.ref c4), (.ref c5), (.ref c6)] .null) (F0 : Fld Z h0 c0 "com/example/dicewright/dicewright/games/ciub/Colour" "letter" "C" (.int (119 : Int32))) (F1 : Fld Z h0 c1 "com/example/dicewright/dicewright/games/ciub/Colour" "letter" "C" (.int (114 : Int32))) (F2 : Fld Z h0 c2 "com/example/dicewright/dicewright/games/ciub/Colour" "letter" "C" (.int (111 : Int32))) (F3 : Fld Z h0 c3 "com/example/dicewright/dicewright/games/ciub/Colour" "letter" "C" (.int (121 : Int32))) (F4 : Fld Z h0 c4 "com/example/dicewright/dicewright/games/ciub/Colour" "letter" "C" (.int (103 : Int32))) (F5 : Fld Z h0 c5 "com/example/dicewright/dicewright/games/ciub/Colour" "letter" "C" (.int (98 : Int32))) (F6 : Fld Z h0 c6 "com/example/dicewright/dicewright/games/ciub/Colour" "letter" "C" (.int (112 : Int32))) (ST1 : Sta Z h0 "com/example/dicewright/dicewright/games/ciub/Colour" "WHITE" "Lcom/example/dicewright/dicewright/games/ciub/Colour;" (.ref c0)) (ST2 : Sta Z h0 "com/example/dicewright/dicewright/games/ciub/Colour" "RED" "Lcom/example/dicewright/dicewright/games/ciub/Colour;" (.ref c1)) (ST3 : Sta Z h0 "com/example/dicewright/dicewright/games/ciub/Colour" "ORANGE" "Lcom/example/dicewright/dicewright/games/ciub/Colour;" (.ref c2)) (ST4 : Sta Z h0 "com/example/dicewright/dicewright/games/ciub/Colour" "YELLOW" "Lcom/example/dicewright/dicewright/games/ciub/Colour;" (.ref c3)) (ST5 : Sta Z h0 "com/example/dicewright/dicewright/games/ciub/Colour" "GREEN" "Lcom/example/dicewright/dicewright/games/ciub/Colour;" (.ref c4)) (ST6 : Sta Z h0 "com/example/dicewright/dicewright/games/ciub/Colour" "BLUE" "Lcom/example/dicewright/dicewright/games/ciub/Colour;" (.ref c5)) (ST7 : Sta Z h0 "com/example/dicewright/dicewright/games/ciub/Colour" "PURPLE" "Lcom/example/dicewright/dicewright/games/ciub/Colour;" (.ref c6)) :
    MetFree l x (head1 (Jvm.Cond.code x code maxLocals ret :: ws) room_1) (fun aa_ U => aa_ = #[(.int x0), (.int pk)] ∧ Z.Warmed39 U.vm ∧ U.heap = h0) (fun _ _ _ _ _ => True) (fun _ U oo_ UV_ => ∃ vv_ LL_, oo_ = .returned vv_ ∧ Q_rm0 Z x0 pk ar ka c0 c1 c2 c3 c4 c5 c6 h0 n0 vv_ UV_.heap LL_ ∧ FrameEnd U oo_ UV_ LL_ room_1.cells room_1.slots) := by
  refine MetFree.of_bodySF (plainFor_of_name pn_1) hisR ?_
  intro pg ev si mi args below meth ci s₁ Bd hml0 hP0 hK
  obtain ⟨rfl, hZ, hh⟩ := hP0
  have hx := Bd.exec
  have hby := Bd.bytes
  have hml : ci.maxLocals = 4 := hml0
  have hown : si.vm.findClass "com/example/dicewright/dicewright/games/ciub/ColourOfLetterPinLaw" = some mi.cls := findClass_of_methodNamed Bd.named
  have hnm := (name_of_methodNamed Bd.named Bd.method).1
  have X0 : Stand pg l ev room_1 si mi #[(.int x0), (.int pk)] below meth ci s₁ [] 0 0 := Stand.of_body Bd
  have e0 : s₁.heap = h0 := by rw [← hh, Bd.state]; rfl
  have N0 := Fr.nil n0
  refine Go.start (fun P hP => ?_)
  refine Go.st (fun t_ k_ => castTop (ef_rm0 mi x0 pk ar ka c0 c1 c2 c3 c4 c5 c6) k_) (A := s₁.setTop (mkF mi 0 #[.val (.int x0), .val (.int pk), .unset, .unset] [])) ?_
  show Go pg.tables ev below (s₁.setTop (mkF mi 0 #[.val (.int x0), .val (.int pk), .unset, .unset] [])) P
  refine Go.st (fun t_ k_ => XS.bipush X0.here hx rfl (hb hby at_0) k_) ?_
  show Go pg.tables ev below (s₁.setTop (mkF mi 2 #[.val (.int x0), .val (.int pk), .unset, .unset] [(.int (8 : Int32))])) P
  obtain ⟨T1, h1, k1, X1, e1, E1, A1, st1⟩ := newP X0 hx hZ (hw _ (List.mem_of_getElem? (i := 0) rfl)) e0 (g := (mkF mi 2 #[.val (.int x0), .val (.int pk), .unset, .unset] [(.int (8 : Int32))])) rfl (hb hby at_2) rfl (by decide) (cap := 8) (by decide) (by decide) (by decide) (by decide)
  obtain ⟨b1, g1⟩ : ∃ z, z = h0.size := ⟨_, rfl⟩
  rw [← g1] at A1 st1
  have Zs2 : n0 ≤ h1.size := Nat.le_trans Z0 E1.1
  have g_b1 : n0 ≤ b1 := Nat.le_trans Z0 (Nat.le_of_eq g1.symm)
  have ne_ar_b1 : ar ≠ b1 := Nat.ne_of_lt (Nat.lt_of_lt_of_le A0.lt (Nat.le_of_eq g1.symm))
  have ne_c0_b1 : c0 ≠ b1 := Nat.ne_of_lt (Nat.lt_of_lt_of_le F0.lt (Nat.le_of_eq g1.symm))
  have ne_c1_b1 : c1 ≠ b1 := Nat.ne_of_lt (Nat.lt_of_lt_of_le F1.lt (Nat.le_of_eq g1.symm))
  have ne_c2_b1 : c2 ≠ b1 := Nat.ne_of_lt (Nat.lt_of_lt_of_le F2.lt (Nat.le_of_eq g1.symm))
  have ne_c3_b1 : c3 ≠ b1 := Nat.ne_of_lt (Nat.lt_of_lt_of_le F3.lt (Nat.le_of_eq g1.symm))
  have ne_c4_b1 : c4 ≠ b1 := Nat.ne_of_lt (Nat.lt_of_lt_of_le F4.lt (Nat.le_of_eq g1.symm))
  have ne_c5_b1 : c5 ≠ b1 := Nat.ne_of_lt (Nat.lt_of_lt_of_le F5.lt (Nat.le_of_eq g1.symm))
  have ne_c6_b1 : c6 ≠ b1 := Nat.ne_of_lt (Nat.lt_of_lt_of_le F6.lt (Nat.le_of_eq g1.symm))
  have V1 : Arv Z h1 b1 k1 .char (8 : Int32) [(.int (0 : Int32)), (.int (0 : Int32)), (.int (0 : Int32)), (.int (0 : Int32)), (.int (0 : Int32)), (.int (0 : Int32)), (.int (0 : Int32)), (.int (0 : Int32))] (.int (0 : Int32)) := (Arv.new A1 (by decide)).pad (pad_rep [] (.int (0 : Int32)) 8)
  refine Go.st st1 ?_
  show Go pg.tables ev below (T1.setTop (mkF mi 4 #[.val (.int x0), .val (.int pk), .unset, .unset] [(.ref b1)])) P
  refine Go.st (fun t_ k_ => XS.dup X1.here hx rfl (hb hby at_4) rfl rfl k_) ?_
  show Go pg.tables ev below (T1.setTop (mkF mi 5 #[.val (.int x0), .val (.int pk), .unset, .unset] [(.ref b1), (.ref b1)])) P
  refine Go.st (fun t_ k_ => XS.iconst X1.here hx rfl (hb hby at_5) k_) ?_
  show Go pg.tables ev below (T1.setTop (mkF mi 6 #[.val (.int x0), .val (.int pk), .unset, .unset] [(.int (0 : Int32)), (.ref b1), (.ref b1)])) P
  refine Go.st (fun t_ k_ => XS.bipush X1.here hx rfl (hb hby at_6) k_) ?_
  show Go pg.tables ev below (T1.setTop (mkF mi 8 #[.val (.int x0), .val (.int pk), .unset, .unset] [(.int (119 : Int32)), (.int (0 : Int32)), (.ref b1), (.ref b1)])) P
  have ov3 := V1
  obtain ⟨cl3, Ar3, q3, S3, M3, H3, G3⟩ := ov3
  have hin3 : ¬ ((0 : Int32) < 0 ∨ cl3.slots.size ≤ ((0 : Int32)).toNatClampNeg) := inb_of S3 ⟨by decide, by decide⟩
  obtain ⟨T4, h4, X4, e4, W4, st4⟩ := stC X1 hx hZ e1 Ar3 (j := (0 : Int32)) hin3 (g := (mkF mi 8 #[.val (.int x0), .val (.int pk), .unset, .unset] [(.int (119 : Int32)), (.int (0 : Int32)), (.ref b1), (.ref b1)])) rfl rfl (hb hby at_8)
  have Zs5 : n0 ≤ h4.size := Nat.le_trans Zs2 (Keep.of_wr W4).1
  have N5 := Fr.snoc X4 N0 g_b1
  have V4 : Arv Z h4 b1 k1 .char (8 : Int32) [(.int (119 : Int32)), (.int (0 : Int32)), (.int (0 : Int32)), (.int (0 : Int32)), (.int (0 : Int32)), (.int (0 : Int32)), (.int (0 : Int32)), (.int (0 : Int32))] (.int (0 : Int32)) := Arv.set Ar3 q3 S3 M3 H3 G3 (fits_nar_char _) W4 0 rfl (Nat.le_of_ble_eq_true rfl)
  refine Go.st st4 ?_
  show Go pg.tables ev below (T4.setTop (mkF mi 9 #[.val (.int x0), .val (.int pk), .unset, .unset] [(.ref b1)])) P
  refine Go.st (fun t_ k_ => XS.dup X4.here hx rfl (hb hby at_9) rfl rfl k_) ?_
  show Go pg.tables ev below (T4.setTop (mkF mi 10 #[.val (.int x0), .val (.int pk), .unset, .unset] [(.ref b1), (.ref b1)])) P
  refine Go.st (fun t_ k_ => XS.iconst X4.here hx rfl (hb hby at_10) k_) ?_
  show Go pg.tables ev below (T4.setTop (mkF mi 11 #[.val (.int x0), .val (.int pk), .unset, .unset] [(.int (1 : Int32)), (.ref b1), (.ref b1)])) P
  refine Go.st (fun t_ k_ => XS.bipush X4.here hx rfl (hb hby at_11) k_) ?_
  show Go pg.tables ev below (T4.setTop (mkF mi 13 #[.val (.int x0), .val (.int pk), .unset, .unset] [(.int (114 : Int32)), (.int (1 : Int32)), (.ref b1), (.ref b1)])) P
  have ov6 := V4
  obtain ⟨cl6, Ar6, q6, S6, M6, H6, G6⟩ := ov6
  have hin6 : ¬ ((1 : Int32) < 0 ∨ cl6.slots.size ≤ ((1 : Int32)).toNatClampNeg) := inb_of S6 ⟨by decide, by decide⟩
  obtain ⟨T7, h7, X7, e7, W7, st7⟩ := stC X4 hx hZ e4 Ar6 (j := (1 : Int32)) hin6 (g := (mkF mi 13 #[.val (.int x0), .val (.int pk), .unset, .unset] [(.int (114 : Int32)), (.int (1 : Int32)), (.ref b1), (.ref b1)])) rfl rfl (hb hby at_13)
  have Zs8 : n0 ≤ h7.size := Nat.le_trans Zs5 (Keep.of_wr W7).1
  have N8 := Fr.snoc X7 N5 g_b1
  have V7 : Arv Z h7 b1 k1 .char (8 : Int32) [(.int (119 : Int32)), (.int (114 : Int32)), (.int (0 : Int32)), (.int (0 : Int32)), (.int (0 : Int32)), (.int (0 : Int32)), (.int (0 : Int32)), (.int (0 : Int32))] (.int (0 : Int32)) := Arv.set Ar6 q6 S6 M6 H6 G6 (fits_nar_char _) W7 1 rfl (Nat.le_of_ble_eq_true rfl)
  refine Go.st st7 ?_
  show Go pg.tables ev below (T7.setTop (mkF mi 14 #[.val (.int x0), .val (.int pk), .unset, .unset] [(.ref b1)])) P
  refine Go.st (fun t_ k_ => XS.dup X7.here hx rfl (hb hby at_14) rfl rfl k_) ?_
  show Go pg.tables ev below (T7.setTop (mkF mi 15 #[.val (.int x0), .val (.int pk), .unset, .unset] [(.ref b1), (.ref b1)])) P
  refine Go.st (fun t_ k_ => XS.iconst X7.here hx rfl (hb hby at_15) k_) ?_
  show Go pg.tables ev below (T7.setTop (mkF mi 16 #[.val (.int x0), .val (.int pk), .unset, .unset] [(.int (2 : Int32)), (.ref b1), (.ref b1)])) P
  refine Go.st (fun t_ k_ => XS.bipush X7.here hx rfl (hb hby at_16) k_) ?_
  show Go pg.tables ev below (T7.setTop (mkF mi 18 #[.val (.int x0), .val (.int pk), .unset, .unset] [(.int (111 : Int32)), (.int (2 : Int32)), (.ref b1), (.ref b1)])) P
  have ov9 := V7
  obtain ⟨cl9, Ar9, q9, S9, M9, H9, G9⟩ := ov9
  have hin9 : ¬ ((2 : Int32) < 0 ∨ cl9.slots.size ≤ ((2 : Int32)).toNatClampNeg) := inb_of S9 ⟨by decide, by decide⟩
  obtain ⟨T10, h10, X10, e10, W10, st10⟩ := stC X7 hx hZ e7 Ar9 (j := (2 : Int32)) hin9 (g := (mkF mi 18 #[.val (.int x0), .val (.int pk), .unset, .unset] [(.int (111 : Int32)), (.int (2 : Int32)), (.ref b1), (.ref b1)])) rfl rfl (hb hby at_18)
  have Zs11 : n0 ≤ h10.size := Nat.le_trans Zs8 (Keep.of_wr W10).1
  have N11 := Fr.snoc X10 N8 g_b1
  have V10 : Arv Z h10 b1 k1 .char (8 : Int32) [(.int (119 : Int32)), (.int (114 : Int32)), (.int (111 : Int32)), (.int (0 : Int32)), (.int (0 : Int32)), (.int (0 : Int32)), (.int (0 : Int32)), (.int (0 : Int32))] (.int (0 : Int32)) := Arv.set Ar9 q9 S9 M9 H9 G9 (fits_nar_char _) W10 2 rfl (Nat.le_of_ble_eq_true rfl)
  refine Go.st st10 ?_
  show Go pg.tables ev below (T10.setTop (mkF mi 19 #[.val (.int x0), .val (.int pk), .unset, .unset] [(.ref b1)])) P
  refine Go.st (fun t_ k_ => XS.dup X10.here hx rfl (hb hby at_19) rfl rfl k_) ?_
  show Go pg.tables ev below (T10.setTop (mkF mi 20 #[.val (.int x0), .val (.int pk), .unset, .unset] [(.ref b1), (.ref b1)])) P
  refine Go.st (fun t_ k_ => XS.iconst X10.here hx rfl (hb hby at_20) k_) ?_
  show Go pg.tables ev below (T10.setTop (mkF mi 21 #[.val (.int x0), .val (.int pk), .unset, .unset] [(.int (3 : Int32)), (.ref b1), (.ref b1)])) P
  refine Go.st (fun t_ k_ => XS.bipush X10.here hx rfl (hb hby at_21) k_) ?_
  show Go pg.tables ev below (T10.setTop (mkF mi 23 #[.val (.int x0), .val (.int pk), .unset, .unset] [(.int (121 : Int32)), (.int (3 : Int32)), (.ref b1), (.ref b1)])) P
  have ov12 := V10
  obtain ⟨cl12, Ar12, q12, S12, M12, H12, G12⟩ := ov12
  have hin12 : ¬ ((3 : Int32) < 0 ∨ cl12.slots.size ≤ ((3 : Int32)).toNatClampNeg) := inb_of S12 ⟨by decide, by decide⟩
  obtain ⟨T13, h13, X13, e13, W13, st13⟩ := stC X10 hx hZ e10 Ar12 (j := (3 : Int32)) hin12 (g := (mkF mi 23 #[.val (.int x0), .val (.int pk), .unset, .unset] [(.int (121 : Int32)), (.int (3 : Int32)), (.ref b1), (.ref b1)])) rfl rfl (hb hby at_23)
  have Zs14 : n0 ≤ h13.size := Nat.le_trans Zs11 (Keep.of_wr W13).1
  have N14 := Fr.snoc X13 N11 g_b1
  have V13 : Arv Z h13 b1 k1 .char (8 : Int32) [(.int (119 : Int32)), (.int (114 : Int32)), (.int (111 : Int32)), (.int (121 : Int32)), (.int (0 : Int32)), (.int (0 : Int32)), (.int (0 : Int32)), (.int (0 : Int32))] (.int (0 : Int32)) := Arv.set Ar12 q12 S12 M12 H12 G12 (fits_nar_char _) W13 3 rfl (Nat.le_of_ble_eq_true rfl)
  refine Go.st st13 ?_
  show Go pg.tables ev below (T13.setTop (mkF mi 24 #[.val (.int x0), .val (.int pk), .unset, .unset] [(.ref b1)])) P
  refine Go.st (fun t_ k_ => XS.dup X13.here hx rfl (hb hby at_24) rfl rfl k_) ?_
  show Go pg.tables ev below (T13.setTop (mkF mi 25 #[.val (.int x0), .val (.int pk), .unset, .unset] [(.ref b1), (.ref b1)])) P
  refine Go.st (fun t_ k_ => XS.iconst X13.here hx rfl (hb hby at_25) k_) ?_
  show Go pg.tables ev below (T13.setTop (mkF mi 26 #[.val (.int x0), .val (.int pk), .unset, .unset] [(.int (4 : Int32)), (.ref b1), (.ref b1)])) P
  refine Go.st (fun t_ k_ => XS.bipush X13.here hx rfl (hb hby at_26) k_) ?_
  show Go pg.tables ev below (T13.setTop (mkF mi 28 #[.val (.int x0), .val (.int pk), .unset, .unset] [(.int (103 : Int32)), (.int (4 : Int32)), (.ref b1), (.ref b1)])) P
  have ov15 := V13
  obtain ⟨cl15, Ar15, q15, S15, M15, H15, G15⟩ := ov15
  have hin15 : ¬ ((4 : Int32) < 0 ∨ cl15.slots.size ≤ ((4 : Int32)).toNatClampNeg) := inb_of S15 ⟨by decide, by decide⟩
  obtain ⟨T16, h16, X16, e16, W16, st16⟩ := stC X13 hx hZ e13 Ar15 (j := (4 : Int32)) hin15 (g := (mkF mi 28 #[.val (.int x0), .val (.int pk), .unset, .unset] [(.int (103 : Int32)), (.int (4 : Int32)), (.ref b1), (.ref b1)])) rfl rfl (hb hby at_28)
  have Zs17 : n0 ≤ h16.size := Nat.le_trans Zs14 (Keep.of_wr W16).1
  have N17 := Fr.snoc X16 N14 g_b1
  have V16 : Arv Z h16 b1 k1 .char (8 : Int32) [(.int (119 : Int32)), (.int (114 : Int32)), (.int (111 : Int32)), (.int (121 : Int32)), (.int (103 : Int32)), (.int (0 : Int32)), (.int (0 : Int32)), (.int (0 : Int32))] (.int (0 : Int32)) := Arv.set Ar15 q15 S15 M15 H15 G15 (fits_nar_char _) W16 4 rfl (Nat.le_of_ble_eq_true rfl)
  refine Go.st st16 ?_
  show Go pg.tables ev below (T16.setTop (mkF mi 29 #[.val (.int x0), .val (.int pk), .unset, .unset] [(.ref b1)])) P
  refine Go.st (fun t_ k_ => XS.dup X16.here hx rfl (hb hby at_29) rfl rfl k_) ?_
  show Go pg.tables ev below (T16.setTop (mkF mi 30 #[.val (.int x0), .val (.int pk), .unset, .unset] [(.ref b1), (.ref b1)])) P
  refine Go.st (fun t_ k_ => XS.iconst X16.here hx rfl (hb hby at_30) k_) ?_
  show Go pg.tables ev below (T16.setTop (mkF mi 31 #[.val (.int x0), .val (.int pk), .unset, .unset] [(.int (5 : Int32)), (.ref b1), (.ref b1)])) P
  refine Go.st (fun t_ k_ => XS.bipush X16.here hx rfl (hb hby at_31) k_) ?_
  show Go pg.tables ev below (T16.setTop (mkF mi 33 #[.val (.int x0), .val (.int pk), .unset, .unset] [(.int (98 : Int32)), (.int (5 : Int32)), (.ref b1), (.ref b1)])) P
  have ov18 := V16
  obtain ⟨cl18, Ar18, q18, S18, M18, H18, G18⟩ := ov18
  have hin18 : ¬ ((5 : Int32) < 0 ∨ cl18.slots.size ≤ ((5 : Int32)).toNatClampNeg) := inb_of S18 ⟨by decide, by decide⟩
  obtain ⟨T19, h19, X19, e19, W19, st19⟩ := stC X16 hx hZ e16 Ar18 (j := (5 : Int32)) hin18 (g := (mkF mi 33 #[.val (.int x0), .val (.int pk), .unset, .unset] [(.int (98 : Int32)), (.int (5 : Int32)), (.ref b1), (.ref b1)])) rfl rfl (hb hby at_33)
  have Zs20 : n0 ≤ h19.size := Nat.le_trans Zs17 (Keep.of_wr W19).1
  have N20 := Fr.snoc X19 N17 g_b1
  have V19 : Arv Z h19 b1 k1 .char (8 : Int32) [(.int (119 : Int32)), (.int (114 : Int32)), (.int (111 : Int32)), (.int (121 : Int32)), (.int (103 : Int32)), (.int (98 : Int32)), (.int (0 : Int32)), (.int (0 : Int32))] (.int (0 : Int32)) := Arv.set Ar18 q18 S18 M18 H18 G18 (fits_nar_char _) W19 5 rfl (Nat.le_of_ble_eq_true rfl)
  refine Go.st st19 ?_
  show Go pg.tables ev below (T19.setTop (mkF mi 34 #[.val (.int x0), .val (.int pk), .unset, .unset] [(.ref b1)])) P
  refine Go.st (fun t_ k_ => XS.dup X19.here hx rfl (hb hby at_34) rfl rfl k_) ?_
  show Go pg.tables ev below (T19.setTop (mkF mi 35 #[.val (.int x0), .val (.int pk), .unset, .unset] [(.ref b1), (.ref b1)])) P
  refine Go.st (fun t_ k_ => XS.bipush X19.here hx rfl (hb hby at_35) k_) ?_
  show Go pg.tables ev below (T19.setTop (mkF mi 37 #[.val (.int x0), .val (.int pk), .unset, .unset] [(.int (6 : Int32)), (.ref b1), (.ref b1)])) P
  refine Go.st (fun t_ k_ => XS.bipush X19.here hx rfl (hb hby at_37) k_) ?_
  show Go pg.tables ev below (T19.setTop (mkF mi 39 #[.val (.int x0), .val (.int pk), .unset, .unset] [(.int (112 : Int32)), (.int (6 : Int32)), (.ref b1), (.ref b1)])) P
  have ov21 := V19
  obtain ⟨cl21, Ar21, q21, S21, M21, H21, G21⟩ := ov21
  have hin21 : ¬ ((6 : Int32) < 0 ∨ cl21.slots.size ≤ ((6 : Int32)).toNatClampNeg) := inb_of S21 ⟨by decide, by decide⟩
  obtain ⟨T22, h22, X22, e22, W22, st22⟩ := stC X19 hx hZ e19 Ar21 (j := (6 : Int32)) hin21 (g := (mkF mi 39 #[.val (.int x0), .val (.int pk), .unset, .unset] [(.int (112 : Int32)), (.int (6 : Int32)), (.ref b1), (.ref b1)])) rfl rfl (hb hby at_39)
  have Zs23 : n0 ≤ h22.size := Nat.le_trans Zs20 (Keep.of_wr W22).1
  have N23 := Fr.snoc X22 N20 g_b1
  have V22 : Arv Z h22 b1 k1 .char (8 : Int32) [(.int (119 : Int32)), (.int (114 : Int32)), (.int (111 : Int32)), (.int (121 : Int32)), (.int (103 : Int32)), (.int (98 : Int32)), (.int (112 : Int32)), (.int (0 : Int32))] (.int (0 : Int32)) := Arv.set Ar21 q21 S21 M21 H21 G21 (fits_nar_char _) W22 6 rfl (Nat.le_of_ble_eq_true rfl)
  refine Go.st st22 ?_
  show Go pg.tables ev below (T22.setTop (mkF mi 40 #[.val (.int x0), .val (.int pk), .unset, .unset] [(.ref b1)])) P
  refine Go.st (fun t_ k_ => XS.dup X22.here hx rfl (hb hby at_40) rfl rfl k_) ?_
  show Go pg.tables ev below (T22.setTop (mkF mi 41 #[.val (.int x0), .val (.int pk), .unset, .unset] [(.ref b1), (.ref b1)])) P
  refine Go.st (fun t_ k_ => XS.bipush X22.here hx rfl (hb hby at_41) k_) ?_
  show Go pg.tables ev below (T22.setTop (mkF mi 43 #[.val (.int x0), .val (.int pk), .unset, .unset] [(.int (7 : Int32)), (.ref b1), (.ref b1)])) P
  refine Go.st (fun t_ k_ => XS.bipush X22.here hx rfl (hb hby at_43) k_) ?_
  show Go pg.tables ev below (T22.setTop (mkF mi 45 #[.val (.int x0), .val (.int pk), .unset, .unset] [(.int (87 : Int32)), (.int (7 : Int32)), (.ref b1), (.ref b1)])) P
  have ov24 := V22
  obtain ⟨cl24, Ar24, q24, S24, M24, H24, G24⟩ := ov24
  have hin24 : ¬ ((7 : Int32) < 0 ∨ cl24.slots.size ≤ ((7 : Int32)).toNatClampNeg) := inb_of S24 ⟨by decide, by decide⟩
  obtain ⟨T25, h25, X25, e25, W25, st25⟩ := stC X22 hx hZ e22 Ar24 (j := (7 : Int32)) hin24 (g := (mkF mi 45 #[.val (.int x0), .val (.int pk), .unset, .unset] [(.int (87 : Int32)), (.int (7 : Int32)), (.ref b1), (.ref b1)])) rfl rfl (hb hby at_45)
  have Zs26 : n0 ≤ h25.size := Nat.le_trans Zs23 (Keep.of_wr W25).1
  have N26 := Fr.snoc X25 N23 g_b1
  have V25 : Arv Z h25 b1 k1 .char (8 : Int32) [(.int (119 : Int32)), (.int (114 : Int32)), (.int (111 : Int32)), (.int (121 : Int32)), (.int (103 : Int32)), (.int (98 : Int32)), (.int (112 : Int32)), (.int (87 : Int32))] (.int (0 : Int32)) := Arv.set Ar24 q24 S24 M24 H24 G24 (fits_nar_char _) W25 7 rfl (Nat.le_of_ble_eq_true rfl)
  refine Go.st st25 ?_
  show Go pg.tables ev below (T25.setTop (mkF mi 46 #[.val (.int x0), .val (.int pk), .unset, .unset] [(.ref b1)])) P
  refine Go.st (fun t_ k_ => XS.astoreN X25.here hx rfl (hb hby at_46) rfl rfl (l' := #[.val (.int x0), .val (.int pk), .val (.ref b1), .unset]) rfl k_) ?_
  show Go pg.tables ev below (T25.setTop (mkF mi 47 #[.val (.int x0), .val (.int pk), .val (.ref b1), .unset] [])) P
  refine Go.st (fun t_ k_ => XS.iloadN X25.here hx rfl (hb hby at_47) rfl k_) ?_
  show Go pg.tables ev below (T25.setTop (mkF mi 48 #[.val (.int x0), .val (.int pk), .val (.ref b1), .unset] [(.int pk)])) P
  refine Go.st (fun t_ k_ => XS.iconst X25.here hx rfl (hb hby at_48) k_) ?_
  show Go pg.tables ev below (T25.setTop (mkF mi 49 #[.val (.int x0), .val (.int pk), .val (.ref b1), .unset] [(.int (1 : Int32)), (.int pk)])) P
  refine Go.st (fun t_ k_ => XS.iand X25.here hx rfl (hb hby at_49) rfl k_) ?_
  show Go pg.tables ev below (T25.setTop (mkF mi 50 #[.val (.int x0), .val (.int pk), .val (.ref b1), .unset] [(.int (pk &&& (1 : Int32)))])) P
  by_cases hc50_1 : (pk &&& (1 : Int32)) = (0 : Int32)
  · refine Go.st (fun t_ k_ => XS.ifYes X25.here hx rfl (pc0 := 50) (pc' := 66) rfl (hb hby at_50) rfl ((if0 _ _).trans (teq hc50_1).1) (by decide) (by decide) k_) ?_
    show Go pg.tables ev below (T25.setTop (mkF mi 66 #[.val (.int x0), .val (.int pk), .val (.ref b1), .unset] [])) P
    refine Go.st (fun t_ k_ => XS.iloadN X25.here hx rfl (hb hby at_66) rfl k_) ?_
    show Go pg.tables ev below (T25.setTop (mkF mi 67 #[.val (.int x0), .val (.int pk), .val (.ref b1), .unset] [(.int x0)])) P
    refine Go.st (fun t_ k_ => XS.i2c X25.here hx rfl (hb hby at_67) rfl k_) ?_
    show Go pg.tables ev below (T25.setTop (mkF mi 68 #[.val (.int x0), .val (.int pk), .val (.ref b1), .unset] [(.int (x0.toUInt32.toUInt16.toUInt32.toInt32))])) P
    refine Go.st (fun t_ k_ => XS.istoreN X25.here hx rfl (hb hby at_68) rfl (l' := #[.val (.int x0), .val (.int pk), .val (.ref b1), .val (.int (x0.toUInt32.toUInt16.toUInt32.toInt32))]) rfl k_) ?_
    show Go pg.tables ev below (T25.setTop (mkF mi 69 #[.val (.int x0), .val (.int pk), .val (.ref b1), .val (.int (x0.toUInt32.toUInt16.toUInt32.toInt32))] [])) P
    refine Go.st (fun t_ k_ => XS.iloadN X25.here hx rfl (hb hby at_69) rfl k_) ?_
    show Go pg.tables ev below (T25.setTop (mkF mi 70 #[.val (.int x0), .val (.int pk), .val (.ref b1), .val (.int (x0.toUInt32.toUInt16.toUInt32.toInt32))] [(.int (x0.toUInt32.toUInt16.toUInt32.toInt32))])) P
    have f28 := (((((((((ST0.ext E1).wr W4).wr W7).wr W10).wr W13).wr W16).wr W19).wr W22).wr W25)
    have f29 := (((((((((A0.ext E1).other W4 ne_ar_b1).other W7 ne_ar_b1).other W10 ne_ar_b1).other W13 ne_ar_b1).other W16 ne_ar_b1).other W19 ne_ar_b1).other W22 ne_ar_b1).other W25 ne_ar_b1)
    have f30 := (((((((((F0.ext E1).other W4 (Or.inl ne_c0_b1)).other W7 (Or.inl ne_c0_b1)).other W10 (Or.inl ne_c0_b1)).other W13 (Or.inl ne_c0_b1)).other W16 (Or.inl ne_c0_b1)).other W19 (Or.inl ne_c0_b1)).other W22 (Or.inl ne_c0_b1)).other W25 (Or.inl ne_c0_b1))
    have f31 := (((((((((F1.ext E1).other W4 (Or.inl ne_c1_b1)).other W7 (Or.inl ne_c1_b1)).other W10 (Or.inl ne_c1_b1)).other W13 (Or.inl ne_c1_b1)).other W16 (Or.inl ne_c1_b1)).other W19 (Or.inl ne_c1_b1)).other W22 (Or.inl ne_c1_b1)).other W25 (Or.inl ne_c1_b1))
    have f32 := (((((((((F2.ext E1).other W4 (Or.inl ne_c2_b1)).other W7 (Or.inl ne_c2_b1)).other W10 (Or.inl ne_c2_b1)).other W13 (Or.inl ne_c2_b1)).other W16 (Or.inl ne_c2_b1)).other W19 (Or.inl ne_c2_b1)).other W22 (Or.inl ne_c2_b1)).other W25 (Or.inl ne_c2_b1))
    have f33 := (((((((((F3.ext E1).other W4 (Or.inl ne_c3_b1)).other W7 (Or.inl ne_c3_b1)).other W10 (Or.inl ne_c3_b1)).other W13 (Or.inl ne_c3_b1)).other W16 (Or.inl ne_c3_b1)).other W19 (Or.inl ne_c3_b1)).other W22 (Or.inl ne_c3_b1)).other W25 (Or.inl ne_c3_b1))
    have f34 := (((((((((F4.ext E1).other W4 (Or.inl ne_c4_b1)).other W7 (Or.inl ne_c4_b1)).other W10 (Or.inl ne_c4_b1)).other W13 (Or.inl ne_c4_b1)).other W16 (Or.inl ne_c4_b1)).other W19 (Or.inl ne_c4_b1)).other W22 (Or.inl ne_c4_b1)).other W25 (Or.inl ne_c4_b1))
    have f35 := (((((((((F5.ext E1).other W4 (Or.inl ne_c5_b1)).other W7 (Or.inl ne_c5_b1)).other W10 (Or.inl ne_c5_b1)).other W13 (Or.inl ne_c5_b1)).other W16 (Or.inl ne_c5_b1)).other W19 (Or.inl ne_c5_b1)).other W22 (Or.inl ne_c5_b1)).other W25 (Or.inl ne_c5_b1))
    have f36 := (((((((((F6.ext E1).other W4 (Or.inl ne_c6_b1)).other W7 (Or.inl ne_c6_b1)).other W10 (Or.inl ne_c6_b1)).other W13 (Or.inl ne_c6_b1)).other W16 (Or.inl ne_c6_b1)).other W19 (Or.inl ne_c6_b1)).other W22 (Or.inl ne_c6_b1)).other W25 (Or.inl ne_c6_b1))
    obtain ⟨_, _, ⟨T27, L27, k27, n27⟩, -, X27, ⟨Lc27, hQ27, l27, y27, z27⟩, st27⟩ := Jvm.LawKit.callS X25 hx (y := (⟨"com/example/dicewright/dicewright/games/ciub/Colour", "ofLetter", "(C)Lcom/example/dicewright/dicewright/games/ciub/Colour;"⟩ : MethodName)) hown (mvT hZ (hw _ (List.mem_of_getElem? (i := 2) rfl))) (mvT hZ (hw _ (List.mem_of_getElem? (i := 3) rfl))) (mvT hZ (hw _ (List.mem_of_getElem? (i := 4) rfl))) (mvT hZ (hw _ (List.mem_of_getElem? (i := 5) rfl))) (by decide) (backOf (W := 0) (rmO l Z a0 hw [] (x0.toUInt32.toUInt16.toUInt32.toInt32) ar ka c0 c1 c2 c3 c4 c5 c6 h25 n0 Zs26 f28 f29 f30 f31 f32 f33 f34 f35 f36) hZ (hw _ (List.mem_of_getElem? (i := 5) rfl)) (hw _ (List.mem_of_getElem? (i := 4) rfl)) (by decide) (by decide)) (g := (mkF mi 70 #[.val (.int x0), .val (.int pk), .val (.ref b1), .val (.int (x0.toUInt32.toUInt16.toUInt32.toInt32))] [(.int (x0.toUInt32.toUInt16.toUInt32.toInt32))])) rfl (by rw [hml]; rfl) (argsL := [(.int (x0.toUInt32.toUInt16.toUInt32.toInt32))]) (rest := []) (lenOf pd_0 rfl) rfl (by show 2 * 0 + _ ≤ _; exact Nat.le_of_eq rfl) (hb hby at_70) (fun _ _ => ⟨rfl, e25, (by decide : 1 + 0 ≤ _), (by decide : 8 + 0 ≤ _)⟩)
    dsimp only [Pt.U, Pt.locs, Pt.cells, Pt.slots] at X27 l27 y27 z27 st27 hQ27
    subst l27 y27 z27
    obtain ⟨rfl, N27q, e27⟩ := hQ27
    have N27 := Fr.app N26 N27q
    refine Go.st st27 ?_
    show Go pg.tables ev below (T27.setTop (mkF mi 73 #[.val (.int x0), .val (.int pk), .val (.ref b1), .val (.int (x0.toUInt32.toUInt16.toUInt32.toInt32))] [(fO (x0.toUInt32.toUInt16.toUInt32.toInt32) c0 c1 c2 c3 c4 c5 c6)])) P
    refine Go.st (fun t_ k_ => XS.iloadN X27.here hx rfl (hb hby at_73) rfl k_) ?_
    show Go pg.tables ev below (T27.setTop (mkF mi 74 #[.val (.int x0), .val (.int pk), .val (.ref b1), .val (.int (x0.toUInt32.toUInt16.toUInt32.toInt32))] [(.int (x0.toUInt32.toUInt16.toUInt32.toInt32)), (fO (x0.toUInt32.toUInt16.toUInt32.toInt32) c0 c1 c2 c3 c4 c5 c6)])) P
    have f38 := (((((((((ST1.ext E1).wr W4).wr W7).wr W10).wr W13).wr W16).wr W19).wr W22).wr W25)
    have f39 := (((((((((ST2.ext E1).wr W4).wr W7).wr W10).wr W13).wr W16).wr W19).wr W22).wr W25)
    have f40 := (((((((((ST3.ext E1).wr W4).wr W7).wr W10).wr W13).wr W16).wr W19).wr W22).wr W25)
    have f41 := (((((((((ST4.ext E1).wr W4).wr W7).wr W10).wr W13).wr W16).wr W19).wr W22).wr W25)
    have f42 := (((((((((ST5.ext E1).wr W4).wr W7).wr W10).wr W13).wr W16).wr W19).wr W22).wr W25)
    have f43 := (((((((((ST6.ext E1).wr W4).wr W7).wr W10).wr W13).wr W16).wr W19).wr W22).wr W25)
    have f44 := (((((((((ST7.ext E1).wr W4).wr W7).wr W10).wr W13).wr W16).wr W19).wr W22).wr W25)
    obtain ⟨_, _, ⟨T37, L37, k37, n37⟩, -, X37, ⟨Lc37, hQ37, l37, y37, z37⟩, st37⟩ := Jvm.LawKit.callS X27 hx (y := (⟨"com/example/dicewright/dicewright/games/ciub/ColourOfLetterPinLaw", "expected", "(C)Lcom/example/dicewright/dicewright/games/ciub/Colour;"⟩ : MethodName)) hown (mvT hZ (hw _ (List.mem_of_getElem? (i := 11) rfl))) (mvT hZ (hw _ (List.mem_of_getElem? (i := 12) rfl))) (mvT hZ (hw _ (List.mem_of_getElem? (i := 13) rfl))) (mvT hZ (hw _ (List.mem_of_getElem? (i := 14) rfl))) (by decide) (backOf (W := 1) (rmE l Z a0 hw [] (x0.toUInt32.toUInt16.toUInt32.toInt32) c0 c1 c2 c3 c4 c5 c6 h25 n0 Zs26 f38 f39 f40 f41 f42 f43 f44) hZ (hw _ (List.mem_of_getElem? (i := 14) rfl)) (hw _ (List.mem_of_getElem? (i := 13) rfl)) (by decide) (by decide)) (g := (mkF mi 74 #[.val (.int x0), .val (.int pk), .val (.ref b1), .val (.int (x0.toUInt32.toUInt16.toUInt32.toInt32))] [(.int (x0.toUInt32.toUInt16.toUInt32.toInt32)), (fO (x0.toUInt32.toUInt16.toUInt32.toInt32) c0 c1 c2 c3 c4 c5 c6)])) rfl (by rw [hml]; rfl) (argsL := [(.int (x0.toUInt32.toUInt16.toUInt32.toInt32))]) (rest := [(fO (x0.toUInt32.toUInt16.toUInt32.toInt32) c0 c1 c2 c3 c4 c5 c6)]) (lenOf pd_0 rfl) rfl (by show 2 * 0 + (List.map (fun v => Value.category v) [(fO (x0.toUInt32.toUInt16.toUInt32.toInt32) c0 c1 c2 c3 c4 c5 c6)]).sum ≤ _; simp only [List.map_cons, List.map_nil, List.sum_cons, List.sum_nil, own_cat (own_law _ c0 c1 c2 c3 c4 c5 c6 ▸ own_ref _ c0 c1 c2 c3 c4 c5 c6)]; exact Nat.le_of_eq rfl) (hb hby at_74) (fun _ _ => ⟨rfl, e27, (by decide : 1 + 0 ≤ _), (by decide : 8 + 0 ≤ _)⟩)
    dsimp only [Pt.U, Pt.locs, Pt.cells, Pt.slots] at X37 l37 y37 z37 st37 hQ37
    subst l37 y37 z37
    obtain ⟨rfl, N37q, e37⟩ := hQ37
    have N37 := Fr.app N27 N37q
    refine Go.st st37 ?_
    show Go pg.tables ev below (T37.setTop (mkF mi 77 #[.val (.int x0), .val (.int pk), .val (.ref b1), .val (.int (x0.toUInt32.toUInt16.toUInt32.toInt32))] [(fE (x0.toUInt32.toUInt16.toUInt32.toInt32) c0 c1 c2 c3 c4 c5 c6), (fO (x0.toUInt32.toUInt16.toUInt32.toInt32) c0 c1 c2 c3 c4 c5 c6)])) P
    refine Go.st (fun t k => Jvm.RoadKit.acmp (g := (mkF mi 77 #[.val (.int x0), .val (.int pk), .val (.ref b1), .val (.int (x0.toUInt32.toUInt16.toUInt32.toInt32))] [(fE (x0.toUInt32.toUInt16.toUInt32.toInt32) c0 c1 c2 c3 c4 c5 c6), (fO (x0.toUInt32.toUInt16.toUInt32.toInt32) c0 c1 c2 c3 c4 c5 c6)])) X37 hx rfl (own_law _ c0 c1 c2 c3 c4 c5 c6 ▸ own_ref _ c0 c1 c2 c3 c4 c5 c6) (own_ref _ c0 c1 c2 c3 c4 c5 c6) (pc0 := 77) (pc' := 80) (same := true) rfl (hb hby at_77) rfl (decide_eq_true (own_law _ c0 c1 c2 c3 c4 c5 c6)) (by decide) (by decide) k) ?_
    show Go pg.tables ev below (T37.setTop (mkF mi 80 #[.val (.int x0), .val (.int pk), .val (.ref b1), .val (.int (x0.toUInt32.toUInt16.toUInt32.toInt32))] [])) P
    refine Go.st (fun t_ k_ => XS.iconst X37.here hx rfl (hb hby at_80) k_) ?_
    show Go pg.tables ev below (T37.setTop (mkF mi 81 #[.val (.int x0), .val (.int pk), .val (.ref b1), .val (.int (x0.toUInt32.toUInt16.toUInt32.toInt32))] [(.int (1 : Int32))])) P
    refine Go.st (fun t_ k_ => XS.goto X37.here hx rfl (pc0 := 81) (pc' := 85) rfl (hb hby at_81) (by decide) (by decide) k_) ?_
    show Go pg.tables ev below (T37.setTop (mkF mi 85 #[.val (.int x0), .val (.int pk), .val (.ref b1), .val (.int (x0.toUInt32.toUInt16.toUInt32.toInt32))] [(.int (1 : Int32))])) P
    obtain ⟨fs, hr, hrun, hended, hW, hsame⟩ := X37.leave (v := some (.int (1 : Int32))) (fun h => by rw [Bd.returns] at h; cases h) (BodyLoose.notSynchronized Bd)
    refine ⟨_, _, ?_, hP _ _ ⟨hrun, hended, _, _, rfl, ?_, ⟨_, rfl⟩, hW, hsame.mono (by decide) (by decide)⟩⟩
    · exact retN X37 hx (t := .boolean) Bd.returns (by simp) (hb hby at_85) hr
    · show (some (.int (1 : Int32)) : Option Value) = some (.int 1) ∧ Fr n0 _
      exact ⟨rfl, N37⟩
  · refine Go.st (fun t_ k_ => XS.ifNo X25.here hx rfl (hb hby at_50) rfl ((if0 _ _).trans (feq hc50_1).1) k_) ?_
    show Go pg.tables ev below (T25.setTop (mkF mi 53 #[.val (.int x0), .val (.int pk), .val (.ref b1), .unset] [])) P
    refine Go.st (fun t_ k_ => XS.aloadN X25.here hx rfl (hb hby at_53) rfl rfl k_) ?_
    show Go pg.tables ev below (T25.setTop (mkF mi 54 #[.val (.int x0), .val (.int pk), .val (.ref b1), .unset] [(.ref b1)])) P
    refine Go.st (fun t_ k_ => XS.iloadN X25.here hx rfl (hb hby at_54) rfl k_) ?_
    show Go pg.tables ev below (T25.setTop (mkF mi 55 #[.val (.int x0), .val (.int pk), .val (.ref b1), .unset] [(.int x0), (.ref b1)])) P
    refine Go.st (X25.ldcInt hx hown (mvT hZ (hw _ (List.mem_of_getElem? (i := 1) rfl))) (g := (mkF mi 55 #[.val (.int x0), .val (.int pk), .val (.ref b1), .unset] [(.int x0), (.ref b1)])) rfl (hb hby at_55)) ?_
    show Go pg.tables ev below (T25.setTop (mkF mi 57 #[.val (.int x0), .val (.int pk), .val (.ref b1), .unset] [(.int (2147483647 : Int32)), (.int x0), (.ref b1)])) P
    refine Go.st (fun t_ k_ => XS.iand X25.here hx rfl (hb hby at_57) rfl k_) ?_
    show Go pg.tables ev below (T25.setTop (mkF mi 58 #[.val (.int x0), .val (.int pk), .val (.ref b1), .unset] [(.int (x0 &&& (2147483647 : Int32))), (.ref b1)])) P
    refine Go.st (fun t_ k_ => XS.bipush X25.here hx rfl (hb hby at_58) k_) ?_
    show Go pg.tables ev below (T25.setTop (mkF mi 60 #[.val (.int x0), .val (.int pk), .val (.ref b1), .unset] [(.int (8 : Int32)), (.int (x0 &&& (2147483647 : Int32))), (.ref b1)])) P
    refine Go.st (fun t_ k_ => iremM X25 hx rfl (hb hby at_60) rfl (by decide) k_) ?_
    show Go pg.tables ev below (T25.setTop (mkF mi 61 #[.val (.int x0), .val (.int pk), .val (.ref b1), .unset] [(.int ((x0 &&& (2147483647 : Int32)) % (8 : Int32))), (.ref b1)])) P
    have ov45 := V25
    obtain ⟨cl45, Ar45, q45, S45, M45, H45, G45⟩ := ov45
    have hin45 : ¬ (((x0 &&& (2147483647 : Int32)) % (8 : Int32)) < 0 ∨ cl45.slots.size ≤ (((x0 &&& (2147483647 : Int32)) % (8 : Int32))).toNatClampNeg) := inb_of S45 (own_in x0)
    obtain ⟨z45, hz45⟩ := own_fit (G45 _ (Nat.lt_of_not_le fun q => hin45 (Or.inr q)))
    have hat45 : cl45.slots[(((x0 &&& (2147483647 : Int32)) % (8 : Int32))).toNatClampNeg]? = some (.int z45) := Has.at H45 hin45 hz45
    refine Go.st (X25.caload hx (j := ((x0 &&& (2147483647 : Int32)) % (8 : Int32))) (v := (.int z45)) (by rw [e25]; exact Ar45.1) (State.isArrayOf_alike hZ.alike Ar45.2.1) Ar45.2.2 hin45 hat45 (g := (mkF mi 61 #[.val (.int x0), .val (.int pk), .val (.ref b1), .unset] [(.int ((x0 &&& (2147483647 : Int32)) % (8 : Int32))), (.ref b1)])) rfl rfl (hb hby at_61)) ?_
    show Go pg.tables ev below (T25.setTop (mkF mi 62 #[.val (.int x0), .val (.int pk), .val (.ref b1), .unset] [(.int z45)])) P
    refine Go.st (fun t_ k_ => XS.istoreN X25.here hx rfl (hb hby at_62) rfl (l' := #[.val (.int x0), .val (.int pk), .val (.ref b1), .val (.int z45)]) rfl k_) ?_
    show Go pg.tables ev below (T25.setTop (mkF mi 63 #[.val (.int x0), .val (.int pk), .val (.ref b1), .val (.int z45)] [])) P
    refine Go.st (fun t_ k_ => XS.goto X25.here hx rfl (pc0 := 63) (pc' := 69) rfl (hb hby at_63) (by decide) (by decide) k_) ?_
    show Go pg.tables ev below (T25.setTop (mkF mi 69 #[.val (.int x0), .val (.int pk), .val (.ref b1), .val (.int z45)] [])) P
    refine Go.st (fun t_ k_ => XS.iloadN X25.here hx rfl (hb hby at_69) rfl k_) ?_
    show Go pg.tables ev below (T25.setTop (mkF mi 70 #[.val (.int x0), .val (.int pk), .val (.ref b1), .val (.int z45)] [(.int z45)])) P
    have f47 := (((((((((ST0.ext E1).wr W4).wr W7).wr W10).wr W13).wr W16).wr W19).wr W22).wr W25)
    have f48 := (((((((((A0.ext E1).other W4 ne_ar_b1).other W7 ne_ar_b1).other W10 ne_ar_b1).other W13 ne_ar_b1).other W16 ne_ar_b1).other W19 ne_ar_b1).other W22 ne_ar_b1).other W25 ne_ar_b1)
    have f49 := (((((((((F0.ext E1).other W4 (Or.inl ne_c0_b1)).other W7 (Or.inl ne_c0_b1)).other W10 (Or.inl ne_c0_b1)).other W13 (Or.inl ne_c0_b1)).other W16 (Or.inl ne_c0_b1)).other W19 (Or.inl ne_c0_b1)).other W22 (Or.inl ne_c0_b1)).other W25 (Or.inl ne_c0_b1))
    have f50 := (((((((((F1.ext E1).other W4 (Or.inl ne_c1_b1)).other W7 (Or.inl ne_c1_b1)).other W10 (Or.inl ne_c1_b1)).other W13 (Or.inl ne_c1_b1)).other W16 (Or.inl ne_c1_b1)).other W19 (Or.inl ne_c1_b1)).other W22 (Or.inl ne_c1_b1)).other W25 (Or.inl ne_c1_b1))
    have f51 := (((((((((F2.ext E1).other W4 (Or.inl ne_c2_b1)).other W7 (Or.inl ne_c2_b1)).other W10 (Or.inl ne_c2_b1)).other W13 (Or.inl ne_c2_b1)).other W16 (Or.inl ne_c2_b1)).other W19 (Or.inl ne_c2_b1)).other W22 (Or.inl ne_c2_b1)).other W25 (Or.inl ne_c2_b1))
    have f52 := (((((((((F3.ext E1).other W4 (Or.inl ne_c3_b1)).other W7 (Or.inl ne_c3_b1)).other W10 (Or.inl ne_c3_b1)).other W13 (Or.inl ne_c3_b1)).other W16 (Or.inl ne_c3_b1)).other W19 (Or.inl ne_c3_b1)).other W22 (Or.inl ne_c3_b1)).other W25 (Or.inl ne_c3_b1))
    have f53 := (((((((((F4.ext E1).other W4 (Or.inl ne_c4_b1)).other W7 (Or.inl ne_c4_b1)).other W10 (Or.inl ne_c4_b1)).other W13 (Or.inl ne_c4_b1)).other W16 (Or.inl ne_c4_b1)).other W19 (Or.inl ne_c4_b1)).other W22 (Or.inl ne_c4_b1)).other W25 (Or.inl ne_c4_b1))
    have f54 := (((((((((F5.ext E1).other W4 (Or.inl ne_c5_b1)).other W7 (Or.inl ne_c5_b1)).other W10 (Or.inl ne_c5_b1)).other W13 (Or.inl ne_c5_b1)).other W16 (Or.inl ne_c5_b1)).other W19 (Or.inl ne_c5_b1)).other W22 (Or.inl ne_c5_b1)).other W25 (Or.inl ne_c5_b1))
    have f55 := (((((((((F6.ext E1).other W4 (Or.inl ne_c6_b1)).other W7 (Or.inl ne_c6_b1)).other W10 (Or.inl ne_c6_b1)).other W13 (Or.inl ne_c6_b1)).other W16 (Or.inl ne_c6_b1)).other W19 (Or.inl ne_c6_b1)).other W22 (Or.inl ne_c6_b1)).other W25 (Or.inl ne_c6_b1))
    obtain ⟨_, _, ⟨T46, L46, k46, n46⟩, -, X46, ⟨Lc46, hQ46, l46, y46, z46⟩, st46⟩ := Jvm.LawKit.callS X25 hx (y := (⟨"com/example/dicewright/dicewright/games/ciub/Colour", "ofLetter", "(C)Lcom/example/dicewright/dicewright/games/ciub/Colour;"⟩ : MethodName)) hown (mvT hZ (hw _ (List.mem_of_getElem? (i := 2) rfl))) (mvT hZ (hw _ (List.mem_of_getElem? (i := 3) rfl))) (mvT hZ (hw _ (List.mem_of_getElem? (i := 4) rfl))) (mvT hZ (hw _ (List.mem_of_getElem? (i := 5) rfl))) (by decide) (backOf (W := 0) (rmO l Z a0 hw [] z45 ar ka c0 c1 c2 c3 c4 c5 c6 h25 n0 Zs26 f47 f48 f49 f50 f51 f52 f53 f54 f55) hZ (hw _ (List.mem_of_getElem? (i := 5) rfl)) (hw _ (List.mem_of_getElem? (i := 4) rfl)) (by decide) (by decide)) (g := (mkF mi 70 #[.val (.int x0), .val (.int pk), .val (.ref b1), .val (.int z45)] [(.int z45)])) rfl (by rw [hml]; rfl) (argsL := [(.int z45)]) (rest := []) (lenOf pd_0 rfl) rfl (by show 2 * 0 + _ ≤ _; exact Nat.le_of_eq rfl) (hb hby at_70) (fun _ _ => ⟨rfl, e25, (by decide : 1 + 0 ≤ _), (by decide : 8 + 0 ≤ _)⟩)
    dsimp only [Pt.U, Pt.locs, Pt.cells, Pt.slots] at X46 l46 y46 z46 st46 hQ46
    subst l46 y46 z46
    obtain ⟨rfl, N46q, e46⟩ := hQ46
    have N46 := Fr.app N26 N46q
    refine Go.st st46 ?_
    show Go pg.tables ev below (T46.setTop (mkF mi 73 #[.val (.int x0), .val (.int pk), .val (.ref b1), .val (.int z45)] [(fO z45 c0 c1 c2 c3 c4 c5 c6)])) P
    refine Go.st (fun t_ k_ => XS.iloadN X46.here hx rfl (hb hby at_73) rfl k_) ?_
    show Go pg.tables ev below (T46.setTop (mkF mi 74 #[.val (.int x0), .val (.int pk), .val (.ref b1), .val (.int z45)] [(.int z45), (fO z45 c0 c1 c2 c3 c4 c5 c6)])) P
    have f57 := (((((((((ST1.ext E1).wr W4).wr W7).wr W10).wr W13).wr W16).wr W19).wr W22).wr W25)
    have f58 := (((((((((ST2.ext E1).wr W4).wr W7).wr W10).wr W13).wr W16).wr W19).wr W22).wr W25)
    have f59 := (((((((((ST3.ext E1).wr W4).wr W7).wr W10).wr W13).wr W16).wr W19).wr W22).wr W25)
    have f60 := (((((((((ST4.ext E1).wr W4).wr W7).wr W10).wr W13).wr W16).wr W19).wr W22).wr W25)
    have f61 := (((((((((ST5.ext E1).wr W4).wr W7).wr W10).wr W13).wr W16).wr W19).wr W22).wr W25)
    have f62 := (((((((((ST6.ext E1).wr W4).wr W7).wr W10).wr W13).wr W16).wr W19).wr W22).wr W25)
    have f63 := (((((((((ST7.ext E1).wr W4).wr W7).wr W10).wr W13).wr W16).wr W19).wr W22).wr W25)
    obtain ⟨_, _, ⟨T56, L56, k56, n56⟩, -, X56, ⟨Lc56, hQ56, l56, y56, z56⟩, st56⟩ := Jvm.LawKit.callS X46 hx (y := (⟨"com/example/dicewright/dicewright/games/ciub/ColourOfLetterPinLaw", "expected", "(C)Lcom/example/dicewright/dicewright/games/ciub/Colour;"⟩ : MethodName)) hown (mvT hZ (hw _ (List.mem_of_getElem? (i := 11) rfl))) (mvT hZ (hw _ (List.mem_of_getElem? (i := 12) rfl))) (mvT hZ (hw _ (List.mem_of_getElem? (i := 13) rfl))) (mvT hZ (hw _ (List.mem_of_getElem? (i := 14) rfl))) (by decide) (backOf (W := 1) (rmE l Z a0 hw [] z45 c0 c1 c2 c3 c4 c5 c6 h25 n0 Zs26 f57 f58 f59 f60 f61 f62 f63) hZ (hw _ (List.mem_of_getElem? (i := 14) rfl)) (hw _ (List.mem_of_getElem? (i := 13) rfl)) (by decide) (by decide)) (g := (mkF mi 74 #[.val (.int x0), .val (.int pk), .val (.ref b1), .val (.int z45)] [(.int z45), (fO z45 c0 c1 c2 c3 c4 c5 c6)])) rfl (by rw [hml]; rfl) (argsL := [(.int z45)]) (rest := [(fO z45 c0 c1 c2 c3 c4 c5 c6)]) (lenOf pd_0 rfl) rfl (by show 2 * 0 + (List.map (fun v => Value.category v) [(fO z45 c0 c1 c2 c3 c4 c5 c6)]).sum ≤ _; simp only [List.map_cons, List.map_nil, List.sum_cons, List.sum_nil, own_cat (own_law _ c0 c1 c2 c3 c4 c5 c6 ▸ own_ref _ c0 c1 c2 c3 c4 c5 c6)]; exact Nat.le_of_eq rfl) (hb hby at_74) (fun _ _ => ⟨rfl, e46, (by decide : 1 + 0 ≤ _), (by decide : 8 + 0 ≤ _)⟩)
    dsimp only [Pt.U, Pt.locs, Pt.cells, Pt.slots] at X56 l56 y56 z56 st56 hQ56
    subst l56 y56 z56
    obtain ⟨rfl, N56q, e56⟩ := hQ56
    have N56 := Fr.app N46 N56q
    refine Go.st st56 ?_
    show Go pg.tables ev below (T56.setTop (mkF mi 77 #[.val (.int x0), .val (.int pk), .val (.ref b1), .val (.int z45)] [(fE z45 c0 c1 c2 c3 c4 c5 c6), (fO z45 c0 c1 c2 c3 c4 c5 c6)])) P
    refine Go.st (fun t k => Jvm.RoadKit.acmp (g := (mkF mi 77 #[.val (.int x0), .val (.int pk), .val (.ref b1), .val (.int z45)] [(fE z45 c0 c1 c2 c3 c4 c5 c6), (fO z45 c0 c1 c2 c3 c4 c5 c6)])) X56 hx rfl (own_law _ c0 c1 c2 c3 c4 c5 c6 ▸ own_ref _ c0 c1 c2 c3 c4 c5 c6) (own_ref _ c0 c1 c2 c3 c4 c5 c6) (pc0 := 77) (pc' := 80) (same := true) rfl (hb hby at_77) rfl (decide_eq_true (own_law _ c0 c1 c2 c3 c4 c5 c6)) (by decide) (by decide) k) ?_
    show Go pg.tables ev below (T56.setTop (mkF mi 80 #[.val (.int x0), .val (.int pk), .val (.ref b1), .val (.int z45)] [])) P
    refine Go.st (fun t_ k_ => XS.iconst X56.here hx rfl (hb hby at_80) k_) ?_
    show Go pg.tables ev below (T56.setTop (mkF mi 81 #[.val (.int x0), .val (.int pk), .val (.ref b1), .val (.int z45)] [(.int (1 : Int32))])) P
    refine Go.st (fun t_ k_ => XS.goto X56.here hx rfl (pc0 := 81) (pc' := 85) rfl (hb hby at_81) (by decide) (by decide) k_) ?_
    show Go pg.tables ev below (T56.setTop (mkF mi 85 #[.val (.int x0), .val (.int pk), .val (.ref b1), .val (.int z45)] [(.int (1 : Int32))])) P
    obtain ⟨fs, hr, hrun, hended, hW, hsame⟩ := X56.leave (v := some (.int (1 : Int32))) (fun h => by rw [Bd.returns] at h; cases h) (BodyLoose.notSynchronized Bd)
    refine ⟨_, _, ?_, hP _ _ ⟨hrun, hended, _, _, rfl, ?_, ⟨_, rfl⟩, hW, hsame.mono (by decide) (by decide)⟩⟩
    · exact retN X56 hx (t := .boolean) Bd.returns (by simp) (hb hby at_85) hr
    · show (some (.int (1 : Int32)) : Option Value) = some (.int 1) ∧ Fr n0 _
      exact ⟨rfl, N56⟩
set_option maxRecDepth 65536 in
set_option maxHeartbeats 40000000 in
theorem comes_1 {Post : Tables → Env → Array Value → State → Outcome → State → Prop} (hpost : ∀ tb e args s v u, (limb_1_1.after args s (.returned v) u = true ∧ limb_1_2.after args s (.returned v) u = true ∧ True) → FrameEnd s (.returned v) u (Jvm.fieldLocs frame_1_writes args s ++ Jvm.arrayLocs frame_1_arrays args s ++ Jvm.staticLocs frame_1_statics s) 16 128 → Post tb e args s (.returned v) u) :
    ArmFor flags0 classFile x code maxLocals ret World_1 tables_1 room_1 Calls_1 rest_1 Pre_1 Post := by
  intro l hfl _ _ p e ha hc hk s m args below hf hA hF happ hP
  obtain ⟨hcalls, hrest, hpre⟩ := hP
  obtain ⟨-, -, -, hnamed, -, -, -, hat⟩ := (Spec.applies_iff hf).mp happ
  obtain ⟨hg, hn⟩ := and_e (Cond.before_iff.mp (show (Jvm.Cond.and given_1 narrow_1).before args s = true from hpre))
  obtain ⟨g1, g2⟩ := and_e hg
  obtain ⟨g3, g4⟩ := and_e g2
  obtain ⟨w0, w1, rfl⟩ : ∃ w0 w1 : Value, args = #[w0, w1] := by
    have hs : args.size = 2 := by simpa [Cond.value, given_1] using g1
    obtain ⟨L⟩ := args
    match L, hs with
    | [w0, w1], _ => exact ⟨w0, w1, rfl⟩
  have hw := fun d (hd : d ∈ tables_1) => atoms_spec (ws := Jvm.Cond.code x code maxLocals ret :: tables_1) hat d (List.mem_cons_of_mem _ hd)
  have hfit : Fit s := fun {y c} hc i hi => by
    obtain ⟨ha, rfl⟩ := Array.getElem?_eq_some_iff.mp hc
    have q := List.all_eq_true.mp ((Array.all_eq_true_iff_forall_mem.mp hF) _ (Array.getElem_mem ha)) i (List.mem_range.mpr hi)
    simpa [Array.getElem?_eq_getElem hi] using q
  obtain ⟨i0, ei0⟩ := is_v g3
  obtain rfl : w0 = (.int i0) := Option.some.inj ei0
  obtain ⟨i1, ei1⟩ := is_v g4
  obtain rfl : w1 = (.int i1) := Option.some.inj ei1
  obtain ⟨nn1, nn2⟩ := and_e hn
  obtain ⟨nn3, nn4⟩ := and_e nn2
  obtain ⟨nn5, nn6⟩ := and_e nn4
  obtain ⟨nn7, nn8⟩ := and_e nn6
  obtain ⟨nn9, nn10⟩ := and_e nn8
  obtain ⟨nn11, nn12⟩ := and_e nn10
  obtain ⟨nn13, nn14⟩ := and_e nn12
  obtain ⟨nn15, nn16⟩ := and_e nn14
  obtain ⟨nn17, nn18⟩ := and_e nn16
  obtain ⟨nn19, nn20⟩ := and_e nn18
  obtain ⟨nn21, nn22⟩ := and_e nn20
  obtain ⟨nn23, nn24⟩ := and_e nn22
  obtain ⟨nn25, nn26⟩ := and_e nn24
  obtain ⟨nn27, nn28⟩ := and_e nn26
  obtain ⟨nn29, nn30⟩ := and_e nn28
  obtain ⟨nn31, nn32⟩ := and_e nn30
  obtain ⟨nn33, nn34⟩ := and_e nn32
  obtain ⟨nn35, nn36⟩ := and_e nn34
  obtain ⟨nn37, nn38⟩ := and_e nn36
  obtain ⟨nn39, nn40⟩ := and_e nn38
  obtain ⟨nn41, nn42⟩ := and_e nn40
  obtain ⟨nn43, nn44⟩ := and_e nn42
  have ha0 := nn1
  obtain ⟨ar, ear⟩ := arr_v ha0
  obtain ⟨cA, AA⟩ := Arr.start ear ha0
  obtain ⟨c0, ec0⟩ := exa_v nn5
  have el0 := own_eqR ec0 nn7
  have sl0 := (elem_in el0 ear rfl AA.1).2
  have fl0 := own_eqI nn9
  rw [fld_at ec0] at fl0
  obtain ⟨c1, ec1⟩ := exa_v nn11
  have el1 := own_eqR ec1 nn13
  have sl1 := (elem_in el1 ear rfl AA.1).2
  have fl1 := own_eqI nn15
  rw [fld_at ec1] at fl1
  obtain ⟨c2, ec2⟩ := exa_v nn17
  have el2 := own_eqR ec2 nn19
  have sl2 := (elem_in el2 ear rfl AA.1).2
  have fl2 := own_eqI nn21
  rw [fld_at ec2] at fl2
  obtain ⟨c3, ec3⟩ := exa_v nn23
  have el3 := own_eqR ec3 nn25
  have sl3 := (elem_in el3 ear rfl AA.1).2
  have fl3 := own_eqI nn27
  rw [fld_at ec3] at fl3
  obtain ⟨c4, ec4⟩ := exa_v nn29
  have el4 := own_eqR ec4 nn31
  have sl4 := (elem_in el4 ear rfl AA.1).2
  have fl4 := own_eqI nn33
  rw [fld_at ec4] at fl4
  obtain ⟨c5, ec5⟩ := exa_v nn35
  have el5 := own_eqR ec5 nn37
  have sl5 := (elem_in el5 ear rfl AA.1).2
  have fl5 := own_eqI nn39
  rw [fld_at ec5] at fl5
  obtain ⟨c6, ec6⟩ := exa_v nn41
  have el6 := own_eqR ec6 nn43
  have sl6 := (elem_in el6 ear rfl AA.1).2
  have fl6 := own_eqI nn44
  rw [fld_at ec6] at fl6
  have hlen := own_eqI nn3
  obtain ⟨hsz, hsz2⟩ := own_len ear AA.1 hlen
  have AV : Arv s s.heap ar cA.cls (.object "com/example/dicewright/dicewright/games/ciub/Colour") (7 : Int32) [(.ref c0), (.ref c1), (.ref c2), (.ref c3), (.ref c4), (.ref c5), (.ref c6)] .null := Arv.start hfit AA hsz hsz2 (by decide) rfl ⟨sl0, sl1, sl2, sl3, sl4, sl5, sl6, trivial⟩
  obtain ⟨n, o, h1, h2, h3, _, L, rfl, ⟨rfl, N⟩, hq⟩ := rm0 l s _ hw tables_1 i0 i1 ar cA.cls c0 c1 c2 c3 c4 c5 c6 s.heap s.heap.size (Nat.le_refl _) (Sta.start ear (Or.inr ⟨(hw _ (List.mem_of_getElem? (i := 4) rfl)), (hw _ (List.mem_of_getElem? (i := 7) rfl))⟩)) AV (Fld.start fl0) (Fld.start fl1) (Fld.start fl2) (Fld.start fl3) (Fld.start fl4) (Fld.start fl5) (Fld.start fl6) (Sta.start ec0 (Or.inr ⟨(hw _ (List.mem_of_getElem? (i := 4) rfl)), (hw _ (List.mem_of_getElem? (i := 8) rfl))⟩)) (Sta.start ec1 (Or.inr ⟨(hw _ (List.mem_of_getElem? (i := 4) rfl)), (hw _ (List.mem_of_getElem? (i := 16) rfl))⟩)) (Sta.start ec2 (Or.inr ⟨(hw _ (List.mem_of_getElem? (i := 4) rfl)), (hw _ (List.mem_of_getElem? (i := 17) rfl))⟩)) (Sta.start ec3 (Or.inr ⟨(hw _ (List.mem_of_getElem? (i := 4) rfl)), (hw _ (List.mem_of_getElem? (i := 18) rfl))⟩)) (Sta.start ec4 (Or.inr ⟨(hw _ (List.mem_of_getElem? (i := 4) rfl)), (hw _ (List.mem_of_getElem? (i := 19) rfl))⟩)) (Sta.start ec5 (Or.inr ⟨(hw _ (List.mem_of_getElem? (i := 4) rfl)), (hw _ (List.mem_of_getElem? (i := 20) rfl))⟩)) (Sta.start ec6 (Or.inr ⟨(hw _ (List.mem_of_getElem? (i := 4) rfl)), (hw _ (List.mem_of_getElem? (i := 21) rfl))⟩)) p e ha hc hk s m _ below hf ((Spec.applies_iff_loose hf).mp happ).1 ⟨rfl, State.Warmed39.refl s, rfl⟩ trivial
  refine ⟨n, _, h1, h2, h3, hpost _ _ _ _ _ _ ⟨Cond.after_iff.mpr rfl, Cond.after_iff.mpr (eq_i res_at (Term.int_eval (1)) rfl), trivial⟩ ⟨hq.1, hq.2.1, (hq.2.2.sift fun y hy => Or.inr (N y hy)).mono (by decide) (by decide)⟩⟩
theorem main_1_1 : Claimed_1_1 := comes_1 fun _ _ _ _ _ _ h hF => ⟨h.1, hF⟩
theorem main_1_2 : Claimed_1_2 := comes_1 fun _ _ _ _ _ _ h hF => ⟨h.2.1, hF⟩
end Jvm.Pilot.@@N@@
namespace Jvm.Pilot.@@N@@
open Jvm Jvm.ClassFile Sem Op Lib Jvm.Free Jvm.Stand Jvm.Pilot.@@N@@.Jvm.D
/-! MADE BY PROGRAM (witnessworld.py) out of the Statement's table words and the real class files: 15 classes; the members and pool entries that the words name. The judged class is class 1, her method 2. -/
namespace start1
open Jvm.ClassFile
def u (s : String) : CpInfo := .utf8 (stringToUtf16 s)
/-- a pool by its gaps: so many unusable entries, then the entry; so many at the end -/
def gap : Nat → List CpInfo → List CpInfo
  | 0, r => r
  | n + 1, r => .unusable :: gap n r
def poolList (es : List (Nat × CpInfo)) (last : Nat) : List CpInfo := es.foldr (fun e r => gap e.1 (e.2 :: r)) (gap last [])
def pool (es : List (Nat × CpInfo)) (last : Nat) : Array CpInfo := ⟨poolList es last⟩
def fileOf (pool : Array CpInfo) (this : Nat) (attrs : Array Attribute := #[]) (ms : Array MethodInfo := #[]) (fl : Nat := 33) (sup : Nat := 0) (ifs : Array Nat := #[]) (fds : Array FieldInfo := #[]) : ClassFile where
  minorVersion := 0
  majorVersion := 65
  constantPool := pool
  accessFlags := fl
  thisClass := this
  superClass := sup
  interfaces := ifs
  fields := fds
  methods := ms
  attributes := attrs
def plain (name : String) (sup : Option ClassId) : Class where
  name := name
  kind := .ordinary
  loader := none
  accessFlags := 33
  super := sup
  interfaces := #[]
  cf := none
  fields := #[]
  methods := #[]
  instanceTypes := #[]
  staticTypes := #[]
  resolved := #[]
  callSites := []
  init := .initialized
  statics := none
  mirror := none

def pool0 : Array CpInfo := pool [(5, u "<init>"), (0, u "()V"), (1, .class_ 10), (1, u "java/lang/Object")] 113

def k0m0 : Method := { name := "<init>", desc := "()V", sig := { parameters := [], returnType := none }, accessFlags := 1, code := none }
/-- java/lang/Object -/
def k0 : Class := { plain "java/lang/Object" none with
  accessFlags := 33
  interfaces := #[]
  cf := some (fileOf pool0 8 #[] #[{ accessFlags := 1, nameIndex := 5, descriptorIndex := 6, attributes := #[] }] 33 0 #[] #[])
  fields := #[]
  methods := #[k0m0]
  instanceTypes := #[]
  staticTypes := #[]
  resolved := Array.replicate 124 none
  statics := none }

def pool1 : Array CpInfo := pool [(2, .class_ 4), (1, u "java/lang/Object"), (0, u "<init>"), (0, u "()V"), (0, .fieldref 8 9), (0, .class_ 10), (0, .nameAndType 11 12), (0, u "com/example/dicewright/dicewright/games/ciub/Colour"), (0, u "WHITE"), (0, u "Lcom/example/dicewright/dicewright/games/ciub/Colour;"), (0, .fieldref 8 14), (0, .nameAndType 15 12), (0, u "RED"), (0, .fieldref 8 17), (0, .nameAndType 18 12), (0, u "ORANGE"), (0, .fieldref 8 20), (0, .nameAndType 21 12), (0, u "YELLOW"), (0, .fieldref 8 23), (0, .nameAndType 24 12), (0, u "GREEN"), (0, .fieldref 8 26), (0, .nameAndType 27 12), (0, u "BLUE"), (0, .fieldref 8 29), (0, .nameAndType 30 12), (0, u "PURPLE"), (0, .integer 2147483647), (0, .methodref 8 33), (0, .nameAndType 34 35), (0, u "ofLetter"), (0, u "(C)Lcom/example/dicewright/dicewright/games/ciub/Colour;"), (0, .methodref 37 38), (0, .class_ 39), (0, .nameAndType 40 35), (0, u "com/example/dicewright/dicewright/games/ciub/ColourOfLetterPinLaw"), (0, u "expected"), (3, u "law"), (0, u "(II)Z")] 4

def k1m0 : Method := { name := "<init>", desc := "()V", sig := { parameters := [], returnType := none }, accessFlags := 2, code := none }
def k1c1 : Code := { maxStack := 2, maxLocals := 1, code := method_2_code, exceptionTable := #[], attributes := #[] }
def k1m1 : Method := { name := "expected", desc := "(C)Lcom/example/dicewright/dicewright/games/ciub/Colour;", sig := { parameters := [.char], returnType := some (.object "com/example/dicewright/dicewright/games/ciub/Colour") }, accessFlags := 10, code := some k1c1 }
def k1c2 : Code := { maxStack := 4, maxLocals := 4, code := code, exceptionTable := #[], attributes := #[] }
def k1m2 : Method := { name := "law", desc := "(II)Z", sig := { parameters := [.int, .int], returnType := some .boolean }, accessFlags := 9, code := some k1c2 }
/-- com/example/dicewright/dicewright/games/ciub/ColourOfLetterPinLaw -/
def k1 : Class := { plain "com/example/dicewright/dicewright/games/ciub/ColourOfLetterPinLaw" (some 0) with
  accessFlags := 49
  interfaces := #[]
  cf := some (fileOf pool1 37 #[] #[{ accessFlags := 2, nameIndex := 5, descriptorIndex := 6, attributes := #[] }, { accessFlags := 10, nameIndex := 40, descriptorIndex := 35, attributes := #[] }, { accessFlags := 9, nameIndex := 44, descriptorIndex := 45, attributes := #[] }] 49 2 #[] #[])
  fields := #[]
  methods := #[k1m0, k1m1, k1m2]
  instanceTypes := #[]
  staticTypes := #[]
  resolved := Array.replicate 50 none
  statics := none }

def pool2 : Array CpInfo := pool [(1, .class_ 2), (0, u "java/lang/constant/Constable"), (0, .class_ 4), (0, u "java/lang/Object")] 6

/-- java/lang/constant/Constable -/
def k2 : Class := { plain "java/lang/constant/Constable" (some 0) with
  accessFlags := 1537
  interfaces := #[]
  cf := some (fileOf pool2 1 #[] #[] 1537 3 #[] #[])
  fields := #[]
  methods := #[]
  instanceTypes := #[]
  staticTypes := #[]
  resolved := Array.replicate 11 none
  statics := none }

def pool3 : Array CpInfo := pool [(1, .class_ 2), (0, u "java/lang/Comparable"), (0, .class_ 4), (0, u "java/lang/Object")] 7

/-- java/lang/Comparable -/
def k3 : Class := { plain "java/lang/Comparable" (some 0) with
  accessFlags := 1537
  interfaces := #[]
  cf := some (fileOf pool3 1 #[] #[] 1537 3 #[] #[])
  fields := #[]
  methods := #[]
  instanceTypes := #[]
  staticTypes := #[]
  resolved := Array.replicate 12 none
  statics := none }

def pool4 : Array CpInfo := pool [(1, .class_ 2), (0, u "java/io/Serializable"), (0, .class_ 4), (0, u "java/lang/Object")] 2

/-- java/io/Serializable -/
def k4 : Class := { plain "java/io/Serializable" (some 0) with
  accessFlags := 1537
  interfaces := #[]
  cf := some (fileOf pool4 1 #[] #[] 1537 3 #[] #[])
  fields := #[]
  methods := #[]
  instanceTypes := #[]
  staticTypes := #[]
  resolved := Array.replicate 7 none
  statics := none }

def pool5 : Array CpInfo := pool [(2, .class_ 4), (1, u "java/lang/Enum"), (0, u "name"), (0, u "Ljava/lang/String;"), (2, u "ordinal"), (0, u "I"), (1, .class_ 14), (1, u "java/lang/Object"), (4, u "hash"), (86, .class_ 108), (1, u "java/lang/Enum$EnumDesc"), (2, .class_ 112), (0, u "java/lang/constant/Constable"), (0, .class_ 114), (0, u "java/lang/Comparable"), (0, .class_ 116), (0, u "java/io/Serializable")] 87

/-- java/lang/Enum -/
def k5 : Class := { plain "java/lang/Enum" (some 0) with
  accessFlags := 1057
  interfaces := #[2, 3, 4]
  cf := some (fileOf pool5 2 #[.nestMembers #[106]] #[] 1057 12 #[111, 113, 115] #[{ accessFlags := 18, nameIndex := 5, descriptorIndex := 6, attributes := #[] }, { accessFlags := 18, nameIndex := 9, descriptorIndex := 10, attributes := #[] }, { accessFlags := 2, nameIndex := 19, descriptorIndex := 10, attributes := #[] }])
  fields := #[{ name := "name", type := (.object "java/lang/String"), accessFlags := 18, slot := 0, constantValue := 0 }, { name := "ordinal", type := .int, accessFlags := 18, slot := 1, constantValue := 0 }, { name := "hash", type := .int, accessFlags := 2, slot := 2, constantValue := 0 }]
  methods := #[]
  instanceTypes := #[(.object "java/lang/String"), .int, .int]
  staticTypes := #[]
  resolved := Array.replicate 204 none
  statics := none }

def pool6 : Array CpInfo := pool [(1, .class_ 2), (0, u "com/example/dicewright/dicewright/games/ciub/Colour"), (2, u "WHITE"), (0, u "Lcom/example/dicewright/dicewright/games/ciub/Colour;"), (2, u "RED"), (2, u "ORANGE"), (2, u "YELLOW"), (2, u "GREEN"), (2, u "BLUE"), (2, u "PURPLE"), (2, u "$VALUES"), (0, u "[Lcom/example/dicewright/dicewright/games/ciub/Colour;"), (6, .class_ 37), (1, u "java/lang/Enum"), (6, .fieldref 1 45), (0, .nameAndType 46 47), (0, u "letter"), (0, u "C"), (18, u "id"), (0, u "Ljava/lang/String;"), (0, .fieldref 1 69), (0, .nameAndType 70 28), (0, u "ALL"), (42, u "ofLetter"), (0, u "(C)Lcom/example/dicewright/dicewright/games/ciub/Colour;")] 23

def k6c0 : Code := { maxStack := 2, maxLocals := 5, code := prog_46_method_6_code, exceptionTable := #[], attributes := #[] }
def k6m0 : Method := { name := "ofLetter", desc := "(C)Lcom/example/dicewright/dicewright/games/ciub/Colour;", sig := { parameters := [.char], returnType := some (.object "com/example/dicewright/dicewright/games/ciub/Colour") }, accessFlags := 8, code := some k6c0 }
/-- com/example/dicewright/dicewright/games/ciub/Colour -/
def k6 : Class := { plain "com/example/dicewright/dicewright/games/ciub/Colour" (some 5) with
  accessFlags := 16433
  interfaces := #[]
  cf := some (fileOf pool6 1 #[] #[{ accessFlags := 8, nameIndex := 113, descriptorIndex := 114, attributes := #[] }] 16433 35 #[] #[{ accessFlags := 16409, nameIndex := 5, descriptorIndex := 6, attributes := #[] }, { accessFlags := 16409, nameIndex := 9, descriptorIndex := 6, attributes := #[] }, { accessFlags := 16409, nameIndex := 12, descriptorIndex := 6, attributes := #[] }, { accessFlags := 16409, nameIndex := 15, descriptorIndex := 6, attributes := #[] }, { accessFlags := 16409, nameIndex := 18, descriptorIndex := 6, attributes := #[] }, { accessFlags := 16409, nameIndex := 21, descriptorIndex := 6, attributes := #[] }, { accessFlags := 16409, nameIndex := 24, descriptorIndex := 6, attributes := #[] }, { accessFlags := 26, nameIndex := 70, descriptorIndex := 28, attributes := #[] }, { accessFlags := 18, nameIndex := 46, descriptorIndex := 47, attributes := #[] }, { accessFlags := 18, nameIndex := 66, descriptorIndex := 67, attributes := #[] }, { accessFlags := 4122, nameIndex := 27, descriptorIndex := 28, attributes := #[] }])
  fields := #[{ name := "WHITE", type := (.object "com/example/dicewright/dicewright/games/ciub/Colour"), accessFlags := 16409, slot := 0, constantValue := 0 }, { name := "RED", type := (.object "com/example/dicewright/dicewright/games/ciub/Colour"), accessFlags := 16409, slot := 1, constantValue := 0 }, { name := "ORANGE", type := (.object "com/example/dicewright/dicewright/games/ciub/Colour"), accessFlags := 16409, slot := 2, constantValue := 0 }, { name := "YELLOW", type := (.object "com/example/dicewright/dicewright/games/ciub/Colour"), accessFlags := 16409, slot := 3, constantValue := 0 }, { name := "GREEN", type := (.object "com/example/dicewright/dicewright/games/ciub/Colour"), accessFlags := 16409, slot := 4, constantValue := 0 }, { name := "BLUE", type := (.object "com/example/dicewright/dicewright/games/ciub/Colour"), accessFlags := 16409, slot := 5, constantValue := 0 }, { name := "PURPLE", type := (.object "com/example/dicewright/dicewright/games/ciub/Colour"), accessFlags := 16409, slot := 6, constantValue := 0 }, { name := "ALL", type := (.array (.object "com/example/dicewright/dicewright/games/ciub/Colour")), accessFlags := 26, slot := 7, constantValue := 0 }, { name := "letter", type := .char, accessFlags := 18, slot := 3, constantValue := 0 }, { name := "id", type := (.object "java/lang/String"), accessFlags := 18, slot := 4, constantValue := 0 }, { name := "$VALUES", type := (.array (.object "com/example/dicewright/dicewright/games/ciub/Colour")), accessFlags := 4122, slot := 8, constantValue := 0 }]
  methods := #[k6m0]
  instanceTypes := #[(.object "java/lang/String"), .int, .int, .char, (.object "java/lang/String")]
  staticTypes := #[(.object "com/example/dicewright/dicewright/games/ciub/Colour"), (.object "com/example/dicewright/dicewright/games/ciub/Colour"), (.object "com/example/dicewright/dicewright/games/ciub/Colour"), (.object "com/example/dicewright/dicewright/games/ciub/Colour"), (.object "com/example/dicewright/dicewright/games/ciub/Colour"), (.object "com/example/dicewright/dicewright/games/ciub/Colour"), (.object "com/example/dicewright/dicewright/games/ciub/Colour"), (.array (.object "com/example/dicewright/dicewright/games/ciub/Colour")), (.array (.object "com/example/dicewright/dicewright/games/ciub/Colour"))]
  resolved := Array.replicate 138 none
  statics := some 0 }

def pool7 : Array CpInfo := pool [(1, u "java/lang/Cloneable"), (0, .class_ 1), (0, u "java/lang/Object"), (0, .class_ 3)] 3

/-- java/lang/Cloneable -/
def k7 : Class := { plain "java/lang/Cloneable" (some 0) with
  accessFlags := 1537
  interfaces := #[]
  cf := some (fileOf pool7 2 #[] #[] 1537 4 #[] #[])
  fields := #[]
  methods := #[]
  instanceTypes := #[]
  staticTypes := #[]
  resolved := Array.replicate 8 none
  statics := none }

/-- the primitive byte -/
def k8 : Class := { plain "byte" none with kind := .primitive 'B', accessFlags := 0x411 }
/-- [B -/
def k9 : Class := { plain "[B" (some 0) with kind := .array 8 .byte, interfaces := #[7, 4], accessFlags := 1041 }

/-- the primitive char -/
def k10 : Class := { plain "char" none with kind := .primitive 'C', accessFlags := 0x411 }
/-- [C -/
def k11 : Class := { plain "[C" (some 0) with kind := .array 10 .char, interfaces := #[7, 4], accessFlags := 1041 }

/-- the primitive int -/
def k12 : Class := { plain "int" none with kind := .primitive 'I', accessFlags := 0x411 }
/-- [I -/
def k13 : Class := { plain "[I" (some 0) with kind := .array 12 .int, interfaces := #[7, 4], accessFlags := 1041 }

/-- [Lcom/example/dicewright/dicewright/games/ciub/Colour; -/
def k14 : Class := { plain "[Lcom/example/dicewright/dicewright/games/ciub/Colour;" (some 0) with kind := .array 6 (.object "com/example/dicewright/dicewright/games/ciub/Colour"), interfaces := #[7, 4], accessFlags := 1041 }

def heap : Heap := #[{ cls := 6, slots := #[.ref 2, .ref 3, .ref 4, .ref 5, .ref 6, .ref 7, .ref 8, .ref 1, .null], vm := .statics 6 },
  { cls := 14, slots := #[.ref 2, .ref 3, .ref 4, .ref 5, .ref 6, .ref 7, .ref 8], vm := .none },
  { cls := 6, slots := #[.null, .int 0, .int 0, .int 119, .null], vm := .none },
  { cls := 6, slots := #[.null, .int 1, .int 0, .int 114, .null], vm := .none },
  { cls := 6, slots := #[.null, .int 2, .int 0, .int 111, .null], vm := .none },
  { cls := 6, slots := #[.null, .int 3, .int 0, .int 121, .null], vm := .none },
  { cls := 6, slots := #[.null, .int 4, .int 0, .int 103, .null], vm := .none },
  { cls := 6, slots := #[.null, .int 5, .int 0, .int 98, .null], vm := .none },
  { cls := 6, slots := #[.null, .int 6, .int 0, .int 112, .null], vm := .none }]
def classes : Array Class := #[k0, k1, k2, k3, k4, k5, k6, k7, k8, k9, k10, k11, k12, k13, k14]
def interned : List (Array UInt16 × Addr) := []
def slotsUsed : Nat := 51
def theMethod : MethodId := ⟨1, 2⟩
def args0 : Array Value := #[.int 3, .int 5]
def aboutOver (below : List Frame) : State where
  vm := { classes := classes, interned := interned.toArray }
  heap := heap
  slotsUsed := slotsUsed
  threads := #[{ frames := .invoking theMethod args0 :: below }]
def below0 : List Frame := [.native { method := ⟨0, 0⟩, args := #[] }]
def about1 : State := aboutOver below0
def p0 : Program := .bare "" "" ""
def e0 : Env := launch0.env 0 0 0
theorem w_frames : about1.frames = Frame.invoking theMethod args0 :: below0 := rfl
set_option maxRecDepth 65536 in
theorem w_args : argsFit about1.vm theMethod args0 = true := by decide +kernel
set_option maxRecDepth 65536 in
theorem w_heap : heapFits about1 = true := by decide +kernel
set_option maxRecDepth 65536 in
theorem w_runnable : about1.curStatus? = some .runnable := by decide +kernel
set_option maxRecDepth 65536 in
theorem w_alone : about1.alone = true := by decide +kernel
set_option maxRecDepth 65536 in
theorem w_named : about1.methodNamed? x = some theMethod := by decide +kernel
set_option maxRecDepth 65536 in
theorem w_hears : about1.hears theMethod below0 = true := by decide +kernel
set_option maxRecDepth 65536 in
theorem w_ripe : about1.ripe theMethod args0 below0 = true := by decide +kernel
theorem w_running : about1.status = .running := rfl
set_option maxRecDepth 65536 in
theorem w_room : about1.hasRoom e0.platform room_1 = true :=
  launch0.hasRoom_least _ room_1 (by decide +kernel) (by decide +kernel) (by decide +kernel) (by decide +kernel) (by decide +kernel) (by decide +kernel)
theorem allAtoms_all (ts : List Jvm.Cond) (a : Array Jvm.Value) (st : Jvm.State) : (allAtoms ts).before a st = ts.all (fun c => c.before a st) := by
  induction ts with
  | nil => rfl
  | cons c t ih =>
    show (Jvm.Cond.and c (allAtoms t)).before a st = _
    rw [Jvm.Cond.before_and, ih, List.all_cons]
def words1 : List Jvm.Cond := Jvm.Cond.code x code maxLocals ret :: tables_1
/-- a 'code' word, met by the world's own term for the bytes: nothing is compared byte by byte -/
theorem code_word {y : MethodName} {bytes : ByteArray} {mx : Nat} {rt : Option FieldType} {a : Array Value} {s : State} {m : MethodId} {meth : Method} {c : Code} (h1 : s.methodNamed? y = some m) (h2 : s.vm.method? m = some meth) (h3 : meth.code = some c) (h4 : c.code = bytes)
    (h5 : (c.maxLocals == mx && c.exceptionTable.isEmpty && decide (c.maxStack ≤ mostOperands) && decide (meth.sig.returnType = rt) && !meth.locks && decide (parseMethodDescriptor y.desc = some meth.sig)) = true) : (Jvm.Cond.code y bytes mx rt).before a s = true := by
  simp only [Bool.and_eq_true, beq_iff_eq, Bool.not_eq_true', decide_eq_true_eq] at h5
  obtain ⟨⟨⟨⟨⟨g1, g2⟩, g3⟩, g4⟩, g5⟩, g6⟩ := h5
  simp [Cond.before, Cond.holds, Cond.value, h1, h2, h3, h4, g1, g2, g3, g4, g5, g6]
def isCode : Jvm.Cond → Bool
  | .code _ _ _ _ => true
  | _ => false
theorem all_split {L : List Jvm.Cond} {P : Jvm.Cond → Bool} (h1 : L.all (fun c => isCode c || P c) = true) (h2 : ∀ c ∈ L.filter isCode, P c = true) : L.all P = true := by
  refine List.all_eq_true.mpr fun c hc => ?_
  have h := List.all_eq_true.mp h1 c hc
  rcases Bool.eq_false_or_eq_true (isCode c) with hi | hi
  · exact h2 c (List.mem_filter.mpr ⟨hc, hi⟩)
  · simpa [hi] using h
set_option maxRecDepth 65536 in
theorem w_c0 : (Jvm.Cond.code x code maxLocals ret).before args0 about1 = true := code_word (m := ⟨1, 2⟩) (meth := k1m2) (c := k1c2) (by decide +kernel) rfl rfl rfl (by decide +kernel)
set_option maxRecDepth 65536 in
theorem w_c1 : (Jvm.Cond.code ({ cls := "com/example/dicewright/dicewright/games/ciub/Colour", name := "ofLetter", desc := "(C)Lcom/example/dicewright/dicewright/games/ciub/Colour;" } : Jvm.MethodName) prog_46_method_6_code (5 : Nat) (Option.some (Jvm.ClassFile.FieldType.object "com/example/dicewright/dicewright/games/ciub/Colour"))).before args0 about1 = true := code_word (m := ⟨6, 0⟩) (meth := k6m0) (c := k6c0) (by decide +kernel) rfl rfl rfl (by decide +kernel)
set_option maxRecDepth 65536 in
theorem w_c2 : (Jvm.Cond.code ({ cls := "com/example/dicewright/dicewright/games/ciub/ColourOfLetterPinLaw", name := "expected", desc := "(C)Lcom/example/dicewright/dicewright/games/ciub/Colour;" } : Jvm.MethodName) method_2_code (1 : Nat) (Option.some (Jvm.ClassFile.FieldType.object "com/example/dicewright/dicewright/games/ciub/Colour"))).before args0 about1 = true := code_word (m := ⟨1, 1⟩) (meth := k1m1) (c := k1c1) (by decide +kernel) rfl rfl rfl (by decide +kernel)
def codes1 : List Jvm.Cond := [Jvm.Cond.code x code maxLocals ret, Jvm.Cond.code ({ cls := "com/example/dicewright/dicewright/games/ciub/Colour", name := "ofLetter", desc := "(C)Lcom/example/dicewright/dicewright/games/ciub/Colour;" } : Jvm.MethodName) prog_46_method_6_code (5 : Nat) (Option.some (Jvm.ClassFile.FieldType.object "com/example/dicewright/dicewright/games/ciub/Colour")), Jvm.Cond.code ({ cls := "com/example/dicewright/dicewright/games/ciub/ColourOfLetterPinLaw", name := "expected", desc := "(C)Lcom/example/dicewright/dicewright/games/ciub/Colour;" } : Jvm.MethodName) method_2_code (1 : Nat) (Option.some (Jvm.ClassFile.FieldType.object "com/example/dicewright/dicewright/games/ciub/Colour"))]
set_option maxRecDepth 65536 in
theorem codes_eq : words1.filter isCode = codes1 := rfl
theorem w_codes : ∀ c ∈ words1.filter isCode, c.before args0 about1 = true := by
  rw [codes_eq]
  intro c hc
  simp only [codes1, List.mem_cons, List.not_mem_nil, or_false] at hc
  rcases hc with rfl | rfl | rfl
  · exact w_c0
  · exact w_c1
  · exact w_c2
set_option maxRecDepth 65536 in
theorem w_t1 : (words1.take 24).all (fun c => isCode c || c.before args0 about1) = true := by decide +kernel
set_option maxRecDepth 65536 in
theorem w_t2 : (words1.drop 24).all (fun c => isCode c || c.before args0 about1) = true := by decide +kernel
theorem w_tables : (allAtoms (Jvm.Cond.code x code maxLocals ret :: tables_1)).before args0 about1 = true := by
  rw [allAtoms_all]
  show words1.all (fun c => c.before args0 about1) = true
  refine all_split ?_ w_codes
  rw [← List.take_append_drop 24 words1, List.all_append, w_t1, w_t2]
  rfl
set_option maxRecDepth 65536 in
theorem w_case : (Jvm.Cond.and given_1 narrow_1).before args0 about1 = true := by decide +kernel
theorem w_applies : (headSpec (Jvm.Cond.code x code maxLocals ret :: tables_1) room_1).applies x e0.platform about1 = true :=
  (Spec.applies_iff w_frames).mpr ⟨w_running, w_runnable, w_alone, w_named, w_hears, w_ripe, w_room, w_tables⟩
theorem atStart : AtStart classFile x code maxLocals ret World_1 tables_1 room_1 Calls_1 rest_1 Pre_1 launch0 p0 e0 about1 theMethod args0 below0 :=
  ⟨lists_1, trivial, launch0.admits_env _ _ _, launch0.least_env, fairChoices_fair.cas, fairChoices_fair.clock, w_frames, w_args, w_heap, w_applies, trivial, trivial, w_case⟩
end start1
theorem witness_1 : WitnessClaimed_1 := ⟨start1.p0, start1.e0, start1.about1, start1.theMethod, start1.args0, start1.below0, start1.atStart⟩
end Jvm.Pilot.@@N@@
