import JvmDerived
import JvmDerived.Pilot.@@N@@Statement
import JvmDerived.Pilot.@@N@@Code
set_option linter.unusedVariables false
set_option linter.unusedSimpArgs false
namespace Jvm.RoadKit
open Sem ClassFile Op Lib Jvm.Stand Jvm.Free Jvm.LawKit
section New
variable {p : Program} {l : Launch} {e : Env} {R : Room} {s : State} {m : MethodId} {args : Array Value} {below : List Frame} {meth : Method} {c : Code} {T : State} {locs : List Loc} {cells slots : Nat}
theorem retI (X : Stand p l e R s m args below meth c T locs cells slots) (hx : p.tables.exec = Jvm.exec) {pc : Nat} {Ls : Array Slot} {z : Int32} {rest : List Value} (hret : meth.sig.returnType = some .int) (hd : decode c.code pc = .ok (.ireturn, 1)) {fs : List Frame}
    (hl : ∀ (f : JFrame) (acts : List Action), f.method = m → f.locked = none → f.entered = [] → (doReturn e (T.setTop f) acts (some (.int z))).1 = T.setFrames fs) : Steps p.tables e below (T.setTop (mkF m pc Ls (.int z :: rest))) (T.setFrames fs) := by
  have hm' : T.vm.method? m = some meth := X.method'
  have hn : narrow .int (.int z) = .int z := rfl
  show Steps p.tables e below (T.setTop { method := m, pc := pc, locals := Ls, stack := _ :: rest, locked := none }) _
  jvm_step X.here [X.here.top, hx, hd, hm', hret, hn]
  first | (intro acts; rw [hl _ acts rfl rfl rfl]) | rw [hl _ _ rfl rfl rfl]
  exact Steps.refl _
theorem own_nb {t : FieldType} {c : Prop} [Decidable c] {a b : Int32} (ha : nar t a = a) (hb : nar t b = b) : nar t (if c then a else b) = (if c then a else b) := by
  by_cases h : c
  · rw [if_pos h]; exact ha
  · rw [if_neg h]; exact hb
theorem own_retN (X : Stand p l e R s m args below meth c T locs cells slots) (hx : p.tables.exec = Jvm.exec) {pc : Nat} {Ls : Array Slot} {z : Int32} {t : FieldType} {rest : List Value} (hret : meth.sig.returnType = some t) (ht : t = .boolean ∨ t = .byte ∨ t = .char ∨ t = .short) (hz : nar t z = z)
    (hd : decode c.code pc = .ok (.ireturn, 1)) {fs : List Frame} (hl : ∀ (f : JFrame) (acts : List Action), f.method = m → f.locked = none → f.entered = [] → (doReturn e (T.setTop f) acts (some (.int z))).1 = T.setFrames fs) :
    Steps p.tables e below (T.setTop (mkF m pc Ls (.int z :: rest))) (T.setFrames fs) := retN X hx hret ht hd (by rw [hz]; exact hl)
end New
end Jvm.RoadKit
namespace Jvm.Pilot.@@N@@
open Jvm Jvm.ClassFile Sem Op Lib Jvm.Free Jvm.Stand Jvm.LawKit Jvm.RoadKit Bundle Jvm.Pilot.@@N@@.Jvm.D
theorem own_m {α : Type} {l : List α} {a : α} (i : Nat) (h : l[i]? = some a) : a ∈ l := List.mem_of_getElem? h
def Go (tb : Tables) (e : Env) (below : List Frame) (A : State) (P : State → Outcome → Prop) : Prop := ∃ t o, Steps tb e below A t ∧ P t o
theorem Go.st {tb : Tables} {e : Env} {below : List Frame} {A B : State} {P : State → Outcome → Prop} (h : ∀ t, Steps tb e below A t → Steps tb e below B t) (k : Go tb e below A P) : Go tb e below B P := by
  obtain ⟨t, o, h1, h2⟩ := k; exact ⟨t, o, h t h1, h2⟩
theorem Go.s {tb : Tables} {e : Env} {below : List Frame} {A B : State} {P : State → Outcome → Prop} (h : ∀ {t}, Steps tb e below A t → Steps tb e below B t) (k : Go tb e below A P) : Go tb e below B P := Go.st (fun _ q => h q) k
theorem Go.tr {tb : Tables} {e : Env} {below : List Frame} {A B : State} {P : State → Outcome → Prop} (h : Steps tb e below B A) (k : Go tb e below A P) : Go tb e below B P := by
  obtain ⟨t, o, h1, h2⟩ := k; exact ⟨t, o, h.trans h1, h2⟩
theorem Go.start {tb : Tables} {e : Env} {below : List Frame} {A : State} {P0 : State → Outcome → Prop} (h : ∀ P : State → Outcome → Prop, (∀ t o, P0 t o → P t o) → Go tb e below A P) : ∃ t o, Steps tb e below A t ∧ P0 t o := h P0 (fun _ _ q => q)
theorem own_cs {p : Program} {l : Launch} {e : Env} {R : Room} {s : State} {m : MethodId} {args : Array Value} {below : List Frame} {meth : Method} {c : Code} {T : State} {locs : List Loc} {cells slots cells' slots' : Nat} (X : Stand p l e R s m args below meth c T locs cells slots) (h1 : cells = cells') (h2 : slots = slots') : Stand p l e R s m args below meth c T locs cells' slots' := h1 ▸ h2 ▸ X
theorem own_sta_keep {Z : State} {h h' : Heap} {C n d : String} {v : Value} {ws : List Addr} (F : Sta Z h C n d v) (K : Keep h h' ws) (q : ∀ x ∈ ws, ∀ cell : Cell, h[x]? = some cell → cell.vm.isStatics = false) : Sta Z h' C n d v := by
  obtain ⟨cf, i, k, f, st, cell, h1, h2, h3, h4, h5, h6, h7⟩ := F
  exact ⟨cf, i, k, f, st, cell, h1, h2, h3, h4, K.2.1 st cell h5 (fun hm => by rw [q st hm cell h5] at h6; cases h6), h6, h7⟩
theorem own_cat {v : Value} (h : v.isRef = true) : v.category = 1 := by rcases ref_cases h with rfl | ⟨_, rfl⟩ <;> rfl
theorem own_cst {tb : Tables} {e : Env} {below : List Frame} {T : State} {m : MethodId} {J : Nat} {Ls : Array Slot} {a b : Int32} {rest : List Value} {t : State} (h : a = b) (k : Steps tb e below (T.setTop (mkF m J Ls (.int a :: rest))) t) : Steps tb e below (T.setTop (mkF m J Ls (.int b :: rest))) t := h ▸ k
theorem own_lt {x y : Int64} (h : x < y) : lcmpW x y < 0 := (lw_lt x y).mpr h
theorem own_nlt {x y : Int64} (h : ¬ x < y) : ¬ lcmpW x y < 0 := fun q => h ((lw_lt x y).mp q)
theorem own_gt {x y : Int64} (h : y < x) : 0 < lcmpW x y := (lw_gt x y).mpr h
theorem own_ngt {x y : Int64} (h : ¬ y < x) : ¬ 0 < lcmpW x y := fun q => h ((lw_gt x y).mp q)
theorem own_eq {x y : Int64} (h : x = y) : lcmpW x y = 0 := (lw_eq x y).mpr h
theorem own_neq {x y : Int64} (h : ¬ x = y) : ¬ lcmpW x y = 0 := fun q => h ((lw_eq x y).mp q)
section G
variable {p : Program} {l : Launch} {e : Env} {R : Room} {s : State} {m : MethodId} {args : Array Value} {below : List Frame} {meth : Method} {c : Code} {T : State} {locs : List Loc} {cells slots : Nat} {bytes : ByteArray} {pc : Nat} {Ls : Array Slot} {S : List Value} {P : State → Outcome → Prop}
theorem g_iload (X : Stand p l e R s m args below meth c T locs cells slots) (hx : p.tables.exec = Jvm.exec) (hby : c.code = bytes) {k : Nat} {v : Int32} (hd : decode bytes pc = .ok (.iload k, 2)) (hl : Ls[k]? = some (.val (.int v))) (q : Go p.tables e below (T.setTop (mkF m (pc + 2) Ls (.int v :: S))) P) : Go p.tables e below (T.setTop (mkF m pc Ls S)) P := Go.s (XS.iload X.here hx rfl (hb hby hd) hl) q
theorem g_iloadN (X : Stand p l e R s m args below meth c T locs cells slots) (hx : p.tables.exec = Jvm.exec) (hby : c.code = bytes) {k : Fin 4} {v : Int32} (hd : decode bytes pc = .ok (.iload_n k, 1)) (hl : Ls[k.val]? = some (.val (.int v))) (q : Go p.tables e below (T.setTop (mkF m (pc + 1) Ls (.int v :: S))) P) : Go p.tables e below (T.setTop (mkF m pc Ls S)) P := Go.s (XS.iloadN X.here hx rfl (hb hby hd) hl) q
theorem g_lload (X : Stand p l e R s m args below meth c T locs cells slots) (hx : p.tables.exec = Jvm.exec) (hby : c.code = bytes) {k : Nat} {v : Int64} (hd : decode bytes pc = .ok (.lload k, 2)) (hl : Ls[k]? = some (.val (.long v))) (q : Go p.tables e below (T.setTop (mkF m (pc + 2) Ls (.long v :: S))) P) : Go p.tables e below (T.setTop (mkF m pc Ls S)) P := Go.s (XS.lload X.here hx rfl (hb hby hd) hl) q
theorem g_lloadN (X : Stand p l e R s m args below meth c T locs cells slots) (hx : p.tables.exec = Jvm.exec) (hby : c.code = bytes) {k : Fin 4} {v : Int64} (hd : decode bytes pc = .ok (.lload_n k, 1)) (hl : Ls[k.val]? = some (.val (.long v))) (q : Go p.tables e below (T.setTop (mkF m (pc + 1) Ls (.long v :: S))) P) : Go p.tables e below (T.setTop (mkF m pc Ls S)) P := Go.s (XS.lloadN X.here hx rfl (hb hby hd) hl) q
theorem g_aload (X : Stand p l e R s m args below meth c T locs cells slots) (hx : p.tables.exec = Jvm.exec) (hby : c.code = bytes) {k : Nat} {v : Value} (hd : decode bytes pc = .ok (.aload k, 2)) (hl : Ls[k]? = some (.val v)) (hv : v.isRef = true) (q : Go p.tables e below (T.setTop (mkF m (pc + 2) Ls (v :: S))) P) : Go p.tables e below (T.setTop (mkF m pc Ls S)) P := Go.s (XS.aload X.here hx rfl (hb hby hd) hl hv) q
theorem g_aloadN (X : Stand p l e R s m args below meth c T locs cells slots) (hx : p.tables.exec = Jvm.exec) (hby : c.code = bytes) {k : Fin 4} {v : Value} (hd : decode bytes pc = .ok (.aload_n k, 1)) (hl : Ls[k.val]? = some (.val v)) (hv : v.isRef = true) (q : Go p.tables e below (T.setTop (mkF m (pc + 1) Ls (v :: S))) P) : Go p.tables e below (T.setTop (mkF m pc Ls S)) P := Go.s (XS.aloadN X.here hx rfl (hb hby hd) hl hv) q
theorem g_istore (X : Stand p l e R s m args below meth c T locs cells slots) (hx : p.tables.exec = Jvm.exec) (hby : c.code = bytes) {k : Nat} {x : Int32} {l' : Array Slot} (hd : decode bytes pc = .ok (.istore k, 2)) (hl : storeLocals Ls k (.int x) = some l') (q : Go p.tables e below (T.setTop (mkF m (pc + 2) l' S)) P) : Go p.tables e below (T.setTop (mkF m pc Ls (.int x :: S))) P := Go.s (XS.istore X.here hx rfl (hb hby hd) rfl hl) q
theorem g_istoreN (X : Stand p l e R s m args below meth c T locs cells slots) (hx : p.tables.exec = Jvm.exec) (hby : c.code = bytes) {k : Fin 4} {x : Int32} {l' : Array Slot} (hd : decode bytes pc = .ok (.istore_n k, 1)) (hl : storeLocals Ls k.val (.int x) = some l') (q : Go p.tables e below (T.setTop (mkF m (pc + 1) l' S)) P) : Go p.tables e below (T.setTop (mkF m pc Ls (.int x :: S))) P := Go.s (XS.istoreN X.here hx rfl (hb hby hd) rfl hl) q
theorem g_astore (X : Stand p l e R s m args below meth c T locs cells slots) (hx : p.tables.exec = Jvm.exec) (hby : c.code = bytes) {k : Nat} {x : Value} {l' : Array Slot} (hd : decode bytes pc = .ok (.astore k, 2)) (hv : x.isRef = true) (hl : storeLocals Ls k x = some l') (q : Go p.tables e below (T.setTop (mkF m (pc + 2) l' S)) P) : Go p.tables e below (T.setTop (mkF m pc Ls (x :: S))) P := Go.s (XS.astore X.here hx rfl (hb hby hd) rfl hv hl) q
theorem g_astoreN (X : Stand p l e R s m args below meth c T locs cells slots) (hx : p.tables.exec = Jvm.exec) (hby : c.code = bytes) {k : Fin 4} {x : Value} {l' : Array Slot} (hd : decode bytes pc = .ok (.astore_n k, 1)) (hv : x.isRef = true) (hl : storeLocals Ls k.val x = some l') (q : Go p.tables e below (T.setTop (mkF m (pc + 1) l' S)) P) : Go p.tables e below (T.setTop (mkF m pc Ls (x :: S))) P := Go.s (XS.astoreN X.here hx rfl (hb hby hd) rfl hv hl) q
theorem g_iconst (X : Stand p l e R s m args below meth c T locs cells slots) (hx : p.tables.exec = Jvm.exec) (hby : c.code = bytes) {i : Int} {v : Int32} (hd : decode bytes pc = .ok (.iconst i, 1)) (hv : Int32.ofInt i = v) (q : Go p.tables e below (T.setTop (mkF m (pc + 1) Ls (.int v :: S))) P) : Go p.tables e below (T.setTop (mkF m pc Ls S)) P := by subst hv; exact Go.s (XS.iconst X.here hx rfl (hb hby hd)) q
theorem g_bipush (X : Stand p l e R s m args below meth c T locs cells slots) (hx : p.tables.exec = Jvm.exec) (hby : c.code = bytes) {i : Int} {v : Int32} (hd : decode bytes pc = .ok (.bipush i, 2)) (hv : (Int8.ofInt i).toInt32 = v) (q : Go p.tables e below (T.setTop (mkF m (pc + 2) Ls (.int v :: S))) P) : Go p.tables e below (T.setTop (mkF m pc Ls S)) P := by subst hv; exact Go.s (XS.bipush X.here hx rfl (hb hby hd)) q
theorem g_sipush (X : Stand p l e R s m args below meth c T locs cells slots) (hx : p.tables.exec = Jvm.exec) (hby : c.code = bytes) {i : Int} {v : Int32} (hd : decode bytes pc = .ok (.sipush i, 3)) (hv : (Int16.ofInt i).toInt32 = v) (q : Go p.tables e below (T.setTop (mkF m (pc + 3) Ls (.int v :: S))) P) : Go p.tables e below (T.setTop (mkF m pc Ls S)) P := by subst hv; exact Go.s (XS.sipush X.here hx rfl (hb hby hd)) q
theorem g_iadd (X : Stand p l e R s m args below meth c T locs cells slots) (hx : p.tables.exec = Jvm.exec) (hby : c.code = bytes) {x y z : Int32} (hd : decode bytes pc = .ok (.iadd, 1)) (hz : x + y = z) (q : Go p.tables e below (T.setTop (mkF m (pc + 1) Ls (.int z :: S))) P) : Go p.tables e below (T.setTop (mkF m pc Ls (.int y :: .int x :: S))) P := by subst hz; exact Go.s (XS.iadd X.here hx rfl (hb hby hd) rfl) q
theorem g_isub (X : Stand p l e R s m args below meth c T locs cells slots) (hx : p.tables.exec = Jvm.exec) (hby : c.code = bytes) {x y z : Int32} (hd : decode bytes pc = .ok (.isub, 1)) (hz : x - y = z) (q : Go p.tables e below (T.setTop (mkF m (pc + 1) Ls (.int z :: S))) P) : Go p.tables e below (T.setTop (mkF m pc Ls (.int y :: .int x :: S))) P := by subst hz; exact Go.s (XS.isub X.here hx rfl (hb hby hd) rfl) q
theorem g_imul (X : Stand p l e R s m args below meth c T locs cells slots) (hx : p.tables.exec = Jvm.exec) (hby : c.code = bytes) {x y z : Int32} (hd : decode bytes pc = .ok (.imul, 1)) (hz : x * y = z) (q : Go p.tables e below (T.setTop (mkF m (pc + 1) Ls (.int z :: S))) P) : Go p.tables e below (T.setTop (mkF m pc Ls (.int y :: .int x :: S))) P := by subst hz; exact Go.s (XS.imul X.here hx rfl (hb hby hd) rfl) q
theorem g_iand (X : Stand p l e R s m args below meth c T locs cells slots) (hx : p.tables.exec = Jvm.exec) (hby : c.code = bytes) {x y z : Int32} (hd : decode bytes pc = .ok (.iand, 1)) (hz : x &&& y = z) (q : Go p.tables e below (T.setTop (mkF m (pc + 1) Ls (.int z :: S))) P) : Go p.tables e below (T.setTop (mkF m pc Ls (.int y :: .int x :: S))) P := by subst hz; exact Go.s (XS.iand X.here hx rfl (hb hby hd) rfl) q
theorem g_ior (X : Stand p l e R s m args below meth c T locs cells slots) (hx : p.tables.exec = Jvm.exec) (hby : c.code = bytes) {x y z : Int32} (hd : decode bytes pc = .ok (.ior, 1)) (hz : x ||| y = z) (q : Go p.tables e below (T.setTop (mkF m (pc + 1) Ls (.int z :: S))) P) : Go p.tables e below (T.setTop (mkF m pc Ls (.int y :: .int x :: S))) P := by subst hz; exact Go.s (XS.ior X.here hx rfl (hb hby hd) rfl) q
theorem g_ixor (X : Stand p l e R s m args below meth c T locs cells slots) (hx : p.tables.exec = Jvm.exec) (hby : c.code = bytes) {x y z : Int32} (hd : decode bytes pc = .ok (.ixor, 1)) (hz : x ^^^ y = z) (q : Go p.tables e below (T.setTop (mkF m (pc + 1) Ls (.int z :: S))) P) : Go p.tables e below (T.setTop (mkF m pc Ls (.int y :: .int x :: S))) P := by subst hz; exact Go.s (XS.ixor X.here hx rfl (hb hby hd) rfl) q
theorem g_i2b (X : Stand p l e R s m args below meth c T locs cells slots) (hx : p.tables.exec = Jvm.exec) (hby : c.code = bytes) {x z : Int32} (hd : decode bytes pc = .ok (.i2b, 1)) (hz : x.toInt8.toInt32 = z) (q : Go p.tables e below (T.setTop (mkF m (pc + 1) Ls (.int z :: S))) P) : Go p.tables e below (T.setTop (mkF m pc Ls (.int x :: S))) P := by subst hz; exact Go.s (XS.i2b X.here hx rfl (hb hby hd) rfl) q
theorem g_i2c (X : Stand p l e R s m args below meth c T locs cells slots) (hx : p.tables.exec = Jvm.exec) (hby : c.code = bytes) {x z : Int32} (hd : decode bytes pc = .ok (.i2c, 1)) (hz : x.toUInt32.toUInt16.toUInt32.toInt32 = z) (q : Go p.tables e below (T.setTop (mkF m (pc + 1) Ls (.int z :: S))) P) : Go p.tables e below (T.setTop (mkF m pc Ls (.int x :: S))) P := by subst hz; exact Go.s (XS.i2c X.here hx rfl (hb hby hd) rfl) q
theorem g_dup (X : Stand p l e R s m args below meth c T locs cells slots) (hx : p.tables.exec = Jvm.exec) (hby : c.code = bytes) {x : Value} (hd : decode bytes pc = .ok (.dup, 1)) (hc : x.category = 1) (q : Go p.tables e below (T.setTop (mkF m (pc + 1) Ls (x :: x :: S))) P) : Go p.tables e below (T.setTop (mkF m pc Ls (x :: S))) P := Go.s (XS.dup X.here hx rfl (hb hby hd) rfl hc) q
theorem g_goto (X : Stand p l e R s m args below meth c T locs cells slots) (hx : p.tables.exec = Jvm.exec) (hby : c.code = bytes) {o : Int} {pc0 pc' : Nat} (hd : decode bytes pc = .ok (.goto o, 3)) (hpc : pc = pc0) (ho : 0 ≤ (pc0 : Int) + o) (hp : ((pc0 : Int) + o).toNat = pc') (q : Go p.tables e below (T.setTop (mkF m pc' Ls S)) P) : Go p.tables e below (T.setTop (mkF m pc Ls S)) P := by subst hpc; exact Go.s (XS.goto X.here hx rfl rfl (hb hby hd) ho hp) q
theorem g_iinc (X : Stand p l e R s m args below meth c T locs cells slots) (hx : p.tables.exec = Jvm.exec) (hby : c.code = bytes) {k : Nat} {cst : Int} {x x' : Int32} {l' : Array Slot} (hd : decode bytes pc = .ok (.iinc k cst, 3)) (hl : Ls[k]? = some (.val (.int x))) (hx' : x + Int32.ofInt cst = x') (hl' : storeLocals Ls k (.int x') = some l') (q : Go p.tables e below (T.setTop (mkF m (pc + 3) l' S)) P) : Go p.tables e below (T.setTop (mkF m pc Ls S)) P := by subst hx'; exact Go.s (XS.iinc X.here hx rfl (hb hby hd) hl hl') q
theorem g_icmpYes (X : Stand p l e R s m args below meth c T locs cells slots) (hx : p.tables.exec = Jvm.exec) (hby : c.code = bytes) {cd : ClassFile.Cond} {x y : Int32} {o : Int} {pc0 pc' : Nat} (hd : decode bytes pc = .ok (.if_icmp cd o, 3)) (hc : if_icmp.holds cd x y = true) (hpc : pc = pc0) (ho : 0 ≤ (pc0 : Int) + o) (hp : ((pc0 : Int) + o).toNat = pc') (q : Go p.tables e below (T.setTop (mkF m pc' Ls S)) P) : Go p.tables e below (T.setTop (mkF m pc Ls (.int y :: .int x :: S))) P := by subst hpc; exact Go.s (XS.icmpYes X.here hx rfl rfl (hb hby hd) rfl hc ho hp) q
theorem g_icmpNo (X : Stand p l e R s m args below meth c T locs cells slots) (hx : p.tables.exec = Jvm.exec) (hby : c.code = bytes) {cd : ClassFile.Cond} {x y : Int32} {o : Int} (hd : decode bytes pc = .ok (.if_icmp cd o, 3)) (hc : if_icmp.holds cd x y = false) (q : Go p.tables e below (T.setTop (mkF m (pc + 3) Ls S)) P) : Go p.tables e below (T.setTop (mkF m pc Ls (.int y :: .int x :: S))) P := Go.s (XS.icmpNo X.here hx rfl (hb hby hd) rfl hc) q
theorem g_ifYes (X : Stand p l e R s m args below meth c T locs cells slots) (hx : p.tables.exec = Jvm.exec) (hby : c.code = bytes) {cd : ClassFile.Cond} {x : Int32} {o : Int} {pc0 pc' : Nat} (hd : decode bytes pc = .ok (.ifCond cd o, 3)) (hc : ifCond.holds cd x = true) (hpc : pc = pc0) (ho : 0 ≤ (pc0 : Int) + o) (hp : ((pc0 : Int) + o).toNat = pc') (q : Go p.tables e below (T.setTop (mkF m pc' Ls S)) P) : Go p.tables e below (T.setTop (mkF m pc Ls (.int x :: S))) P := by subst hpc; exact Go.s (XS.ifYes X.here hx rfl rfl (hb hby hd) rfl hc ho hp) q
theorem g_ifNo (X : Stand p l e R s m args below meth c T locs cells slots) (hx : p.tables.exec = Jvm.exec) (hby : c.code = bytes) {cd : ClassFile.Cond} {x : Int32} {o : Int} (hd : decode bytes pc = .ok (.ifCond cd o, 3)) (hc : ifCond.holds cd x = false) (q : Go p.tables e below (T.setTop (mkF m (pc + 3) Ls S)) P) : Go p.tables e below (T.setTop (mkF m pc Ls (.int x :: S))) P := Go.s (XS.ifNo X.here hx rfl (hb hby hd) rfl hc) q
end G
theorem own_rb {p : Program} {l : Launch} {e : Env} {R : Room} {s : State} {m : MethodId} {args : Array Value} {below : List Frame} {meth : Method} {c : Code} {T : State} {locs : List Loc} {cells slots : Nat} (X : Stand p l e R s m args below meth c T locs cells slots) : Stand p l e R (s.setVm s.vm) m args below meth c T locs cells slots := X
theorem own_chr {Z s T : State} {EL : List (String × Nat)} {h0 h : Heap} (hh : s.heap = h0) (e : T.heap = h) (q : CHr Z EL s.vm h0 T.vm h) : CHr Z EL s.vm s.heap T.vm T.heap := by rw [hh, e]; exact q
theorem own_newRE {p : Program} {l : Launch} {e : Env} {R : Room} {s : State} {m : MethodId} {args : Array Value} {below : List Frame} {meth : Method} {c : Code} {T : State} {locs : List Loc} {cells slots : Nat} {Z : State} {a0 : Array Value} {h : Heap} (X : Stand p l e R s m args below meth c T locs cells slots) (hx : p.tables.exec = Jvm.exec) (hZ : Z.Warmed39 s.vm) {own C : String} {index : Nat} (hown : s.vm.findClass own = some m.cls) (w1 : (Cond.classLink own index C).before a0 Z = true) (w2 : (Cond.arrayOver (.object C)).before a0 Z = true)
    (eT : T.heap = h) {g : JFrame} (hg : g.method = m) (hd : decode c.code g.pc = .ok (.anewarray index, 3)) {n : Int32} {rest : List Value} (hs : g.stack = .int n :: rest) (hn : ¬ n < 0) {cap : Nat} (hcap : n.toNatClampNeg ≤ cap) (hb : cap * 8 ≤ 536870912) (hc : cells + 1 ≤ R.cells) (hl : slots + cap ≤ R.slots) {ad : String} (had : "[" ++ (FieldType.object C).toString = ad) :
    ∃ T' h' cA, Stand p l e R s m args below meth c T' locs (cells + 1) (slots + cap) ∧ T'.heap = h' ∧ Ext h h' ∧ Arr Z h' h.size (newA cA (.object C) n) (.object C) ∧ Exa Z h' h.size ad ∧ Ovr Z cA C ∧
      ∀ target, Steps p.tables e below (T'.setTop { g with pc := g.pc + 3, stack := .ref h.size :: rest }) target → Steps p.tables e below (T.setTop g) target := by
  have w3 : (Cond.arrayOver (.object C)).before args s = true := Cond.arrayOver_alike hZ.alike w2
  obtain ⟨vm₁, cA, kA, comp, -, f1, f2, f3, f4, Y, st⟩ := X.anewarrayRefK hx hown (mv hZ w1) w3 hg hd hs hn (by omega) hc (by omega)
  subst eT; subst had
  have f5 := (hZ.alike.findClass _ _).symm.trans f1
  obtain ⟨kz, y1, -⟩ := Vm.findClass_spec f5
  obtain ⟨ky, y2, y3⟩ := hZ.alike.2.2 _ _ y1
  obtain rfl : kA = ky := Option.some.inj (f2.symm.trans y2)
  have kk : kz.kind = .array comp (.object C) := by rw [← f3, y3]
  have A : Arr Z (T.heap.push (newA cA (.object C) n)) T.heap.size (newA cA (.object C) n) (.object C) := ⟨by simp, ⟨by simp [newA], kz, y1, comp, kk⟩, by simp [newA]⟩
  exact ⟨_, _, cA, Y.more (Nat.le_refl _) (by omega), rfl, ext_of fun a q => (Array.getElem?_push_lt q).trans (Array.getElem?_eq_getElem q).symm, A, exa_arr A f5 rfl, ⟨kz, comp, y1, kk, (hZ.alike.findClass _ _).symm.trans f4⟩, st⟩
theorem own_exB {Z s : State} {EL : List (String × Nat)} {vm : Vm} {h : Heap} {own text : String} {index : Nat} {a b : Addr} {k : ClassId} {z : Int32} {vs : List Value} {dv : Value} {a0 : Array Value} (hZ : Z.Warmed39 vm) (w : (Cond.stringLink own index text).before a0 Z = true) (hmem : (own, index) ∈ EL) (H : CHv Z EL vm h) (L : Lit (s.setVm vm) own index a) (F : Fld Z h a "java/lang/String" "value" "[B" (.ref b)) (A : Arv Z h b k .byte z vs dv) : Exa Z h b "[B" := by
  have w2 : (Cond.stringLink own index text).before a0 (Wst Z vm h) = true := mvS (s := { Z with heap := h }) hZ w
  have q : (s.setVm vm).resolvedAt? own index = some (.string a) := L
  cases hf : vm.findClass own with
  | none => simp [State.resolvedAt?, hf] at q
  | some c =>
    obtain ⟨k0, cf, i, units, hk, hcf, hp, hu, -, -, -⟩ := Cond.stringLink_spec (s := Wst Z vm h) (show (Wst Z vm h).vm.findClass own = some c from hf) w2
    have hk' : vm.classes[c]? = some k0 := hk
    have hres : k0.resolved[index]? = some (some (.string a)) := by
      simp [State.resolvedAt?, hf, hk'] at q
      rcases hr : k0.resolved[index]? with _ | _ | r
      · rw [hr] at q; cases q
      · rw [hr] at q; cases q
      · rw [hr] at q; simpa using q
    obtain ⟨sq, hq, G⟩ := SlB.of (H _ hmem units a ⟨c, k0, cf, i, hf, hk', hcf, hp, hu, Or.inl hres⟩)
    obtain ⟨cS, ⟨⟨s1, -, -, ⟨cv, kv, iv, s4, -⟩, -, -, -, s8, -, s10, -⟩, -⟩, -, hB, -⟩ := G
    subst hq
    obtain ⟨cell, cf', k', i', f', f1, f2, -, -, -, -, f7⟩ := F
    cases (show h[sq.sa]? = some sq.sC from s1).symm.trans f1
    obtain ⟨kv', z4⟩ := ff_back (U := Wst Z vm h) hZ.alike s4
    have e := z4.symm.trans f2
    simp only [Option.some.injEq, Prod.mk.injEq] at e
    rw [← e.2.2.2, s8] at f7
    have eb : sq.sd = b := by simpa using f7
    subst eb
    obtain ⟨c2, A2, -⟩ := A
    cases (show h[sq.sd]? = some sq.SA from s10).symm.trans A2.1
    obtain ⟨a1, ⟨-, kA, hkA, comp, hkind⟩, -⟩ := id A2
    exact ⟨_, kA, a1, (hZ.alike.findClass _ _).symm.trans (show vm.findClass "[B" = _ from hB), hkA, A2.plain, fun q => by rw [hkind] at q; cases q⟩
def own_EL : List (String × Nat) := [("com/example/crossbook/crossbook/venue/TextsIndexOfPinLaw", 31)]
theorem own_bb (x : Int32) : (x.toInt8.toInt32).toInt8.toInt32 = x.toInt8.toInt32 := by
  have e1 := c_i2b x
  have e2 := c_i2b x.toInt8.toInt32
  apply Int32.toInt_inj.mp; omega
theorem own_nc {x : Int32} (h1 : 0 ≤ x.toInt) (h2 : x.toInt ≤ 255) : x.toUInt32.toUInt16.toUInt32.toInt32 = x := by
  have e := c_i2c x
  apply Int32.toInt_inj.mp; omega
theorem own_255 {x : Int32} (h2 : x.toInt ≤ 255) : ¬ ((255 : Int32) < x) := by
  have l0 : (255 : Int32).toInt = 255 := rfl
  rw [Int32.lt_iff_toInt_lt]; omega
def bts (ln u v : Int32) : List Value := if ln = 0 then [] else if ln = 1 then [.int u] else [.int u, .int v]
theorem bts0 (u v : Int32) : bts 0 u v = [] := if_pos rfl
theorem bts1 (u v : Int32) : bts 1 u v = [.int u] := (if_neg (by decide)).trans (if_pos rfl)
theorem bts2 (u v : Int32) : bts 2 u v = [.int u, .int v] := (if_neg (by decide)).trans (if_neg (by decide))
def ec1 (u : Int32) : Int32 := (((192 : Int32) ||| ((u &&& (255 : Int32)) >>> ((6 : Int32) &&& 31))).toInt8.toInt32)
def ec2 (u : Int32) : Int32 := (((128 : Int32) ||| (u &&& (63 : Int32))).toInt8.toInt32)
def enc1 (u : Int32) : List Int32 := if u < (0 : Int32) then [ec1 u, ec2 u] else [u]
theorem enP {u : Int32} (h : u < (0 : Int32)) : enc1 u = [ec1 u, ec2 u] := if_pos h
theorem enN {u : Int32} (h : ¬ (u < (0 : Int32))) : enc1 u = [u] := if_neg h
def eL (ln u v : Int32) : List Int32 := if ln = 0 then [] else if ln = 1 then enc1 u else enc1 u ++ enc1 v
theorem eL0 (u v : Int32) : eL 0 u v = [] := if_pos rfl
theorem eL1 (u v : Int32) : eL 1 u v = enc1 u := (if_neg (by decide)).trans (if_pos rfl)
theorem eL2 (u v : Int32) : eL 2 u v = enc1 u ++ enc1 v := (if_neg (by decide)).trans (if_neg (by decide))
def eN (ln u v : Int32) : Int32 := Int32.ofNat (eL ln u v).length
theorem dc0_0 : decode jdk_43_method_3_code 0 = .ok (.iload_n 0, 1) := by decide +kernel
theorem dc0_1 : decode jdk_43_method_3_code 1 = .ok (.sipush 255, 3) := by decide +kernel
theorem dc0_4 : decode jdk_43_method_3_code 4 = .ok (.if_icmp .gt 7, 3) := by decide +kernel
theorem dc0_11 : decode jdk_43_method_3_code 11 = .ok (.iconst 0, 1) := by decide +kernel
theorem dc0_7 : decode jdk_43_method_3_code 7 = .ok (.iconst 1, 1) := by decide +kernel
theorem dc0_8 : decode jdk_43_method_3_code 8 = .ok (.goto 4, 3) := by decide +kernel
theorem dc0_12 : decode jdk_43_method_3_code 12 = .ok (.ireturn, 1) := by decide +kernel
theorem pn_0 : plainName "java/lang/StringLatin1" = true := by first | (simp [plainName, overriddenIn]; done) | decide +kernel
theorem ef_rmCan (mi : MethodId) (c : Int32) : entryFrame mi #[(.int c)] 1 = mkF mi 0 #[.val (.int c)] [] := by first | (simp [entryFrame, mkF, argsToLocals, Value.category]; done) | rfl
def fCan (c : Int32) : Int32 := (if (255 : Int32) < c then (0 : Int32) else (1 : Int32))
def Q_rmCan (Z : State) (c : Int32) (h0 : Heap) (n0 : Nat) (vv_ : Option Value) (hh_ : Heap) (LL_ : List Loc) : Prop := vv_ = some (.int (fCan c)) ∧ Fr n0 LL_ ∧ hh_ = h0
set_option maxRecDepth 65536 in
set_option maxHeartbeats 40000000 in
theorem rmCan (l : Launch) (Z : State) (a0 : Array Value) (hw : ∀ d ∈ tables_1, d.before a0 Z = true) (ws : List Jvm.Cond) (c : Int32) (h0 : Heap) (n0 : Nat) (Z0 : n0 ≤ h0.size) :
    MetFree l (⟨"java/lang/StringLatin1", "canEncode", "(C)Z"⟩ : MethodName) (head1 (Jvm.Cond.code (⟨"java/lang/StringLatin1", "canEncode", "(C)Z"⟩ : MethodName) jdk_43_method_3_code 1 (some .boolean) :: ws) ({ frames := 0, cells := 0, slots := 0, locals := 0 } : Room)) (fun aa_ U => aa_ = #[(.int c)] ∧ Z.Warmed39 U.vm ∧ U.heap = h0) (fun _ _ _ _ _ => True) (fun _ U oo_ UV_ => ∃ vv_ LL_, oo_ = .returned vv_ ∧ Q_rmCan Z c h0 n0 vv_ UV_.heap LL_ ∧ FrameEnd U oo_ UV_ LL_ ({ frames := 0, cells := 0, slots := 0, locals := 0 } : Room).cells ({ frames := 0, cells := 0, slots := 0, locals := 0 } : Room).slots) := by
  refine MetFree.of_bodySF (plainFor_of_name pn_0) hisR ?_
  intro pg ev si mi args below meth ci s₁ Bd hml0 hP0 hK
  obtain ⟨rfl, hZ, hh⟩ := hP0
  have hx := Bd.exec
  have hby := Bd.bytes
  have hml : ci.maxLocals = 1 := hml0
  have hown : si.vm.findClass "java/lang/StringLatin1" = some mi.cls := findClass_of_methodNamed Bd.named
  have hnm := (name_of_methodNamed Bd.named Bd.method).1
  have X0 : Stand pg l ev ({ frames := 0, cells := 0, slots := 0, locals := 0 } : Room) si mi #[(.int c)] below meth ci s₁ [] 0 0 := Stand.of_body Bd
  have e0 : s₁.heap = h0 := by rw [← hh, Bd.state]; rfl
  have N0 := Fr.nil n0
  refine Go.start (fun P hP => ?_)
  refine Go.st (fun t_ k_ => castTop (ef_rmCan mi c) k_) (A := s₁.setTop (mkF mi 0 #[.val (.int c)] [])) ?_
  show Go _ _ _ (s₁.setTop (mkF mi 0 #[.val (.int c)] [])) _
  refine g_iloadN X0 hx hby dc0_0 rfl ?_
  refine g_sipush X0 hx hby dc0_1 (v := 255) rfl ?_
  have dm1 : ∀ t_, Steps pg.tables ev below (s₁.setTop (mkF mi 12 #[.val (.int c)] [(.int (if (255 : Int32) < c then (0 : Int32) else (1 : Int32)))])) t_ → Steps pg.tables ev below (s₁.setTop (mkF mi 4 #[.val (.int c)] [(.int 255), (.int c)])) t_ := by
    intro t_ k_
    by_cases hd : (255 : Int32) < c
    · refine XS.icmpYes X0.here hx rfl (pc0 := 4) (pc' := 11) rfl (hb hby dc0_4) rfl (tlt hd).2.2.1 (by decide) (by decide) ?_
      refine XS.iconst X0.here hx rfl (hb hby dc0_11) ?_
      show Steps _ _ _ (s₁.setTop (mkF mi 12 #[.val (.int c)] [(.int 0)])) t_
      exact own_cst (if_pos hd) k_
    · refine XS.icmpNo X0.here hx rfl (hb hby dc0_4) rfl (flt hd).2.2.1 ?_
      refine XS.iconst X0.here hx rfl (hb hby dc0_7) ?_
      refine XS.goto X0.here hx rfl (pc0 := 8) (pc' := 12) rfl (hb hby dc0_8) (by decide) (by decide) ?_
      show Steps _ _ _ (s₁.setTop (mkF mi 12 #[.val (.int c)] [(.int 1)])) t_
      exact own_cst (if_neg hd) k_
  refine Go.st dm1 ?_
  show Go _ _ _ (s₁.setTop (mkF mi 12 #[.val (.int c)] [(.int (if (255 : Int32) < c then (0 : Int32) else (1 : Int32)))])) _
  obtain ⟨fs, hr, hrun, hended, hW, hsame⟩ := X0.leave (v := some (.int (if (255 : Int32) < c then (0 : Int32) else (1 : Int32)))) (fun h => by rw [Bd.returns] at h; cases h) (BodyLoose.notSynchronized Bd)
  refine ⟨_, _, ?_, hP _ _ ⟨hrun, hended, _, _, rfl, ?_, ⟨_, rfl⟩, hW, hsame.mono (by decide) (by decide)⟩⟩
  · exact own_retN X0 hx (t := .boolean) Bd.returns (by simp) (own_nb rfl rfl) (hb hby dc0_12) hr
  · show (some (.int (if (255 : Int32) < c then (0 : Int32) else (1 : Int32))) : Option Value) = some (.int (fCan c)) ∧ Fr n0 _ ∧ s₁.heap = h0
    rw [e0]
    exact ⟨by rw [show fCan c = (if (255 : Int32) < c then (0 : Int32) else (1 : Int32)) from rfl], N0, rfl⟩
theorem dc1_0 : decode jdk_43_method_46_code 0 = .ok (.iconst 1, 1) := by decide +kernel
theorem dc1_1 : decode jdk_43_method_46_code 1 = .ok (.newarray .byte, 2) := by decide +kernel
theorem dc1_3 : decode jdk_43_method_46_code 3 = .ok (.dup, 1) := by decide +kernel
theorem dc1_4 : decode jdk_43_method_46_code 4 = .ok (.iconst 0, 1) := by decide +kernel
theorem dc1_5 : decode jdk_43_method_46_code 5 = .ok (.iload_n 0, 1) := by decide +kernel
theorem dc1_6 : decode jdk_43_method_46_code 6 = .ok (.i2b, 1) := by decide +kernel
theorem dc1_7 : decode jdk_43_method_46_code 7 = .ok (.bastore, 1) := by decide +kernel
theorem dc1_8 : decode jdk_43_method_46_code 8 = .ok (.areturn, 1) := by decide +kernel
theorem ef_rmTB (mi : MethodId) (x : Int32) : entryFrame mi #[(.int x)] 1 = mkF mi 0 #[.val (.int x)] [] := by first | (simp [entryFrame, mkF, argsToLocals, Value.category]; done) | rfl
def Q_rmTB (Z : State) (x : Int32) (h0 : Heap) (n0 : Nat) (vv_ : Option Value) (hh_ : Heap) (LL_ : List Loc) : Prop := ∃ (r : Addr) (kr : ClassId), vv_ = some (.ref r) ∧ Fr n0 LL_ ∧ Keep h0 hh_ [] ∧ h0.size ≤ r ∧ n0 ≤ r ∧ Arv Z hh_ r kr .byte (1 : Int32) [(.int (x.toInt8.toInt32))] (.int (0 : Int32)) ∧ Exa Z hh_ r "[B"
set_option maxRecDepth 65536 in
set_option maxHeartbeats 40000000 in
theorem rmTB (l : Launch) (Z : State) (a0 : Array Value) (hw : ∀ d ∈ tables_1, d.before a0 Z = true) (ws : List Jvm.Cond) (x : Int32) (h0 : Heap) (n0 : Nat) (Z0 : n0 ≤ h0.size) :
    MetFree l (⟨"java/lang/StringLatin1", "toBytes", "(C)[B"⟩ : MethodName) (head1 (Jvm.Cond.code (⟨"java/lang/StringLatin1", "toBytes", "(C)[B"⟩ : MethodName) jdk_43_method_46_code 1 (some (.array .byte)) :: ws) ({ frames := 0, cells := 1, slots := 1, locals := 0 } : Room)) (fun aa_ U => aa_ = #[(.int x)] ∧ Z.Warmed39 U.vm ∧ U.heap = h0) (fun _ _ _ _ _ => True) (fun _ U oo_ UV_ => ∃ vv_ LL_, oo_ = .returned vv_ ∧ Q_rmTB Z x h0 n0 vv_ UV_.heap LL_ ∧ FrameEnd U oo_ UV_ LL_ ({ frames := 0, cells := 1, slots := 1, locals := 0 } : Room).cells ({ frames := 0, cells := 1, slots := 1, locals := 0 } : Room).slots) := by
  refine MetFree.of_bodySF (plainFor_of_name pn_0) hisR ?_
  intro pg ev si mi args below meth ci s₁ Bd hml0 hP0 hK
  obtain ⟨rfl, hZ, hh⟩ := hP0
  have hx := Bd.exec
  have hby := Bd.bytes
  have hml : ci.maxLocals = 1 := hml0
  have hown : si.vm.findClass "java/lang/StringLatin1" = some mi.cls := findClass_of_methodNamed Bd.named
  have hnm := (name_of_methodNamed Bd.named Bd.method).1
  have X0 : Stand pg l ev ({ frames := 0, cells := 1, slots := 1, locals := 0 } : Room) si mi #[(.int x)] below meth ci s₁ [] 0 0 := Stand.of_body Bd
  have e0 : s₁.heap = h0 := by rw [← hh, Bd.state]; rfl
  have N0 := Fr.nil n0
  refine Go.start (fun P hP => ?_)
  refine Go.st (fun t_ k_ => castTop (ef_rmTB mi x) k_) (A := s₁.setTop (mkF mi 0 #[.val (.int x)] [])) ?_
  show Go _ _ _ (s₁.setTop (mkF mi 0 #[.val (.int x)] [])) _
  refine g_iconst X0 hx hby dc1_0 (v := 1) rfl ?_
  obtain ⟨T1, h1, k1, X1, e1, E1, A1, EX1, st1⟩ := newPE X0 hx hZ (hw _ (own_m 8 rfl)) e0 (g := (mkF mi 1 #[.val (.int x)] [(.int 1)])) rfl (hb hby dc1_1) rfl (by decide) (cap := 1) (by decide) (by decide) (by decide) (by decide) (ad := "[B") (by decide)
  obtain ⟨ob1, g1⟩ : ∃ z, z = h0.size := ⟨_, rfl⟩
  rw [← g1] at A1 EX1 st1
  have Zs2 : n0 ≤ h1.size := Nat.le_trans Z0 E1.1
  have KC2 : Keep h0 h1 [] := (Keep.refl h0 []).ext E1
  have g_ob1 : n0 ≤ ob1 := Nat.le_trans Z0 (Nat.le_of_eq g1.symm)
  have sz_ob1 : h0.size ≤ ob1 := Nat.le_trans (Keep.refl h0 []).1 (Nat.le_of_eq g1.symm)
  have V1 : Arv Z h1 ob1 k1 .byte (1 : Int32) [(.int (0 : Int32))] (.int (0 : Int32)) := (Arv.new A1 (by decide)).pad (pad_rep [] (.int (0 : Int32)) 1)
  refine Go.st st1 ?_
  refine g_dup X1 hx hby dc1_3 rfl ?_
  refine g_iconst X1 hx hby dc1_4 (v := 0) rfl ?_
  refine g_iloadN X1 hx hby dc1_5 rfl ?_
  refine g_i2b X1 hx hby dc1_6 rfl ?_
  have ov3 := V1
  obtain ⟨cl3, Ar3, q3, S3, M3, H3, G3⟩ := ov3
  have hin3 : ¬ ((0 : Int32) < 0 ∨ cl3.slots.size ≤ ((0 : Int32)).toNatClampNeg) := inb_of S3 ⟨by decide, by decide⟩
  obtain ⟨T4, h4, X4, e4, W4, st4⟩ := stB X1 hx hZ e1 Ar3 (j := (0 : Int32)) hin3 (g := (mkF mi 7 #[.val (.int x)] [(.int (x.toInt8.toInt32)), (.int 0), (.ref ob1), (.ref ob1)])) rfl rfl (hb hby dc1_7)
  have Zs5 : n0 ≤ h4.size := Nat.le_trans Zs2 (Keep.of_wr W4).1
  have KC5 : Keep h0 h4 [] := KC2.wr W4 (Or.inr sz_ob1)
  have N5 := Fr.snoc X4 N0 g_ob1
  have V4 : Arv Z h4 ob1 k1 .byte (1 : Int32) [(.int ((x.toInt8.toInt32).toInt8.toInt32))] (.int (0 : Int32)) := Arv.set Ar3 q3 S3 M3 H3 G3 (fits_nar_byte _) W4 0 rfl (Nat.le_of_ble_eq_true rfl)
  rw [own_bb] at V4
  refine Go.st st4 ?_
  obtain ⟨fs, hr, hrun, hended, hW, hsame⟩ := X4.leave (v := some (.ref ob1)) (fun h => by rw [Bd.returns] at h; cases h) (BodyLoose.notSynchronized Bd)
  have f6 := (EX1.wr W4)
  refine ⟨_, _, ?_, hP _ _ ⟨hrun, hended, _, _, rfl, ?_, ⟨_, rfl⟩, hW, hsame.mono (by decide) (by decide)⟩⟩
  · exact retOut X4 hx Bd.returns rfl (Or.inr (Or.inr (Or.inr (Or.inr ⟨rfl, rfl, rfl⟩)))) (hb hby dc1_8) hr
  · show ∃ (r : Addr) (kr : ClassId), (some (.ref ob1) : Option Value) = some (.ref r) ∧ Fr n0 _ ∧ Keep h0 T4.heap [] ∧ h0.size ≤ r ∧ n0 ≤ r ∧ Arv Z T4.heap r kr .byte (1 : Int32) [(.int (x.toInt8.toInt32))] (.int (0 : Int32)) ∧ Exa Z T4.heap r "[B"
    rw [e4]
    exact ⟨ob1, k1, rfl, N5, KC5, sz_ob1, g_ob1, V4, f6⟩
theorem dc2_0 : decode jdk_42_method_151_code 0 = .ok (.aload_n 0, 1) := by decide +kernel
theorem dc2_1 : decode jdk_42_method_151_code 1 = .ok (.invokespecial 1, 3) := by decide +kernel
theorem dc2_4 : decode jdk_42_method_151_code 4 = .ok (.aload_n 0, 1) := by decide +kernel
theorem dc2_5 : decode jdk_42_method_151_code 5 = .ok (.aload_n 1, 1) := by decide +kernel
theorem dc2_6 : decode jdk_42_method_151_code 6 = .ok (.putfield 9, 3) := by decide +kernel
theorem dc2_9 : decode jdk_42_method_151_code 9 = .ok (.aload_n 0, 1) := by decide +kernel
theorem dc2_10 : decode jdk_42_method_151_code 10 = .ok (.iload_n 2, 1) := by decide +kernel
theorem dc2_11 : decode jdk_42_method_151_code 11 = .ok (.putfield 15, 3) := by decide +kernel
theorem dc2_14 : decode jdk_42_method_151_code 14 = .ok (.return_, 1) := by decide +kernel
theorem pn_1 : plainName "java/lang/String" = true := by first | (simp [plainName, overriddenIn]; done) | decide +kernel
theorem ef_rmSB (mi : MethodId) (o : Addr) (b : Addr) : entryFrame mi #[(.ref o), (.ref b), (.int 0)] 3 = mkF mi 0 #[.val (.ref o), .val (.ref b), .val (.int 0)] [] := by first | (simp [entryFrame, mkF, argsToLocals, Value.category]; done) | rfl
def Q_rmSB (Z : State) (o : Addr) (b : Addr) (h0 : Heap) (n0 : Nat) (vv_ : Option Value) (hh_ : Heap) (LL_ : List Loc) : Prop := vv_ = none ∧ Fr n0 LL_ ∧ Keep h0 hh_ [o] ∧ Exa Z hh_ o "java/lang/String" ∧ Fld Z hh_ o "java/lang/String" "coder" "B" (.int (0 : Int32)) ∧ Fld Z hh_ o "java/lang/String" "value" "[B" (.ref b)
set_option maxRecDepth 65536 in
set_option maxHeartbeats 40000000 in
theorem rmSB (l : Launch) (Z : State) (a0 : Array Value) (hw : ∀ d ∈ tables_1, d.before a0 Z = true) (ws : List Jvm.Cond) (o : Addr) (b : Addr) (h0 : Heap) (n0 : Nat) (Z0 : n0 ≤ h0.size) (E0 : Exa Z h0 o "java/lang/String") (F1 : Fld Z h0 o "java/lang/String" "coder" "B" (.int (0 : Int32))) (F2 : Fld Z h0 o "java/lang/String" "value" "[B" .null) (g_o : n0 ≤ o) :
    MetFree l (⟨"java/lang/String", "<init>", "([BB)V"⟩ : MethodName) (head1 (Jvm.Cond.code (⟨"java/lang/String", "<init>", "([BB)V"⟩ : MethodName) jdk_42_method_151_code 3 none :: ws) ({ frames := 1, cells := 0, slots := 0, locals := 12 } : Room)) (fun aa_ U => aa_ = #[(.ref o), (.ref b), (.int 0)] ∧ Z.Warmed39 U.vm ∧ U.heap = h0) (fun _ _ _ _ _ => True) (fun _ U oo_ UV_ => ∃ vv_ LL_, oo_ = .returned vv_ ∧ Q_rmSB Z o b h0 n0 vv_ UV_.heap LL_ ∧ FrameEnd U oo_ UV_ LL_ ({ frames := 1, cells := 0, slots := 0, locals := 12 } : Room).cells ({ frames := 1, cells := 0, slots := 0, locals := 12 } : Room).slots) := by
  refine MetFree.of_bodySF (plainFor_of_name pn_1) hisR ?_
  intro pg ev si mi args below meth ci s₁ Bd hml0 hP0 hK
  obtain ⟨rfl, hZ, hh⟩ := hP0
  have hx := Bd.exec
  have hby := Bd.bytes
  have hml : ci.maxLocals = 3 := hml0
  have hown : si.vm.findClass "java/lang/String" = some mi.cls := findClass_of_methodNamed Bd.named
  have hnm := (name_of_methodNamed Bd.named Bd.method).1
  have X0 : Stand pg l ev ({ frames := 1, cells := 0, slots := 0, locals := 12 } : Room) si mi #[(.ref o), (.ref b), (.int 0)] below meth ci s₁ [] 0 0 := Stand.of_body Bd
  have e0 : s₁.heap = h0 := by rw [← hh, Bd.state]; rfl
  have N0 := Fr.nil n0
  refine Go.start (fun P hP => ?_)
  refine Go.st (fun t_ k_ => castTop (ef_rmSB mi o b) k_) (A := s₁.setTop (mkF mi 0 #[.val (.ref o), .val (.ref b), .val (.int 0)] [])) ?_
  show Go _ _ _ (s₁.setTop (mkF mi 0 #[.val (.ref o), .val (.ref b), .val (.int 0)] [])) _
  refine g_aloadN X0 hx hby dc2_0 rfl rfl ?_
  obtain ⟨T1, X1, e1, st1⟩ := initO X0 hx hZ hown (hw _ (own_m 102 rfl)) (hw _ (own_m 23 rfl)) (hw _ (own_m 24 rfl)) e0 (g := (mkF mi 1 #[.val (.ref o), .val (.ref b), .val (.int 0)] [(.ref o)])) rfl (by rw [hml]; rfl) rfl (hb hby dc2_1) (by decide) (W := 0) (by show 2 * 0 + _ ≤ _; exact Nat.le_of_eq rfl) (by decide)
  refine Go.st st1 ?_
  refine g_aloadN X1 hx hby dc2_4 rfl rfl ?_
  refine g_aloadN X1 hx hby dc2_5 rfl rfl ?_
  obtain ⟨T2, h2, X2, e2, W2, st2⟩ := putF X1 hx hZ hown (host := "") (Or.inl (hw _ (own_m 66 rfl))) Via.refl e1 F2 E0 (Or.inr ⟨(hw _ (own_m 9 rfl)), rfl, hnm⟩) (hw _ (own_m 7 rfl)) (ty := (.array .byte)) (by decide) rfl rfl (g := (mkF mi 6 #[.val (.ref o), .val (.ref b), .val (.int 0)] [(.ref b), (.ref o)])) rfl rfl (hb hby dc2_6)
  have Zs3 : n0 ≤ h2.size := Nat.le_trans Z0 (Keep.of_wr W2).1
  have KC3 : Keep h0 h2 [o] := (Keep.refl h0 [o]).wr W2 (Or.inl (List.mem_of_getElem? (i := 0) rfl))
  have N3 := Fr.snoc X2 N0 g_o
  have F2 : Fld Z h2 o "java/lang/String" "value" "[B" (.ref b) := F2.same W2
  refine Go.st st2 ?_
  refine g_aloadN X2 hx hby dc2_9 rfl rfl ?_
  refine g_iloadN X2 hx hby dc2_10 rfl ?_
  have f4 := (F1.other W2 (Or.inr (slot_ne (Or.inr (hw _ (own_m 10 rfl))) (Or.inr (hw _ (own_m 9 rfl))) (by decide) (t := .byte) (t' := (.array .byte)) (by decide) (by decide))))
  have f5 := (E0.wr W2)
  obtain ⟨T6, h6, X6, e6, W6, st6⟩ := putFN X2 hx hZ hown (hw _ (own_m 65 rfl)) Via.refl e2 f4 f5 (Or.inr ⟨(hw _ (own_m 10 rfl)), rfl, hnm⟩) (hw _ (own_m 7 rfl)) (ty := .byte) (v' := (.int 0)) (by decide) rfl (by decide) (g := (mkF mi 11 #[.val (.ref o), .val (.ref b), .val (.int 0)] [(.int 0), (.ref o)])) rfl rfl (hb hby dc2_11)
  have Zs7 : n0 ≤ h6.size := Nat.le_trans Zs3 (Keep.of_wr W6).1
  have KC7 : Keep h0 h6 [o] := KC3.wr W6 (Or.inl (List.mem_of_getElem? (i := 0) rfl))
  have N7 := Fr.snoc X6 N3 g_o
  have F6 : Fld Z h6 o "java/lang/String" "coder" "B" (.int 0) := f4.same W6
  refine Go.st st6 ?_
  obtain ⟨fs, hr, hrun, hended, hW, hsame⟩ := X6.leave (v := none) (fun _ => rfl) (BodyLoose.notSynchronized Bd)
  have f8 := (f5.wr W6)
  have f9 := (F2.other W6 (Or.inr (slot_ne (Or.inr (hw _ (own_m 9 rfl))) (Or.inr (hw _ (own_m 10 rfl))) (by decide) (t := (.array .byte)) (t' := .byte) (by decide) (by decide))))
  refine ⟨_, _, ?_, hP _ _ ⟨hrun, hended, _, _, rfl, ?_, ⟨_, rfl⟩, hW, hsame.mono (by decide) (by decide)⟩⟩
  · exact X6.returnOut hx Bd.returns (hb hby dc2_14) hr
  · show (none : Option Value) = none ∧ Fr n0 _ ∧ Keep h0 T6.heap [o] ∧ Exa Z T6.heap o "java/lang/String" ∧ Fld Z T6.heap o "java/lang/String" "coder" "B" (.int (0 : Int32)) ∧ Fld Z T6.heap o "java/lang/String" "value" "[B" (.ref b)
    rw [e6]
    exact ⟨rfl, N7, KC7, f8, F6, f9⟩
theorem own_can {x : Int32} (h : x.toInt ≤ 255) : fCan x = (1 : Int32) := if_neg (own_255 h)
theorem dc3_0 : decode jdk_42_method_139_code 0 = .ok (.getstatic 38, 3) := by decide +kernel
theorem dc3_3 : decode jdk_42_method_139_code 3 = .ok (.ifCond .eq 23, 3) := by decide +kernel
theorem dc3_6 : decode jdk_42_method_139_code 6 = .ok (.iload_n 0, 1) := by decide +kernel
theorem dc3_7 : decode jdk_42_method_139_code 7 = .ok (.invokestatic 1015, 3) := by decide +kernel
theorem pd_0 : parseMethodDescriptor "(C)Z" = some ⟨[.char], some .boolean⟩ := by decide +kernel
theorem dc3_10 : decode jdk_42_method_139_code 10 = .ok (.ifCond .eq 16, 3) := by decide +kernel
theorem dc3_13 : decode jdk_42_method_139_code 13 = .ok (.new 10, 3) := by decide +kernel
theorem dc3_16 : decode jdk_42_method_139_code 16 = .ok (.dup, 1) := by decide +kernel
theorem dc3_17 : decode jdk_42_method_139_code 17 = .ok (.iload_n 0, 1) := by decide +kernel
theorem dc3_18 : decode jdk_42_method_139_code 18 = .ok (.invokestatic 1018, 3) := by decide +kernel
theorem pd_1 : parseMethodDescriptor "(C)[B" = some ⟨[.char], some (.array .byte)⟩ := by decide +kernel
theorem dc3_21 : decode jdk_42_method_139_code 21 = .ok (.iconst 0, 1) := by decide +kernel
theorem dc3_22 : decode jdk_42_method_139_code 22 = .ok (.invokespecial 209, 3) := by decide +kernel
theorem pd_2 : parseMethodDescriptor "([BB)V" = some ⟨[(.array .byte), .byte], none⟩ := by decide +kernel
theorem dc3_25 : decode jdk_42_method_139_code 25 = .ok (.areturn, 1) := by decide +kernel
theorem ef_rmVO (mi : MethodId) (x : Int32) (cz : Int32) : entryFrame mi #[(.int x)] 1 = mkF mi 0 #[.val (.int x)] [] := by first | (simp [entryFrame, mkF, argsToLocals, Value.category]; done) | rfl
def Q_rmVO (Z : State) (x : Int32) (cz : Int32) (h0 : Heap) (n0 : Nat) (vv_ : Option Value) (hh_ : Heap) (LL_ : List Loc) : Prop := ∃ (o b : Addr) (kb : ClassId), vv_ = some (.ref o) ∧ Fr n0 LL_ ∧ Keep h0 hh_ [] ∧ Exa Z hh_ o "java/lang/String" ∧ Fld Z hh_ o "java/lang/String" "coder" "B" (.int (0 : Int32)) ∧ Fld Z hh_ o "java/lang/String" "value" "[B" (.ref b) ∧ Arv Z hh_ b kb .byte (1 : Int32) [(.int (x.toInt8.toInt32))] (.int (0 : Int32)) ∧ Exa Z hh_ b "[B"
set_option maxRecDepth 65536 in
set_option maxHeartbeats 40000000 in
theorem rmVO (l : Launch) (Z : State) (a0 : Array Value) (hw : ∀ d ∈ tables_1, d.before a0 Z = true) (ws : List Jvm.Cond) (x : Int32) (cz : Int32) (h0 : Heap) (n0 : Nat) (Z0 : n0 ≤ h0.size) (SC : Sta Z h0 "java/lang/String" "COMPACT_STRINGS" "Z" (.int cz)) (hcz : ¬ (cz = (0 : Int32))) (hx1 : 0 ≤ x.toInt) (hx2 : x.toInt ≤ 255) :
    MetFree l (⟨"java/lang/String", "valueOf", "(C)Ljava/lang/String;"⟩ : MethodName) (head1 (Jvm.Cond.code (⟨"java/lang/String", "valueOf", "(C)Ljava/lang/String;"⟩ : MethodName) jdk_42_method_139_code 1 (some (.object "java/lang/String")) :: ws) ({ frames := 2, cells := 2, slots := 5, locals := 27 } : Room)) (fun aa_ U => aa_ = #[(.int x)] ∧ Z.Warmed39 U.vm ∧ U.heap = h0) (fun _ _ _ _ _ => True) (fun _ U oo_ UV_ => ∃ vv_ LL_, oo_ = .returned vv_ ∧ Q_rmVO Z x cz h0 n0 vv_ UV_.heap LL_ ∧ FrameEnd U oo_ UV_ LL_ ({ frames := 2, cells := 2, slots := 5, locals := 27 } : Room).cells ({ frames := 2, cells := 2, slots := 5, locals := 27 } : Room).slots) := by
  refine MetFree.of_bodySF (plainFor_of_name pn_1) hisR ?_
  intro pg ev si mi args below meth ci s₁ Bd hml0 hP0 hK
  obtain ⟨rfl, hZ, hh⟩ := hP0
  have hx := Bd.exec
  have hby := Bd.bytes
  have hml : ci.maxLocals = 1 := hml0
  have hown : si.vm.findClass "java/lang/String" = some mi.cls := findClass_of_methodNamed Bd.named
  have hnm := (name_of_methodNamed Bd.named Bd.method).1
  have X0 : Stand pg l ev ({ frames := 2, cells := 2, slots := 5, locals := 27 } : Room) si mi #[(.int x)] below meth ci s₁ [] 0 0 := Stand.of_body Bd
  have e0 : s₁.heap = h0 := by rw [← hh, Bd.state]; rfl
  have N0 := Fr.nil n0
  refine Go.start (fun P hP => ?_)
  refine Go.st (fun t_ k_ => castTop (ef_rmVO mi x cz) k_) (A := s₁.setTop (mkF mi 0 #[.val (.int x)] [])) ?_
  show Go _ _ _ (s₁.setTop (mkF mi 0 #[.val (.int x)] [])) _
  obtain ⟨T1, X1, e1, st1⟩ := getS2 X0 hx hZ hown (host := "") (Or.inl (hw _ (own_m 64 rfl))) Via.refl e0 SC (g := (mkF mi 0 #[.val (.int x)] [])) rfl (hb hby dc3_0)
  refine Go.st st1 ?_
  refine g_ifNo X1 hx hby dc3_3 ((if0 _ _).trans (feq hcz).1) ?_
  refine g_iloadN X1 hx hby dc3_6 rfl ?_
  obtain ⟨_, _, ⟨T2, L2, k2, n2⟩, -, X2, ⟨Lc2, hQ2, l2, y2, z2⟩, st2⟩ := Jvm.LawKit.callS X1 hx (y := (⟨"java/lang/StringLatin1", "canEncode", "(C)Z"⟩ : MethodName)) hown (mvT hZ (hw _ (own_m 116 rfl))) (mvT hZ (hw _ (own_m 117 rfl))) (mvT hZ (hw _ (own_m 118 rfl))) (mvT hZ (hw _ (own_m 119 rfl))) (by decide) (backOf (W := 0) (rmCan l Z a0 hw [] x h0 n0 Z0) hZ (hw _ (own_m 119 rfl)) (hw _ (own_m 118 rfl)) (by decide) (by decide)) (g := (mkF mi 7 #[.val (.int x)] [(.int x)])) rfl (by rw [hml]; rfl) (argsL := [(.int x)]) (rest := []) (lenOf pd_0 rfl) rfl (by show 2 * 0 + _ ≤ _; exact Nat.le_of_eq rfl) (hb hby dc3_7) (fun _ _ => ⟨rfl, e1, (by decide : 0 + 0 ≤ _), (by decide : 0 + 0 ≤ _)⟩)
  dsimp only [Pt.U, Pt.locs, Pt.cells, Pt.slots] at X2 l2 y2 z2 st2 hQ2
  subst l2 y2 z2
  have X2 := own_cs X2 (cells' := 0) (slots' := 0) rfl rfl
  obtain ⟨rfl, N2q, e2⟩ := hQ2
  have N2 := Fr.app N0 N2q
  refine Go.st st2 ?_
  show Go _ _ _ (T2.setTop (mkF mi 10 #[.val (.int x)] [(.int (fCan x))])) _
  rw [own_can hx2]
  show Go _ _ _ (T2.setTop (mkF mi 10 #[.val (.int x)] [(.int 1)])) _
  refine g_ifNo X2 hx hby dc3_10 ((if0 _ _).trans (feq (by decide)).1) ?_
  obtain ⟨T3, h3, X3, e3, E3, A3, D3, -, st3⟩ := newO X2 hx hZ hown (hw _ (own_m 120 rfl)) (hw _ (own_m 7 rfl)) (hw _ (own_m 6 rfl)) e2 (g := (mkF mi 13 #[.val (.int x)] [])) rfl (hb hby dc3_13) (by decide) (by decide)
  obtain ⟨ob3, g3⟩ : ∃ z, z = h0.size := ⟨_, rfl⟩
  rw [← g3] at A3 D3 st3
  have Zs4 : n0 ≤ h3.size := Nat.le_trans Z0 E3.1
  have KC4 : Keep h0 h3 [] := (Keep.refl h0 []).ext E3
  have g_ob3 : n0 ≤ ob3 := Nat.le_trans Z0 (Nat.le_of_eq g3.symm)
  have sz_ob3 : h0.size ≤ ob3 := Nat.le_trans (Keep.refl h0 []).1 (Nat.le_of_eq g3.symm)
  have F3_9 : Fld Z h3 ob3 "java/lang/String" "value" "[B" .null := D3 (Or.inr (hw _ (own_m 9 rfl))) (ty := (.array .byte)) (by decide)
  have F3_10 : Fld Z h3 ob3 "java/lang/String" "coder" "B" (.int 0) := D3 (Or.inr (hw _ (own_m 10 rfl))) (ty := .byte) (by decide)
  refine Go.st st3 ?_
  refine g_dup X3 hx hby dc3_16 rfl ?_
  refine g_iloadN X3 hx hby dc3_17 rfl ?_
  obtain ⟨_, _, ⟨T5, L5, k5, n5⟩, -, X5, ⟨Lc5, hQ5, l5, y5, z5⟩, st5⟩ := Jvm.LawKit.callS X3 hx (y := (⟨"java/lang/StringLatin1", "toBytes", "(C)[B"⟩ : MethodName)) hown (mvT hZ (hw _ (own_m 121 rfl))) (mvT hZ (hw _ (own_m 122 rfl))) (mvT hZ (hw _ (own_m 118 rfl))) (mvT hZ (hw _ (own_m 123 rfl))) (by decide) (backOf (W := 2) (rmTB l Z a0 hw [] x h3 n0 Zs4) hZ (hw _ (own_m 123 rfl)) (hw _ (own_m 118 rfl)) (by decide) (by decide)) (g := (mkF mi 18 #[.val (.int x)] [(.int x), (.ref ob3), (.ref ob3)])) rfl (by rw [hml]; rfl) (argsL := [(.int x)]) (rest := [(.ref ob3), (.ref ob3)]) (lenOf pd_1 rfl) rfl (by show 2 * 0 + _ ≤ _; exact Nat.le_of_eq rfl) (hb hby dc3_18) (fun _ _ => ⟨rfl, e3, (by decide : 1 + 1 ≤ _), (by decide : 4 + 1 ≤ _)⟩)
  dsimp only [Pt.U, Pt.locs, Pt.cells, Pt.slots] at X5 l5 y5 z5 st5 hQ5
  subst l5 y5 z5
  have X5 := own_cs X5 (cells' := 2) (slots' := 5) rfl rfl
  obtain ⟨h5, e5⟩ : ∃ z, T5.heap = z := ⟨_, rfl⟩
  rw [e5] at hQ5
  obtain ⟨r5, kr5, rfl, N5q, K5, z_r5, g_r5, V_r5, E_r5⟩ := hQ5
  have N5 := Fr.app N2 N5q
  have Zs6 : n0 ≤ h5.size := Nat.le_trans Zs4 K5.1
  have KC6 : Keep h0 h5 [] := KC4.trans K5 all0
  have sz_r5 : h0.size ≤ r5 := Nat.le_trans KC4.1 z_r5
  refine Go.st st5 ?_
  refine g_iconst X5 hx hby dc3_21 (v := 0) rfl ?_
  have f8 := (A3.keep K5)
  have f9 := (F3_10.keep K5 nin0)
  have f10 := (F3_9.keep K5 nin0)
  obtain ⟨_, _, ⟨T7, L7, k7, n7⟩, -, X7, ⟨Lc7, hQ7, l7, y7, z7⟩, st7⟩ := X5.specialBack hx (y := (⟨"java/lang/String", "<init>", "([BB)V"⟩ : MethodName)) rfl hown (mvT hZ (hw _ (own_m 124 rfl))) (mvT hZ (hw _ (own_m 125 rfl))) (mvT hZ (hw _ (own_m 126 rfl))) (by decide) (backOf (W := 1) (rmSB l Z a0 hw [] ob3 r5 h5 n0 Zs6 f8 f9 f10 g_ob3) hZ (hw _ (own_m 126 rfl)) (hw _ (own_m 6 rfl)) (by decide) (by decide)) (g := (mkF mi 22 #[.val (.int x)] [(.int 0), (.ref r5), (.ref ob3), (.ref ob3)])) rfl (by rw [hml]; rfl) (Steps.refl _) (a := ob3) (argsL := [(.ref r5), (.int 0)]) (rest := [(.ref ob3)]) (lenOf pd_2 rfl) rfl (by show 2 * 0 + _ ≤ _; exact Nat.le_of_eq rfl) (hb hby dc3_22) (fun _ _ => ⟨rfl, e5, (by decide : 2 + 0 ≤ _), (by decide : 5 + 0 ≤ _)⟩)
  dsimp only [Pt.U, Pt.locs, Pt.cells, Pt.slots] at X7 l7 y7 z7 st7 hQ7
  subst l7 y7 z7
  have X7 := own_cs X7 (cells' := 2) (slots' := 5) rfl rfl
  obtain ⟨h7, e7⟩ : ∃ z, T7.heap = z := ⟨_, rfl⟩
  rw [e7] at hQ7
  obtain ⟨rfl, N7q, K7, A_7, FC_7, FV_7⟩ := hQ7
  have N7 := Fr.app N5 N7q
  have Zs11 : n0 ≤ h7.size := Nat.le_trans Zs6 K7.1
  have KC11 : Keep h0 h7 [] := KC6.trans K7 (allS (P := fun x => x ∈ [] ∨ h0.size ≤ x) (Or.inr sz_ob3) all0)
  refine Go.tr st7 ?_
  obtain ⟨fs, hr, hrun, hended, hW, hsame⟩ := X7.leave (v := some (.ref ob3)) (fun h => by rw [Bd.returns] at h; cases h) (BodyLoose.notSynchronized Bd)
  have ne_ob3_r5 : ob3 ≠ r5 := Nat.ne_of_lt (Nat.lt_of_lt_of_le A3.lt z_r5)
  have f12 := (V_r5.keep K7 (ninS (Ne.symm ne_ob3_r5) nin0))
  have f13 := (E_r5.keep K7)
  refine ⟨_, _, ?_, hP _ _ ⟨hrun, hended, _, _, rfl, ?_, ⟨_, rfl⟩, hW, hsame.mono (by decide) (by decide)⟩⟩
  · exact retOut X7 hx Bd.returns rfl (Or.inr (Or.inr (Or.inr (Or.inr ⟨rfl, rfl, rfl⟩)))) (hb hby dc3_25) hr
  · show ∃ (o b : Addr) (kb : ClassId), (some (.ref ob3) : Option Value) = some (.ref o) ∧ Fr n0 _ ∧ Keep h0 T7.heap [] ∧ Exa Z T7.heap o "java/lang/String" ∧ Fld Z T7.heap o "java/lang/String" "coder" "B" (.int (0 : Int32)) ∧ Fld Z T7.heap o "java/lang/String" "value" "[B" (.ref b) ∧ Arv Z T7.heap b kb .byte (1 : Int32) [(.int (x.toInt8.toInt32))] (.int (0 : Int32)) ∧ Exa Z T7.heap b "[B"
    rw [e7]
    exact ⟨ob3, r5, kr5, rfl, N7, KC11, A_7, FC_7, FV_7, f12, f13⟩
theorem dc4_0 : decode jdk_52_method_21_code 0 = .ok (.iconst 0, 1) := by decide +kernel
theorem dc4_1 : decode jdk_52_method_21_code 1 = .ok (.istore 5, 2) := by decide +kernel
theorem dc4_3 : decode jdk_52_method_21_code 3 = .ok (.iload 5, 2) := by decide +kernel
theorem dc4_5 : decode jdk_52_method_21_code 5 = .ok (.iload 4, 2) := by decide +kernel
theorem dc4_7 : decode jdk_52_method_21_code 7 = .ok (.if_icmp .ge 37, 3) := by decide +kernel
theorem dc4_10 : decode jdk_52_method_21_code 10 = .ok (.aload_n 0, 1) := by decide +kernel
theorem dc4_11 : decode jdk_52_method_21_code 11 = .ok (.iload_n 1, 1) := by decide +kernel
theorem dc4_12 : decode jdk_52_method_21_code 12 = .ok (.caload, 1) := by decide +kernel
theorem dc4_13 : decode jdk_52_method_21_code 13 = .ok (.istore 6, 2) := by decide +kernel
theorem dc4_15 : decode jdk_52_method_21_code 15 = .ok (.iload 6, 2) := by decide +kernel
theorem dc4_17 : decode jdk_52_method_21_code 17 = .ok (.sipush 255, 3) := by decide +kernel
theorem dc4_20 : decode jdk_52_method_21_code 20 = .ok (.if_icmp .le 6, 3) := by decide +kernel
theorem dc4_26 : decode jdk_52_method_21_code 26 = .ok (.aload_n 2, 1) := by decide +kernel
theorem dc4_27 : decode jdk_52_method_21_code 27 = .ok (.iload_n 3, 1) := by decide +kernel
theorem dc4_28 : decode jdk_52_method_21_code 28 = .ok (.iload 6, 2) := by decide +kernel
theorem dc4_30 : decode jdk_52_method_21_code 30 = .ok (.i2b, 1) := by decide +kernel
theorem dc4_31 : decode jdk_52_method_21_code 31 = .ok (.bastore, 1) := by decide +kernel
theorem dc4_32 : decode jdk_52_method_21_code 32 = .ok (.iinc 1 1, 3) := by decide +kernel
theorem dc4_35 : decode jdk_52_method_21_code 35 = .ok (.iinc 3 1, 3) := by decide +kernel
theorem dc4_38 : decode jdk_52_method_21_code 38 = .ok (.iinc 5 1, 3) := by decide +kernel
theorem dc4_41 : decode jdk_52_method_21_code 41 = .ok (.goto (-38), 3) := by decide +kernel
theorem dc4_44 : decode jdk_52_method_21_code 44 = .ok (.iload 4, 2) := by decide +kernel
theorem dc4_46 : decode jdk_52_method_21_code 46 = .ok (.ireturn, 1) := by decide +kernel
theorem pn_2 : plainName "java/lang/StringUTF16" = true := by first | (simp [plainName, overriddenIn]; done) | decide +kernel
theorem ef_rmCo (mi : MethodId) (ca : Addr) (bb : Addr) (kc : ClassId) (x : Int32) (y : Int32) (kb : ClassId) : entryFrame mi #[(.ref ca), (.int 0), (.ref bb), (.int 0), (.int 2)] 7 = mkF mi 0 #[.val (.ref ca), .val (.int 0), .val (.ref bb), .val (.int 0), .val (.int 2), .unset, .unset] [] := by first | (simp [entryFrame, mkF, argsToLocals, Value.category]; done) | rfl
def Q_rmCo (Z : State) (ca : Addr) (bb : Addr) (kc : ClassId) (x : Int32) (y : Int32) (kb : ClassId) (h0 : Heap) (n0 : Nat) (vv_ : Option Value) (hh_ : Heap) (LL_ : List Loc) : Prop := vv_ = some (.int (2 : Int32)) ∧ Fr n0 LL_ ∧ Keep h0 hh_ [bb] ∧ Arv Z hh_ bb kb .byte (2 : Int32) [(.int (x.toInt8.toInt32)), (.int (y.toInt8.toInt32))] (.int (0 : Int32))
set_option maxRecDepth 65536 in
set_option maxHeartbeats 40000000 in
theorem rmCo (l : Launch) (Z : State) (a0 : Array Value) (hw : ∀ d ∈ tables_1, d.before a0 Z = true) (ws : List Jvm.Cond) (ca : Addr) (bb : Addr) (kc : ClassId) (x : Int32) (y : Int32) (kb : ClassId) (h0 : Heap) (n0 : Nat) (Z0 : n0 ≤ h0.size) (A0 : Arv Z h0 ca kc .char (2 : Int32) [(.int x), (.int y)] (.int (0 : Int32))) (B0 : Arv Z h0 bb kb .byte (2 : Int32) [(.int (0 : Int32)), (.int (0 : Int32))] (.int (0 : Int32))) (g_b : n0 ≤ bb) (ne_b : ca ≠ bb) (hx1 : 0 ≤ x.toInt) (hx2 : x.toInt ≤ 255) (hy1 : 0 ≤ y.toInt) (hy2 : y.toInt ≤ 255) :
    MetFree l (⟨"java/lang/StringUTF16", "compress", "([CI[BII)I"⟩ : MethodName) (head1 (Jvm.Cond.code (⟨"java/lang/StringUTF16", "compress", "([CI[BII)I"⟩ : MethodName) jdk_52_method_21_code 7 (some .int) :: ws) ({ frames := 0, cells := 0, slots := 0, locals := 0 } : Room)) (fun aa_ U => aa_ = #[(.ref ca), (.int 0), (.ref bb), (.int 0), (.int 2)] ∧ Z.Warmed39 U.vm ∧ U.heap = h0) (fun _ _ _ _ _ => True) (fun _ U oo_ UV_ => ∃ vv_ LL_, oo_ = .returned vv_ ∧ Q_rmCo Z ca bb kc x y kb h0 n0 vv_ UV_.heap LL_ ∧ FrameEnd U oo_ UV_ LL_ ({ frames := 0, cells := 0, slots := 0, locals := 0 } : Room).cells ({ frames := 0, cells := 0, slots := 0, locals := 0 } : Room).slots) := by
  refine MetFree.of_bodySF (plainFor_of_name pn_2) hisR ?_
  intro pg ev si mi args below meth ci s₁ Bd hml0 hP0 hK
  obtain ⟨rfl, hZ, hh⟩ := hP0
  have hx := Bd.exec
  have hby := Bd.bytes
  have hml : ci.maxLocals = 7 := hml0
  have hown : si.vm.findClass "java/lang/StringUTF16" = some mi.cls := findClass_of_methodNamed Bd.named
  have hnm := (name_of_methodNamed Bd.named Bd.method).1
  have X0 : Stand pg l ev ({ frames := 0, cells := 0, slots := 0, locals := 0 } : Room) si mi #[(.ref ca), (.int 0), (.ref bb), (.int 0), (.int 2)] below meth ci s₁ [] 0 0 := Stand.of_body Bd
  have e0 : s₁.heap = h0 := by rw [← hh, Bd.state]; rfl
  have N0 := Fr.nil n0
  refine Go.start (fun P hP => ?_)
  refine Go.st (fun t_ k_ => castTop (ef_rmCo mi ca bb kc x y kb) k_) (A := s₁.setTop (mkF mi 0 #[.val (.ref ca), .val (.int 0), .val (.ref bb), .val (.int 0), .val (.int 2), .unset, .unset] [])) ?_
  show Go _ _ _ (s₁.setTop (mkF mi 0 #[.val (.ref ca), .val (.int 0), .val (.ref bb), .val (.int 0), .val (.int 2), .unset, .unset] [])) _
  refine g_iconst X0 hx hby dc4_0 (v := 0) rfl ?_
  refine g_istore X0 hx hby dc4_1 (l' := #[.val (.ref ca), .val (.int 0), .val (.ref bb), .val (.int 0), .val (.int 2), .val (.int 0), .unset]) rfl ?_
  refine g_iload X0 hx hby dc4_3 rfl ?_
  refine g_iload X0 hx hby dc4_5 rfl ?_
  refine g_icmpNo X0 hx hby dc4_7 (tlt (by decide)).2.1 ?_
  refine g_aloadN X0 hx hby dc4_10 rfl rfl ?_
  refine g_iloadN X0 hx hby dc4_11 rfl ?_
  have ov1 := A0
  obtain ⟨cl1, Ar1, q1, S1, M1, H1, G1⟩ := ov1
  have hin1 : ¬ ((0 : Int32) < 0 ∨ cl1.slots.size ≤ ((0 : Int32)).toNatClampNeg) := inb_of S1 ⟨by decide, by decide⟩
  have hat1 : cl1.slots[((0 : Int32)).toNatClampNeg]? = some (.int x) := Has.at H1 hin1 rfl
  refine Go.st (X0.caload hx (j := (0 : Int32)) (v := (.int x)) (by rw [e0]; exact Ar1.1) (State.isArrayOf_alike hZ.alike Ar1.2.1) Ar1.2.2 hin1 hat1 (g := (mkF mi 12 #[.val (.ref ca), .val (.int 0), .val (.ref bb), .val (.int 0), .val (.int 2), .val (.int 0), .unset] [(.int 0), (.ref ca)])) rfl rfl (hb hby dc4_12)) ?_
  refine g_istore X0 hx hby dc4_13 (l' := #[.val (.ref ca), .val (.int 0), .val (.ref bb), .val (.int 0), .val (.int 2), .val (.int 0), .val (.int x)]) rfl ?_
  refine g_iload X0 hx hby dc4_15 rfl ?_
  refine g_sipush X0 hx hby dc4_17 (v := 255) rfl ?_
  refine g_icmpYes X0 hx hby dc4_20 (flt (own_255 hx2)).2.2.2 (pc0 := 20) (pc' := 26) rfl (by decide) (by decide) ?_
  refine g_aloadN X0 hx hby dc4_26 rfl rfl ?_
  refine g_iloadN X0 hx hby dc4_27 rfl ?_
  refine g_iload X0 hx hby dc4_28 rfl ?_
  refine g_i2b X0 hx hby dc4_30 rfl ?_
  have ov2 := B0
  obtain ⟨cl2, Ar2, q2, S2, M2, H2, G2⟩ := ov2
  have hin2 : ¬ ((0 : Int32) < 0 ∨ cl2.slots.size ≤ ((0 : Int32)).toNatClampNeg) := inb_of S2 ⟨by decide, by decide⟩
  obtain ⟨T3, h3, X3, e3, W3, st3⟩ := stB X0 hx hZ e0 Ar2 (j := (0 : Int32)) hin2 (g := (mkF mi 31 #[.val (.ref ca), .val (.int 0), .val (.ref bb), .val (.int 0), .val (.int 2), .val (.int 0), .val (.int x)] [(.int (x.toInt8.toInt32)), (.int 0), (.ref bb)])) rfl rfl (hb hby dc4_31)
  have Zs4 : n0 ≤ h3.size := Nat.le_trans Z0 (Keep.of_wr W3).1
  have KC4 : Keep h0 h3 [bb] := (Keep.refl h0 [bb]).wr W3 (Or.inl (List.mem_of_getElem? (i := 0) rfl))
  have N4 := Fr.snoc X3 N0 g_b
  have V3 : Arv Z h3 bb kb .byte (2 : Int32) [(.int ((x.toInt8.toInt32).toInt8.toInt32)), (.int 0)] (.int (0 : Int32)) := Arv.set Ar2 q2 S2 M2 H2 G2 (fits_nar_byte _) W3 0 rfl (Nat.le_of_ble_eq_true rfl)
  rw [own_bb] at V3
  refine Go.st st3 ?_
  refine g_iinc X3 hx hby dc4_32 rfl (x' := 1) rfl (l' := #[.val (.ref ca), .val (.int 1), .val (.ref bb), .val (.int 0), .val (.int 2), .val (.int 0), .val (.int x)]) rfl ?_
  refine g_iinc X3 hx hby dc4_35 rfl (x' := 1) rfl (l' := #[.val (.ref ca), .val (.int 1), .val (.ref bb), .val (.int 1), .val (.int 2), .val (.int 0), .val (.int x)]) rfl ?_
  refine g_iinc X3 hx hby dc4_38 rfl (x' := 1) rfl (l' := #[.val (.ref ca), .val (.int 1), .val (.ref bb), .val (.int 1), .val (.int 2), .val (.int 1), .val (.int x)]) rfl ?_
  refine g_goto X3 hx hby dc4_41 (pc0 := 41) (pc' := 3) rfl (by decide) (by decide) ?_
  refine g_iload X3 hx hby dc4_3 rfl ?_
  refine g_iload X3 hx hby dc4_5 rfl ?_
  refine g_icmpNo X3 hx hby dc4_7 (tlt (by decide)).2.1 ?_
  refine g_aloadN X3 hx hby dc4_10 rfl rfl ?_
  refine g_iloadN X3 hx hby dc4_11 rfl ?_
  have f5 := (A0.other W3 ne_b)
  have ov6 := f5
  obtain ⟨cl6, Ar6, q6, S6, M6, H6, G6⟩ := ov6
  have hin6 : ¬ ((1 : Int32) < 0 ∨ cl6.slots.size ≤ ((1 : Int32)).toNatClampNeg) := inb_of S6 ⟨by decide, by decide⟩
  have hat6 : cl6.slots[((1 : Int32)).toNatClampNeg]? = some (.int y) := Has.at H6 hin6 rfl
  refine Go.st (X3.caload hx (j := (1 : Int32)) (v := (.int y)) (by rw [e3]; exact Ar6.1) (State.isArrayOf_alike hZ.alike Ar6.2.1) Ar6.2.2 hin6 hat6 (g := (mkF mi 12 #[.val (.ref ca), .val (.int 1), .val (.ref bb), .val (.int 1), .val (.int 2), .val (.int 1), .val (.int x)] [(.int 1), (.ref ca)])) rfl rfl (hb hby dc4_12)) ?_
  refine g_istore X3 hx hby dc4_13 (l' := #[.val (.ref ca), .val (.int 1), .val (.ref bb), .val (.int 1), .val (.int 2), .val (.int 1), .val (.int y)]) rfl ?_
  refine g_iload X3 hx hby dc4_15 rfl ?_
  refine g_sipush X3 hx hby dc4_17 (v := 255) rfl ?_
  refine g_icmpYes X3 hx hby dc4_20 (flt (own_255 hy2)).2.2.2 (pc0 := 20) (pc' := 26) rfl (by decide) (by decide) ?_
  show Go _ _ _ (T3.setTop (mkF mi 26 #[.val (.ref ca), .val (.int 1), .val (.ref bb), .val (.int 1), .val (.int 2), .val (.int 1), .val (.int y)] [])) _
  refine g_aloadN X3 hx hby dc4_26 rfl rfl ?_
  refine g_iloadN X3 hx hby dc4_27 rfl ?_
  refine g_iload X3 hx hby dc4_28 rfl ?_
  refine g_i2b X3 hx hby dc4_30 rfl ?_
  have ov7 := V3
  obtain ⟨cl7, Ar7, q7, S7, M7, H7, G7⟩ := ov7
  have hin7 : ¬ ((1 : Int32) < 0 ∨ cl7.slots.size ≤ ((1 : Int32)).toNatClampNeg) := inb_of S7 ⟨by decide, by decide⟩
  obtain ⟨T8, h8, X8, e8, W8, st8⟩ := stB X3 hx hZ e3 Ar7 (j := (1 : Int32)) hin7 (g := (mkF mi 31 #[.val (.ref ca), .val (.int 1), .val (.ref bb), .val (.int 1), .val (.int 2), .val (.int 1), .val (.int y)] [(.int (y.toInt8.toInt32)), (.int 1), (.ref bb)])) rfl rfl (hb hby dc4_31)
  have Zs9 : n0 ≤ h8.size := Nat.le_trans Zs4 (Keep.of_wr W8).1
  have KC9 : Keep h0 h8 [bb] := KC4.wr W8 (Or.inl (List.mem_of_getElem? (i := 0) rfl))
  have N9 := Fr.snoc X8 N4 g_b
  have V8 : Arv Z h8 bb kb .byte (2 : Int32) [(.int (x.toInt8.toInt32)), (.int ((y.toInt8.toInt32).toInt8.toInt32))] (.int (0 : Int32)) := Arv.set Ar7 q7 S7 M7 H7 G7 (fits_nar_byte _) W8 1 rfl (Nat.le_of_ble_eq_true rfl)
  rw [own_bb] at V8
  refine Go.st st8 ?_
  refine g_iinc X8 hx hby dc4_32 rfl (x' := 2) rfl (l' := #[.val (.ref ca), .val (.int 2), .val (.ref bb), .val (.int 1), .val (.int 2), .val (.int 1), .val (.int y)]) rfl ?_
  refine g_iinc X8 hx hby dc4_35 rfl (x' := 2) rfl (l' := #[.val (.ref ca), .val (.int 2), .val (.ref bb), .val (.int 2), .val (.int 2), .val (.int 1), .val (.int y)]) rfl ?_
  refine g_iinc X8 hx hby dc4_38 rfl (x' := 2) rfl (l' := #[.val (.ref ca), .val (.int 2), .val (.ref bb), .val (.int 2), .val (.int 2), .val (.int 2), .val (.int y)]) rfl ?_
  refine g_goto X8 hx hby dc4_41 (pc0 := 41) (pc' := 3) rfl (by decide) (by decide) ?_
  refine g_iload X8 hx hby dc4_3 rfl ?_
  refine g_iload X8 hx hby dc4_5 rfl ?_
  refine g_icmpYes X8 hx hby dc4_7 (flt (by decide)).2.1 (pc0 := 7) (pc' := 44) rfl (by decide) (by decide) ?_
  refine g_iload X8 hx hby dc4_44 rfl ?_
  obtain ⟨fs, hr, hrun, hended, hW, hsame⟩ := X8.leave (v := some (.int 2)) (fun h => by rw [Bd.returns] at h; cases h) (BodyLoose.notSynchronized Bd)
  refine ⟨_, _, ?_, hP _ _ ⟨hrun, hended, _, _, rfl, ?_, ⟨_, rfl⟩, hW, hsame.mono (by decide) (by decide)⟩⟩
  · exact retI X8 hx Bd.returns (hb hby dc4_46) hr
  · show (some (.int 2) : Option Value) = some (.int (2 : Int32)) ∧ Fr n0 _ ∧ Keep h0 T8.heap [bb] ∧ Arv Z T8.heap bb kb .byte (2 : Int32) [(.int (x.toInt8.toInt32)), (.int (y.toInt8.toInt32))] (.int (0 : Int32))
    rw [e8]
    exact ⟨rfl, N9, KC9, V8⟩
theorem dc5_0 : decode jdk_52_method_16_code 0 = .ok (.iload_n 2, 1) := by decide +kernel
theorem dc5_1 : decode jdk_52_method_16_code 1 = .ok (.newarray .byte, 2) := by decide +kernel
theorem dc5_3 : decode jdk_52_method_16_code 3 = .ok (.astore_n 3, 1) := by decide +kernel
theorem dc5_4 : decode jdk_52_method_16_code 4 = .ok (.aload_n 0, 1) := by decide +kernel
theorem dc5_5 : decode jdk_52_method_16_code 5 = .ok (.iload_n 1, 1) := by decide +kernel
theorem dc5_6 : decode jdk_52_method_16_code 6 = .ok (.aload_n 3, 1) := by decide +kernel
theorem dc5_7 : decode jdk_52_method_16_code 7 = .ok (.iconst 0, 1) := by decide +kernel
theorem dc5_8 : decode jdk_52_method_16_code 8 = .ok (.iload_n 2, 1) := by decide +kernel
theorem dc5_9 : decode jdk_52_method_16_code 9 = .ok (.invokestatic 115, 3) := by decide +kernel
theorem pd_3 : parseMethodDescriptor "([CI[BII)I" = some ⟨[(.array .char), .int, (.array .byte), .int, .int], some .int⟩ := by decide +kernel
theorem dc5_12 : decode jdk_52_method_16_code 12 = .ok (.istore 4, 2) := by decide +kernel
theorem dc5_14 : decode jdk_52_method_16_code 14 = .ok (.iload 4, 2) := by decide +kernel
theorem dc5_16 : decode jdk_52_method_16_code 16 = .ok (.iload_n 2, 1) := by decide +kernel
theorem dc5_17 : decode jdk_52_method_16_code 17 = .ok (.if_icmp .eq 40, 3) := by decide +kernel
theorem dc5_57 : decode jdk_52_method_16_code 57 = .ok (.aload_n 3, 1) := by decide +kernel
theorem dc5_58 : decode jdk_52_method_16_code 58 = .ok (.areturn, 1) := by decide +kernel
theorem ef_rmCp (mi : MethodId) (ca : Addr) (kc : ClassId) (x : Int32) (y : Int32) : entryFrame mi #[(.ref ca), (.int 0), (.int 2)] 6 = mkF mi 0 #[.val (.ref ca), .val (.int 0), .val (.int 2), .unset, .unset, .unset] [] := by first | (simp [entryFrame, mkF, argsToLocals, Value.category]; done) | rfl
def Q_rmCp (Z : State) (ca : Addr) (kc : ClassId) (x : Int32) (y : Int32) (h0 : Heap) (n0 : Nat) (vv_ : Option Value) (hh_ : Heap) (LL_ : List Loc) : Prop := ∃ (r : Addr) (kr : ClassId), vv_ = some (.ref r) ∧ Fr n0 LL_ ∧ Keep h0 hh_ [] ∧ h0.size ≤ r ∧ n0 ≤ r ∧ Arv Z hh_ r kr .byte (2 : Int32) [(.int (x.toInt8.toInt32)), (.int (y.toInt8.toInt32))] (.int (0 : Int32)) ∧ Exa Z hh_ r "[B"
set_option maxRecDepth 65536 in
set_option maxHeartbeats 40000000 in
theorem rmCp (l : Launch) (Z : State) (a0 : Array Value) (hw : ∀ d ∈ tables_1, d.before a0 Z = true) (ws : List Jvm.Cond) (ca : Addr) (kc : ClassId) (x : Int32) (y : Int32) (h0 : Heap) (n0 : Nat) (Z0 : n0 ≤ h0.size) (A0 : Arv Z h0 ca kc .char (2 : Int32) [(.int x), (.int y)] (.int (0 : Int32))) (hx1 : 0 ≤ x.toInt) (hx2 : x.toInt ≤ 255) (hy1 : 0 ≤ y.toInt) (hy2 : y.toInt ≤ 255) :
    MetFree l (⟨"java/lang/StringUTF16", "compress", "([CII)[B"⟩ : MethodName) (head1 (Jvm.Cond.code (⟨"java/lang/StringUTF16", "compress", "([CII)[B"⟩ : MethodName) jdk_52_method_16_code 6 (some (.array .byte)) :: ws) ({ frames := 1, cells := 1, slots := 2, locals := 18 } : Room)) (fun aa_ U => aa_ = #[(.ref ca), (.int 0), (.int 2)] ∧ Z.Warmed39 U.vm ∧ U.heap = h0) (fun _ _ _ _ _ => True) (fun _ U oo_ UV_ => ∃ vv_ LL_, oo_ = .returned vv_ ∧ Q_rmCp Z ca kc x y h0 n0 vv_ UV_.heap LL_ ∧ FrameEnd U oo_ UV_ LL_ ({ frames := 1, cells := 1, slots := 2, locals := 18 } : Room).cells ({ frames := 1, cells := 1, slots := 2, locals := 18 } : Room).slots) := by
  refine MetFree.of_bodySF (plainFor_of_name pn_2) hisR ?_
  intro pg ev si mi args below meth ci s₁ Bd hml0 hP0 hK
  obtain ⟨rfl, hZ, hh⟩ := hP0
  have hx := Bd.exec
  have hby := Bd.bytes
  have hml : ci.maxLocals = 6 := hml0
  have hown : si.vm.findClass "java/lang/StringUTF16" = some mi.cls := findClass_of_methodNamed Bd.named
  have hnm := (name_of_methodNamed Bd.named Bd.method).1
  have X0 : Stand pg l ev ({ frames := 1, cells := 1, slots := 2, locals := 18 } : Room) si mi #[(.ref ca), (.int 0), (.int 2)] below meth ci s₁ [] 0 0 := Stand.of_body Bd
  have e0 : s₁.heap = h0 := by rw [← hh, Bd.state]; rfl
  have N0 := Fr.nil n0
  refine Go.start (fun P hP => ?_)
  refine Go.st (fun t_ k_ => castTop (ef_rmCp mi ca kc x y) k_) (A := s₁.setTop (mkF mi 0 #[.val (.ref ca), .val (.int 0), .val (.int 2), .unset, .unset, .unset] [])) ?_
  show Go _ _ _ (s₁.setTop (mkF mi 0 #[.val (.ref ca), .val (.int 0), .val (.int 2), .unset, .unset, .unset] [])) _
  refine g_iloadN X0 hx hby dc5_0 rfl ?_
  obtain ⟨T1, h1, k1, X1, e1, E1, A1, EX1, st1⟩ := newPE X0 hx hZ (hw _ (own_m 8 rfl)) e0 (g := (mkF mi 1 #[.val (.ref ca), .val (.int 0), .val (.int 2), .unset, .unset, .unset] [(.int 2)])) rfl (hb hby dc5_1) rfl (by decide) (cap := 2) (by decide) (by decide) (by decide) (by decide) (ad := "[B") (by decide)
  obtain ⟨ob1, g1⟩ : ∃ z, z = h0.size := ⟨_, rfl⟩
  rw [← g1] at A1 EX1 st1
  have Zs2 : n0 ≤ h1.size := Nat.le_trans Z0 E1.1
  have KC2 : Keep h0 h1 [] := (Keep.refl h0 []).ext E1
  have g_ob1 : n0 ≤ ob1 := Nat.le_trans Z0 (Nat.le_of_eq g1.symm)
  have sz_ob1 : h0.size ≤ ob1 := Nat.le_trans (Keep.refl h0 []).1 (Nat.le_of_eq g1.symm)
  have V1 : Arv Z h1 ob1 k1 .byte (2 : Int32) [(.int (0 : Int32)), (.int (0 : Int32))] (.int (0 : Int32)) := (Arv.new A1 (by decide)).pad (pad_rep [] (.int (0 : Int32)) 2)
  refine Go.st st1 ?_
  refine g_astoreN X1 hx hby dc5_3 rfl (l' := #[.val (.ref ca), .val (.int 0), .val (.int 2), .val (.ref ob1), .unset, .unset]) rfl ?_
  refine g_aloadN X1 hx hby dc5_4 rfl rfl ?_
  refine g_iloadN X1 hx hby dc5_5 rfl ?_
  refine g_aloadN X1 hx hby dc5_6 rfl rfl ?_
  refine g_iconst X1 hx hby dc5_7 (v := 0) rfl ?_
  refine g_iloadN X1 hx hby dc5_8 rfl ?_
  have f4 := (A0.ext E1)
  have ne_ca_ob1 : ca ≠ ob1 := Nat.ne_of_lt (Nat.lt_of_lt_of_le A0.lt (Nat.le_of_eq g1.symm))
  obtain ⟨_, _, ⟨T3, L3, k3, n3⟩, -, X3, ⟨Lc3, hQ3, l3, y3, z3⟩, st3⟩ := Jvm.LawKit.callS X1 hx (y := (⟨"java/lang/StringUTF16", "compress", "([CI[BII)I"⟩ : MethodName)) hown (mvT hZ (hw _ (own_m 107 rfl))) (mvT hZ (hw _ (own_m 108 rfl))) (mvT hZ (hw _ (own_m 105 rfl))) (mvT hZ (hw _ (own_m 109 rfl))) (by decide) (backOf (W := 0) (rmCo l Z a0 hw [] ca ob1 kc x y k1 h1 n0 Zs2 f4 V1 g_ob1 ne_ca_ob1 hx1 hx2 hy1 hy2) hZ (hw _ (own_m 109 rfl)) (hw _ (own_m 105 rfl)) (by decide) (by decide)) (g := (mkF mi 9 #[.val (.ref ca), .val (.int 0), .val (.int 2), .val (.ref ob1), .unset, .unset] [(.int 2), (.int 0), (.ref ob1), (.int 0), (.ref ca)])) rfl (by rw [hml]; rfl) (argsL := [(.ref ca), (.int 0), (.ref ob1), (.int 0), (.int 2)]) (rest := []) (lenOf pd_3 rfl) rfl (by show 2 * 0 + _ ≤ _; exact Nat.le_of_eq rfl) (hb hby dc5_9) (fun _ _ => ⟨rfl, e1, (by decide : 1 + 0 ≤ _), (by decide : 2 + 0 ≤ _)⟩)
  dsimp only [Pt.U, Pt.locs, Pt.cells, Pt.slots] at X3 l3 y3 z3 st3 hQ3
  subst l3 y3 z3
  have X3 := own_cs X3 (cells' := 1) (slots' := 2) rfl rfl
  obtain ⟨h3, e3⟩ : ∃ z, T3.heap = z := ⟨_, rfl⟩
  rw [e3] at hQ3
  obtain ⟨rfl, N3q, K3, VV_3⟩ := hQ3
  have N3 := Fr.app N0 N3q
  have Zs5 : n0 ≤ h3.size := Nat.le_trans Zs2 K3.1
  have KC5 : Keep h0 h3 [] := KC2.trans K3 (allS (P := fun x => x ∈ [] ∨ h0.size ≤ x) (Or.inr sz_ob1) all0)
  refine Go.st st3 ?_
  refine g_istore X3 hx hby dc5_12 (l' := #[.val (.ref ca), .val (.int 0), .val (.int 2), .val (.ref ob1), .val (.int 2), .unset]) rfl ?_
  refine g_iload X3 hx hby dc5_14 rfl ?_
  refine g_iloadN X3 hx hby dc5_16 rfl ?_
  refine g_icmpYes X3 hx hby dc5_17 (teq rfl).1 (pc0 := 17) (pc' := 57) rfl (by decide) (by decide) ?_
  refine g_aloadN X3 hx hby dc5_57 rfl rfl ?_
  obtain ⟨fs, hr, hrun, hended, hW, hsame⟩ := X3.leave (v := some (.ref ob1)) (fun h => by rw [Bd.returns] at h; cases h) (BodyLoose.notSynchronized Bd)
  have f6 := (EX1.keep K3)
  refine ⟨_, _, ?_, hP _ _ ⟨hrun, hended, _, _, rfl, ?_, ⟨_, rfl⟩, hW, hsame.mono (by decide) (by decide)⟩⟩
  · exact retOut X3 hx Bd.returns rfl (Or.inr (Or.inr (Or.inr (Or.inr ⟨rfl, rfl, rfl⟩)))) (hb hby dc5_58) hr
  · show ∃ (r : Addr) (kr : ClassId), (some (.ref ob1) : Option Value) = some (.ref r) ∧ Fr n0 _ ∧ Keep h0 T3.heap [] ∧ h0.size ≤ r ∧ n0 ≤ r ∧ Arv Z T3.heap r kr .byte (2 : Int32) [(.int (x.toInt8.toInt32)), (.int (y.toInt8.toInt32))] (.int (0 : Int32)) ∧ Exa Z T3.heap r "[B"
    rw [e3]
    exact ⟨ob1, k1, rfl, N3, KC5, sz_ob1, g_ob1, VV_3, f6⟩
theorem dc6_0 : decode jdk_52_method_15_code 0 = .ok (.iload_n 1, 1) := by decide +kernel
theorem dc6_1 : decode jdk_52_method_15_code 1 = .ok (.aload_n 0, 1) := by decide +kernel
theorem dc6_2 : decode jdk_52_method_15_code 2 = .ok (.arraylength, 1) := by decide +kernel
theorem dc6_3 : decode jdk_52_method_15_code 3 = .ok (.isub, 1) := by decide +kernel
theorem dc6_4 : decode jdk_52_method_15_code 4 = .ok (.bipush 31, 2) := by decide +kernel
theorem dc6_6 : decode jdk_52_method_15_code 6 = .ok (.iushr, 1) := by decide +kernel
theorem dc6_7 : decode jdk_52_method_15_code 7 = .ok (.i2b, 1) := by decide +kernel
theorem dc6_8 : decode jdk_52_method_15_code 8 = .ok (.ireturn, 1) := by decide +kernel
theorem ef_rmCL (mi : MethodId) (bb : Addr) (kb : ClassId) (vs : List Value) : entryFrame mi #[(.ref bb), (.int 2)] 2 = mkF mi 0 #[.val (.ref bb), .val (.int 2)] [] := by first | (simp [entryFrame, mkF, argsToLocals, Value.category]; done) | rfl
def Q_rmCL (Z : State) (bb : Addr) (kb : ClassId) (vs : List Value) (h0 : Heap) (n0 : Nat) (vv_ : Option Value) (hh_ : Heap) (LL_ : List Loc) : Prop := vv_ = some (.int (0 : Int32)) ∧ Fr n0 LL_ ∧ hh_ = h0
set_option maxRecDepth 65536 in
set_option maxHeartbeats 40000000 in
theorem rmCL (l : Launch) (Z : State) (a0 : Array Value) (hw : ∀ d ∈ tables_1, d.before a0 Z = true) (ws : List Jvm.Cond) (bb : Addr) (kb : ClassId) (vs : List Value) (h0 : Heap) (n0 : Nat) (Z0 : n0 ≤ h0.size) (B0 : Arv Z h0 bb kb .byte (2 : Int32) vs (.int (0 : Int32))) :
    MetFree l (⟨"java/lang/StringUTF16", "coderFromArrayLen", "([BI)B"⟩ : MethodName) (head1 (Jvm.Cond.code (⟨"java/lang/StringUTF16", "coderFromArrayLen", "([BI)B"⟩ : MethodName) jdk_52_method_15_code 2 (some .byte) :: ws) ({ frames := 0, cells := 0, slots := 0, locals := 0 } : Room)) (fun aa_ U => aa_ = #[(.ref bb), (.int 2)] ∧ Z.Warmed39 U.vm ∧ U.heap = h0) (fun _ _ _ _ _ => True) (fun _ U oo_ UV_ => ∃ vv_ LL_, oo_ = .returned vv_ ∧ Q_rmCL Z bb kb vs h0 n0 vv_ UV_.heap LL_ ∧ FrameEnd U oo_ UV_ LL_ ({ frames := 0, cells := 0, slots := 0, locals := 0 } : Room).cells ({ frames := 0, cells := 0, slots := 0, locals := 0 } : Room).slots) := by
  refine MetFree.of_bodySF (plainFor_of_name pn_2) hisR ?_
  intro pg ev si mi args below meth ci s₁ Bd hml0 hP0 hK
  obtain ⟨rfl, hZ, hh⟩ := hP0
  have hx := Bd.exec
  have hby := Bd.bytes
  have hml : ci.maxLocals = 2 := hml0
  have hown : si.vm.findClass "java/lang/StringUTF16" = some mi.cls := findClass_of_methodNamed Bd.named
  have hnm := (name_of_methodNamed Bd.named Bd.method).1
  have X0 : Stand pg l ev ({ frames := 0, cells := 0, slots := 0, locals := 0 } : Room) si mi #[(.ref bb), (.int 2)] below meth ci s₁ [] 0 0 := Stand.of_body Bd
  have e0 : s₁.heap = h0 := by rw [← hh, Bd.state]; rfl
  have N0 := Fr.nil n0
  refine Go.start (fun P hP => ?_)
  refine Go.st (fun t_ k_ => castTop (ef_rmCL mi bb kb vs) k_) (A := s₁.setTop (mkF mi 0 #[.val (.ref bb), .val (.int 2)] [])) ?_
  show Go _ _ _ (s₁.setTop (mkF mi 0 #[.val (.ref bb), .val (.int 2)] [])) _
  refine g_iloadN X0 hx hby dc6_0 rfl ?_
  refine g_aloadN X0 hx hby dc6_1 rfl rfl ?_
  have ov1 := B0
  obtain ⟨cl1, Ar1, q1, S1, M1, H1, G1⟩ := ov1
  refine Go.st (X0.arraylength hx (by rw [e0]; exact Ar1.1) (State.isArrayOf_alike hZ.alike Ar1.2.1) (g := (mkF mi 2 #[.val (.ref bb), .val (.int 2)] [(.ref bb), (.int 2)])) rfl rfl (hb hby dc6_2)) ?_
  rw [len_of S1 M1]
  refine g_isub X0 hx hby dc6_3 (z := 0) rfl ?_
  refine g_bipush X0 hx hby dc6_4 (v := 31) rfl ?_
  refine Go.s (XS.iushr X0.here hx rfl (hb hby dc6_6) rfl) ?_
  refine g_i2b X0 hx hby dc6_7 (z := 0) rfl ?_
  obtain ⟨fs, hr, hrun, hended, hW, hsame⟩ := X0.leave (v := some (.int 0)) (fun h => by rw [Bd.returns] at h; cases h) (BodyLoose.notSynchronized Bd)
  refine ⟨_, _, ?_, hP _ _ ⟨hrun, hended, _, _, rfl, ?_, ⟨_, rfl⟩, hW, hsame.mono (by decide) (by decide)⟩⟩
  · exact retN X0 hx (t := .byte) Bd.returns (by simp) (hb hby dc6_8) hr
  · show (some (.int 0) : Option Value) = some (.int (0 : Int32)) ∧ Fr n0 _ ∧ s₁.heap = h0
    rw [e0]
    exact ⟨rfl, N0, rfl⟩
theorem dc7_0 : decode jdk_42_method_149_code 0 = .ok (.aload_n 0, 1) := by decide +kernel
theorem dc7_1 : decode jdk_42_method_149_code 1 = .ok (.invokespecial 1, 3) := by decide +kernel
theorem dc7_4 : decode jdk_42_method_149_code 4 = .ok (.iload_n 3, 1) := by decide +kernel
theorem dc7_5 : decode jdk_42_method_149_code 5 = .ok (.ifCond .ne 22, 3) := by decide +kernel
theorem dc7_27 : decode jdk_42_method_149_code 27 = .ok (.getstatic 38, 3) := by decide +kernel
theorem dc7_30 : decode jdk_42_method_149_code 30 = .ok (.ifCond .eq 28, 3) := by decide +kernel
theorem dc7_33 : decode jdk_42_method_149_code 33 = .ok (.aload_n 1, 1) := by decide +kernel
theorem dc7_34 : decode jdk_42_method_149_code 34 = .ok (.iload_n 2, 1) := by decide +kernel
theorem dc7_35 : decode jdk_42_method_149_code 35 = .ok (.iload_n 3, 1) := by decide +kernel
theorem dc7_36 : decode jdk_42_method_149_code 36 = .ok (.invokestatic 177, 3) := by decide +kernel
theorem pd_4 : parseMethodDescriptor "([CII)[B" = some ⟨[(.array .char), .int, .int], some (.array .byte)⟩ := by decide +kernel
theorem dc7_39 : decode jdk_42_method_149_code 39 = .ok (.astore 5, 2) := by decide +kernel
theorem dc7_41 : decode jdk_42_method_149_code 41 = .ok (.aload_n 0, 1) := by decide +kernel
theorem dc7_42 : decode jdk_42_method_149_code 42 = .ok (.aload 5, 2) := by decide +kernel
theorem dc7_44 : decode jdk_42_method_149_code 44 = .ok (.iload_n 3, 1) := by decide +kernel
theorem dc7_45 : decode jdk_42_method_149_code 45 = .ok (.invokestatic 47, 3) := by decide +kernel
theorem pd_5 : parseMethodDescriptor "([BI)B" = some ⟨[(.array .byte), .int], some .byte⟩ := by decide +kernel
theorem dc7_48 : decode jdk_42_method_149_code 48 = .ok (.putfield 15, 3) := by decide +kernel
theorem dc7_51 : decode jdk_42_method_149_code 51 = .ok (.aload_n 0, 1) := by decide +kernel
theorem dc7_52 : decode jdk_42_method_149_code 52 = .ok (.aload 5, 2) := by decide +kernel
theorem dc7_54 : decode jdk_42_method_149_code 54 = .ok (.putfield 9, 3) := by decide +kernel
theorem dc7_57 : decode jdk_42_method_149_code 57 = .ok (.return_, 1) := by decide +kernel
theorem ef_rmSV (mi : MethodId) (o : Addr) (ca : Addr) (kc : ClassId) (x : Int32) (y : Int32) (cz : Int32) : entryFrame mi #[(.ref o), (.ref ca), (.int 0), (.int 2), .null] 6 = mkF mi 0 #[.val (.ref o), .val (.ref ca), .val (.int 0), .val (.int 2), .val .null, .unset] [] := by first | (simp [entryFrame, mkF, argsToLocals, Value.category]; done) | rfl
def Q_rmSV (Z : State) (o : Addr) (ca : Addr) (kc : ClassId) (x : Int32) (y : Int32) (cz : Int32) (h0 : Heap) (n0 : Nat) (vv_ : Option Value) (hh_ : Heap) (LL_ : List Loc) : Prop := vv_ = none ∧ Fr n0 LL_ ∧ Keep h0 hh_ [o] ∧ ∃ (b : Addr) (kb : ClassId), Exa Z hh_ o "java/lang/String" ∧ Fld Z hh_ o "java/lang/String" "coder" "B" (.int (0 : Int32)) ∧ Fld Z hh_ o "java/lang/String" "value" "[B" (.ref b) ∧ Arv Z hh_ b kb .byte (2 : Int32) [(.int (x.toInt8.toInt32)), (.int (y.toInt8.toInt32))] (.int (0 : Int32)) ∧ Exa Z hh_ b "[B"
set_option maxRecDepth 65536 in
set_option maxHeartbeats 40000000 in
theorem rmSV (l : Launch) (Z : State) (a0 : Array Value) (hw : ∀ d ∈ tables_1, d.before a0 Z = true) (ws : List Jvm.Cond) (o : Addr) (ca : Addr) (kc : ClassId) (x : Int32) (y : Int32) (cz : Int32) (h0 : Heap) (n0 : Nat) (Z0 : n0 ≤ h0.size) (E0 : Exa Z h0 o "java/lang/String") (F1 : Fld Z h0 o "java/lang/String" "coder" "B" (.int (0 : Int32))) (F2 : Fld Z h0 o "java/lang/String" "value" "[B" .null) (g_o : n0 ≤ o) (A0 : Arv Z h0 ca kc .char (2 : Int32) [(.int x), (.int y)] (.int (0 : Int32))) (ne_o : ca ≠ o) (SC : Sta Z h0 "java/lang/String" "COMPACT_STRINGS" "Z" (.int cz)) (hcz : ¬ (cz = (0 : Int32))) (hx1 : 0 ≤ x.toInt) (hx2 : x.toInt ≤ 255) (hy1 : 0 ≤ y.toInt) (hy2 : y.toInt ≤ 255) :
    MetFree l (⟨"java/lang/String", "<init>", "([CIILjava/lang/Void;)V"⟩ : MethodName) (head1 (Jvm.Cond.code (⟨"java/lang/String", "<init>", "([CIILjava/lang/Void;)V"⟩ : MethodName) jdk_42_method_149_code 6 none :: ws) ({ frames := 2, cells := 1, slots := 2, locals := 35 } : Room)) (fun aa_ U => aa_ = #[(.ref o), (.ref ca), (.int 0), (.int 2), .null] ∧ Z.Warmed39 U.vm ∧ U.heap = h0) (fun _ _ _ _ _ => True) (fun _ U oo_ UV_ => ∃ vv_ LL_, oo_ = .returned vv_ ∧ Q_rmSV Z o ca kc x y cz h0 n0 vv_ UV_.heap LL_ ∧ FrameEnd U oo_ UV_ LL_ ({ frames := 2, cells := 1, slots := 2, locals := 35 } : Room).cells ({ frames := 2, cells := 1, slots := 2, locals := 35 } : Room).slots) := by
  refine MetFree.of_bodySF (plainFor_of_name pn_1) hisR ?_
  intro pg ev si mi args below meth ci s₁ Bd hml0 hP0 hK
  obtain ⟨rfl, hZ, hh⟩ := hP0
  have hx := Bd.exec
  have hby := Bd.bytes
  have hml : ci.maxLocals = 6 := hml0
  have hown : si.vm.findClass "java/lang/String" = some mi.cls := findClass_of_methodNamed Bd.named
  have hnm := (name_of_methodNamed Bd.named Bd.method).1
  have X0 : Stand pg l ev ({ frames := 2, cells := 1, slots := 2, locals := 35 } : Room) si mi #[(.ref o), (.ref ca), (.int 0), (.int 2), .null] below meth ci s₁ [] 0 0 := Stand.of_body Bd
  have e0 : s₁.heap = h0 := by rw [← hh, Bd.state]; rfl
  have N0 := Fr.nil n0
  refine Go.start (fun P hP => ?_)
  refine Go.st (fun t_ k_ => castTop (ef_rmSV mi o ca kc x y cz) k_) (A := s₁.setTop (mkF mi 0 #[.val (.ref o), .val (.ref ca), .val (.int 0), .val (.int 2), .val .null, .unset] [])) ?_
  show Go _ _ _ (s₁.setTop (mkF mi 0 #[.val (.ref o), .val (.ref ca), .val (.int 0), .val (.int 2), .val .null, .unset] [])) _
  refine g_aloadN X0 hx hby dc7_0 rfl rfl ?_
  obtain ⟨T1, X1, e1, st1⟩ := initO X0 hx hZ hown (hw _ (own_m 102 rfl)) (hw _ (own_m 23 rfl)) (hw _ (own_m 24 rfl)) e0 (g := (mkF mi 1 #[.val (.ref o), .val (.ref ca), .val (.int 0), .val (.int 2), .val .null, .unset] [(.ref o)])) rfl (by rw [hml]; rfl) rfl (hb hby dc7_1) (by decide) (W := 0) (by show 2 * 0 + _ ≤ _; exact Nat.le_of_eq rfl) (by decide)
  refine Go.st st1 ?_
  refine g_iloadN X1 hx hby dc7_4 rfl ?_
  refine g_ifYes X1 hx hby dc7_5 ((if0 _ _).trans (feq (by decide)).2) (pc0 := 5) (pc' := 27) rfl (by decide) (by decide) ?_
  obtain ⟨T2, X2, e2, st2⟩ := getS2 X1 hx hZ hown (host := "") (Or.inl (hw _ (own_m 64 rfl))) Via.refl e1 SC (g := (mkF mi 27 #[.val (.ref o), .val (.ref ca), .val (.int 0), .val (.int 2), .val .null, .unset] [])) rfl (hb hby dc7_27)
  refine Go.st st2 ?_
  refine g_ifNo X2 hx hby dc7_30 ((if0 _ _).trans (feq hcz).1) ?_
  refine g_aloadN X2 hx hby dc7_33 rfl rfl ?_
  refine g_iloadN X2 hx hby dc7_34 rfl ?_
  refine g_iloadN X2 hx hby dc7_35 rfl ?_
  obtain ⟨_, _, ⟨T3, L3, k3, n3⟩, -, X3, ⟨Lc3, hQ3, l3, y3, z3⟩, st3⟩ := Jvm.LawKit.callS X2 hx (y := (⟨"java/lang/StringUTF16", "compress", "([CII)[B"⟩ : MethodName)) hown (mvT hZ (hw _ (own_m 103 rfl))) (mvT hZ (hw _ (own_m 104 rfl))) (mvT hZ (hw _ (own_m 105 rfl))) (mvT hZ (hw _ (own_m 106 rfl))) (by decide) (backOf (W := 0) (rmCp l Z a0 hw [] ca kc x y h0 n0 Z0 A0 hx1 hx2 hy1 hy2) hZ (hw _ (own_m 106 rfl)) (hw _ (own_m 105 rfl)) (by decide) (by decide)) (g := (mkF mi 36 #[.val (.ref o), .val (.ref ca), .val (.int 0), .val (.int 2), .val .null, .unset] [(.int 2), (.int 0), (.ref ca)])) rfl (by rw [hml]; rfl) (argsL := [(.ref ca), (.int 0), (.int 2)]) (rest := []) (lenOf pd_4 rfl) rfl (by show 2 * 0 + _ ≤ _; exact Nat.le_of_eq rfl) (hb hby dc7_36) (fun _ _ => ⟨rfl, e2, (by decide : 0 + 1 ≤ _), (by decide : 0 + 2 ≤ _)⟩)
  dsimp only [Pt.U, Pt.locs, Pt.cells, Pt.slots] at X3 l3 y3 z3 st3 hQ3
  subst l3 y3 z3
  have X3 := own_cs X3 (cells' := 1) (slots' := 2) rfl rfl
  obtain ⟨h3, e3⟩ : ∃ z, T3.heap = z := ⟨_, rfl⟩
  rw [e3] at hQ3
  obtain ⟨r3, kr3, rfl, N3q, K3, z_r3, g_r3, V_r3, E_r3⟩ := hQ3
  have N3 := Fr.app N0 N3q
  have Zs4 : n0 ≤ h3.size := Nat.le_trans Z0 K3.1
  have KC4 : Keep h0 h3 [o] := (Keep.refl h0 [o]).trans K3 all0
  have sz_r3 : h0.size ≤ r3 := Nat.le_trans (Keep.refl h0 [o]).1 z_r3
  refine Go.st st3 ?_
  refine g_astore X3 hx hby dc7_39 rfl (l' := #[.val (.ref o), .val (.ref ca), .val (.int 0), .val (.int 2), .val .null, .val (.ref r3)]) rfl ?_
  refine g_aloadN X3 hx hby dc7_41 rfl rfl ?_
  refine g_aload X3 hx hby dc7_42 rfl rfl ?_
  refine g_iloadN X3 hx hby dc7_44 rfl ?_
  obtain ⟨_, _, ⟨T5, L5, k5, n5⟩, -, X5, ⟨Lc5, hQ5, l5, y5, z5⟩, st5⟩ := Jvm.LawKit.callS X3 hx (y := (⟨"java/lang/StringUTF16", "coderFromArrayLen", "([BI)B"⟩ : MethodName)) hown (mvT hZ (hw _ (own_m 110 rfl))) (mvT hZ (hw _ (own_m 111 rfl))) (mvT hZ (hw _ (own_m 105 rfl))) (mvT hZ (hw _ (own_m 112 rfl))) (by decide) (backOf (W := 1) (rmCL l Z a0 hw [] r3 kr3 [(.int (x.toInt8.toInt32)), (.int (y.toInt8.toInt32))] h3 n0 Zs4 V_r3) hZ (hw _ (own_m 112 rfl)) (hw _ (own_m 105 rfl)) (by decide) (by decide)) (g := (mkF mi 45 #[.val (.ref o), .val (.ref ca), .val (.int 0), .val (.int 2), .val .null, .val (.ref r3)] [(.int 2), (.ref r3), (.ref o)])) rfl (by rw [hml]; rfl) (argsL := [(.ref r3), (.int 2)]) (rest := [(.ref o)]) (lenOf pd_5 rfl) rfl (by show 2 * 0 + _ ≤ _; exact Nat.le_of_eq rfl) (hb hby dc7_45) (fun _ _ => ⟨rfl, e3, (by decide : 1 + 0 ≤ _), (by decide : 2 + 0 ≤ _)⟩)
  dsimp only [Pt.U, Pt.locs, Pt.cells, Pt.slots] at X5 l5 y5 z5 st5 hQ5
  subst l5 y5 z5
  have X5 := own_cs X5 (cells' := 1) (slots' := 2) rfl rfl
  obtain ⟨rfl, N5q, e5⟩ := hQ5
  have N5 := Fr.app N3 N5q
  refine Go.st st5 ?_
  have f6 := (F1.keep K3 nin0)
  have f7 := (E0.keep K3)
  obtain ⟨T8, h8, X8, e8, W8, st8⟩ := putFN X5 hx hZ hown (hw _ (own_m 65 rfl)) Via.refl e5 f6 f7 (Or.inr ⟨(hw _ (own_m 10 rfl)), rfl, hnm⟩) (hw _ (own_m 7 rfl)) (ty := .byte) (v' := (.int 0)) (by decide) rfl (by decide) (g := (mkF mi 48 #[.val (.ref o), .val (.ref ca), .val (.int 0), .val (.int 2), .val .null, .val (.ref r3)] [(.int 0), (.ref o)])) rfl rfl (hb hby dc7_48)
  have Zs9 : n0 ≤ h8.size := Nat.le_trans Zs4 (Keep.of_wr W8).1
  have KC9 : Keep h0 h8 [o] := KC4.wr W8 (Or.inl (List.mem_of_getElem? (i := 0) rfl))
  have N9 := Fr.snoc X8 N5 g_o
  have F8 : Fld Z h8 o "java/lang/String" "coder" "B" (.int 0) := f6.same W8
  refine Go.st st8 ?_
  refine g_aloadN X8 hx hby dc7_51 rfl rfl ?_
  refine g_aload X8 hx hby dc7_52 rfl rfl ?_
  have f10 := ((F2.keep K3 nin0).other W8 (Or.inr (slot_ne (Or.inr (hw _ (own_m 9 rfl))) (Or.inr (hw _ (own_m 10 rfl))) (by decide) (t := (.array .byte)) (t' := .byte) (by decide) (by decide))))
  have f11 := (f7.wr W8)
  obtain ⟨T12, h12, X12, e12, W12, st12⟩ := putF X8 hx hZ hown (host := "") (Or.inl (hw _ (own_m 66 rfl))) Via.refl e8 f10 f11 (Or.inr ⟨(hw _ (own_m 9 rfl)), rfl, hnm⟩) (hw _ (own_m 7 rfl)) (ty := (.array .byte)) (by decide) rfl rfl (g := (mkF mi 54 #[.val (.ref o), .val (.ref ca), .val (.int 0), .val (.int 2), .val .null, .val (.ref r3)] [(.ref r3), (.ref o)])) rfl rfl (hb hby dc7_54)
  have Zs13 : n0 ≤ h12.size := Nat.le_trans Zs9 (Keep.of_wr W12).1
  have KC13 : Keep h0 h12 [o] := KC9.wr W12 (Or.inl (List.mem_of_getElem? (i := 0) rfl))
  have N13 := Fr.snoc X12 N9 g_o
  have F12 : Fld Z h12 o "java/lang/String" "value" "[B" (.ref r3) := f10.same W12
  refine Go.st st12 ?_
  obtain ⟨fs, hr, hrun, hended, hW, hsame⟩ := X12.leave (v := none) (fun _ => rfl) (BodyLoose.notSynchronized Bd)
  have f14 := (f11.wr W12)
  have f15 := (F8.other W12 (Or.inr (slot_ne (Or.inr (hw _ (own_m 10 rfl))) (Or.inr (hw _ (own_m 9 rfl))) (by decide) (t := .byte) (t' := (.array .byte)) (by decide) (by decide))))
  have ne_o_r3 : o ≠ r3 := Nat.ne_of_lt (Nat.lt_of_lt_of_le E0.lt z_r3)
  have f16 := ((V_r3.other W8 (Ne.symm ne_o_r3)).other W12 (Ne.symm ne_o_r3))
  have f17 := ((E_r3.wr W8).wr W12)
  refine ⟨_, _, ?_, hP _ _ ⟨hrun, hended, _, _, rfl, ?_, ⟨_, rfl⟩, hW, hsame.mono (by decide) (by decide)⟩⟩
  · exact X12.returnOut hx Bd.returns (hb hby dc7_57) hr
  · show (none : Option Value) = none ∧ Fr n0 _ ∧ Keep h0 T12.heap [o] ∧ ∃ (b : Addr) (kb : ClassId), Exa Z T12.heap o "java/lang/String" ∧ Fld Z T12.heap o "java/lang/String" "coder" "B" (.int (0 : Int32)) ∧ Fld Z T12.heap o "java/lang/String" "value" "[B" (.ref b) ∧ Arv Z T12.heap b kb .byte (2 : Int32) [(.int (x.toInt8.toInt32)), (.int (y.toInt8.toInt32))] (.int (0 : Int32)) ∧ Exa Z T12.heap b "[B"
    rw [e12]
    exact ⟨rfl, N13, KC13, r3, kr3, f14, f15, F12, f16, f17⟩
theorem dc8_0 : decode jdk_42_method_3_code 0 = .ok (.aload_n 0, 1) := by decide +kernel
theorem dc8_1 : decode jdk_42_method_3_code 1 = .ok (.aload_n 1, 1) := by decide +kernel
theorem dc8_2 : decode jdk_42_method_3_code 2 = .ok (.iconst 0, 1) := by decide +kernel
theorem dc8_3 : decode jdk_42_method_3_code 3 = .ok (.aload_n 1, 1) := by decide +kernel
theorem dc8_4 : decode jdk_42_method_3_code 4 = .ok (.arraylength, 1) := by decide +kernel
theorem dc8_5 : decode jdk_42_method_3_code 5 = .ok (.aconst_null, 1) := by decide +kernel
theorem dc8_6 : decode jdk_42_method_3_code 6 = .ok (.invokespecial 27, 3) := by decide +kernel
theorem pd_6 : parseMethodDescriptor "([CIILjava/lang/Void;)V" = some ⟨[(.array .char), .int, .int, (.object "java/lang/Void")], none⟩ := by decide +kernel
theorem dc8_9 : decode jdk_42_method_3_code 9 = .ok (.return_, 1) := by decide +kernel
theorem ef_rmSC (mi : MethodId) (o : Addr) (ca : Addr) (kc : ClassId) (x : Int32) (y : Int32) (cz : Int32) : entryFrame mi #[(.ref o), (.ref ca)] 2 = mkF mi 0 #[.val (.ref o), .val (.ref ca)] [] := by first | (simp [entryFrame, mkF, argsToLocals, Value.category]; done) | rfl
def Q_rmSC (Z : State) (o : Addr) (ca : Addr) (kc : ClassId) (x : Int32) (y : Int32) (cz : Int32) (h0 : Heap) (n0 : Nat) (vv_ : Option Value) (hh_ : Heap) (LL_ : List Loc) : Prop := vv_ = none ∧ Fr n0 LL_ ∧ Keep h0 hh_ [o] ∧ ∃ (b : Addr) (kb : ClassId), Exa Z hh_ o "java/lang/String" ∧ Fld Z hh_ o "java/lang/String" "coder" "B" (.int (0 : Int32)) ∧ Fld Z hh_ o "java/lang/String" "value" "[B" (.ref b) ∧ Arv Z hh_ b kb .byte (2 : Int32) [(.int (x.toInt8.toInt32)), (.int (y.toInt8.toInt32))] (.int (0 : Int32)) ∧ Exa Z hh_ b "[B"
set_option maxRecDepth 65536 in
set_option maxHeartbeats 40000000 in
theorem rmSC (l : Launch) (Z : State) (a0 : Array Value) (hw : ∀ d ∈ tables_1, d.before a0 Z = true) (ws : List Jvm.Cond) (o : Addr) (ca : Addr) (kc : ClassId) (x : Int32) (y : Int32) (cz : Int32) (h0 : Heap) (n0 : Nat) (Z0 : n0 ≤ h0.size) (E0 : Exa Z h0 o "java/lang/String") (F1 : Fld Z h0 o "java/lang/String" "coder" "B" (.int (0 : Int32))) (F2 : Fld Z h0 o "java/lang/String" "value" "[B" .null) (g_o : n0 ≤ o) (A0 : Arv Z h0 ca kc .char (2 : Int32) [(.int x), (.int y)] (.int (0 : Int32))) (ne_o : ca ≠ o) (SC : Sta Z h0 "java/lang/String" "COMPACT_STRINGS" "Z" (.int cz)) (hcz : ¬ (cz = (0 : Int32))) (hx1 : 0 ≤ x.toInt) (hx2 : x.toInt ≤ 255) (hy1 : 0 ≤ y.toInt) (hy2 : y.toInt ≤ 255) :
    MetFree l (⟨"java/lang/String", "<init>", "([C)V"⟩ : MethodName) (head1 (Jvm.Cond.code (⟨"java/lang/String", "<init>", "([C)V"⟩ : MethodName) jdk_42_method_3_code 2 none :: ws) ({ frames := 3, cells := 1, slots := 2, locals := 52 } : Room)) (fun aa_ U => aa_ = #[(.ref o), (.ref ca)] ∧ Z.Warmed39 U.vm ∧ U.heap = h0) (fun _ _ _ _ _ => True) (fun _ U oo_ UV_ => ∃ vv_ LL_, oo_ = .returned vv_ ∧ Q_rmSC Z o ca kc x y cz h0 n0 vv_ UV_.heap LL_ ∧ FrameEnd U oo_ UV_ LL_ ({ frames := 3, cells := 1, slots := 2, locals := 52 } : Room).cells ({ frames := 3, cells := 1, slots := 2, locals := 52 } : Room).slots) := by
  refine MetFree.of_bodySF (plainFor_of_name pn_1) hisR ?_
  intro pg ev si mi args below meth ci s₁ Bd hml0 hP0 hK
  obtain ⟨rfl, hZ, hh⟩ := hP0
  have hx := Bd.exec
  have hby := Bd.bytes
  have hml : ci.maxLocals = 2 := hml0
  have hown : si.vm.findClass "java/lang/String" = some mi.cls := findClass_of_methodNamed Bd.named
  have hnm := (name_of_methodNamed Bd.named Bd.method).1
  have X0 : Stand pg l ev ({ frames := 3, cells := 1, slots := 2, locals := 52 } : Room) si mi #[(.ref o), (.ref ca)] below meth ci s₁ [] 0 0 := Stand.of_body Bd
  have e0 : s₁.heap = h0 := by rw [← hh, Bd.state]; rfl
  have N0 := Fr.nil n0
  refine Go.start (fun P hP => ?_)
  refine Go.st (fun t_ k_ => castTop (ef_rmSC mi o ca kc x y cz) k_) (A := s₁.setTop (mkF mi 0 #[.val (.ref o), .val (.ref ca)] [])) ?_
  show Go _ _ _ (s₁.setTop (mkF mi 0 #[.val (.ref o), .val (.ref ca)] [])) _
  refine g_aloadN X0 hx hby dc8_0 rfl rfl ?_
  refine g_aloadN X0 hx hby dc8_1 rfl rfl ?_
  refine g_iconst X0 hx hby dc8_2 (v := 0) rfl ?_
  refine g_aloadN X0 hx hby dc8_3 rfl rfl ?_
  have ov1 := A0
  obtain ⟨cl1, Ar1, q1, S1, M1, H1, G1⟩ := ov1
  refine Go.st (X0.arraylength hx (by rw [e0]; exact Ar1.1) (State.isArrayOf_alike hZ.alike Ar1.2.1) (g := (mkF mi 4 #[.val (.ref o), .val (.ref ca)] [(.ref ca), (.int 0), (.ref ca), (.ref o)])) rfl rfl (hb hby dc8_4)) ?_
  rw [len_of S1 M1]
  refine Go.s (XS.aconstNull X0.here hx rfl (hb hby dc8_5)) ?_
  obtain ⟨_, _, ⟨T2, L2, k2, n2⟩, -, X2, ⟨Lc2, hQ2, l2, y2, z2⟩, st2⟩ := X0.specialBack hx (y := (⟨"java/lang/String", "<init>", "([CIILjava/lang/Void;)V"⟩ : MethodName)) rfl hown (mvT hZ (hw _ (own_m 99 rfl))) (mvT hZ (hw _ (own_m 100 rfl))) (mvT hZ (hw _ (own_m 101 rfl))) (by decide) (backOf (W := 0) (rmSV l Z a0 hw [] o ca kc x y cz h0 n0 Z0 E0 F1 F2 g_o A0 ne_o SC hcz hx1 hx2 hy1 hy2) hZ (hw _ (own_m 101 rfl)) (hw _ (own_m 6 rfl)) (by decide) (by decide)) (g := (mkF mi 6 #[.val (.ref o), .val (.ref ca)] [.null, (.int 2), (.int 0), (.ref ca), (.ref o)])) rfl (by rw [hml]; rfl) (Steps.refl _) (a := o) (argsL := [(.ref ca), (.int 0), (.int 2), .null]) (rest := []) (lenOf pd_6 rfl) rfl (by show 2 * 0 + _ ≤ _; exact Nat.le_of_eq rfl) (hb hby dc8_6) (fun _ _ => ⟨rfl, e0, (by decide : 0 + 1 ≤ _), (by decide : 0 + 2 ≤ _)⟩)
  dsimp only [Pt.U, Pt.locs, Pt.cells, Pt.slots] at X2 l2 y2 z2 st2 hQ2
  subst l2 y2 z2
  have X2 := own_cs X2 (cells' := 1) (slots' := 2) rfl rfl
  obtain ⟨h2, e2⟩ : ∃ z, T2.heap = z := ⟨_, rfl⟩
  rw [e2] at hQ2
  obtain ⟨rfl, N2q, K2, sb2, sk2, A_2, FC_2, FV_2, AV_2, EB_2⟩ := hQ2
  have N2 := Fr.app N0 N2q
  have Zs3 : n0 ≤ h2.size := Nat.le_trans Z0 K2.1
  have KC3 : Keep h0 h2 [o] := (Keep.refl h0 [o]).trans K2 (allS (P := fun x => x ∈ [o] ∨ h0.size ≤ x) (Or.inl (List.mem_of_getElem? (i := 0) rfl)) all0)
  refine Go.tr st2 ?_
  obtain ⟨fs, hr, hrun, hended, hW, hsame⟩ := X2.leave (v := none) (fun _ => rfl) (BodyLoose.notSynchronized Bd)
  refine ⟨_, _, ?_, hP _ _ ⟨hrun, hended, _, _, rfl, ?_, ⟨_, rfl⟩, hW, hsame.mono (by decide) (by decide)⟩⟩
  · exact X2.returnOut hx Bd.returns (hb hby dc8_9) hr
  · show (none : Option Value) = none ∧ Fr n0 _ ∧ Keep h0 T2.heap [o] ∧ ∃ (b : Addr) (kb : ClassId), Exa Z T2.heap o "java/lang/String" ∧ Fld Z T2.heap o "java/lang/String" "coder" "B" (.int (0 : Int32)) ∧ Fld Z T2.heap o "java/lang/String" "value" "[B" (.ref b) ∧ Arv Z T2.heap b kb .byte (2 : Int32) [(.int (x.toInt8.toInt32)), (.int (y.toInt8.toInt32))] (.int (0 : Int32)) ∧ Exa Z T2.heap b "[B"
    rw [e2]
    exact ⟨rfl, N2, KC3, sb2, sk2, A_2, FC_2, FV_2, AV_2, EB_2⟩
theorem dc9_0 : decode method_3_code 0 = .ok (.iload_n 0, 1) := by decide +kernel
theorem dc9_1 : decode method_3_code 1 = .ok (.ifCond .ne 6, 3) := by decide +kernel
theorem dc9_4 : decode method_3_code 4 = .ok (.ldc 31, 2) := by decide +kernel
theorem dc9_6 : decode method_3_code 6 = .ok (.areturn, 1) := by decide +kernel
theorem dc9_7 : decode method_3_code 7 = .ok (.iload_n 0, 1) := by decide +kernel
theorem dc9_8 : decode method_3_code 8 = .ok (.iconst 1, 1) := by decide +kernel
theorem dc9_9 : decode method_3_code 9 = .ok (.if_icmp .ne 8, 3) := by decide +kernel
theorem dc9_12 : decode method_3_code 12 = .ok (.iload_n 1, 1) := by decide +kernel
theorem dc9_13 : decode method_3_code 13 = .ok (.invokestatic 33, 3) := by decide +kernel
theorem pd_7 : parseMethodDescriptor "(C)Ljava/lang/String;" = some ⟨[.char], some (.object "java/lang/String")⟩ := by decide +kernel
theorem dc9_16 : decode method_3_code 16 = .ok (.areturn, 1) := by decide +kernel
theorem dc9_17 : decode method_3_code 17 = .ok (.new 15, 3) := by decide +kernel
theorem dc9_20 : decode method_3_code 20 = .ok (.dup, 1) := by decide +kernel
theorem dc9_21 : decode method_3_code 21 = .ok (.iconst 2, 1) := by decide +kernel
theorem dc9_22 : decode method_3_code 22 = .ok (.newarray .char, 2) := by decide +kernel
theorem dc9_24 : decode method_3_code 24 = .ok (.dup, 1) := by decide +kernel
theorem dc9_25 : decode method_3_code 25 = .ok (.iconst 0, 1) := by decide +kernel
theorem dc9_26 : decode method_3_code 26 = .ok (.iload_n 1, 1) := by decide +kernel
theorem dc9_27 : decode method_3_code 27 = .ok (.castore, 1) := by decide +kernel
theorem dc9_28 : decode method_3_code 28 = .ok (.dup, 1) := by decide +kernel
theorem dc9_29 : decode method_3_code 29 = .ok (.iconst 1, 1) := by decide +kernel
theorem dc9_30 : decode method_3_code 30 = .ok (.iload_n 2, 1) := by decide +kernel
theorem dc9_31 : decode method_3_code 31 = .ok (.castore, 1) := by decide +kernel
theorem dc9_32 : decode method_3_code 32 = .ok (.invokespecial 37, 3) := by decide +kernel
theorem pd_8 : parseMethodDescriptor "([C)V" = some ⟨[(.array .char)], none⟩ := by decide +kernel
theorem dc9_35 : decode method_3_code 35 = .ok (.areturn, 1) := by decide +kernel
theorem pn_3 : plainName "com/example/crossbook/crossbook/venue/TextsIndexOfPinLaw" = true := by first | (simp [plainName, overriddenIn]; done) | decide +kernel
theorem ef_rmT (mi : MethodId) (ln : Int32) (x : Int32) (y : Int32) (cz : Int32) : entryFrame mi #[(.int ln), (.int x), (.int y)] 3 = mkF mi 0 #[.val (.int ln), .val (.int x), .val (.int y)] [] := by first | (simp [entryFrame, mkF, argsToLocals, Value.category]; done) | rfl
def Q_rmT (Z : State) (ln : Int32) (x : Int32) (y : Int32) (cz : Int32) (h0 : Heap) (n0 : Nat) (vv_ : Option Value) (hh_ : Heap) (LL_ : List Loc) : Prop := ∃ (o b : Addr) (kb : ClassId), vv_ = some (.ref o) ∧ Fr n0 LL_ ∧ Keep h0 hh_ [] ∧ Exa Z hh_ o "java/lang/String" ∧ Fld Z hh_ o "java/lang/String" "coder" "B" (.int (0 : Int32)) ∧ Fld Z hh_ o "java/lang/String" "value" "[B" (.ref b) ∧ Arv Z hh_ b kb .byte ln (bts ln (x.toInt8.toInt32) (y.toInt8.toInt32)) (.int (0 : Int32)) ∧ Exa Z hh_ b "[B"
set_option maxRecDepth 65536 in
set_option maxHeartbeats 40000000 in
theorem rmT (l : Launch) (Z : State) (a0 : Array Value) (hw : ∀ d ∈ tables_1, d.before a0 Z = true) (ws : List Jvm.Cond) (ln : Int32) (x : Int32) (y : Int32) (cz : Int32) (h0 : Heap) (n0 : Nat) (Z0 : n0 ≤ h0.size) (hEL : EW Z a0 own_EL) (hl : ln = 0 ∨ ln = 1 ∨ ln = 2) (SC : Sta Z h0 "java/lang/String" "COMPACT_STRINGS" "Z" (.int cz)) (hcz : ¬ (cz = (0 : Int32))) (hx1 : 0 ≤ x.toInt) (hx2 : x.toInt ≤ 255) (hy1 : 0 ≤ y.toInt) (hy2 : y.toInt ≤ 255) :
    MetFree l (⟨"com/example/crossbook/crossbook/venue/TextsIndexOfPinLaw", "text", "(ICC)Ljava/lang/String;"⟩ : MethodName) (head1 (Jvm.Cond.code (⟨"com/example/crossbook/crossbook/venue/TextsIndexOfPinLaw", "text", "(ICC)Ljava/lang/String;"⟩ : MethodName) method_3_code 3 (some (.object "java/lang/String")) :: ws) ({ frames := 4, cells := 3, slots := 8, locals := 66 } : Room)) (fun aa_ U => aa_ = #[(.int ln), (.int x), (.int y)] ∧ Z.Warmed39 U.vm ∧ U.heap = h0 ∧ CHv Z own_EL U.vm h0) (fun _ _ _ _ _ => True) (fun _ U oo_ UV_ => ∃ vv_ LL_, oo_ = .returned vv_ ∧ Q_rmT Z ln x y cz h0 n0 vv_ UV_.heap LL_ ∧ CHr Z own_EL U.vm U.heap UV_.vm UV_.heap ∧ ReturnedEndW U oo_ UV_ LL_ ({ frames := 4, cells := 3, slots := 8, locals := 66 } : Room).cells ({ frames := 4, cells := 3, slots := 8, locals := 66 } : Room).slots) := by
  refine MetFree.of_bodySF (plainFor_of_name pn_3) hisR ?_
  intro pg ev si mi args below meth ci s₁ Bd hml0 hP0 hK
  obtain ⟨rfl, hZ, hh, hCH⟩ := hP0
  have hx := Bd.exec
  have hby := Bd.bytes
  have hml : ci.maxLocals = 3 := hml0
  have hown : si.vm.findClass "com/example/crossbook/crossbook/venue/TextsIndexOfPinLaw" = some mi.cls := findClass_of_methodNamed Bd.named
  have hnm := (name_of_methodNamed Bd.named Bd.method).1
  have X0 : Stand pg l ev ({ frames := 4, cells := 3, slots := 8, locals := 66 } : Room) si mi #[(.int ln), (.int x), (.int y)] below meth ci s₁ [] 0 0 := Stand.of_body Bd
  have e0 : s₁.heap = h0 := by rw [← hh, Bd.state]; rfl
  have N0 := Fr.nil n0
  refine Go.start (fun P hP => ?_)
  refine Go.st (fun t_ k_ => castTop (ef_rmT mi ln x y cz) k_) (A := s₁.setTop (mkF mi 0 #[.val (.int ln), .val (.int x), .val (.int y)] [])) ?_
  show Go _ _ _ (s₁.setTop (mkF mi 0 #[.val (.int ln), .val (.int x), .val (.int y)] [])) _
  rcases hl with hN | hN | hN
  · rw [hN]
    show Go _ _ _ (s₁.setTop (mkF mi 0 #[.val (.int 0), .val (.int x), .val (.int y)] [])) _
    refine g_iloadN X0 hx hby dc9_0 rfl ?_
    refine g_ifNo X0 hx hby dc9_1 ((if0 _ _).trans (teq rfl).2) ?_
    show Go _ _ _ (s₁.setTop (mkF mi 4 #[.val (.int 0), .val (.int x), .val (.int y)] [])) _
    have hwS : ∀ a ∈ Bundle.stringAtoms, a.before a0 Z = true := fun d hd => hw d ((by decide +kernel : ∀ d ∈ Bundle.stringAtoms, d ∈ tables_1) d hd)
    obtain ⟨oS, T1, h1, k11, bS, kS, X1, e1, E1, hSi, hk1, hZ2, hown2, A1, FC1, FV1, AV1, -, -, hCr, hLi, -, st1⟩ := ldcCH (s := si) (vm0 := si.vm) (EL := own_EL) (own_rb X0) hx hZ hown (hw _ (own_m 5 rfl)) hwS e0 ((State.WarmedH.refl si).since h0.size) (Nat.le_refl _) hEL (List.mem_of_getElem? (i := 0) rfl) hCH (vs := []) (z := (0 : Int32)) ⟨by decide, by decide⟩ (by decide) rfl (g := (mkF mi 4 #[.val (.int 0), .val (.int x), .val (.int y)] [])) rfl (hb hby dc9_4) (n := 0) (by decide) (by decide) (by decide) (by decide)
    have EB1 : Exa Z h1 bS "[B" := own_exB (s := si) hZ2 (hw _ (own_m 5 rfl)) (EL := own_EL) (List.mem_of_getElem? (i := 0) rfl) hCr.1 hLi FV1 AV1
    have hZ : Z.Warmed39 (si.setVm T1.vm).vm := hZ2
    have hown : (si.setVm T1.vm).vm.findClass "com/example/crossbook/crossbook/venue/TextsIndexOfPinLaw" = some mi.cls := hown2
    have Zs2 : n0 ≤ h1.size := Nat.le_trans Z0 E1.1
    have KC2 : Keep h0 h1 [] := (Keep.refl h0 []).ext E1
    refine Go.st st1 ?_
    show Go _ _ _ (T1.setTop (mkF mi 6 #[.val (.int 0), .val (.int x), .val (.int y)] [(.ref oS)])) _
    obtain ⟨fs, hr, hrun, hended, -, hW, hpr, hsame⟩ := Stand.leaveW (v := some (.ref oS)) X1 hSi (by show _ ≤ T1.heap.size; rw [e1]; exact hk1) (fun h => by rw [Bd.returns] at h; cases h) (BodyLoose.notSynchronized Bd)
    refine ⟨_, _, ?_, hP _ _ ⟨hrun, hended, _, _, rfl, ?_, (show CHr Z own_EL si.vm si.heap T1.vm T1.heap from own_chr hh e1 hCr), ⟨_, rfl⟩, hW, hpr, hsame.mono (by decide) (by decide)⟩⟩
    · exact retOut X1 hx Bd.returns rfl (Or.inr (Or.inr (Or.inr (Or.inr ⟨rfl, rfl, rfl⟩)))) (hb hby dc9_6) hr
    · show ∃ (o b : Addr) (kb : ClassId), (some (.ref oS) : Option Value) = some (.ref o) ∧ Fr n0 _ ∧ Keep h0 T1.heap [] ∧ Exa Z T1.heap o "java/lang/String" ∧ Fld Z T1.heap o "java/lang/String" "coder" "B" (.int (0 : Int32)) ∧ Fld Z T1.heap o "java/lang/String" "value" "[B" (.ref b) ∧ Arv Z T1.heap b kb .byte ln (bts ln (x.toInt8.toInt32) (y.toInt8.toInt32)) (.int (0 : Int32)) ∧ Exa Z T1.heap b "[B"
      rw [e1]
      exact ⟨oS, bS, kS, rfl, N0, KC2, A1, FC1, FV1, (by rw [hN, bts0]; exact AV1), EB1⟩
  · rw [hN]
    show Go _ _ _ (s₁.setTop (mkF mi 0 #[.val (.int 1), .val (.int x), .val (.int y)] [])) _
    refine g_iloadN X0 hx hby dc9_0 rfl ?_
    refine g_ifYes X0 hx hby dc9_1 ((if0 _ _).trans (feq (by decide)).2) (pc0 := 1) (pc' := 7) rfl (by decide) (by decide) ?_
    refine g_iloadN X0 hx hby dc9_7 rfl ?_
    refine g_iconst X0 hx hby dc9_8 (v := 1) rfl ?_
    refine g_icmpNo X0 hx hby dc9_9 (teq rfl).2 ?_
    refine g_iloadN X0 hx hby dc9_12 rfl ?_
    obtain ⟨_, _, ⟨T3, L3, k3, n3⟩, -, X3, ⟨Lc3, hQ3, l3, y3, z3⟩, st3⟩ := Jvm.LawKit.callS X0 hx (y := (⟨"java/lang/String", "valueOf", "(C)Ljava/lang/String;"⟩ : MethodName)) hown (mvT hZ (hw _ (own_m 113 rfl))) (mvT hZ (hw _ (own_m 114 rfl))) (mvT hZ (hw _ (own_m 6 rfl))) (mvT hZ (hw _ (own_m 115 rfl))) (by decide) (backOf (W := 0) (rmVO l Z a0 hw [] x cz h0 n0 Z0 SC hcz hx1 hx2) hZ (hw _ (own_m 115 rfl)) (hw _ (own_m 6 rfl)) (by decide) (by decide)) (g := (mkF mi 13 #[.val (.int 1), .val (.int x), .val (.int y)] [(.int x)])) rfl (by rw [hml]; rfl) (argsL := [(.int x)]) (rest := []) (lenOf pd_7 rfl) rfl (by show 2 * 0 + _ ≤ _; exact Nat.le_of_eq rfl) (hb hby dc9_13) (fun _ _ => ⟨rfl, e0, (by decide : 0 + 2 ≤ _), (by decide : 0 + 5 ≤ _)⟩)
    dsimp only [Pt.U, Pt.locs, Pt.cells, Pt.slots] at X3 l3 y3 z3 st3 hQ3
    subst l3 y3 z3
    have X3 := own_cs X3 (cells' := 2) (slots' := 5) rfl rfl
    obtain ⟨h3, e3⟩ : ∃ z, T3.heap = z := ⟨_, rfl⟩
    rw [e3] at hQ3
    obtain ⟨so3, sb3, sk3, rfl, N3q, K3, A_3, FC_3, FV_3, AV_3, EB_3⟩ := hQ3
    have N3 := Fr.app N0 N3q
    have Zs4 : n0 ≤ h3.size := Nat.le_trans Z0 K3.1
    have KC4 : Keep h0 h3 [] := (Keep.refl h0 []).trans K3 all0
    refine Go.st st3 ?_
    show Go _ _ _ (T3.setTop (mkF mi 16 #[.val (.int 1), .val (.int x), .val (.int y)] [(.ref so3)])) _
    obtain ⟨fs, hr, hrun, hended, -, hW, hpr, hsame⟩ := Stand.leaveW (v := some (.ref so3)) (own_rb X3) ((State.WarmedH.refl si).since h0.size) (by show _ ≤ T3.heap.size; rw [e3]; exact KC4.1) (fun h => by rw [Bd.returns] at h; cases h) (BodyLoose.notSynchronized Bd)
    refine ⟨_, _, ?_, hP _ _ ⟨hrun, hended, _, _, rfl, ?_, (show CHr Z own_EL si.vm si.heap T3.vm T3.heap from own_chr hh e3 ((CHr.keep KC4 sf0 hCH).trans (CHv.at (own_rb X3) hZ hEL (CHr.keep KC4 sf0 hCH).1))), ⟨_, rfl⟩, hW, hpr, hsame.mono (by decide) (by decide)⟩⟩
    · exact retOut (own_rb X3) hx Bd.returns rfl (Or.inr (Or.inr (Or.inr (Or.inr ⟨rfl, rfl, rfl⟩)))) (hb hby dc9_16) hr
    · show ∃ (o b : Addr) (kb : ClassId), (some (.ref so3) : Option Value) = some (.ref o) ∧ Fr n0 _ ∧ Keep h0 T3.heap [] ∧ Exa Z T3.heap o "java/lang/String" ∧ Fld Z T3.heap o "java/lang/String" "coder" "B" (.int (0 : Int32)) ∧ Fld Z T3.heap o "java/lang/String" "value" "[B" (.ref b) ∧ Arv Z T3.heap b kb .byte ln (bts ln (x.toInt8.toInt32) (y.toInt8.toInt32)) (.int (0 : Int32)) ∧ Exa Z T3.heap b "[B"
      rw [e3]
      exact ⟨so3, sb3, sk3, rfl, N3, KC4, A_3, FC_3, FV_3, (by rw [hN, bts1]; exact AV_3), EB_3⟩
  · rw [hN]
    show Go _ _ _ (s₁.setTop (mkF mi 0 #[.val (.int 2), .val (.int x), .val (.int y)] [])) _
    refine g_iloadN X0 hx hby dc9_0 rfl ?_
    refine g_ifYes X0 hx hby dc9_1 ((if0 _ _).trans (feq (by decide)).2) (pc0 := 1) (pc' := 7) rfl (by decide) (by decide) ?_
    refine g_iloadN X0 hx hby dc9_7 rfl ?_
    refine g_iconst X0 hx hby dc9_8 (v := 1) rfl ?_
    refine g_icmpYes X0 hx hby dc9_9 (feq (by decide)).2 (pc0 := 9) (pc' := 17) rfl (by decide) (by decide) ?_
    obtain ⟨T5, h5, X5, e5, E5, A5, D5, -, st5⟩ := newO X0 hx hZ hown (hw _ (own_m 13 rfl)) (hw _ (own_m 7 rfl)) (hw _ (own_m 6 rfl)) e0 (g := (mkF mi 17 #[.val (.int 2), .val (.int x), .val (.int y)] [])) rfl (hb hby dc9_17) (by decide) (by decide)
    obtain ⟨ob5, g5⟩ : ∃ z, z = h0.size := ⟨_, rfl⟩
    rw [← g5] at A5 D5 st5
    have Zs6 : n0 ≤ h5.size := Nat.le_trans Z0 E5.1
    have KC6 : Keep h0 h5 [] := (Keep.refl h0 []).ext E5
    have g_ob5 : n0 ≤ ob5 := Nat.le_trans Z0 (Nat.le_of_eq g5.symm)
    have sz_ob5 : h0.size ≤ ob5 := Nat.le_trans (Keep.refl h0 []).1 (Nat.le_of_eq g5.symm)
    have F5_9 : Fld Z h5 ob5 "java/lang/String" "value" "[B" .null := D5 (Or.inr (hw _ (own_m 9 rfl))) (ty := (.array .byte)) (by decide)
    have F5_10 : Fld Z h5 ob5 "java/lang/String" "coder" "B" (.int 0) := D5 (Or.inr (hw _ (own_m 10 rfl))) (ty := .byte) (by decide)
    refine Go.st st5 ?_
    refine g_dup X5 hx hby dc9_20 rfl ?_
    refine g_iconst X5 hx hby dc9_21 (v := 2) rfl ?_
    obtain ⟨T7, h7, k7, X7, e7, E7, A7, EX7, st7⟩ := newPE X5 hx hZ (hw _ (own_m 95 rfl)) e5 (g := (mkF mi 22 #[.val (.int 2), .val (.int x), .val (.int y)] [(.int 2), (.ref ob5), (.ref ob5)])) rfl (hb hby dc9_22) rfl (by decide) (cap := 2) (by decide) (by decide) (by decide) (by decide) (ad := "[C") (by decide)
    obtain ⟨ob7, g7⟩ : ∃ z, z = h5.size := ⟨_, rfl⟩
    rw [← g7] at A7 EX7 st7
    have Zs8 : n0 ≤ h7.size := Nat.le_trans Zs6 E7.1
    have KC8 : Keep h0 h7 [] := KC6.ext E7
    have g_ob7 : n0 ≤ ob7 := Nat.le_trans Zs6 (Nat.le_of_eq g7.symm)
    have sz_ob7 : h0.size ≤ ob7 := Nat.le_trans KC6.1 (Nat.le_of_eq g7.symm)
    have V7 : Arv Z h7 ob7 k7 .char (2 : Int32) [(.int (0 : Int32)), (.int (0 : Int32))] (.int (0 : Int32)) := (Arv.new A7 (by decide)).pad (pad_rep [] (.int (0 : Int32)) 2)
    refine Go.st st7 ?_
    refine g_dup X7 hx hby dc9_24 rfl ?_
    refine g_iconst X7 hx hby dc9_25 (v := 0) rfl ?_
    refine g_iloadN X7 hx hby dc9_26 rfl ?_
    have ov9 := V7
    obtain ⟨cl9, Ar9, q9, S9, M9, H9, G9⟩ := ov9
    have hin9 : ¬ ((0 : Int32) < 0 ∨ cl9.slots.size ≤ ((0 : Int32)).toNatClampNeg) := inb_of S9 ⟨by decide, by decide⟩
    obtain ⟨T10, h10, X10, e10, W10, st10⟩ := stC X7 hx hZ e7 Ar9 (j := (0 : Int32)) hin9 (g := (mkF mi 27 #[.val (.int 2), .val (.int x), .val (.int y)] [(.int x), (.int 0), (.ref ob7), (.ref ob7), (.ref ob5), (.ref ob5)])) rfl rfl (hb hby dc9_27)
    have Zs11 : n0 ≤ h10.size := Nat.le_trans Zs8 (Keep.of_wr W10).1
    have KC11 : Keep h0 h10 [] := KC8.wr W10 (Or.inr sz_ob7)
    have N11 := Fr.snoc X10 N0 g_ob7
    have V10 : Arv Z h10 ob7 k7 .char (2 : Int32) [(.int (x.toUInt32.toUInt16.toUInt32.toInt32)), (.int 0)] (.int (0 : Int32)) := Arv.set Ar9 q9 S9 M9 H9 G9 (fits_nar_char _) W10 0 rfl (Nat.le_of_ble_eq_true rfl)
    rw [own_nc hx1 hx2] at V10
    refine Go.st st10 ?_
    refine g_dup X10 hx hby dc9_28 rfl ?_
    refine g_iconst X10 hx hby dc9_29 (v := 1) rfl ?_
    refine g_iloadN X10 hx hby dc9_30 rfl ?_
    have ov12 := V10
    obtain ⟨cl12, Ar12, q12, S12, M12, H12, G12⟩ := ov12
    have hin12 : ¬ ((1 : Int32) < 0 ∨ cl12.slots.size ≤ ((1 : Int32)).toNatClampNeg) := inb_of S12 ⟨by decide, by decide⟩
    obtain ⟨T13, h13, X13, e13, W13, st13⟩ := stC X10 hx hZ e10 Ar12 (j := (1 : Int32)) hin12 (g := (mkF mi 31 #[.val (.int 2), .val (.int x), .val (.int y)] [(.int y), (.int 1), (.ref ob7), (.ref ob7), (.ref ob5), (.ref ob5)])) rfl rfl (hb hby dc9_31)
    have Zs14 : n0 ≤ h13.size := Nat.le_trans Zs11 (Keep.of_wr W13).1
    have KC14 : Keep h0 h13 [] := KC11.wr W13 (Or.inr sz_ob7)
    have N14 := Fr.snoc X13 N11 g_ob7
    have V13 : Arv Z h13 ob7 k7 .char (2 : Int32) [(.int x), (.int (y.toUInt32.toUInt16.toUInt32.toInt32))] (.int (0 : Int32)) := Arv.set Ar12 q12 S12 M12 H12 G12 (fits_nar_char _) W13 1 rfl (Nat.le_of_ble_eq_true rfl)
    rw [own_nc hy1 hy2] at V13
    refine Go.st st13 ?_
    have f16 := (((A5.ext E7).wr W10).wr W13)
    have ne_ob5_ob7 : ob5 ≠ ob7 := Nat.ne_of_lt (Nat.lt_of_lt_of_le A5.lt (Nat.le_of_eq g7.symm))
    have f17 := (((F5_10.ext E7).other W10 (Or.inl ne_ob5_ob7)).other W13 (Or.inl ne_ob5_ob7))
    have f18 := (((F5_9.ext E7).other W10 (Or.inl ne_ob5_ob7)).other W13 (Or.inl ne_ob5_ob7))
    have f19 := ((((SC.ext E5).ext E7).wr W10).wr W13)
    obtain ⟨_, _, ⟨T15, L15, k15, n15⟩, -, X15, ⟨Lc15, hQ15, l15, y15, z15⟩, st15⟩ := X13.specialBack hx (y := (⟨"java/lang/String", "<init>", "([C)V"⟩ : MethodName)) rfl hown (mvT hZ (hw _ (own_m 96 rfl))) (mvT hZ (hw _ (own_m 97 rfl))) (mvT hZ (hw _ (own_m 98 rfl))) (by decide) (backOf (W := 1) (rmSC l Z a0 hw [] ob5 ob7 k7 x y cz h13 n0 Zs14 f16 f17 f18 g_ob5 V13 (Ne.symm ne_ob5_ob7) f19 hcz hx1 hx2 hy1 hy2) hZ (hw _ (own_m 98 rfl)) (hw _ (own_m 6 rfl)) (by decide) (by decide)) (g := (mkF mi 32 #[.val (.int 2), .val (.int x), .val (.int y)] [(.ref ob7), (.ref ob5), (.ref ob5)])) rfl (by rw [hml]; rfl) (Steps.refl _) (a := ob5) (argsL := [(.ref ob7)]) (rest := [(.ref ob5)]) (lenOf pd_8 rfl) rfl (by show 2 * 0 + _ ≤ _; exact Nat.le_of_eq rfl) (hb hby dc9_32) (fun _ _ => ⟨rfl, e13, (by decide : 2 + 1 ≤ _), (by decide : 6 + 2 ≤ _)⟩)
    dsimp only [Pt.U, Pt.locs, Pt.cells, Pt.slots] at X15 l15 y15 z15 st15 hQ15
    subst l15 y15 z15
    have X15 := own_cs X15 (cells' := 3) (slots' := 8) rfl rfl
    obtain ⟨h15, e15⟩ : ∃ z, T15.heap = z := ⟨_, rfl⟩
    rw [e15] at hQ15
    obtain ⟨rfl, N15q, K15, sb15, sk15, A_15, FC_15, FV_15, AV_15, EB_15⟩ := hQ15
    have N15 := Fr.app N14 N15q
    have Zs20 : n0 ≤ h15.size := Nat.le_trans Zs14 K15.1
    have KC20 : Keep h0 h15 [] := KC14.trans K15 (allS (P := fun x => x ∈ [] ∨ h0.size ≤ x) (Or.inr sz_ob5) all0)
    refine Go.tr st15 ?_
    show Go _ _ _ (T15.setTop (mkF mi 35 #[.val (.int 2), .val (.int x), .val (.int y)] [(.ref ob5)])) _
    obtain ⟨fs, hr, hrun, hended, -, hW, hpr, hsame⟩ := Stand.leaveW (v := some (.ref ob5)) (own_rb X15) ((State.WarmedH.refl si).since h0.size) (by show _ ≤ T15.heap.size; rw [e15]; exact KC20.1) (fun h => by rw [Bd.returns] at h; cases h) (BodyLoose.notSynchronized Bd)
    refine ⟨_, _, ?_, hP _ _ ⟨hrun, hended, _, _, rfl, ?_, (show CHr Z own_EL si.vm si.heap T15.vm T15.heap from own_chr hh e15 ((CHr.keep KC20 sf0 hCH).trans (CHv.at (own_rb X15) hZ hEL (CHr.keep KC20 sf0 hCH).1))), ⟨_, rfl⟩, hW, hpr, hsame.mono (by decide) (by decide)⟩⟩
    · exact retOut (own_rb X15) hx Bd.returns rfl (Or.inr (Or.inr (Or.inr (Or.inr ⟨rfl, rfl, rfl⟩)))) (hb hby dc9_35) hr
    · show ∃ (o b : Addr) (kb : ClassId), (some (.ref ob5) : Option Value) = some (.ref o) ∧ Fr n0 _ ∧ Keep h0 T15.heap [] ∧ Exa Z T15.heap o "java/lang/String" ∧ Fld Z T15.heap o "java/lang/String" "coder" "B" (.int (0 : Int32)) ∧ Fld Z T15.heap o "java/lang/String" "value" "[B" (.ref b) ∧ Arv Z T15.heap b kb .byte ln (bts ln (x.toInt8.toInt32) (y.toInt8.toInt32)) (.int (0 : Int32)) ∧ Exa Z T15.heap b "[B"
      rw [e15]
      exact ⟨ob5, sb15, sk15, rfl, N15, KC20, A_15, FC_15, FV_15, (by rw [hN, bts2]; exact AV_15), EB_15⟩
theorem dc10_0 : decode jdk_123_method_3_code 0 = .ok (.iload_n 1, 1) := by decide +kernel
theorem dc10_1 : decode jdk_123_method_3_code 1 = .ok (.iload_n 2, 1) := by decide +kernel
theorem dc10_2 : decode jdk_123_method_3_code 2 = .ok (.iadd, 1) := by decide +kernel
theorem dc10_3 : decode jdk_123_method_3_code 3 = .ok (.istore_n 3, 1) := by decide +kernel
theorem dc10_4 : decode jdk_123_method_3_code 4 = .ok (.iload_n 1, 1) := by decide +kernel
theorem dc10_5 : decode jdk_123_method_3_code 5 = .ok (.istore 4, 2) := by decide +kernel
theorem dc10_7 : decode jdk_123_method_3_code 7 = .ok (.iload 4, 2) := by decide +kernel
theorem dc10_9 : decode jdk_123_method_3_code 9 = .ok (.iload_n 3, 1) := by decide +kernel
theorem dc10_10 : decode jdk_123_method_3_code 10 = .ok (.if_icmp .ge 21, 3) := by decide +kernel
theorem dc10_31 : decode jdk_123_method_3_code 31 = .ok (.iload_n 2, 1) := by decide +kernel
theorem dc10_32 : decode jdk_123_method_3_code 32 = .ok (.ireturn, 1) := by decide +kernel
theorem pn_4 : plainName "java/lang/StringCoding" = true := by first | (simp [plainName, overriddenIn]; done) | decide +kernel
theorem ef_rmCP0 (mi : MethodId) (b : Addr) (kb : ClassId) (u : Int32) (v : Int32) : entryFrame mi #[(.ref b), (.int 0), (.int 0)] 5 = mkF mi 0 #[.val (.ref b), .val (.int 0), .val (.int 0), .unset, .unset] [] := by first | (simp [entryFrame, mkF, argsToLocals, Value.category]; done) | rfl
def fCP0 (u v : Int32) : Int32 := (0 : Int32)
def Q_rmCP0 (Z : State) (b : Addr) (kb : ClassId) (u : Int32) (v : Int32) (h0 : Heap) (n0 : Nat) (vv_ : Option Value) (hh_ : Heap) (LL_ : List Loc) : Prop := vv_ = some (.int (fCP0 u v)) ∧ Fr n0 LL_ ∧ hh_ = h0
set_option maxRecDepth 65536 in
set_option maxHeartbeats 40000000 in
theorem rmCP0 (l : Launch) (Z : State) (a0 : Array Value) (hw : ∀ d ∈ tables_1, d.before a0 Z = true) (ws : List Jvm.Cond) (b : Addr) (kb : ClassId) (u : Int32) (v : Int32) (h0 : Heap) (n0 : Nat) (Z0 : n0 ≤ h0.size) (A0 : Arv Z h0 b kb .byte (0 : Int32) [] (.int (0 : Int32))) :
    MetFree l (⟨"java/lang/StringCoding", "countPositives", "([BII)I"⟩ : MethodName) (head1 (Jvm.Cond.code (⟨"java/lang/StringCoding", "countPositives", "([BII)I"⟩ : MethodName) jdk_123_method_3_code 5 (some .int) :: ws) ({ frames := 0, cells := 0, slots := 0, locals := 0 } : Room)) (fun aa_ U => aa_ = #[(.ref b), (.int 0), (.int 0)] ∧ Z.Warmed39 U.vm ∧ U.heap = h0) (fun _ _ _ _ _ => True) (fun _ U oo_ UV_ => ∃ vv_ LL_, oo_ = .returned vv_ ∧ Q_rmCP0 Z b kb u v h0 n0 vv_ UV_.heap LL_ ∧ FrameEnd U oo_ UV_ LL_ ({ frames := 0, cells := 0, slots := 0, locals := 0 } : Room).cells ({ frames := 0, cells := 0, slots := 0, locals := 0 } : Room).slots) := by
  refine MetFree.of_bodySF (plainFor_of_name pn_4) hisR ?_
  intro pg ev si mi args below meth ci s₁ Bd hml0 hP0 hK
  obtain ⟨rfl, hZ, hh⟩ := hP0
  have hx := Bd.exec
  have hby := Bd.bytes
  have hml : ci.maxLocals = 5 := hml0
  have hown : si.vm.findClass "java/lang/StringCoding" = some mi.cls := findClass_of_methodNamed Bd.named
  have hnm := (name_of_methodNamed Bd.named Bd.method).1
  have X0 : Stand pg l ev ({ frames := 0, cells := 0, slots := 0, locals := 0 } : Room) si mi #[(.ref b), (.int 0), (.int 0)] below meth ci s₁ [] 0 0 := Stand.of_body Bd
  have e0 : s₁.heap = h0 := by rw [← hh, Bd.state]; rfl
  have N0 := Fr.nil n0
  refine Go.start (fun P hP => ?_)
  refine Go.st (fun t_ k_ => castTop (ef_rmCP0 mi b kb u v) k_) (A := s₁.setTop (mkF mi 0 #[.val (.ref b), .val (.int 0), .val (.int 0), .unset, .unset] [])) ?_
  show Go _ _ _ (s₁.setTop (mkF mi 0 #[.val (.ref b), .val (.int 0), .val (.int 0), .unset, .unset] [])) _
  refine g_iloadN X0 hx hby dc10_0 rfl ?_
  refine g_iloadN X0 hx hby dc10_1 rfl ?_
  refine g_iadd X0 hx hby dc10_2 (z := 0) rfl ?_
  refine g_istoreN X0 hx hby dc10_3 (l' := #[.val (.ref b), .val (.int 0), .val (.int 0), .val (.int 0), .unset]) rfl ?_
  refine g_iloadN X0 hx hby dc10_4 rfl ?_
  refine g_istore X0 hx hby dc10_5 (l' := #[.val (.ref b), .val (.int 0), .val (.int 0), .val (.int 0), .val (.int 0)]) rfl ?_
  refine g_iload X0 hx hby dc10_7 rfl ?_
  refine g_iloadN X0 hx hby dc10_9 rfl ?_
  refine g_icmpYes X0 hx hby dc10_10 (flt (by decide)).2.1 (pc0 := 10) (pc' := 31) rfl (by decide) (by decide) ?_
  refine g_iloadN X0 hx hby dc10_31 rfl ?_
  obtain ⟨fs, hr, hrun, hended, hW, hsame⟩ := X0.leave (v := some (.int 0)) (fun h => by rw [Bd.returns] at h; cases h) (BodyLoose.notSynchronized Bd)
  refine ⟨_, _, ?_, hP _ _ ⟨hrun, hended, _, _, rfl, ?_, ⟨_, rfl⟩, hW, hsame.mono (by decide) (by decide)⟩⟩
  · exact retI X0 hx Bd.returns (hb hby dc10_32) hr
  · show (some (.int 0) : Option Value) = some (.int (fCP0 u v)) ∧ Fr n0 _ ∧ s₁.heap = h0
    rw [e0]
    exact ⟨by rw [show fCP0 u v = (0 : Int32) from rfl], N0, rfl⟩
theorem dc11_0 : decode jdk_123_method_2_code 0 = .ok (.aload_n 0, 1) := by decide +kernel
theorem dc11_1 : decode jdk_123_method_2_code 1 = .ok (.iload_n 1, 1) := by decide +kernel
theorem dc11_2 : decode jdk_123_method_2_code 2 = .ok (.iload_n 2, 1) := by decide +kernel
theorem dc11_3 : decode jdk_123_method_2_code 3 = .ok (.invokestatic 7, 3) := by decide +kernel
theorem pd_9 : parseMethodDescriptor "([BII)I" = some ⟨[(.array .byte), .int, .int], some .int⟩ := by decide +kernel
theorem dc11_6 : decode jdk_123_method_2_code 6 = .ok (.iload_n 2, 1) := by decide +kernel
theorem dc11_7 : decode jdk_123_method_2_code 7 = .ok (.if_icmp .eq 7, 3) := by decide +kernel
theorem dc11_14 : decode jdk_123_method_2_code 14 = .ok (.iconst 0, 1) := by decide +kernel
theorem dc11_10 : decode jdk_123_method_2_code 10 = .ok (.iconst 1, 1) := by decide +kernel
theorem dc11_11 : decode jdk_123_method_2_code 11 = .ok (.goto 4, 3) := by decide +kernel
theorem dc11_15 : decode jdk_123_method_2_code 15 = .ok (.ireturn, 1) := by decide +kernel
theorem ef_rmHN0 (mi : MethodId) (b : Addr) (kb : ClassId) (u : Int32) (v : Int32) : entryFrame mi #[(.ref b), (.int 0), (.int 0)] 3 = mkF mi 0 #[.val (.ref b), .val (.int 0), .val (.int 0)] [] := by first | (simp [entryFrame, mkF, argsToLocals, Value.category]; done) | rfl
def fHN0 (u v : Int32) : Int32 := (if (fCP0 u v) = (0 : Int32) then (0 : Int32) else (1 : Int32))
def Q_rmHN0 (Z : State) (b : Addr) (kb : ClassId) (u : Int32) (v : Int32) (h0 : Heap) (n0 : Nat) (vv_ : Option Value) (hh_ : Heap) (LL_ : List Loc) : Prop := vv_ = some (.int (fHN0 u v)) ∧ Fr n0 LL_ ∧ hh_ = h0
set_option maxRecDepth 65536 in
set_option maxHeartbeats 40000000 in
theorem rmHN0 (l : Launch) (Z : State) (a0 : Array Value) (hw : ∀ d ∈ tables_1, d.before a0 Z = true) (ws : List Jvm.Cond) (b : Addr) (kb : ClassId) (u : Int32) (v : Int32) (h0 : Heap) (n0 : Nat) (Z0 : n0 ≤ h0.size) (A0 : Arv Z h0 b kb .byte (0 : Int32) [] (.int (0 : Int32))) :
    MetFree l (⟨"java/lang/StringCoding", "hasNegatives", "([BII)Z"⟩ : MethodName) (head1 (Jvm.Cond.code (⟨"java/lang/StringCoding", "hasNegatives", "([BII)Z"⟩ : MethodName) jdk_123_method_2_code 3 (some .boolean) :: ws) ({ frames := 1, cells := 0, slots := 0, locals := 16 } : Room)) (fun aa_ U => aa_ = #[(.ref b), (.int 0), (.int 0)] ∧ Z.Warmed39 U.vm ∧ U.heap = h0) (fun _ _ _ _ _ => True) (fun _ U oo_ UV_ => ∃ vv_ LL_, oo_ = .returned vv_ ∧ Q_rmHN0 Z b kb u v h0 n0 vv_ UV_.heap LL_ ∧ FrameEnd U oo_ UV_ LL_ ({ frames := 1, cells := 0, slots := 0, locals := 16 } : Room).cells ({ frames := 1, cells := 0, slots := 0, locals := 16 } : Room).slots) := by
  refine MetFree.of_bodySF (plainFor_of_name pn_4) hisR ?_
  intro pg ev si mi args below meth ci s₁ Bd hml0 hP0 hK
  obtain ⟨rfl, hZ, hh⟩ := hP0
  have hx := Bd.exec
  have hby := Bd.bytes
  have hml : ci.maxLocals = 3 := hml0
  have hown : si.vm.findClass "java/lang/StringCoding" = some mi.cls := findClass_of_methodNamed Bd.named
  have hnm := (name_of_methodNamed Bd.named Bd.method).1
  have X0 : Stand pg l ev ({ frames := 1, cells := 0, slots := 0, locals := 16 } : Room) si mi #[(.ref b), (.int 0), (.int 0)] below meth ci s₁ [] 0 0 := Stand.of_body Bd
  have e0 : s₁.heap = h0 := by rw [← hh, Bd.state]; rfl
  have N0 := Fr.nil n0
  refine Go.start (fun P hP => ?_)
  refine Go.st (fun t_ k_ => castTop (ef_rmHN0 mi b kb u v) k_) (A := s₁.setTop (mkF mi 0 #[.val (.ref b), .val (.int 0), .val (.int 0)] [])) ?_
  show Go _ _ _ (s₁.setTop (mkF mi 0 #[.val (.ref b), .val (.int 0), .val (.int 0)] [])) _
  refine g_aloadN X0 hx hby dc11_0 rfl rfl ?_
  refine g_iloadN X0 hx hby dc11_1 rfl ?_
  refine g_iloadN X0 hx hby dc11_2 rfl ?_
  obtain ⟨_, _, ⟨T1, L1, k1, n1⟩, -, X1, ⟨Lc1, hQ1, l1, y1, z1⟩, st1⟩ := Jvm.LawKit.callS X0 hx (y := (⟨"java/lang/StringCoding", "countPositives", "([BII)I"⟩ : MethodName)) hown (mvT hZ (hw _ (own_m 79 rfl))) (mvT hZ (hw _ (own_m 80 rfl))) (mvT hZ (hw _ (own_m 77 rfl))) (mvT hZ (hw _ (own_m 81 rfl))) (by decide) (backOf (W := 0) (rmCP0 l Z a0 hw [] b kb u v h0 n0 Z0 A0) hZ (hw _ (own_m 81 rfl)) (hw _ (own_m 77 rfl)) (by decide) (by decide)) (g := (mkF mi 3 #[.val (.ref b), .val (.int 0), .val (.int 0)] [(.int 0), (.int 0), (.ref b)])) rfl (by rw [hml]; rfl) (argsL := [(.ref b), (.int 0), (.int 0)]) (rest := []) (lenOf pd_9 rfl) rfl (by show 2 * 0 + _ ≤ _; exact Nat.le_of_eq rfl) (hb hby dc11_3) (fun _ _ => ⟨rfl, e0, (by decide : 0 + 0 ≤ _), (by decide : 0 + 0 ≤ _)⟩)
  dsimp only [Pt.U, Pt.locs, Pt.cells, Pt.slots] at X1 l1 y1 z1 st1 hQ1
  subst l1 y1 z1
  have X1 := own_cs X1 (cells' := 0) (slots' := 0) rfl rfl
  obtain ⟨rfl, N1q, e1⟩ := hQ1
  have N1 := Fr.app N0 N1q
  refine Go.st st1 ?_
  refine g_iloadN X1 hx hby dc11_6 rfl ?_
  have dm2 : ∀ t_, Steps pg.tables ev below (T1.setTop (mkF mi 15 #[.val (.ref b), .val (.int 0), .val (.int 0)] [(.int (if (fCP0 u v) = (0 : Int32) then (0 : Int32) else (1 : Int32)))])) t_ → Steps pg.tables ev below (T1.setTop (mkF mi 7 #[.val (.ref b), .val (.int 0), .val (.int 0)] [(.int 0), (.int (fCP0 u v))])) t_ := by
    intro t_ k_
    by_cases hd : (fCP0 u v) = (0 : Int32)
    · refine XS.icmpYes X1.here hx rfl (pc0 := 7) (pc' := 14) rfl (hb hby dc11_7) rfl (teq hd).1 (by decide) (by decide) ?_
      refine XS.iconst X1.here hx rfl (hb hby dc11_14) ?_
      show Steps _ _ _ (T1.setTop (mkF mi 15 #[.val (.ref b), .val (.int 0), .val (.int 0)] [(.int 0)])) t_
      exact own_cst (if_pos hd) k_
    · refine XS.icmpNo X1.here hx rfl (hb hby dc11_7) rfl (feq hd).1 ?_
      refine XS.iconst X1.here hx rfl (hb hby dc11_10) ?_
      refine XS.goto X1.here hx rfl (pc0 := 11) (pc' := 15) rfl (hb hby dc11_11) (by decide) (by decide) ?_
      show Steps _ _ _ (T1.setTop (mkF mi 15 #[.val (.ref b), .val (.int 0), .val (.int 0)] [(.int 1)])) t_
      exact own_cst (if_neg hd) k_
  refine Go.st dm2 ?_
  show Go _ _ _ (T1.setTop (mkF mi 15 #[.val (.ref b), .val (.int 0), .val (.int 0)] [(.int (if (fCP0 u v) = (0 : Int32) then (0 : Int32) else (1 : Int32)))])) _
  obtain ⟨fs, hr, hrun, hended, hW, hsame⟩ := X1.leave (v := some (.int (if (fCP0 u v) = (0 : Int32) then (0 : Int32) else (1 : Int32)))) (fun h => by rw [Bd.returns] at h; cases h) (BodyLoose.notSynchronized Bd)
  refine ⟨_, _, ?_, hP _ _ ⟨hrun, hended, _, _, rfl, ?_, ⟨_, rfl⟩, hW, hsame.mono (by decide) (by decide)⟩⟩
  · exact own_retN X1 hx (t := .boolean) Bd.returns (by simp) (own_nb rfl rfl) (hb hby dc11_15) hr
  · show (some (.int (if (fCP0 u v) = (0 : Int32) then (0 : Int32) else (1 : Int32))) : Option Value) = some (.int (fHN0 u v)) ∧ Fr n0 _ ∧ T1.heap = h0
    rw [e1]
    exact ⟨rfl, N1, rfl⟩
theorem dc10_13 : decode jdk_123_method_3_code 13 = .ok (.aload_n 0, 1) := by decide +kernel
theorem dc10_14 : decode jdk_123_method_3_code 14 = .ok (.iload 4, 2) := by decide +kernel
theorem dc10_16 : decode jdk_123_method_3_code 16 = .ok (.baload, 1) := by decide +kernel
theorem dc10_17 : decode jdk_123_method_3_code 17 = .ok (.ifCond .ge 8, 3) := by decide +kernel
theorem dc10_20 : decode jdk_123_method_3_code 20 = .ok (.iload 4, 2) := by decide +kernel
theorem dc10_22 : decode jdk_123_method_3_code 22 = .ok (.iload_n 1, 1) := by decide +kernel
theorem dc10_23 : decode jdk_123_method_3_code 23 = .ok (.isub, 1) := by decide +kernel
theorem dc10_24 : decode jdk_123_method_3_code 24 = .ok (.ireturn, 1) := by decide +kernel
theorem dc10_25 : decode jdk_123_method_3_code 25 = .ok (.iinc 4 1, 3) := by decide +kernel
theorem dc10_28 : decode jdk_123_method_3_code 28 = .ok (.goto (-21), 3) := by decide +kernel
theorem ef_rmCP1 (mi : MethodId) (b : Addr) (kb : ClassId) (u : Int32) (v : Int32) : entryFrame mi #[(.ref b), (.int 0), (.int 1)] 5 = mkF mi 0 #[.val (.ref b), .val (.int 0), .val (.int 1), .unset, .unset] [] := by first | (simp [entryFrame, mkF, argsToLocals, Value.category]; done) | rfl
def fCP1 (u v : Int32) : Int32 := (if u < (0 : Int32) then (0 : Int32) else (1 : Int32))
def Q_rmCP1 (Z : State) (b : Addr) (kb : ClassId) (u : Int32) (v : Int32) (h0 : Heap) (n0 : Nat) (vv_ : Option Value) (hh_ : Heap) (LL_ : List Loc) : Prop := vv_ = some (.int (fCP1 u v)) ∧ Fr n0 LL_ ∧ hh_ = h0
set_option maxRecDepth 65536 in
set_option maxHeartbeats 40000000 in
theorem rmCP1 (l : Launch) (Z : State) (a0 : Array Value) (hw : ∀ d ∈ tables_1, d.before a0 Z = true) (ws : List Jvm.Cond) (b : Addr) (kb : ClassId) (u : Int32) (v : Int32) (h0 : Heap) (n0 : Nat) (Z0 : n0 ≤ h0.size) (A0 : Arv Z h0 b kb .byte (1 : Int32) [(.int u)] (.int (0 : Int32))) :
    MetFree l (⟨"java/lang/StringCoding", "countPositives", "([BII)I"⟩ : MethodName) (head1 (Jvm.Cond.code (⟨"java/lang/StringCoding", "countPositives", "([BII)I"⟩ : MethodName) jdk_123_method_3_code 5 (some .int) :: ws) ({ frames := 0, cells := 0, slots := 0, locals := 0 } : Room)) (fun aa_ U => aa_ = #[(.ref b), (.int 0), (.int 1)] ∧ Z.Warmed39 U.vm ∧ U.heap = h0) (fun _ _ _ _ _ => True) (fun _ U oo_ UV_ => ∃ vv_ LL_, oo_ = .returned vv_ ∧ Q_rmCP1 Z b kb u v h0 n0 vv_ UV_.heap LL_ ∧ FrameEnd U oo_ UV_ LL_ ({ frames := 0, cells := 0, slots := 0, locals := 0 } : Room).cells ({ frames := 0, cells := 0, slots := 0, locals := 0 } : Room).slots) := by
  refine MetFree.of_bodySF (plainFor_of_name pn_4) hisR ?_
  intro pg ev si mi args below meth ci s₁ Bd hml0 hP0 hK
  obtain ⟨rfl, hZ, hh⟩ := hP0
  have hx := Bd.exec
  have hby := Bd.bytes
  have hml : ci.maxLocals = 5 := hml0
  have hown : si.vm.findClass "java/lang/StringCoding" = some mi.cls := findClass_of_methodNamed Bd.named
  have hnm := (name_of_methodNamed Bd.named Bd.method).1
  have X0 : Stand pg l ev ({ frames := 0, cells := 0, slots := 0, locals := 0 } : Room) si mi #[(.ref b), (.int 0), (.int 1)] below meth ci s₁ [] 0 0 := Stand.of_body Bd
  have e0 : s₁.heap = h0 := by rw [← hh, Bd.state]; rfl
  have N0 := Fr.nil n0
  refine Go.start (fun P hP => ?_)
  refine Go.st (fun t_ k_ => castTop (ef_rmCP1 mi b kb u v) k_) (A := s₁.setTop (mkF mi 0 #[.val (.ref b), .val (.int 0), .val (.int 1), .unset, .unset] [])) ?_
  show Go _ _ _ (s₁.setTop (mkF mi 0 #[.val (.ref b), .val (.int 0), .val (.int 1), .unset, .unset] [])) _
  refine g_iloadN X0 hx hby dc10_0 rfl ?_
  refine g_iloadN X0 hx hby dc10_1 rfl ?_
  refine g_iadd X0 hx hby dc10_2 (z := 1) rfl ?_
  refine g_istoreN X0 hx hby dc10_3 (l' := #[.val (.ref b), .val (.int 0), .val (.int 1), .val (.int 1), .unset]) rfl ?_
  refine g_iloadN X0 hx hby dc10_4 rfl ?_
  refine g_istore X0 hx hby dc10_5 (l' := #[.val (.ref b), .val (.int 0), .val (.int 1), .val (.int 1), .val (.int 0)]) rfl ?_
  refine g_iload X0 hx hby dc10_7 rfl ?_
  refine g_iloadN X0 hx hby dc10_9 rfl ?_
  refine g_icmpNo X0 hx hby dc10_10 (tlt (by decide)).2.1 ?_
  refine g_aloadN X0 hx hby dc10_13 rfl rfl ?_
  refine g_iload X0 hx hby dc10_14 rfl ?_
  have ov1 := A0
  obtain ⟨cl1, Ar1, q1, S1, M1, H1, G1⟩ := ov1
  have hin1 : ¬ ((0 : Int32) < 0 ∨ cl1.slots.size ≤ ((0 : Int32)).toNatClampNeg) := inb_of S1 ⟨by decide, by decide⟩
  have hat1 : cl1.slots[((0 : Int32)).toNatClampNeg]? = some (.int u) := Has.at H1 hin1 rfl
  refine Go.st (X0.baloadBytes hx (j := (0 : Int32)) (v := (.int u)) (by rw [e0]; exact Ar1.1) (State.isArrayOf_alike hZ.alike Ar1.2.1) Ar1.2.2 hin1 hat1 (g := (mkF mi 16 #[.val (.ref b), .val (.int 0), .val (.int 1), .val (.int 1), .val (.int 0)] [(.int 0), (.ref b)])) rfl rfl (hb hby dc10_16)) ?_
  by_cases hc17_1 : u < (0 : Int32)
  · refine g_ifNo X0 hx hby dc10_17 ((if0 _ _).trans (tlt hc17_1).2.1) ?_
    refine g_iload X0 hx hby dc10_20 rfl ?_
    refine g_iloadN X0 hx hby dc10_22 rfl ?_
    refine g_isub X0 hx hby dc10_23 (z := 0) rfl ?_
    obtain ⟨fs, hr, hrun, hended, hW, hsame⟩ := X0.leave (v := some (.int 0)) (fun h => by rw [Bd.returns] at h; cases h) (BodyLoose.notSynchronized Bd)
    refine ⟨_, _, ?_, hP _ _ ⟨hrun, hended, _, _, rfl, ?_, ⟨_, rfl⟩, hW, hsame.mono (by decide) (by decide)⟩⟩
    · exact retI X0 hx Bd.returns (hb hby dc10_24) hr
    · show (some (.int 0) : Option Value) = some (.int (fCP1 u v)) ∧ Fr n0 _ ∧ s₁.heap = h0
      rw [e0]
      exact ⟨by rw [show fCP1 u v = (0 : Int32) from ((if_pos hc17_1).trans rfl)], N0, rfl⟩
  · refine g_ifYes X0 hx hby dc10_17 ((if0 _ _).trans (flt hc17_1).2.1) (pc0 := 17) (pc' := 25) rfl (by decide) (by decide) ?_
    refine g_iinc X0 hx hby dc10_25 rfl (x' := 1) rfl (l' := #[.val (.ref b), .val (.int 0), .val (.int 1), .val (.int 1), .val (.int 1)]) rfl ?_
    refine g_goto X0 hx hby dc10_28 (pc0 := 28) (pc' := 7) rfl (by decide) (by decide) ?_
    refine g_iload X0 hx hby dc10_7 rfl ?_
    refine g_iloadN X0 hx hby dc10_9 rfl ?_
    refine g_icmpYes X0 hx hby dc10_10 (flt (by decide)).2.1 (pc0 := 10) (pc' := 31) rfl (by decide) (by decide) ?_
    refine g_iloadN X0 hx hby dc10_31 rfl ?_
    obtain ⟨fs, hr, hrun, hended, hW, hsame⟩ := X0.leave (v := some (.int 1)) (fun h => by rw [Bd.returns] at h; cases h) (BodyLoose.notSynchronized Bd)
    refine ⟨_, _, ?_, hP _ _ ⟨hrun, hended, _, _, rfl, ?_, ⟨_, rfl⟩, hW, hsame.mono (by decide) (by decide)⟩⟩
    · exact retI X0 hx Bd.returns (hb hby dc10_32) hr
    · show (some (.int 1) : Option Value) = some (.int (fCP1 u v)) ∧ Fr n0 _ ∧ s₁.heap = h0
      rw [e0]
      exact ⟨by rw [show fCP1 u v = (1 : Int32) from ((if_neg hc17_1).trans rfl)], N0, rfl⟩
theorem ef_rmHN1 (mi : MethodId) (b : Addr) (kb : ClassId) (u : Int32) (v : Int32) : entryFrame mi #[(.ref b), (.int 0), (.int 1)] 3 = mkF mi 0 #[.val (.ref b), .val (.int 0), .val (.int 1)] [] := by first | (simp [entryFrame, mkF, argsToLocals, Value.category]; done) | rfl
def fHN1 (u v : Int32) : Int32 := (if (fCP1 u v) = (1 : Int32) then (0 : Int32) else (1 : Int32))
def Q_rmHN1 (Z : State) (b : Addr) (kb : ClassId) (u : Int32) (v : Int32) (h0 : Heap) (n0 : Nat) (vv_ : Option Value) (hh_ : Heap) (LL_ : List Loc) : Prop := vv_ = some (.int (fHN1 u v)) ∧ Fr n0 LL_ ∧ hh_ = h0
set_option maxRecDepth 65536 in
set_option maxHeartbeats 40000000 in
theorem rmHN1 (l : Launch) (Z : State) (a0 : Array Value) (hw : ∀ d ∈ tables_1, d.before a0 Z = true) (ws : List Jvm.Cond) (b : Addr) (kb : ClassId) (u : Int32) (v : Int32) (h0 : Heap) (n0 : Nat) (Z0 : n0 ≤ h0.size) (A0 : Arv Z h0 b kb .byte (1 : Int32) [(.int u)] (.int (0 : Int32))) :
    MetFree l (⟨"java/lang/StringCoding", "hasNegatives", "([BII)Z"⟩ : MethodName) (head1 (Jvm.Cond.code (⟨"java/lang/StringCoding", "hasNegatives", "([BII)Z"⟩ : MethodName) jdk_123_method_2_code 3 (some .boolean) :: ws) ({ frames := 1, cells := 0, slots := 0, locals := 16 } : Room)) (fun aa_ U => aa_ = #[(.ref b), (.int 0), (.int 1)] ∧ Z.Warmed39 U.vm ∧ U.heap = h0) (fun _ _ _ _ _ => True) (fun _ U oo_ UV_ => ∃ vv_ LL_, oo_ = .returned vv_ ∧ Q_rmHN1 Z b kb u v h0 n0 vv_ UV_.heap LL_ ∧ FrameEnd U oo_ UV_ LL_ ({ frames := 1, cells := 0, slots := 0, locals := 16 } : Room).cells ({ frames := 1, cells := 0, slots := 0, locals := 16 } : Room).slots) := by
  refine MetFree.of_bodySF (plainFor_of_name pn_4) hisR ?_
  intro pg ev si mi args below meth ci s₁ Bd hml0 hP0 hK
  obtain ⟨rfl, hZ, hh⟩ := hP0
  have hx := Bd.exec
  have hby := Bd.bytes
  have hml : ci.maxLocals = 3 := hml0
  have hown : si.vm.findClass "java/lang/StringCoding" = some mi.cls := findClass_of_methodNamed Bd.named
  have hnm := (name_of_methodNamed Bd.named Bd.method).1
  have X0 : Stand pg l ev ({ frames := 1, cells := 0, slots := 0, locals := 16 } : Room) si mi #[(.ref b), (.int 0), (.int 1)] below meth ci s₁ [] 0 0 := Stand.of_body Bd
  have e0 : s₁.heap = h0 := by rw [← hh, Bd.state]; rfl
  have N0 := Fr.nil n0
  refine Go.start (fun P hP => ?_)
  refine Go.st (fun t_ k_ => castTop (ef_rmHN1 mi b kb u v) k_) (A := s₁.setTop (mkF mi 0 #[.val (.ref b), .val (.int 0), .val (.int 1)] [])) ?_
  show Go _ _ _ (s₁.setTop (mkF mi 0 #[.val (.ref b), .val (.int 0), .val (.int 1)] [])) _
  refine g_aloadN X0 hx hby dc11_0 rfl rfl ?_
  refine g_iloadN X0 hx hby dc11_1 rfl ?_
  refine g_iloadN X0 hx hby dc11_2 rfl ?_
  obtain ⟨_, _, ⟨T1, L1, k1, n1⟩, -, X1, ⟨Lc1, hQ1, l1, y1, z1⟩, st1⟩ := Jvm.LawKit.callS X0 hx (y := (⟨"java/lang/StringCoding", "countPositives", "([BII)I"⟩ : MethodName)) hown (mvT hZ (hw _ (own_m 79 rfl))) (mvT hZ (hw _ (own_m 80 rfl))) (mvT hZ (hw _ (own_m 77 rfl))) (mvT hZ (hw _ (own_m 81 rfl))) (by decide) (backOf (W := 0) (rmCP1 l Z a0 hw [] b kb u v h0 n0 Z0 A0) hZ (hw _ (own_m 81 rfl)) (hw _ (own_m 77 rfl)) (by decide) (by decide)) (g := (mkF mi 3 #[.val (.ref b), .val (.int 0), .val (.int 1)] [(.int 1), (.int 0), (.ref b)])) rfl (by rw [hml]; rfl) (argsL := [(.ref b), (.int 0), (.int 1)]) (rest := []) (lenOf pd_9 rfl) rfl (by show 2 * 0 + _ ≤ _; exact Nat.le_of_eq rfl) (hb hby dc11_3) (fun _ _ => ⟨rfl, e0, (by decide : 0 + 0 ≤ _), (by decide : 0 + 0 ≤ _)⟩)
  dsimp only [Pt.U, Pt.locs, Pt.cells, Pt.slots] at X1 l1 y1 z1 st1 hQ1
  subst l1 y1 z1
  have X1 := own_cs X1 (cells' := 0) (slots' := 0) rfl rfl
  obtain ⟨rfl, N1q, e1⟩ := hQ1
  have N1 := Fr.app N0 N1q
  refine Go.st st1 ?_
  refine g_iloadN X1 hx hby dc11_6 rfl ?_
  have dm2 : ∀ t_, Steps pg.tables ev below (T1.setTop (mkF mi 15 #[.val (.ref b), .val (.int 0), .val (.int 1)] [(.int (if (fCP1 u v) = (1 : Int32) then (0 : Int32) else (1 : Int32)))])) t_ → Steps pg.tables ev below (T1.setTop (mkF mi 7 #[.val (.ref b), .val (.int 0), .val (.int 1)] [(.int 1), (.int (fCP1 u v))])) t_ := by
    intro t_ k_
    by_cases hd : (fCP1 u v) = (1 : Int32)
    · refine XS.icmpYes X1.here hx rfl (pc0 := 7) (pc' := 14) rfl (hb hby dc11_7) rfl (teq hd).1 (by decide) (by decide) ?_
      refine XS.iconst X1.here hx rfl (hb hby dc11_14) ?_
      show Steps _ _ _ (T1.setTop (mkF mi 15 #[.val (.ref b), .val (.int 0), .val (.int 1)] [(.int 0)])) t_
      exact own_cst (if_pos hd) k_
    · refine XS.icmpNo X1.here hx rfl (hb hby dc11_7) rfl (feq hd).1 ?_
      refine XS.iconst X1.here hx rfl (hb hby dc11_10) ?_
      refine XS.goto X1.here hx rfl (pc0 := 11) (pc' := 15) rfl (hb hby dc11_11) (by decide) (by decide) ?_
      show Steps _ _ _ (T1.setTop (mkF mi 15 #[.val (.ref b), .val (.int 0), .val (.int 1)] [(.int 1)])) t_
      exact own_cst (if_neg hd) k_
  refine Go.st dm2 ?_
  show Go _ _ _ (T1.setTop (mkF mi 15 #[.val (.ref b), .val (.int 0), .val (.int 1)] [(.int (if (fCP1 u v) = (1 : Int32) then (0 : Int32) else (1 : Int32)))])) _
  obtain ⟨fs, hr, hrun, hended, hW, hsame⟩ := X1.leave (v := some (.int (if (fCP1 u v) = (1 : Int32) then (0 : Int32) else (1 : Int32)))) (fun h => by rw [Bd.returns] at h; cases h) (BodyLoose.notSynchronized Bd)
  refine ⟨_, _, ?_, hP _ _ ⟨hrun, hended, _, _, rfl, ?_, ⟨_, rfl⟩, hW, hsame.mono (by decide) (by decide)⟩⟩
  · exact own_retN X1 hx (t := .boolean) Bd.returns (by simp) (own_nb rfl rfl) (hb hby dc11_15) hr
  · show (some (.int (if (fCP1 u v) = (1 : Int32) then (0 : Int32) else (1 : Int32))) : Option Value) = some (.int (fHN1 u v)) ∧ Fr n0 _ ∧ T1.heap = h0
    rw [e1]
    exact ⟨rfl, N1, rfl⟩
theorem ef_rmCP2 (mi : MethodId) (b : Addr) (kb : ClassId) (u : Int32) (v : Int32) : entryFrame mi #[(.ref b), (.int 0), (.int 2)] 5 = mkF mi 0 #[.val (.ref b), .val (.int 0), .val (.int 2), .unset, .unset] [] := by first | (simp [entryFrame, mkF, argsToLocals, Value.category]; done) | rfl
def fCP2 (u v : Int32) : Int32 := (if u < (0 : Int32) then (0 : Int32) else (if v < (0 : Int32) then (1 : Int32) else (2 : Int32)))
def Q_rmCP2 (Z : State) (b : Addr) (kb : ClassId) (u : Int32) (v : Int32) (h0 : Heap) (n0 : Nat) (vv_ : Option Value) (hh_ : Heap) (LL_ : List Loc) : Prop := vv_ = some (.int (fCP2 u v)) ∧ Fr n0 LL_ ∧ hh_ = h0
set_option maxRecDepth 65536 in
set_option maxHeartbeats 40000000 in
theorem rmCP2 (l : Launch) (Z : State) (a0 : Array Value) (hw : ∀ d ∈ tables_1, d.before a0 Z = true) (ws : List Jvm.Cond) (b : Addr) (kb : ClassId) (u : Int32) (v : Int32) (h0 : Heap) (n0 : Nat) (Z0 : n0 ≤ h0.size) (A0 : Arv Z h0 b kb .byte (2 : Int32) [(.int u), (.int v)] (.int (0 : Int32))) :
    MetFree l (⟨"java/lang/StringCoding", "countPositives", "([BII)I"⟩ : MethodName) (head1 (Jvm.Cond.code (⟨"java/lang/StringCoding", "countPositives", "([BII)I"⟩ : MethodName) jdk_123_method_3_code 5 (some .int) :: ws) ({ frames := 0, cells := 0, slots := 0, locals := 0 } : Room)) (fun aa_ U => aa_ = #[(.ref b), (.int 0), (.int 2)] ∧ Z.Warmed39 U.vm ∧ U.heap = h0) (fun _ _ _ _ _ => True) (fun _ U oo_ UV_ => ∃ vv_ LL_, oo_ = .returned vv_ ∧ Q_rmCP2 Z b kb u v h0 n0 vv_ UV_.heap LL_ ∧ FrameEnd U oo_ UV_ LL_ ({ frames := 0, cells := 0, slots := 0, locals := 0 } : Room).cells ({ frames := 0, cells := 0, slots := 0, locals := 0 } : Room).slots) := by
  refine MetFree.of_bodySF (plainFor_of_name pn_4) hisR ?_
  intro pg ev si mi args below meth ci s₁ Bd hml0 hP0 hK
  obtain ⟨rfl, hZ, hh⟩ := hP0
  have hx := Bd.exec
  have hby := Bd.bytes
  have hml : ci.maxLocals = 5 := hml0
  have hown : si.vm.findClass "java/lang/StringCoding" = some mi.cls := findClass_of_methodNamed Bd.named
  have hnm := (name_of_methodNamed Bd.named Bd.method).1
  have X0 : Stand pg l ev ({ frames := 0, cells := 0, slots := 0, locals := 0 } : Room) si mi #[(.ref b), (.int 0), (.int 2)] below meth ci s₁ [] 0 0 := Stand.of_body Bd
  have e0 : s₁.heap = h0 := by rw [← hh, Bd.state]; rfl
  have N0 := Fr.nil n0
  refine Go.start (fun P hP => ?_)
  refine Go.st (fun t_ k_ => castTop (ef_rmCP2 mi b kb u v) k_) (A := s₁.setTop (mkF mi 0 #[.val (.ref b), .val (.int 0), .val (.int 2), .unset, .unset] [])) ?_
  show Go _ _ _ (s₁.setTop (mkF mi 0 #[.val (.ref b), .val (.int 0), .val (.int 2), .unset, .unset] [])) _
  refine g_iloadN X0 hx hby dc10_0 rfl ?_
  refine g_iloadN X0 hx hby dc10_1 rfl ?_
  refine g_iadd X0 hx hby dc10_2 (z := 2) rfl ?_
  refine g_istoreN X0 hx hby dc10_3 (l' := #[.val (.ref b), .val (.int 0), .val (.int 2), .val (.int 2), .unset]) rfl ?_
  refine g_iloadN X0 hx hby dc10_4 rfl ?_
  refine g_istore X0 hx hby dc10_5 (l' := #[.val (.ref b), .val (.int 0), .val (.int 2), .val (.int 2), .val (.int 0)]) rfl ?_
  refine g_iload X0 hx hby dc10_7 rfl ?_
  refine g_iloadN X0 hx hby dc10_9 rfl ?_
  refine g_icmpNo X0 hx hby dc10_10 (tlt (by decide)).2.1 ?_
  refine g_aloadN X0 hx hby dc10_13 rfl rfl ?_
  refine g_iload X0 hx hby dc10_14 rfl ?_
  have ov1 := A0
  obtain ⟨cl1, Ar1, q1, S1, M1, H1, G1⟩ := ov1
  have hin1 : ¬ ((0 : Int32) < 0 ∨ cl1.slots.size ≤ ((0 : Int32)).toNatClampNeg) := inb_of S1 ⟨by decide, by decide⟩
  have hat1 : cl1.slots[((0 : Int32)).toNatClampNeg]? = some (.int u) := Has.at H1 hin1 rfl
  refine Go.st (X0.baloadBytes hx (j := (0 : Int32)) (v := (.int u)) (by rw [e0]; exact Ar1.1) (State.isArrayOf_alike hZ.alike Ar1.2.1) Ar1.2.2 hin1 hat1 (g := (mkF mi 16 #[.val (.ref b), .val (.int 0), .val (.int 2), .val (.int 2), .val (.int 0)] [(.int 0), (.ref b)])) rfl rfl (hb hby dc10_16)) ?_
  by_cases hc17_1 : u < (0 : Int32)
  · refine g_ifNo X0 hx hby dc10_17 ((if0 _ _).trans (tlt hc17_1).2.1) ?_
    refine g_iload X0 hx hby dc10_20 rfl ?_
    refine g_iloadN X0 hx hby dc10_22 rfl ?_
    refine g_isub X0 hx hby dc10_23 (z := 0) rfl ?_
    obtain ⟨fs, hr, hrun, hended, hW, hsame⟩ := X0.leave (v := some (.int 0)) (fun h => by rw [Bd.returns] at h; cases h) (BodyLoose.notSynchronized Bd)
    refine ⟨_, _, ?_, hP _ _ ⟨hrun, hended, _, _, rfl, ?_, ⟨_, rfl⟩, hW, hsame.mono (by decide) (by decide)⟩⟩
    · exact retI X0 hx Bd.returns (hb hby dc10_24) hr
    · show (some (.int 0) : Option Value) = some (.int (fCP2 u v)) ∧ Fr n0 _ ∧ s₁.heap = h0
      rw [e0]
      exact ⟨by rw [show fCP2 u v = (0 : Int32) from ((if_pos hc17_1).trans rfl)], N0, rfl⟩
  · refine g_ifYes X0 hx hby dc10_17 ((if0 _ _).trans (flt hc17_1).2.1) (pc0 := 17) (pc' := 25) rfl (by decide) (by decide) ?_
    refine g_iinc X0 hx hby dc10_25 rfl (x' := 1) rfl (l' := #[.val (.ref b), .val (.int 0), .val (.int 2), .val (.int 2), .val (.int 1)]) rfl ?_
    refine g_goto X0 hx hby dc10_28 (pc0 := 28) (pc' := 7) rfl (by decide) (by decide) ?_
    refine g_iload X0 hx hby dc10_7 rfl ?_
    refine g_iloadN X0 hx hby dc10_9 rfl ?_
    refine g_icmpNo X0 hx hby dc10_10 (tlt (by decide)).2.1 ?_
    refine g_aloadN X0 hx hby dc10_13 rfl rfl ?_
    refine g_iload X0 hx hby dc10_14 rfl ?_
    have ov2 := A0
    obtain ⟨cl2, Ar2, q2, S2, M2, H2, G2⟩ := ov2
    have hin2 : ¬ ((1 : Int32) < 0 ∨ cl2.slots.size ≤ ((1 : Int32)).toNatClampNeg) := inb_of S2 ⟨by decide, by decide⟩
    have hat2 : cl2.slots[((1 : Int32)).toNatClampNeg]? = some (.int v) := Has.at H2 hin2 rfl
    refine Go.st (X0.baloadBytes hx (j := (1 : Int32)) (v := (.int v)) (by rw [e0]; exact Ar2.1) (State.isArrayOf_alike hZ.alike Ar2.2.1) Ar2.2.2 hin2 hat2 (g := (mkF mi 16 #[.val (.ref b), .val (.int 0), .val (.int 2), .val (.int 2), .val (.int 1)] [(.int 1), (.ref b)])) rfl rfl (hb hby dc10_16)) ?_
    by_cases hc17_2 : v < (0 : Int32)
    · refine g_ifNo X0 hx hby dc10_17 ((if0 _ _).trans (tlt hc17_2).2.1) ?_
      refine g_iload X0 hx hby dc10_20 rfl ?_
      refine g_iloadN X0 hx hby dc10_22 rfl ?_
      refine g_isub X0 hx hby dc10_23 (z := 1) rfl ?_
      obtain ⟨fs, hr, hrun, hended, hW, hsame⟩ := X0.leave (v := some (.int 1)) (fun h => by rw [Bd.returns] at h; cases h) (BodyLoose.notSynchronized Bd)
      refine ⟨_, _, ?_, hP _ _ ⟨hrun, hended, _, _, rfl, ?_, ⟨_, rfl⟩, hW, hsame.mono (by decide) (by decide)⟩⟩
      · exact retI X0 hx Bd.returns (hb hby dc10_24) hr
      · show (some (.int 1) : Option Value) = some (.int (fCP2 u v)) ∧ Fr n0 _ ∧ s₁.heap = h0
        rw [e0]
        exact ⟨by rw [show fCP2 u v = (1 : Int32) from ((if_neg hc17_1).trans ((if_pos hc17_2).trans rfl))], N0, rfl⟩
    · refine g_ifYes X0 hx hby dc10_17 ((if0 _ _).trans (flt hc17_2).2.1) (pc0 := 17) (pc' := 25) rfl (by decide) (by decide) ?_
      refine g_iinc X0 hx hby dc10_25 rfl (x' := 2) rfl (l' := #[.val (.ref b), .val (.int 0), .val (.int 2), .val (.int 2), .val (.int 2)]) rfl ?_
      show Go _ _ _ (s₁.setTop (mkF mi 28 #[.val (.ref b), .val (.int 0), .val (.int 2), .val (.int 2), .val (.int 2)] [])) _
      refine g_goto X0 hx hby dc10_28 (pc0 := 28) (pc' := 7) rfl (by decide) (by decide) ?_
      refine g_iload X0 hx hby dc10_7 rfl ?_
      refine g_iloadN X0 hx hby dc10_9 rfl ?_
      refine g_icmpYes X0 hx hby dc10_10 (flt (by decide)).2.1 (pc0 := 10) (pc' := 31) rfl (by decide) (by decide) ?_
      refine g_iloadN X0 hx hby dc10_31 rfl ?_
      obtain ⟨fs, hr, hrun, hended, hW, hsame⟩ := X0.leave (v := some (.int 2)) (fun h => by rw [Bd.returns] at h; cases h) (BodyLoose.notSynchronized Bd)
      refine ⟨_, _, ?_, hP _ _ ⟨hrun, hended, _, _, rfl, ?_, ⟨_, rfl⟩, hW, hsame.mono (by decide) (by decide)⟩⟩
      · exact retI X0 hx Bd.returns (hb hby dc10_32) hr
      · show (some (.int 2) : Option Value) = some (.int (fCP2 u v)) ∧ Fr n0 _ ∧ s₁.heap = h0
        rw [e0]
        exact ⟨by rw [show fCP2 u v = (2 : Int32) from ((if_neg hc17_1).trans ((if_neg hc17_2).trans rfl))], N0, rfl⟩
theorem ef_rmHN2 (mi : MethodId) (b : Addr) (kb : ClassId) (u : Int32) (v : Int32) : entryFrame mi #[(.ref b), (.int 0), (.int 2)] 3 = mkF mi 0 #[.val (.ref b), .val (.int 0), .val (.int 2)] [] := by first | (simp [entryFrame, mkF, argsToLocals, Value.category]; done) | rfl
def fHN2 (u v : Int32) : Int32 := (if (fCP2 u v) = (2 : Int32) then (0 : Int32) else (1 : Int32))
def Q_rmHN2 (Z : State) (b : Addr) (kb : ClassId) (u : Int32) (v : Int32) (h0 : Heap) (n0 : Nat) (vv_ : Option Value) (hh_ : Heap) (LL_ : List Loc) : Prop := vv_ = some (.int (fHN2 u v)) ∧ Fr n0 LL_ ∧ hh_ = h0
set_option maxRecDepth 65536 in
set_option maxHeartbeats 40000000 in
theorem rmHN2 (l : Launch) (Z : State) (a0 : Array Value) (hw : ∀ d ∈ tables_1, d.before a0 Z = true) (ws : List Jvm.Cond) (b : Addr) (kb : ClassId) (u : Int32) (v : Int32) (h0 : Heap) (n0 : Nat) (Z0 : n0 ≤ h0.size) (A0 : Arv Z h0 b kb .byte (2 : Int32) [(.int u), (.int v)] (.int (0 : Int32))) :
    MetFree l (⟨"java/lang/StringCoding", "hasNegatives", "([BII)Z"⟩ : MethodName) (head1 (Jvm.Cond.code (⟨"java/lang/StringCoding", "hasNegatives", "([BII)Z"⟩ : MethodName) jdk_123_method_2_code 3 (some .boolean) :: ws) ({ frames := 1, cells := 0, slots := 0, locals := 16 } : Room)) (fun aa_ U => aa_ = #[(.ref b), (.int 0), (.int 2)] ∧ Z.Warmed39 U.vm ∧ U.heap = h0) (fun _ _ _ _ _ => True) (fun _ U oo_ UV_ => ∃ vv_ LL_, oo_ = .returned vv_ ∧ Q_rmHN2 Z b kb u v h0 n0 vv_ UV_.heap LL_ ∧ FrameEnd U oo_ UV_ LL_ ({ frames := 1, cells := 0, slots := 0, locals := 16 } : Room).cells ({ frames := 1, cells := 0, slots := 0, locals := 16 } : Room).slots) := by
  refine MetFree.of_bodySF (plainFor_of_name pn_4) hisR ?_
  intro pg ev si mi args below meth ci s₁ Bd hml0 hP0 hK
  obtain ⟨rfl, hZ, hh⟩ := hP0
  have hx := Bd.exec
  have hby := Bd.bytes
  have hml : ci.maxLocals = 3 := hml0
  have hown : si.vm.findClass "java/lang/StringCoding" = some mi.cls := findClass_of_methodNamed Bd.named
  have hnm := (name_of_methodNamed Bd.named Bd.method).1
  have X0 : Stand pg l ev ({ frames := 1, cells := 0, slots := 0, locals := 16 } : Room) si mi #[(.ref b), (.int 0), (.int 2)] below meth ci s₁ [] 0 0 := Stand.of_body Bd
  have e0 : s₁.heap = h0 := by rw [← hh, Bd.state]; rfl
  have N0 := Fr.nil n0
  refine Go.start (fun P hP => ?_)
  refine Go.st (fun t_ k_ => castTop (ef_rmHN2 mi b kb u v) k_) (A := s₁.setTop (mkF mi 0 #[.val (.ref b), .val (.int 0), .val (.int 2)] [])) ?_
  show Go _ _ _ (s₁.setTop (mkF mi 0 #[.val (.ref b), .val (.int 0), .val (.int 2)] [])) _
  refine g_aloadN X0 hx hby dc11_0 rfl rfl ?_
  refine g_iloadN X0 hx hby dc11_1 rfl ?_
  refine g_iloadN X0 hx hby dc11_2 rfl ?_
  obtain ⟨_, _, ⟨T1, L1, k1, n1⟩, -, X1, ⟨Lc1, hQ1, l1, y1, z1⟩, st1⟩ := Jvm.LawKit.callS X0 hx (y := (⟨"java/lang/StringCoding", "countPositives", "([BII)I"⟩ : MethodName)) hown (mvT hZ (hw _ (own_m 79 rfl))) (mvT hZ (hw _ (own_m 80 rfl))) (mvT hZ (hw _ (own_m 77 rfl))) (mvT hZ (hw _ (own_m 81 rfl))) (by decide) (backOf (W := 0) (rmCP2 l Z a0 hw [] b kb u v h0 n0 Z0 A0) hZ (hw _ (own_m 81 rfl)) (hw _ (own_m 77 rfl)) (by decide) (by decide)) (g := (mkF mi 3 #[.val (.ref b), .val (.int 0), .val (.int 2)] [(.int 2), (.int 0), (.ref b)])) rfl (by rw [hml]; rfl) (argsL := [(.ref b), (.int 0), (.int 2)]) (rest := []) (lenOf pd_9 rfl) rfl (by show 2 * 0 + _ ≤ _; exact Nat.le_of_eq rfl) (hb hby dc11_3) (fun _ _ => ⟨rfl, e0, (by decide : 0 + 0 ≤ _), (by decide : 0 + 0 ≤ _)⟩)
  dsimp only [Pt.U, Pt.locs, Pt.cells, Pt.slots] at X1 l1 y1 z1 st1 hQ1
  subst l1 y1 z1
  have X1 := own_cs X1 (cells' := 0) (slots' := 0) rfl rfl
  obtain ⟨rfl, N1q, e1⟩ := hQ1
  have N1 := Fr.app N0 N1q
  refine Go.st st1 ?_
  refine g_iloadN X1 hx hby dc11_6 rfl ?_
  have dm2 : ∀ t_, Steps pg.tables ev below (T1.setTop (mkF mi 15 #[.val (.ref b), .val (.int 0), .val (.int 2)] [(.int (if (fCP2 u v) = (2 : Int32) then (0 : Int32) else (1 : Int32)))])) t_ → Steps pg.tables ev below (T1.setTop (mkF mi 7 #[.val (.ref b), .val (.int 0), .val (.int 2)] [(.int 2), (.int (fCP2 u v))])) t_ := by
    intro t_ k_
    by_cases hd : (fCP2 u v) = (2 : Int32)
    · refine XS.icmpYes X1.here hx rfl (pc0 := 7) (pc' := 14) rfl (hb hby dc11_7) rfl (teq hd).1 (by decide) (by decide) ?_
      refine XS.iconst X1.here hx rfl (hb hby dc11_14) ?_
      show Steps _ _ _ (T1.setTop (mkF mi 15 #[.val (.ref b), .val (.int 0), .val (.int 2)] [(.int 0)])) t_
      exact own_cst (if_pos hd) k_
    · refine XS.icmpNo X1.here hx rfl (hb hby dc11_7) rfl (feq hd).1 ?_
      refine XS.iconst X1.here hx rfl (hb hby dc11_10) ?_
      refine XS.goto X1.here hx rfl (pc0 := 11) (pc' := 15) rfl (hb hby dc11_11) (by decide) (by decide) ?_
      show Steps _ _ _ (T1.setTop (mkF mi 15 #[.val (.ref b), .val (.int 0), .val (.int 2)] [(.int 1)])) t_
      exact own_cst (if_neg hd) k_
  refine Go.st dm2 ?_
  show Go _ _ _ (T1.setTop (mkF mi 15 #[.val (.ref b), .val (.int 0), .val (.int 2)] [(.int (if (fCP2 u v) = (2 : Int32) then (0 : Int32) else (1 : Int32)))])) _
  obtain ⟨fs, hr, hrun, hended, hW, hsame⟩ := X1.leave (v := some (.int (if (fCP2 u v) = (2 : Int32) then (0 : Int32) else (1 : Int32)))) (fun h => by rw [Bd.returns] at h; cases h) (BodyLoose.notSynchronized Bd)
  refine ⟨_, _, ?_, hP _ _ ⟨hrun, hended, _, _, rfl, ?_, ⟨_, rfl⟩, hW, hsame.mono (by decide) (by decide)⟩⟩
  · exact own_retN X1 hx (t := .boolean) Bd.returns (by simp) (own_nb rfl rfl) (hb hby dc11_15) hr
  · show (some (.int (if (fCP2 u v) = (2 : Int32) then (0 : Int32) else (1 : Int32))) : Option Value) = some (.int (fHN2 u v)) ∧ Fr n0 _ ∧ T1.heap = h0
    rw [e1]
    exact ⟨rfl, N1, rfl⟩
theorem dc12_0 : decode jdk_52_method_3_code 0 = .ok (.iload_n 0, 1) := by decide +kernel
theorem dc12_1 : decode jdk_52_method_3_code 1 = .ok (.ifCond .ge 11, 3) := by decide +kernel
theorem dc12_12 : decode jdk_52_method_3_code 12 = .ok (.iload_n 0, 1) := by decide +kernel
theorem dc12_13 : decode jdk_52_method_3_code 13 = .ok (.ldc 20, 2) := by decide +kernel
theorem dc12_15 : decode jdk_52_method_3_code 15 = .ok (.if_icmp .lt 40, 3) := by decide +kernel
theorem dc12_55 : decode jdk_52_method_3_code 55 = .ok (.iload_n 0, 1) := by decide +kernel
theorem dc12_56 : decode jdk_52_method_3_code 56 = .ok (.iconst 1, 1) := by decide +kernel
theorem dc12_57 : decode jdk_52_method_3_code 57 = .ok (.ishl, 1) := by decide +kernel
theorem dc12_58 : decode jdk_52_method_3_code 58 = .ok (.ireturn, 1) := by decide +kernel
theorem ef_rmNL1 (mi : MethodId)  : entryFrame mi #[(.int 1)] 1 = mkF mi 0 #[.val (.int 1)] [] := by first | (simp [entryFrame, mkF, argsToLocals, Value.category]; done) | rfl
def Q_rmNL1 (Z : State)  (h0 : Heap) (n0 : Nat) (vv_ : Option Value) (hh_ : Heap) (LL_ : List Loc) : Prop := vv_ = some (.int (2 : Int32)) ∧ Fr n0 LL_ ∧ hh_ = h0
set_option maxRecDepth 65536 in
set_option maxHeartbeats 40000000 in
theorem rmNL1 (l : Launch) (Z : State) (a0 : Array Value) (hw : ∀ d ∈ tables_1, d.before a0 Z = true) (ws : List Jvm.Cond)  (h0 : Heap) (n0 : Nat) (Z0 : n0 ≤ h0.size) :
    MetFree l (⟨"java/lang/StringUTF16", "newBytesLength", "(I)I"⟩ : MethodName) (head1 (Jvm.Cond.code (⟨"java/lang/StringUTF16", "newBytesLength", "(I)I"⟩ : MethodName) jdk_52_method_3_code 1 (some .int) :: ws) ({ frames := 0, cells := 0, slots := 0, locals := 0 } : Room)) (fun aa_ U => aa_ = #[(.int 1)] ∧ Z.Warmed39 U.vm ∧ U.heap = h0) (fun _ _ _ _ _ => True) (fun _ U oo_ UV_ => ∃ vv_ LL_, oo_ = .returned vv_ ∧ Q_rmNL1 Z h0 n0 vv_ UV_.heap LL_ ∧ FrameEnd U oo_ UV_ LL_ ({ frames := 0, cells := 0, slots := 0, locals := 0 } : Room).cells ({ frames := 0, cells := 0, slots := 0, locals := 0 } : Room).slots) := by
  refine MetFree.of_bodySF (plainFor_of_name pn_2) hisR ?_
  intro pg ev si mi args below meth ci s₁ Bd hml0 hP0 hK
  obtain ⟨rfl, hZ, hh⟩ := hP0
  have hx := Bd.exec
  have hby := Bd.bytes
  have hml : ci.maxLocals = 1 := hml0
  have hown : si.vm.findClass "java/lang/StringUTF16" = some mi.cls := findClass_of_methodNamed Bd.named
  have hnm := (name_of_methodNamed Bd.named Bd.method).1
  have X0 : Stand pg l ev ({ frames := 0, cells := 0, slots := 0, locals := 0 } : Room) si mi #[(.int 1)] below meth ci s₁ [] 0 0 := Stand.of_body Bd
  have e0 : s₁.heap = h0 := by rw [← hh, Bd.state]; rfl
  have N0 := Fr.nil n0
  refine Go.start (fun P hP => ?_)
  refine Go.st (fun t_ k_ => castTop (ef_rmNL1 mi ) k_) (A := s₁.setTop (mkF mi 0 #[.val (.int 1)] [])) ?_
  show Go _ _ _ (s₁.setTop (mkF mi 0 #[.val (.int 1)] [])) _
  refine g_iloadN X0 hx hby dc12_0 rfl ?_
  refine g_ifYes X0 hx hby dc12_1 ((if0 _ _).trans (flt (by decide)).2.1) (pc0 := 1) (pc' := 12) rfl (by decide) (by decide) ?_
  refine g_iloadN X0 hx hby dc12_12 rfl ?_
  refine Go.st (X0.ldcInt hx hown (mvT hZ (hw _ (own_m 133 rfl))) (g := (mkF mi 13 #[.val (.int 1)] [(.int 1)])) rfl (hb hby dc12_13)) ?_
  refine g_icmpYes X0 hx hby dc12_15 (tlt (by decide)).1 (pc0 := 15) (pc' := 55) rfl (by decide) (by decide) ?_
  refine g_iloadN X0 hx hby dc12_55 rfl ?_
  refine g_iconst X0 hx hby dc12_56 (v := 1) rfl ?_
  refine Go.s (XS.ishl X0.here hx rfl (hb hby dc12_57) rfl) ?_
  obtain ⟨fs, hr, hrun, hended, hW, hsame⟩ := X0.leave (v := some (.int 2)) (fun h => by rw [Bd.returns] at h; cases h) (BodyLoose.notSynchronized Bd)
  refine ⟨_, _, ?_, hP _ _ ⟨hrun, hended, _, _, rfl, ?_, ⟨_, rfl⟩, hW, hsame.mono (by decide) (by decide)⟩⟩
  · exact retI X0 hx Bd.returns (hb hby dc12_58) hr
  · show (some (.int 2) : Option Value) = some (.int (2 : Int32)) ∧ Fr n0 _ ∧ s₁.heap = h0
    rw [e0]
    exact ⟨rfl, N0, rfl⟩
theorem dc13_0 : decode jdk_52_method_2_code 0 = .ok (.iload_n 0, 1) := by decide +kernel
theorem dc13_1 : decode jdk_52_method_2_code 1 = .ok (.invokestatic 11, 3) := by decide +kernel
theorem pd_10 : parseMethodDescriptor "(I)I" = some ⟨[.int], some .int⟩ := by decide +kernel
theorem dc13_4 : decode jdk_52_method_2_code 4 = .ok (.newarray .byte, 2) := by decide +kernel
theorem dc13_6 : decode jdk_52_method_2_code 6 = .ok (.areturn, 1) := by decide +kernel
theorem ef_rmNF1 (mi : MethodId)  : entryFrame mi #[(.int 1)] 1 = mkF mi 0 #[.val (.int 1)] [] := by first | (simp [entryFrame, mkF, argsToLocals, Value.category]; done) | rfl
def Q_rmNF1 (Z : State)  (h0 : Heap) (n0 : Nat) (vv_ : Option Value) (hh_ : Heap) (LL_ : List Loc) : Prop := ∃ (r : Addr) (kr : ClassId), vv_ = some (.ref r) ∧ Fr n0 LL_ ∧ Keep h0 hh_ [] ∧ h0.size ≤ r ∧ n0 ≤ r ∧ Arv Z hh_ r kr .byte (2 : Int32) [(.int (0 : Int32)), (.int (0 : Int32))] (.int (0 : Int32)) ∧ Exa Z hh_ r "[B"
set_option maxRecDepth 65536 in
set_option maxHeartbeats 40000000 in
theorem rmNF1 (l : Launch) (Z : State) (a0 : Array Value) (hw : ∀ d ∈ tables_1, d.before a0 Z = true) (ws : List Jvm.Cond)  (h0 : Heap) (n0 : Nat) (Z0 : n0 ≤ h0.size) :
    MetFree l (⟨"java/lang/StringUTF16", "newBytesFor", "(I)[B"⟩ : MethodName) (head1 (Jvm.Cond.code (⟨"java/lang/StringUTF16", "newBytesFor", "(I)[B"⟩ : MethodName) jdk_52_method_2_code 1 (some (.array .byte)) :: ws) ({ frames := 1, cells := 1, slots := 2, locals := 12 } : Room)) (fun aa_ U => aa_ = #[(.int 1)] ∧ Z.Warmed39 U.vm ∧ U.heap = h0) (fun _ _ _ _ _ => True) (fun _ U oo_ UV_ => ∃ vv_ LL_, oo_ = .returned vv_ ∧ Q_rmNF1 Z h0 n0 vv_ UV_.heap LL_ ∧ FrameEnd U oo_ UV_ LL_ ({ frames := 1, cells := 1, slots := 2, locals := 12 } : Room).cells ({ frames := 1, cells := 1, slots := 2, locals := 12 } : Room).slots) := by
  refine MetFree.of_bodySF (plainFor_of_name pn_2) hisR ?_
  intro pg ev si mi args below meth ci s₁ Bd hml0 hP0 hK
  obtain ⟨rfl, hZ, hh⟩ := hP0
  have hx := Bd.exec
  have hby := Bd.bytes
  have hml : ci.maxLocals = 1 := hml0
  have hown : si.vm.findClass "java/lang/StringUTF16" = some mi.cls := findClass_of_methodNamed Bd.named
  have hnm := (name_of_methodNamed Bd.named Bd.method).1
  have X0 : Stand pg l ev ({ frames := 1, cells := 1, slots := 2, locals := 12 } : Room) si mi #[(.int 1)] below meth ci s₁ [] 0 0 := Stand.of_body Bd
  have e0 : s₁.heap = h0 := by rw [← hh, Bd.state]; rfl
  have N0 := Fr.nil n0
  refine Go.start (fun P hP => ?_)
  refine Go.st (fun t_ k_ => castTop (ef_rmNF1 mi ) k_) (A := s₁.setTop (mkF mi 0 #[.val (.int 1)] [])) ?_
  show Go _ _ _ (s₁.setTop (mkF mi 0 #[.val (.int 1)] [])) _
  refine g_iloadN X0 hx hby dc13_0 rfl ?_
  obtain ⟨_, _, ⟨T1, L1, k1, n1⟩, -, X1, ⟨Lc1, hQ1, l1, y1, z1⟩, st1⟩ := Jvm.LawKit.callS X0 hx (y := (⟨"java/lang/StringUTF16", "newBytesLength", "(I)I"⟩ : MethodName)) hown (mvT hZ (hw _ (own_m 130 rfl))) (mvT hZ (hw _ (own_m 131 rfl))) (mvT hZ (hw _ (own_m 105 rfl))) (mvT hZ (hw _ (own_m 132 rfl))) (by decide) (backOf (W := 0) (rmNL1 l Z a0 hw [] h0 n0 Z0) hZ (hw _ (own_m 132 rfl)) (hw _ (own_m 105 rfl)) (by decide) (by decide)) (g := (mkF mi 1 #[.val (.int 1)] [(.int 1)])) rfl (by rw [hml]; rfl) (argsL := [(.int 1)]) (rest := []) (lenOf pd_10 rfl) rfl (by show 2 * 0 + _ ≤ _; exact Nat.le_of_eq rfl) (hb hby dc13_1) (fun _ _ => ⟨rfl, e0, (by decide : 0 + 0 ≤ _), (by decide : 0 + 0 ≤ _)⟩)
  dsimp only [Pt.U, Pt.locs, Pt.cells, Pt.slots] at X1 l1 y1 z1 st1 hQ1
  subst l1 y1 z1
  have X1 := own_cs X1 (cells' := 0) (slots' := 0) rfl rfl
  obtain ⟨rfl, N1q, e1⟩ := hQ1
  have N1 := Fr.app N0 N1q
  refine Go.st st1 ?_
  obtain ⟨T2, h2, k2, X2, e2, E2, A2, EX2, st2⟩ := newPE X1 hx hZ (hw _ (own_m 8 rfl)) e1 (g := (mkF mi 4 #[.val (.int 1)] [(.int 2)])) rfl (hb hby dc13_4) rfl (by decide) (cap := 2) (by decide) (by decide) (by decide) (by decide) (ad := "[B") (by decide)
  obtain ⟨ob2, g2⟩ : ∃ z, z = h0.size := ⟨_, rfl⟩
  rw [← g2] at A2 EX2 st2
  have Zs3 : n0 ≤ h2.size := Nat.le_trans Z0 E2.1
  have KC3 : Keep h0 h2 [] := (Keep.refl h0 []).ext E2
  have g_ob2 : n0 ≤ ob2 := Nat.le_trans Z0 (Nat.le_of_eq g2.symm)
  have sz_ob2 : h0.size ≤ ob2 := Nat.le_trans (Keep.refl h0 []).1 (Nat.le_of_eq g2.symm)
  have V2 : Arv Z h2 ob2 k2 .byte (2 : Int32) [(.int (0 : Int32)), (.int (0 : Int32))] (.int (0 : Int32)) := (Arv.new A2 (by decide)).pad (pad_rep [] (.int (0 : Int32)) 2)
  refine Go.st st2 ?_
  obtain ⟨fs, hr, hrun, hended, hW, hsame⟩ := X2.leave (v := some (.ref ob2)) (fun h => by rw [Bd.returns] at h; cases h) (BodyLoose.notSynchronized Bd)
  refine ⟨_, _, ?_, hP _ _ ⟨hrun, hended, _, _, rfl, ?_, ⟨_, rfl⟩, hW, hsame.mono (by decide) (by decide)⟩⟩
  · exact retOut X2 hx Bd.returns rfl (Or.inr (Or.inr (Or.inr (Or.inr ⟨rfl, rfl, rfl⟩)))) (hb hby dc13_6) hr
  · show ∃ (r : Addr) (kr : ClassId), (some (.ref ob2) : Option Value) = some (.ref r) ∧ Fr n0 _ ∧ Keep h0 T2.heap [] ∧ h0.size ≤ r ∧ n0 ≤ r ∧ Arv Z T2.heap r kr .byte (2 : Int32) [(.int (0 : Int32)), (.int (0 : Int32))] (.int (0 : Int32)) ∧ Exa Z T2.heap r "[B"
    rw [e2]
    exact ⟨ob2, k2, rfl, N1, KC3, sz_ob2, g_ob2, V2, EX2⟩
theorem ef_rmNL2 (mi : MethodId)  : entryFrame mi #[(.int 2)] 1 = mkF mi 0 #[.val (.int 2)] [] := by first | (simp [entryFrame, mkF, argsToLocals, Value.category]; done) | rfl
def Q_rmNL2 (Z : State)  (h0 : Heap) (n0 : Nat) (vv_ : Option Value) (hh_ : Heap) (LL_ : List Loc) : Prop := vv_ = some (.int (4 : Int32)) ∧ Fr n0 LL_ ∧ hh_ = h0
set_option maxRecDepth 65536 in
set_option maxHeartbeats 40000000 in
theorem rmNL2 (l : Launch) (Z : State) (a0 : Array Value) (hw : ∀ d ∈ tables_1, d.before a0 Z = true) (ws : List Jvm.Cond)  (h0 : Heap) (n0 : Nat) (Z0 : n0 ≤ h0.size) :
    MetFree l (⟨"java/lang/StringUTF16", "newBytesLength", "(I)I"⟩ : MethodName) (head1 (Jvm.Cond.code (⟨"java/lang/StringUTF16", "newBytesLength", "(I)I"⟩ : MethodName) jdk_52_method_3_code 1 (some .int) :: ws) ({ frames := 0, cells := 0, slots := 0, locals := 0 } : Room)) (fun aa_ U => aa_ = #[(.int 2)] ∧ Z.Warmed39 U.vm ∧ U.heap = h0) (fun _ _ _ _ _ => True) (fun _ U oo_ UV_ => ∃ vv_ LL_, oo_ = .returned vv_ ∧ Q_rmNL2 Z h0 n0 vv_ UV_.heap LL_ ∧ FrameEnd U oo_ UV_ LL_ ({ frames := 0, cells := 0, slots := 0, locals := 0 } : Room).cells ({ frames := 0, cells := 0, slots := 0, locals := 0 } : Room).slots) := by
  refine MetFree.of_bodySF (plainFor_of_name pn_2) hisR ?_
  intro pg ev si mi args below meth ci s₁ Bd hml0 hP0 hK
  obtain ⟨rfl, hZ, hh⟩ := hP0
  have hx := Bd.exec
  have hby := Bd.bytes
  have hml : ci.maxLocals = 1 := hml0
  have hown : si.vm.findClass "java/lang/StringUTF16" = some mi.cls := findClass_of_methodNamed Bd.named
  have hnm := (name_of_methodNamed Bd.named Bd.method).1
  have X0 : Stand pg l ev ({ frames := 0, cells := 0, slots := 0, locals := 0 } : Room) si mi #[(.int 2)] below meth ci s₁ [] 0 0 := Stand.of_body Bd
  have e0 : s₁.heap = h0 := by rw [← hh, Bd.state]; rfl
  have N0 := Fr.nil n0
  refine Go.start (fun P hP => ?_)
  refine Go.st (fun t_ k_ => castTop (ef_rmNL2 mi ) k_) (A := s₁.setTop (mkF mi 0 #[.val (.int 2)] [])) ?_
  show Go _ _ _ (s₁.setTop (mkF mi 0 #[.val (.int 2)] [])) _
  refine g_iloadN X0 hx hby dc12_0 rfl ?_
  refine g_ifYes X0 hx hby dc12_1 ((if0 _ _).trans (flt (by decide)).2.1) (pc0 := 1) (pc' := 12) rfl (by decide) (by decide) ?_
  refine g_iloadN X0 hx hby dc12_12 rfl ?_
  refine Go.st (X0.ldcInt hx hown (mvT hZ (hw _ (own_m 133 rfl))) (g := (mkF mi 13 #[.val (.int 2)] [(.int 2)])) rfl (hb hby dc12_13)) ?_
  refine g_icmpYes X0 hx hby dc12_15 (tlt (by decide)).1 (pc0 := 15) (pc' := 55) rfl (by decide) (by decide) ?_
  refine g_iloadN X0 hx hby dc12_55 rfl ?_
  refine g_iconst X0 hx hby dc12_56 (v := 1) rfl ?_
  refine Go.s (XS.ishl X0.here hx rfl (hb hby dc12_57) rfl) ?_
  obtain ⟨fs, hr, hrun, hended, hW, hsame⟩ := X0.leave (v := some (.int 4)) (fun h => by rw [Bd.returns] at h; cases h) (BodyLoose.notSynchronized Bd)
  refine ⟨_, _, ?_, hP _ _ ⟨hrun, hended, _, _, rfl, ?_, ⟨_, rfl⟩, hW, hsame.mono (by decide) (by decide)⟩⟩
  · exact retI X0 hx Bd.returns (hb hby dc12_58) hr
  · show (some (.int 4) : Option Value) = some (.int (4 : Int32)) ∧ Fr n0 _ ∧ s₁.heap = h0
    rw [e0]
    exact ⟨rfl, N0, rfl⟩
theorem ef_rmNF2 (mi : MethodId)  : entryFrame mi #[(.int 2)] 1 = mkF mi 0 #[.val (.int 2)] [] := by first | (simp [entryFrame, mkF, argsToLocals, Value.category]; done) | rfl
def Q_rmNF2 (Z : State)  (h0 : Heap) (n0 : Nat) (vv_ : Option Value) (hh_ : Heap) (LL_ : List Loc) : Prop := ∃ (r : Addr) (kr : ClassId), vv_ = some (.ref r) ∧ Fr n0 LL_ ∧ Keep h0 hh_ [] ∧ h0.size ≤ r ∧ n0 ≤ r ∧ Arv Z hh_ r kr .byte (4 : Int32) [(.int (0 : Int32)), (.int (0 : Int32)), (.int (0 : Int32)), (.int (0 : Int32))] (.int (0 : Int32)) ∧ Exa Z hh_ r "[B"
set_option maxRecDepth 65536 in
set_option maxHeartbeats 40000000 in
theorem rmNF2 (l : Launch) (Z : State) (a0 : Array Value) (hw : ∀ d ∈ tables_1, d.before a0 Z = true) (ws : List Jvm.Cond)  (h0 : Heap) (n0 : Nat) (Z0 : n0 ≤ h0.size) :
    MetFree l (⟨"java/lang/StringUTF16", "newBytesFor", "(I)[B"⟩ : MethodName) (head1 (Jvm.Cond.code (⟨"java/lang/StringUTF16", "newBytesFor", "(I)[B"⟩ : MethodName) jdk_52_method_2_code 1 (some (.array .byte)) :: ws) ({ frames := 1, cells := 1, slots := 4, locals := 12 } : Room)) (fun aa_ U => aa_ = #[(.int 2)] ∧ Z.Warmed39 U.vm ∧ U.heap = h0) (fun _ _ _ _ _ => True) (fun _ U oo_ UV_ => ∃ vv_ LL_, oo_ = .returned vv_ ∧ Q_rmNF2 Z h0 n0 vv_ UV_.heap LL_ ∧ FrameEnd U oo_ UV_ LL_ ({ frames := 1, cells := 1, slots := 4, locals := 12 } : Room).cells ({ frames := 1, cells := 1, slots := 4, locals := 12 } : Room).slots) := by
  refine MetFree.of_bodySF (plainFor_of_name pn_2) hisR ?_
  intro pg ev si mi args below meth ci s₁ Bd hml0 hP0 hK
  obtain ⟨rfl, hZ, hh⟩ := hP0
  have hx := Bd.exec
  have hby := Bd.bytes
  have hml : ci.maxLocals = 1 := hml0
  have hown : si.vm.findClass "java/lang/StringUTF16" = some mi.cls := findClass_of_methodNamed Bd.named
  have hnm := (name_of_methodNamed Bd.named Bd.method).1
  have X0 : Stand pg l ev ({ frames := 1, cells := 1, slots := 4, locals := 12 } : Room) si mi #[(.int 2)] below meth ci s₁ [] 0 0 := Stand.of_body Bd
  have e0 : s₁.heap = h0 := by rw [← hh, Bd.state]; rfl
  have N0 := Fr.nil n0
  refine Go.start (fun P hP => ?_)
  refine Go.st (fun t_ k_ => castTop (ef_rmNF2 mi ) k_) (A := s₁.setTop (mkF mi 0 #[.val (.int 2)] [])) ?_
  show Go _ _ _ (s₁.setTop (mkF mi 0 #[.val (.int 2)] [])) _
  refine g_iloadN X0 hx hby dc13_0 rfl ?_
  obtain ⟨_, _, ⟨T1, L1, k1, n1⟩, -, X1, ⟨Lc1, hQ1, l1, y1, z1⟩, st1⟩ := Jvm.LawKit.callS X0 hx (y := (⟨"java/lang/StringUTF16", "newBytesLength", "(I)I"⟩ : MethodName)) hown (mvT hZ (hw _ (own_m 130 rfl))) (mvT hZ (hw _ (own_m 131 rfl))) (mvT hZ (hw _ (own_m 105 rfl))) (mvT hZ (hw _ (own_m 132 rfl))) (by decide) (backOf (W := 0) (rmNL2 l Z a0 hw [] h0 n0 Z0) hZ (hw _ (own_m 132 rfl)) (hw _ (own_m 105 rfl)) (by decide) (by decide)) (g := (mkF mi 1 #[.val (.int 2)] [(.int 2)])) rfl (by rw [hml]; rfl) (argsL := [(.int 2)]) (rest := []) (lenOf pd_10 rfl) rfl (by show 2 * 0 + _ ≤ _; exact Nat.le_of_eq rfl) (hb hby dc13_1) (fun _ _ => ⟨rfl, e0, (by decide : 0 + 0 ≤ _), (by decide : 0 + 0 ≤ _)⟩)
  dsimp only [Pt.U, Pt.locs, Pt.cells, Pt.slots] at X1 l1 y1 z1 st1 hQ1
  subst l1 y1 z1
  have X1 := own_cs X1 (cells' := 0) (slots' := 0) rfl rfl
  obtain ⟨rfl, N1q, e1⟩ := hQ1
  have N1 := Fr.app N0 N1q
  refine Go.st st1 ?_
  obtain ⟨T2, h2, k2, X2, e2, E2, A2, EX2, st2⟩ := newPE X1 hx hZ (hw _ (own_m 8 rfl)) e1 (g := (mkF mi 4 #[.val (.int 2)] [(.int 4)])) rfl (hb hby dc13_4) rfl (by decide) (cap := 4) (by decide) (by decide) (by decide) (by decide) (ad := "[B") (by decide)
  obtain ⟨ob2, g2⟩ : ∃ z, z = h0.size := ⟨_, rfl⟩
  rw [← g2] at A2 EX2 st2
  have Zs3 : n0 ≤ h2.size := Nat.le_trans Z0 E2.1
  have KC3 : Keep h0 h2 [] := (Keep.refl h0 []).ext E2
  have g_ob2 : n0 ≤ ob2 := Nat.le_trans Z0 (Nat.le_of_eq g2.symm)
  have sz_ob2 : h0.size ≤ ob2 := Nat.le_trans (Keep.refl h0 []).1 (Nat.le_of_eq g2.symm)
  have V2 : Arv Z h2 ob2 k2 .byte (4 : Int32) [(.int (0 : Int32)), (.int (0 : Int32)), (.int (0 : Int32)), (.int (0 : Int32))] (.int (0 : Int32)) := (Arv.new A2 (by decide)).pad (pad_rep [] (.int (0 : Int32)) 4)
  refine Go.st st2 ?_
  obtain ⟨fs, hr, hrun, hended, hW, hsame⟩ := X2.leave (v := some (.ref ob2)) (fun h => by rw [Bd.returns] at h; cases h) (BodyLoose.notSynchronized Bd)
  refine ⟨_, _, ?_, hP _ _ ⟨hrun, hended, _, _, rfl, ?_, ⟨_, rfl⟩, hW, hsame.mono (by decide) (by decide)⟩⟩
  · exact retOut X2 hx Bd.returns rfl (Or.inr (Or.inr (Or.inr (Or.inr ⟨rfl, rfl, rfl⟩)))) (hb hby dc13_6) hr
  · show ∃ (r : Addr) (kr : ClassId), (some (.ref ob2) : Option Value) = some (.ref r) ∧ Fr n0 _ ∧ Keep h0 T2.heap [] ∧ h0.size ≤ r ∧ n0 ≤ r ∧ Arv Z T2.heap r kr .byte (4 : Int32) [(.int (0 : Int32)), (.int (0 : Int32)), (.int (0 : Int32)), (.int (0 : Int32))] (.int (0 : Int32)) ∧ Exa Z T2.heap r "[B"
    rw [e2]
    exact ⟨ob2, k2, rfl, N1, KC3, sz_ob2, g_ob2, V2, EX2⟩
theorem dc14_0 : decode jdk_29_method_69_code 0 = .ok (.iload_n 0, 1) := by decide +kernel
theorem dc14_1 : decode jdk_29_method_69_code 1 = .ok (.iload_n 1, 1) := by decide +kernel
theorem dc14_2 : decode jdk_29_method_69_code 2 = .ok (.if_icmp .gt 7, 3) := by decide +kernel
theorem dc14_9 : decode jdk_29_method_69_code 9 = .ok (.iload_n 1, 1) := by decide +kernel
theorem dc14_10 : decode jdk_29_method_69_code 10 = .ok (.ireturn, 1) := by decide +kernel
theorem dc14_5 : decode jdk_29_method_69_code 5 = .ok (.iload_n 0, 1) := by decide +kernel
theorem dc14_6 : decode jdk_29_method_69_code 6 = .ok (.goto 4, 3) := by decide +kernel
theorem ef_rmMin (mi : MethodId) (a : Int32) (b : Int32) : entryFrame mi #[(.int a), (.int b)] 2 = mkF mi 0 #[.val (.int a), .val (.int b)] [] := by first | (simp [entryFrame, mkF, argsToLocals, Value.category]; done) | rfl
def fMin (a : Int32) (b : Int32) : Int32 := (if b < a then b else a)
def Q_rmMin (Z : State) (a : Int32) (b : Int32) (h0 : Heap) (n0 : Nat) (vv_ : Option Value) (hh_ : Heap) (LL_ : List Loc) : Prop := vv_ = some (.int (fMin a b)) ∧ Fr n0 LL_ ∧ hh_ = h0
set_option maxRecDepth 65536 in
set_option maxHeartbeats 40000000 in
theorem rmMin (l : Launch) (Z : State) (a0 : Array Value) (hw : ∀ d ∈ tables_1, d.before a0 Z = true) (ws : List Jvm.Cond) (a : Int32) (b : Int32) (h0 : Heap) (n0 : Nat) (Z0 : n0 ≤ h0.size) :
    MetFree l (⟨"java/lang/Math", "min", "(II)I"⟩ : MethodName) (head1 (Jvm.Cond.code (⟨"java/lang/Math", "min", "(II)I"⟩ : MethodName) jdk_29_method_69_code 2 (some .int) :: ws) ({ frames := 0, cells := 0, slots := 0, locals := 0 } : Room)) (fun aa_ U => aa_ = #[(.int a), (.int b)] ∧ Z.Warmed39 U.vm ∧ U.heap = h0) (fun _ _ _ _ _ => True) (fun _ U oo_ UV_ => ∃ vv_ LL_, oo_ = .returned vv_ ∧ Q_rmMin Z a b h0 n0 vv_ UV_.heap LL_ ∧ FrameEnd U oo_ UV_ LL_ ({ frames := 0, cells := 0, slots := 0, locals := 0 } : Room).cells ({ frames := 0, cells := 0, slots := 0, locals := 0 } : Room).slots) := by
  refine MetFree.of_bodySF (Jvm.Free.JP.mathPlain rfl (by decide +kernel)) hisR ?_
  intro pg ev si mi args below meth ci s₁ Bd hml0 hP0 hK
  obtain ⟨rfl, hZ, hh⟩ := hP0
  have hx := Bd.exec
  have hby := Bd.bytes
  have hml : ci.maxLocals = 2 := hml0
  have hown : si.vm.findClass "java/lang/Math" = some mi.cls := findClass_of_methodNamed Bd.named
  have hnm := (name_of_methodNamed Bd.named Bd.method).1
  have X0 : Stand pg l ev ({ frames := 0, cells := 0, slots := 0, locals := 0 } : Room) si mi #[(.int a), (.int b)] below meth ci s₁ [] 0 0 := Stand.of_body Bd
  have e0 : s₁.heap = h0 := by rw [← hh, Bd.state]; rfl
  have N0 := Fr.nil n0
  refine Go.start (fun P hP => ?_)
  refine Go.st (fun t_ k_ => castTop (ef_rmMin mi a b) k_) (A := s₁.setTop (mkF mi 0 #[.val (.int a), .val (.int b)] [])) ?_
  show Go _ _ _ (s₁.setTop (mkF mi 0 #[.val (.int a), .val (.int b)] [])) _
  refine g_iloadN X0 hx hby dc14_0 rfl ?_
  refine g_iloadN X0 hx hby dc14_1 rfl ?_
  by_cases hc2_1 : b < a
  · refine g_icmpYes X0 hx hby dc14_2 (tlt hc2_1).2.2.1 (pc0 := 2) (pc' := 9) rfl (by decide) (by decide) ?_
    refine g_iloadN X0 hx hby dc14_9 rfl ?_
    obtain ⟨fs, hr, hrun, hended, hW, hsame⟩ := X0.leave (v := some (.int b)) (fun h => by rw [Bd.returns] at h; cases h) (BodyLoose.notSynchronized Bd)
    refine ⟨_, _, ?_, hP _ _ ⟨hrun, hended, _, _, rfl, ?_, ⟨_, rfl⟩, hW, hsame.mono (by decide) (by decide)⟩⟩
    · exact retI X0 hx Bd.returns (hb hby dc14_10) hr
    · show (some (.int b) : Option Value) = some (.int (fMin a b)) ∧ Fr n0 _ ∧ s₁.heap = h0
      rw [e0]
      exact ⟨by rw [show fMin a b = b from ((if_pos hc2_1).trans rfl)], N0, rfl⟩
  · refine g_icmpNo X0 hx hby dc14_2 (flt hc2_1).2.2.1 ?_
    refine g_iloadN X0 hx hby dc14_5 rfl ?_
    refine g_goto X0 hx hby dc14_6 (pc0 := 6) (pc' := 10) rfl (by decide) (by decide) ?_
    obtain ⟨fs, hr, hrun, hended, hW, hsame⟩ := X0.leave (v := some (.int a)) (fun h => by rw [Bd.returns] at h; cases h) (BodyLoose.notSynchronized Bd)
    refine ⟨_, _, ?_, hP _ _ ⟨hrun, hended, _, _, rfl, ?_, ⟨_, rfl⟩, hW, hsame.mono (by decide) (by decide)⟩⟩
    · exact retI X0 hx Bd.returns (hb hby dc14_10) hr
    · show (some (.int a) : Option Value) = some (.int (fMin a b)) ∧ Fr n0 _ ∧ s₁.heap = h0
      rw [e0]
      exact ⟨by rw [show fMin a b = a from ((if_neg hc2_1).trans rfl)], N0, rfl⟩
theorem dc15_0 : decode jdk_29_method_65_code 0 = .ok (.iload_n 0, 1) := by decide +kernel
theorem dc15_1 : decode jdk_29_method_65_code 1 = .ok (.iload_n 1, 1) := by decide +kernel
theorem dc15_2 : decode jdk_29_method_65_code 2 = .ok (.if_icmp .lt 7, 3) := by decide +kernel
theorem dc15_9 : decode jdk_29_method_65_code 9 = .ok (.iload_n 1, 1) := by decide +kernel
theorem dc15_10 : decode jdk_29_method_65_code 10 = .ok (.ireturn, 1) := by decide +kernel
theorem dc15_5 : decode jdk_29_method_65_code 5 = .ok (.iload_n 0, 1) := by decide +kernel
theorem dc15_6 : decode jdk_29_method_65_code 6 = .ok (.goto 4, 3) := by decide +kernel
theorem ef_rmMax (mi : MethodId) (a : Int32) (b : Int32) : entryFrame mi #[(.int a), (.int b)] 2 = mkF mi 0 #[.val (.int a), .val (.int b)] [] := by first | (simp [entryFrame, mkF, argsToLocals, Value.category]; done) | rfl
def fMax (a : Int32) (b : Int32) : Int32 := (if a < b then b else a)
def Q_rmMax (Z : State) (a : Int32) (b : Int32) (h0 : Heap) (n0 : Nat) (vv_ : Option Value) (hh_ : Heap) (LL_ : List Loc) : Prop := vv_ = some (.int (fMax a b)) ∧ Fr n0 LL_ ∧ hh_ = h0
set_option maxRecDepth 65536 in
set_option maxHeartbeats 40000000 in
theorem rmMax (l : Launch) (Z : State) (a0 : Array Value) (hw : ∀ d ∈ tables_1, d.before a0 Z = true) (ws : List Jvm.Cond) (a : Int32) (b : Int32) (h0 : Heap) (n0 : Nat) (Z0 : n0 ≤ h0.size) :
    MetFree l (⟨"java/lang/Math", "max", "(II)I"⟩ : MethodName) (head1 (Jvm.Cond.code (⟨"java/lang/Math", "max", "(II)I"⟩ : MethodName) jdk_29_method_65_code 2 (some .int) :: ws) ({ frames := 0, cells := 0, slots := 0, locals := 0 } : Room)) (fun aa_ U => aa_ = #[(.int a), (.int b)] ∧ Z.Warmed39 U.vm ∧ U.heap = h0) (fun _ _ _ _ _ => True) (fun _ U oo_ UV_ => ∃ vv_ LL_, oo_ = .returned vv_ ∧ Q_rmMax Z a b h0 n0 vv_ UV_.heap LL_ ∧ FrameEnd U oo_ UV_ LL_ ({ frames := 0, cells := 0, slots := 0, locals := 0 } : Room).cells ({ frames := 0, cells := 0, slots := 0, locals := 0 } : Room).slots) := by
  refine MetFree.of_bodySF (Jvm.Free.JP.mathPlain rfl (by decide +kernel)) hisR ?_
  intro pg ev si mi args below meth ci s₁ Bd hml0 hP0 hK
  obtain ⟨rfl, hZ, hh⟩ := hP0
  have hx := Bd.exec
  have hby := Bd.bytes
  have hml : ci.maxLocals = 2 := hml0
  have hown : si.vm.findClass "java/lang/Math" = some mi.cls := findClass_of_methodNamed Bd.named
  have hnm := (name_of_methodNamed Bd.named Bd.method).1
  have X0 : Stand pg l ev ({ frames := 0, cells := 0, slots := 0, locals := 0 } : Room) si mi #[(.int a), (.int b)] below meth ci s₁ [] 0 0 := Stand.of_body Bd
  have e0 : s₁.heap = h0 := by rw [← hh, Bd.state]; rfl
  have N0 := Fr.nil n0
  refine Go.start (fun P hP => ?_)
  refine Go.st (fun t_ k_ => castTop (ef_rmMax mi a b) k_) (A := s₁.setTop (mkF mi 0 #[.val (.int a), .val (.int b)] [])) ?_
  show Go _ _ _ (s₁.setTop (mkF mi 0 #[.val (.int a), .val (.int b)] [])) _
  refine g_iloadN X0 hx hby dc15_0 rfl ?_
  refine g_iloadN X0 hx hby dc15_1 rfl ?_
  by_cases hc2_1 : a < b
  · refine g_icmpYes X0 hx hby dc15_2 (tlt hc2_1).1 (pc0 := 2) (pc' := 9) rfl (by decide) (by decide) ?_
    refine g_iloadN X0 hx hby dc15_9 rfl ?_
    obtain ⟨fs, hr, hrun, hended, hW, hsame⟩ := X0.leave (v := some (.int b)) (fun h => by rw [Bd.returns] at h; cases h) (BodyLoose.notSynchronized Bd)
    refine ⟨_, _, ?_, hP _ _ ⟨hrun, hended, _, _, rfl, ?_, ⟨_, rfl⟩, hW, hsame.mono (by decide) (by decide)⟩⟩
    · exact retI X0 hx Bd.returns (hb hby dc15_10) hr
    · show (some (.int b) : Option Value) = some (.int (fMax a b)) ∧ Fr n0 _ ∧ s₁.heap = h0
      rw [e0]
      exact ⟨by rw [show fMax a b = b from ((if_pos hc2_1).trans rfl)], N0, rfl⟩
  · refine g_icmpNo X0 hx hby dc15_2 (flt hc2_1).1 ?_
    refine g_iloadN X0 hx hby dc15_5 rfl ?_
    refine g_goto X0 hx hby dc15_6 (pc0 := 6) (pc' := 10) rfl (by decide) (by decide) ?_
    obtain ⟨fs, hr, hrun, hended, hW, hsame⟩ := X0.leave (v := some (.int a)) (fun h => by rw [Bd.returns] at h; cases h) (BodyLoose.notSynchronized Bd)
    refine ⟨_, _, ?_, hP _ _ ⟨hrun, hended, _, _, rfl, ?_, ⟨_, rfl⟩, hW, hsame.mono (by decide) (by decide)⟩⟩
    · exact retI X0 hx Bd.returns (hb hby dc15_10) hr
    · show (some (.int a) : Option Value) = some (.int (fMax a b)) ∧ Fr n0 _ ∧ s₁.heap = h0
      rw [e0]
      exact ⟨by rw [show fMax a b = a from ((if_neg hc2_1).trans rfl)], N0, rfl⟩
theorem own_cp3 (wa wb wc wd : Int32) : (([(.int (0 : Int32)), (.int (0 : Int32)), (.int (0 : Int32))] : List Value).take (0 : Int32).toNatClampNeg ++ (List.range (3 : Int32).toNatClampNeg).map (fun i => ([.int wa, .int wb, .int wc, .int wd] : List Value).getD ((0 : Int32).toNatClampNeg + i) (.int (0 : Int32))) ++ ([(.int (0 : Int32)), (.int (0 : Int32)), (.int (0 : Int32))] : List Value).drop ((0 : Int32).toNatClampNeg + (3 : Int32).toNatClampNeg)) = [.int wa, .int wb, .int wc] := by
  rw [show (0 : Int32).toNatClampNeg = 0 from by decide +kernel, show (3 : Int32).toNatClampNeg = 3 from by decide +kernel]; rfl
theorem dc16_0 : decode jdk_65_method_121_code 0 = .ok (.iload_n 1, 1) := by decide +kernel
theorem dc16_1 : decode jdk_65_method_121_code 1 = .ok (.aload_n 0, 1) := by decide +kernel
theorem dc16_2 : decode jdk_65_method_121_code 2 = .ok (.arraylength, 1) := by decide +kernel
theorem dc16_3 : decode jdk_65_method_121_code 3 = .ok (.if_icmp .ne 11, 3) := by decide +kernel
theorem dc16_14 : decode jdk_65_method_121_code 14 = .ok (.iload_n 1, 1) := by decide +kernel
theorem dc16_15 : decode jdk_65_method_121_code 15 = .ok (.newarray .byte, 2) := by decide +kernel
theorem dc16_17 : decode jdk_65_method_121_code 17 = .ok (.astore_n 2, 1) := by decide +kernel
theorem dc16_18 : decode jdk_65_method_121_code 18 = .ok (.aload_n 0, 1) := by decide +kernel
theorem dc16_19 : decode jdk_65_method_121_code 19 = .ok (.iconst 0, 1) := by decide +kernel
theorem dc16_20 : decode jdk_65_method_121_code 20 = .ok (.aload_n 2, 1) := by decide +kernel
theorem dc16_21 : decode jdk_65_method_121_code 21 = .ok (.iconst 0, 1) := by decide +kernel
theorem dc16_22 : decode jdk_65_method_121_code 22 = .ok (.aload_n 0, 1) := by decide +kernel
theorem dc16_23 : decode jdk_65_method_121_code 23 = .ok (.arraylength, 1) := by decide +kernel
theorem dc16_24 : decode jdk_65_method_121_code 24 = .ok (.iload_n 1, 1) := by decide +kernel
theorem dc16_25 : decode jdk_65_method_121_code 25 = .ok (.invokestatic 304, 3) := by decide +kernel
theorem pd_11 : parseMethodDescriptor "(II)I" = some ⟨[.int, .int], some .int⟩ := by decide +kernel
theorem dc16_28 : decode jdk_65_method_121_code 28 = .ok (.invokestatic 150, 3) := by decide +kernel
theorem dc16_31 : decode jdk_65_method_121_code 31 = .ok (.aload_n 2, 1) := by decide +kernel
theorem dc16_32 : decode jdk_65_method_121_code 32 = .ok (.areturn, 1) := by decide +kernel
theorem pn_5 : plainName "java/util/Arrays" = true := by first | (simp [plainName, overriddenIn]; done) | decide +kernel
theorem ef_rmCC (mi : MethodId) (a : Addr) (ka : ClassId) (wa : Int32) (wb : Int32) (wc : Int32) (wd : Int32) : entryFrame mi #[(.ref a), (.int 3)] 3 = mkF mi 0 #[.val (.ref a), .val (.int 3), .unset] [] := by first | (simp [entryFrame, mkF, argsToLocals, Value.category]; done) | rfl
def Q_rmCC (Z : State) (a : Addr) (ka : ClassId) (wa : Int32) (wb : Int32) (wc : Int32) (wd : Int32) (h0 : Heap) (n0 : Nat) (vv_ : Option Value) (hh_ : Heap) (LL_ : List Loc) : Prop := ∃ (r : Addr) (kr : ClassId), vv_ = some (.ref r) ∧ Fr n0 LL_ ∧ Keep h0 hh_ [] ∧ h0.size ≤ r ∧ n0 ≤ r ∧ Arv Z hh_ r kr .byte (3 : Int32) [(.int wa), (.int wb), (.int wc)] (.int (0 : Int32)) ∧ Exa Z hh_ r "[B"
set_option maxRecDepth 65536 in
set_option maxHeartbeats 40000000 in
theorem rmCC (l : Launch) (Z : State) (a0 : Array Value) (hw : ∀ d ∈ tables_1, d.before a0 Z = true) (ws : List Jvm.Cond) (a : Addr) (ka : ClassId) (wa : Int32) (wb : Int32) (wc : Int32) (wd : Int32) (h0 : Heap) (n0 : Nat) (Z0 : n0 ≤ h0.size) (A0 : Arv Z h0 a ka .byte (4 : Int32) [(.int wa), (.int wb), (.int wc), (.int wd)] (.int (0 : Int32))) :
    MetFree l (⟨"java/util/Arrays", "copyOf", "([BI)[B"⟩ : MethodName) (head1 (Jvm.Cond.code (⟨"java/util/Arrays", "copyOf", "([BI)[B"⟩ : MethodName) jdk_65_method_121_code 3 (some (.array .byte)) :: ws) ({ frames := 1, cells := 1, slots := 3, locals := 18 } : Room)) (fun aa_ U => aa_ = #[(.ref a), (.int 3)] ∧ Z.Warmed39 U.vm ∧ U.heap = h0) (fun _ _ _ _ _ => True) (fun _ U oo_ UV_ => ∃ vv_ LL_, oo_ = .returned vv_ ∧ Q_rmCC Z a ka wa wb wc wd h0 n0 vv_ UV_.heap LL_ ∧ FrameEnd U oo_ UV_ LL_ ({ frames := 1, cells := 1, slots := 3, locals := 18 } : Room).cells ({ frames := 1, cells := 1, slots := 3, locals := 18 } : Room).slots) := by
  refine MetFree.of_bodySF (plainFor_of_name pn_5) hisR ?_
  intro pg ev si mi args below meth ci s₁ Bd hml0 hP0 hK
  obtain ⟨rfl, hZ, hh⟩ := hP0
  have hx := Bd.exec
  have hby := Bd.bytes
  have hml : ci.maxLocals = 3 := hml0
  have hown : si.vm.findClass "java/util/Arrays" = some mi.cls := findClass_of_methodNamed Bd.named
  have hnm := (name_of_methodNamed Bd.named Bd.method).1
  have X0 : Stand pg l ev ({ frames := 1, cells := 1, slots := 3, locals := 18 } : Room) si mi #[(.ref a), (.int 3)] below meth ci s₁ [] 0 0 := Stand.of_body Bd
  have e0 : s₁.heap = h0 := by rw [← hh, Bd.state]; rfl
  have N0 := Fr.nil n0
  refine Go.start (fun P hP => ?_)
  refine Go.st (fun t_ k_ => castTop (ef_rmCC mi a ka wa wb wc wd) k_) (A := s₁.setTop (mkF mi 0 #[.val (.ref a), .val (.int 3), .unset] [])) ?_
  show Go _ _ _ (s₁.setTop (mkF mi 0 #[.val (.ref a), .val (.int 3), .unset] [])) _
  refine g_iloadN X0 hx hby dc16_0 rfl ?_
  refine g_aloadN X0 hx hby dc16_1 rfl rfl ?_
  have ov1 := A0
  obtain ⟨cl1, Ar1, q1, S1, M1, H1, G1⟩ := ov1
  refine Go.st (X0.arraylength hx (by rw [e0]; exact Ar1.1) (State.isArrayOf_alike hZ.alike Ar1.2.1) (g := (mkF mi 2 #[.val (.ref a), .val (.int 3), .unset] [(.ref a), (.int 3)])) rfl rfl (hb hby dc16_2)) ?_
  rw [len_of S1 M1]
  refine g_icmpYes X0 hx hby dc16_3 (feq (by decide)).2 (pc0 := 3) (pc' := 14) rfl (by decide) (by decide) ?_
  refine g_iloadN X0 hx hby dc16_14 rfl ?_
  obtain ⟨T2, h2, k2, X2, e2, E2, A2, EX2, st2⟩ := newPE X0 hx hZ (hw _ (own_m 8 rfl)) e0 (g := (mkF mi 15 #[.val (.ref a), .val (.int 3), .unset] [(.int 3)])) rfl (hb hby dc16_15) rfl (by decide) (cap := 3) (by decide) (by decide) (by decide) (by decide) (ad := "[B") (by decide)
  obtain ⟨ob2, g2⟩ : ∃ z, z = h0.size := ⟨_, rfl⟩
  rw [← g2] at A2 EX2 st2
  have Zs3 : n0 ≤ h2.size := Nat.le_trans Z0 E2.1
  have KC3 : Keep h0 h2 [] := (Keep.refl h0 []).ext E2
  have g_ob2 : n0 ≤ ob2 := Nat.le_trans Z0 (Nat.le_of_eq g2.symm)
  have sz_ob2 : h0.size ≤ ob2 := Nat.le_trans (Keep.refl h0 []).1 (Nat.le_of_eq g2.symm)
  have V2 : Arv Z h2 ob2 k2 .byte (3 : Int32) [(.int (0 : Int32)), (.int (0 : Int32)), (.int (0 : Int32))] (.int (0 : Int32)) := (Arv.new A2 (by decide)).pad (pad_rep [] (.int (0 : Int32)) 3)
  refine Go.st st2 ?_
  refine g_astoreN X2 hx hby dc16_17 rfl (l' := #[.val (.ref a), .val (.int 3), .val (.ref ob2)]) rfl ?_
  refine g_aloadN X2 hx hby dc16_18 rfl rfl ?_
  refine g_iconst X2 hx hby dc16_19 (v := 0) rfl ?_
  refine g_aloadN X2 hx hby dc16_20 rfl rfl ?_
  refine g_iconst X2 hx hby dc16_21 (v := 0) rfl ?_
  refine g_aloadN X2 hx hby dc16_22 rfl rfl ?_
  have f4 := (A0.ext E2)
  have ov5 := f4
  obtain ⟨cl5, Ar5, q5, S5, M5, H5, G5⟩ := ov5
  refine Go.st (X2.arraylength hx (by rw [e2]; exact Ar5.1) (State.isArrayOf_alike hZ.alike Ar5.2.1) (g := (mkF mi 23 #[.val (.ref a), .val (.int 3), .val (.ref ob2)] [(.ref a), (.int 0), (.ref ob2), (.int 0), (.ref a)])) rfl rfl (hb hby dc16_23)) ?_
  rw [len_of S5 M5]
  refine g_iloadN X2 hx hby dc16_24 rfl ?_
  obtain ⟨_, _, ⟨T6, L6, k6, n6⟩, -, X6, ⟨Lc6, hQ6, l6, y6, z6⟩, st6⟩ := Jvm.LawKit.callS X2 hx (y := (⟨"java/lang/Math", "min", "(II)I"⟩ : MethodName)) hown (mvT hZ (hw _ (own_m 138 rfl))) (mvT hZ (hw _ (own_m 139 rfl))) (mvT hZ (hw _ (own_m 90 rfl))) (mvT hZ (hw _ (own_m 140 rfl))) (by decide) (backOf (W := 4) (rmMin l Z a0 hw [] (4 : Int32) (3 : Int32) h2 n0 Zs3) hZ (hw _ (own_m 140 rfl)) (hw _ (own_m 90 rfl)) (by decide) (by decide)) (g := (mkF mi 25 #[.val (.ref a), .val (.int 3), .val (.ref ob2)] [(.int 3), (.int 4), (.int 0), (.ref ob2), (.int 0), (.ref a)])) rfl (by rw [hml]; rfl) (argsL := [(.int 4), (.int 3)]) (rest := [(.int 0), (.ref ob2), (.int 0), (.ref a)]) (lenOf pd_11 rfl) rfl (by show 2 * 0 + _ ≤ _; exact Nat.le_of_eq rfl) (hb hby dc16_25) (fun _ _ => ⟨rfl, e2, (by decide : 1 + 0 ≤ _), (by decide : 3 + 0 ≤ _)⟩)
  dsimp only [Pt.U, Pt.locs, Pt.cells, Pt.slots] at X6 l6 y6 z6 st6 hQ6
  subst l6 y6 z6
  have X6 := own_cs X6 (cells' := 1) (slots' := 3) rfl rfl
  obtain ⟨rfl, N6q, e6⟩ := hQ6
  have N6 := Fr.app N0 N6q
  refine Go.st st6 ?_
  show Go _ _ _ (T6.setTop (mkF mi 28 #[.val (.ref a), .val (.int 3), .val (.ref ob2)] [(.int (fMin (4 : Int32) (3 : Int32))), (.int 0), (.ref ob2), (.int 0), (.ref a)])) _
  rw [show fMin (4 : Int32) (3 : Int32) = (3 : Int32) from by decide]
  show Go _ _ _ (T6.setTop (mkF mi 28 #[.val (.ref a), .val (.int 3), .val (.ref ob2)] [(.int 3), (.int 0), (.ref ob2), (.int 0), (.ref a)])) _
  obtain ⟨T7, h7, L7, X7, e7, N7, K7, V7, st7⟩ := cpA X6 hx hZ hown (hw _ (own_m 141 rfl)) (hw _ (own_m 144 rfl)) (hw _ (own_m 142 rfl)) (hw _ (own_m 143 rfl)) e6 f4 V2 (Or.inl ⟨rfl, rfl⟩) (by decide) (by decide) (by decide) (sp := (0 : Int32)) (dp := (0 : Int32)) (nn := (3 : Int32)) (by decide) (by decide) rfl (by decide) N6 g_ob2 (g := (mkF mi 28 #[.val (.ref a), .val (.int 3), .val (.ref ob2)] [(.int 3), (.int 0), (.ref ob2), (.int 0), (.ref a)])) rfl (by rw [hml]; rfl) rfl (hb hby dc16_28) (by decide) (W := 0) (by show 2 * 0 + _ ≤ _; exact Nat.le_of_eq rfl) (by decide)
  have Zs8 : n0 ≤ h7.size := Nat.le_trans Zs3 K7.1
  have KC8 : Keep h0 h7 [] := KC3.trans K7 (allS (P := fun x => x ∈ [] ∨ h0.size ≤ x) (Or.inr sz_ob2) all0)
  have V7 : Arv Z h7 ob2 k2 .byte (3 : Int32) [(.int wa), (.int wb), (.int wc)] (.int (0 : Int32)) := V7.pad (fun i => by rw [own_cp3])
  refine Go.st st7 ?_
  show Go _ _ _ (T7.setTop (mkF mi 31 #[.val (.ref a), .val (.int 3), .val (.ref ob2)] [])) _
  refine g_aloadN X7 hx hby dc16_31 rfl rfl ?_
  obtain ⟨fs, hr, hrun, hended, hW, hsame⟩ := X7.leave (v := some (.ref ob2)) (fun h => by rw [Bd.returns] at h; cases h) (BodyLoose.notSynchronized Bd)
  have f9 := (EX2.keep K7)
  refine ⟨_, _, ?_, hP _ _ ⟨hrun, hended, _, _, rfl, ?_, ⟨_, rfl⟩, hW, hsame.mono (by decide) (by decide)⟩⟩
  · exact retOut X7 hx Bd.returns rfl (Or.inr (Or.inr (Or.inr (Or.inr ⟨rfl, rfl, rfl⟩)))) (hb hby dc16_32) hr
  · show ∃ (r : Addr) (kr : ClassId), (some (.ref ob2) : Option Value) = some (.ref r) ∧ Fr n0 _ ∧ Keep h0 T7.heap [] ∧ h0.size ≤ r ∧ n0 ≤ r ∧ Arv Z T7.heap r kr .byte (3 : Int32) [(.int wa), (.int wb), (.int wc)] (.int (0 : Int32)) ∧ Exa Z T7.heap r "[B"
    rw [e7]
    exact ⟨ob2, k2, rfl, N7, KC8, sz_ob2, g_ob2, V7, f9⟩
theorem dc17_0 : decode jdk_42_method_46_code 0 = .ok (.iload_n 0, 1) := by decide +kernel
theorem dc17_1 : decode jdk_42_method_46_code 1 = .ok (.iconst 1, 1) := by decide +kernel
theorem dc17_2 : decode jdk_42_method_46_code 2 = .ok (.if_icmp .ne 9, 3) := by decide +kernel
theorem dc17_11 : decode jdk_42_method_46_code 11 = .ok (.aload_n 1, 1) := by decide +kernel
theorem dc17_12 : decode jdk_42_method_46_code 12 = .ok (.iconst 0, 1) := by decide +kernel
theorem dc17_13 : decode jdk_42_method_46_code 13 = .ok (.aload_n 1, 1) := by decide +kernel
theorem dc17_14 : decode jdk_42_method_46_code 14 = .ok (.arraylength, 1) := by decide +kernel
theorem dc17_15 : decode jdk_42_method_46_code 15 = .ok (.invokestatic 128, 3) := by decide +kernel
theorem pd_12 : parseMethodDescriptor "([BII)Z" = some ⟨[(.array .byte), .int, .int], some .boolean⟩ := by decide +kernel
theorem dc17_18 : decode jdk_42_method_46_code 18 = .ok (.ifCond .ne 11, 3) := by decide +kernel
theorem dc17_21 : decode jdk_42_method_46_code 21 = .ok (.aload_n 1, 1) := by decide +kernel
theorem dc17_22 : decode jdk_42_method_46_code 22 = .ok (.invokevirtual 279, 3) := by decide +kernel
theorem dc17_25 : decode jdk_42_method_46_code 25 = .ok (.checkcast 280, 3) := by decide +kernel
theorem dc17_28 : decode jdk_42_method_46_code 28 = .ok (.areturn, 1) := by decide +kernel
theorem dc17_29 : decode jdk_42_method_46_code 29 = .ok (.iconst 0, 1) := by decide +kernel
theorem dc17_30 : decode jdk_42_method_46_code 30 = .ok (.istore_n 3, 1) := by decide +kernel
theorem dc17_31 : decode jdk_42_method_46_code 31 = .ok (.aload_n 1, 1) := by decide +kernel
theorem dc17_32 : decode jdk_42_method_46_code 32 = .ok (.arraylength, 1) := by decide +kernel
theorem dc17_33 : decode jdk_42_method_46_code 33 = .ok (.invokestatic 60, 3) := by decide +kernel
theorem pd_13 : parseMethodDescriptor "(I)[B" = some ⟨[.int], some (.array .byte)⟩ := by decide +kernel
theorem dc17_36 : decode jdk_42_method_46_code 36 = .ok (.astore 4, 2) := by decide +kernel
theorem dc17_38 : decode jdk_42_method_46_code 38 = .ok (.aload_n 1, 1) := by decide +kernel
theorem dc17_39 : decode jdk_42_method_46_code 39 = .ok (.astore 5, 2) := by decide +kernel
theorem dc17_41 : decode jdk_42_method_46_code 41 = .ok (.aload 5, 2) := by decide +kernel
theorem dc17_43 : decode jdk_42_method_46_code 43 = .ok (.arraylength, 1) := by decide +kernel
theorem dc17_44 : decode jdk_42_method_46_code 44 = .ok (.istore 6, 2) := by decide +kernel
theorem dc17_46 : decode jdk_42_method_46_code 46 = .ok (.iconst 0, 1) := by decide +kernel
theorem dc17_47 : decode jdk_42_method_46_code 47 = .ok (.istore 7, 2) := by decide +kernel
theorem dc17_49 : decode jdk_42_method_46_code 49 = .ok (.iload 7, 2) := by decide +kernel
theorem dc17_51 : decode jdk_42_method_46_code 51 = .ok (.iload 6, 2) := by decide +kernel
theorem dc17_53 : decode jdk_42_method_46_code 53 = .ok (.if_icmp .ge 71, 3) := by decide +kernel
theorem dc17_56 : decode jdk_42_method_46_code 56 = .ok (.aload 5, 2) := by decide +kernel
theorem dc17_58 : decode jdk_42_method_46_code 58 = .ok (.iload 7, 2) := by decide +kernel
theorem dc17_60 : decode jdk_42_method_46_code 60 = .ok (.baload, 1) := by decide +kernel
theorem dc17_61 : decode jdk_42_method_46_code 61 = .ok (.istore 8, 2) := by decide +kernel
theorem dc17_63 : decode jdk_42_method_46_code 63 = .ok (.iload 8, 2) := by decide +kernel
theorem dc17_65 : decode jdk_42_method_46_code 65 = .ok (.ifCond .ge 44, 3) := by decide +kernel
theorem dc17_68 : decode jdk_42_method_46_code 68 = .ok (.aload 4, 2) := by decide +kernel
theorem dc17_70 : decode jdk_42_method_46_code 70 = .ok (.iload_n 3, 1) := by decide +kernel
theorem dc17_71 : decode jdk_42_method_46_code 71 = .ok (.iinc 3 1, 3) := by decide +kernel
theorem dc17_74 : decode jdk_42_method_46_code 74 = .ok (.sipush 192, 3) := by decide +kernel
theorem dc17_77 : decode jdk_42_method_46_code 77 = .ok (.iload 8, 2) := by decide +kernel
theorem dc17_79 : decode jdk_42_method_46_code 79 = .ok (.sipush 255, 3) := by decide +kernel
theorem dc17_82 : decode jdk_42_method_46_code 82 = .ok (.iand, 1) := by decide +kernel
theorem dc17_83 : decode jdk_42_method_46_code 83 = .ok (.bipush 6, 2) := by decide +kernel
theorem dc17_85 : decode jdk_42_method_46_code 85 = .ok (.ishr, 1) := by decide +kernel
theorem dc17_86 : decode jdk_42_method_46_code 86 = .ok (.ior, 1) := by decide +kernel
theorem dc17_87 : decode jdk_42_method_46_code 87 = .ok (.i2b, 1) := by decide +kernel
theorem dc17_88 : decode jdk_42_method_46_code 88 = .ok (.bastore, 1) := by decide +kernel
theorem dc17_89 : decode jdk_42_method_46_code 89 = .ok (.aload 4, 2) := by decide +kernel
theorem dc17_91 : decode jdk_42_method_46_code 91 = .ok (.iload_n 3, 1) := by decide +kernel
theorem dc17_92 : decode jdk_42_method_46_code 92 = .ok (.iinc 3 1, 3) := by decide +kernel
theorem dc17_95 : decode jdk_42_method_46_code 95 = .ok (.sipush 128, 3) := by decide +kernel
theorem dc17_98 : decode jdk_42_method_46_code 98 = .ok (.iload 8, 2) := by decide +kernel
theorem dc17_100 : decode jdk_42_method_46_code 100 = .ok (.bipush 63, 2) := by decide +kernel
theorem dc17_102 : decode jdk_42_method_46_code 102 = .ok (.iand, 1) := by decide +kernel
theorem dc17_103 : decode jdk_42_method_46_code 103 = .ok (.ior, 1) := by decide +kernel
theorem dc17_104 : decode jdk_42_method_46_code 104 = .ok (.i2b, 1) := by decide +kernel
theorem dc17_105 : decode jdk_42_method_46_code 105 = .ok (.bastore, 1) := by decide +kernel
theorem dc17_106 : decode jdk_42_method_46_code 106 = .ok (.goto 12, 3) := by decide +kernel
theorem dc17_118 : decode jdk_42_method_46_code 118 = .ok (.iinc 7 1, 3) := by decide +kernel
theorem dc17_121 : decode jdk_42_method_46_code 121 = .ok (.goto (-72), 3) := by decide +kernel
theorem dc17_124 : decode jdk_42_method_46_code 124 = .ok (.iload_n 3, 1) := by decide +kernel
theorem dc17_125 : decode jdk_42_method_46_code 125 = .ok (.aload 4, 2) := by decide +kernel
theorem dc17_127 : decode jdk_42_method_46_code 127 = .ok (.arraylength, 1) := by decide +kernel
theorem dc17_128 : decode jdk_42_method_46_code 128 = .ok (.if_icmp .ne 6, 3) := by decide +kernel
theorem dc17_131 : decode jdk_42_method_46_code 131 = .ok (.aload 4, 2) := by decide +kernel
theorem dc17_133 : decode jdk_42_method_46_code 133 = .ok (.areturn, 1) := by decide +kernel
theorem dc17_109 : decode jdk_42_method_46_code 109 = .ok (.aload 4, 2) := by decide +kernel
theorem dc17_111 : decode jdk_42_method_46_code 111 = .ok (.iload_n 3, 1) := by decide +kernel
theorem dc17_112 : decode jdk_42_method_46_code 112 = .ok (.iinc 3 1, 3) := by decide +kernel
theorem dc17_115 : decode jdk_42_method_46_code 115 = .ok (.iload 8, 2) := by decide +kernel
theorem dc17_117 : decode jdk_42_method_46_code 117 = .ok (.bastore, 1) := by decide +kernel
theorem dc17_134 : decode jdk_42_method_46_code 134 = .ok (.aload 4, 2) := by decide +kernel
theorem dc17_136 : decode jdk_42_method_46_code 136 = .ok (.iload_n 3, 1) := by decide +kernel
theorem dc17_137 : decode jdk_42_method_46_code 137 = .ok (.invokestatic 102, 3) := by decide +kernel
theorem pd_14 : parseMethodDescriptor "([BI)[B" = some ⟨[(.array .byte), .int], some (.array .byte)⟩ := by decide +kernel
theorem dc17_140 : decode jdk_42_method_46_code 140 = .ok (.areturn, 1) := by decide +kernel
theorem ef_rmE8 (mi : MethodId) (b : Addr) (kb : ClassId) (ln : Int32) (u : Int32) (v : Int32) : entryFrame mi #[(.int 0), (.ref b), (.int 1)] 9 = mkF mi 0 #[.val (.int 0), .val (.ref b), .val (.int 1), .unset, .unset, .unset, .unset, .unset, .unset] [] := by first | (simp [entryFrame, mkF, argsToLocals, Value.category]; done) | rfl
def Q_rmE8 (Z : State) (b : Addr) (kb : ClassId) (ln : Int32) (u : Int32) (v : Int32) (h0 : Heap) (n0 : Nat) (vv_ : Option Value) (hh_ : Heap) (LL_ : List Loc) : Prop := ∃ (r : Addr) (kr : ClassId), vv_ = some (.ref r) ∧ Fr n0 LL_ ∧ Keep h0 hh_ [] ∧ h0.size ≤ r ∧ n0 ≤ r ∧ Arv Z hh_ r kr .byte (eN ln u v) ((eL ln u v).map Value.int) (.int (0 : Int32)) ∧ Exa Z hh_ r "[B"
set_option maxRecDepth 65536 in
set_option maxHeartbeats 40000000 in
theorem rmE8 (l : Launch) (Z : State) (a0 : Array Value) (hw : ∀ d ∈ tables_1, d.before a0 Z = true) (ws : List Jvm.Cond) (b : Addr) (kb : ClassId) (ln : Int32) (u : Int32) (v : Int32) (h0 : Heap) (n0 : Nat) (Z0 : n0 ≤ h0.size) (A0 : Arv Z h0 b kb .byte ln (bts ln u v) (.int (0 : Int32))) (EB : Exa Z h0 b "[B") (hl : ln = 0 ∨ ln = 1 ∨ ln = 2) (hu8 : u.toInt8.toInt32 = u) (hv8 : v.toInt8.toInt32 = v) :
    MetFree l (⟨"java/lang/String", "encodeUTF8", "(B[BZ)[B"⟩ : MethodName) (head1 (Jvm.Cond.code (⟨"java/lang/String", "encodeUTF8", "(B[BZ)[B"⟩ : MethodName) jdk_42_method_46_code 9 (some (.array .byte)) :: ws) ({ frames := 2, cells := 2, slots := 7, locals := 32 } : Room)) (fun aa_ U => aa_ = #[(.int 0), (.ref b), (.int 1)] ∧ Z.Warmed39 U.vm ∧ U.heap = h0) (fun _ _ _ _ _ => True) (fun _ U oo_ UV_ => ∃ vv_ LL_, oo_ = .returned vv_ ∧ Q_rmE8 Z b kb ln u v h0 n0 vv_ UV_.heap LL_ ∧ FrameEnd U oo_ UV_ LL_ ({ frames := 2, cells := 2, slots := 7, locals := 32 } : Room).cells ({ frames := 2, cells := 2, slots := 7, locals := 32 } : Room).slots) := by
  refine MetFree.of_bodySF (plainFor_of_name pn_1) hisR ?_
  intro pg ev si mi args below meth ci s₁ Bd hml0 hP0 hK
  obtain ⟨rfl, hZ, hh⟩ := hP0
  have hx := Bd.exec
  have hby := Bd.bytes
  have hml : ci.maxLocals = 9 := hml0
  have hown : si.vm.findClass "java/lang/String" = some mi.cls := findClass_of_methodNamed Bd.named
  have hnm := (name_of_methodNamed Bd.named Bd.method).1
  have X0 : Stand pg l ev ({ frames := 2, cells := 2, slots := 7, locals := 32 } : Room) si mi #[(.int 0), (.ref b), (.int 1)] below meth ci s₁ [] 0 0 := Stand.of_body Bd
  have e0 : s₁.heap = h0 := by rw [← hh, Bd.state]; rfl
  have N0 := Fr.nil n0
  refine Go.start (fun P hP => ?_)
  refine Go.st (fun t_ k_ => castTop (ef_rmE8 mi b kb ln u v) k_) (A := s₁.setTop (mkF mi 0 #[.val (.int 0), .val (.ref b), .val (.int 1), .unset, .unset, .unset, .unset, .unset, .unset] [])) ?_
  show Go _ _ _ (s₁.setTop (mkF mi 0 #[.val (.int 0), .val (.ref b), .val (.int 1), .unset, .unset, .unset, .unset, .unset, .unset] [])) _
  rcases hl with hN | hN | hN
  · have A1 : Arv Z h0 b kb .byte (0 : Int32) [] (.int (0 : Int32)) := by rw [hN, bts0] at A0; exact A0
    refine g_iloadN X0 hx hby dc17_0 rfl ?_
    refine g_iconst X0 hx hby dc17_1 (v := 1) rfl ?_
    refine g_icmpYes X0 hx hby dc17_2 (feq (by decide)).2 (pc0 := 2) (pc' := 11) rfl (by decide) (by decide) ?_
    refine g_aloadN X0 hx hby dc17_11 rfl rfl ?_
    refine g_iconst X0 hx hby dc17_12 (v := 0) rfl ?_
    refine g_aloadN X0 hx hby dc17_13 rfl rfl ?_
    have ov1 := A1
    obtain ⟨cl1, Ar1, q1, S1, M1, H1, G1⟩ := ov1
    refine Go.st (X0.arraylength hx (by rw [e0]; exact Ar1.1) (State.isArrayOf_alike hZ.alike Ar1.2.1) (g := (mkF mi 14 #[.val (.int 0), .val (.ref b), .val (.int 1), .unset, .unset, .unset, .unset, .unset, .unset] [(.ref b), (.int 0), (.ref b)])) rfl rfl (hb hby dc17_14)) ?_
    rw [len_of S1 M1]
    obtain ⟨_, _, ⟨T2, L2, k2, n2⟩, -, X2, ⟨Lc2, hQ2, l2, y2, z2⟩, st2⟩ := Jvm.LawKit.callS X0 hx (y := (⟨"java/lang/StringCoding", "hasNegatives", "([BII)Z"⟩ : MethodName)) hown (mvT hZ (hw _ (own_m 75 rfl))) (mvT hZ (hw _ (own_m 76 rfl))) (mvT hZ (hw _ (own_m 77 rfl))) (mvT hZ (hw _ (own_m 78 rfl))) (by decide) (backOf (W := 0) (rmHN0 l Z a0 hw [] b kb u v h0 n0 Z0 A1) hZ (hw _ (own_m 78 rfl)) (hw _ (own_m 77 rfl)) (by decide) (by decide)) (g := (mkF mi 15 #[.val (.int 0), .val (.ref b), .val (.int 1), .unset, .unset, .unset, .unset, .unset, .unset] [(.int 0), (.int 0), (.ref b)])) rfl (by rw [hml]; rfl) (argsL := [(.ref b), (.int 0), (.int 0)]) (rest := []) (lenOf pd_12 rfl) rfl (by show 2 * 0 + _ ≤ _; exact Nat.le_of_eq rfl) (hb hby dc17_15) (fun _ _ => ⟨rfl, e0, (by decide : 0 + 0 ≤ _), (by decide : 0 + 0 ≤ _)⟩)
    dsimp only [Pt.U, Pt.locs, Pt.cells, Pt.slots] at X2 l2 y2 z2 st2 hQ2
    subst l2 y2 z2
    have X2 := own_cs X2 (cells' := 0) (slots' := 0) rfl rfl
    obtain ⟨rfl, N2q, e2⟩ := hQ2
    have N2 := Fr.app N0 N2q
    refine Go.st st2 ?_
    show Go _ _ _ (T2.setTop (mkF mi 18 #[.val (.int 0), .val (.ref b), .val (.int 1), .unset, .unset, .unset, .unset, .unset, .unset] [(.int (fHN0 u v))])) _
    rw [show fHN0 u v = (0 : Int32) from by simp [fHN0, fCP0]]
    show Go _ _ _ (T2.setTop (mkF mi 18 #[.val (.int 0), .val (.ref b), .val (.int 1), .unset, .unset, .unset, .unset, .unset, .unset] [(.int 0)])) _
    refine g_ifNo X2 hx hby dc17_18 ((if0 _ _).trans (teq rfl).2) ?_
    refine g_aloadN X2 hx hby dc17_21 rfl rfl ?_
    show Go _ _ _ (T2.setTop (mkF mi 22 #[.val (.int 0), .val (.ref b), .val (.int 1), .unset, .unset, .unset, .unset, .unset, .unset] [(.ref b)])) _
    obtain ⟨T3, h3, X3, e3, E3, A3, EX3, st3⟩ := cloneH X2 hx hZ hown (hw _ (own_m 82 rfl)) (hw _ (own_m 83 rfl)) (hw _ (own_m 30 rfl)) (hw _ (own_m 28 rfl)) (hw _ (own_m 84 rfl)) (hw _ (own_m 85 rfl)) e2 A1.arh EB (g := (mkF mi 22 #[.val (.int 0), .val (.ref b), .val (.int 1), .unset, .unset, .unset, .unset, .unset, .unset] [(.ref b)])) rfl (by rw [hml]; rfl) rfl (hb hby dc17_22) (by decide) (W := 0) (by show 2 * 0 + _ ≤ _; exact Nat.le_of_eq rfl) (by decide) (cap := 0) (by decide) (by decide) (by decide)
    obtain ⟨ob3, g3⟩ : ∃ z, z = h0.size := ⟨_, rfl⟩
    rw [← g3] at A3 EX3 st3
    have Zs4 : n0 ≤ h3.size := Nat.le_trans Z0 E3.1
    have KC4 : Keep h0 h3 [] := (Keep.refl h0 []).ext E3
    have g_ob3 : n0 ≤ ob3 := Nat.le_trans Z0 (Nat.le_of_eq g3.symm)
    have sz_ob3 : h0.size ≤ ob3 := Nat.le_trans (Keep.refl h0 []).1 (Nat.le_of_eq g3.symm)
    have V3 : Arv Z h3 ob3 kb .byte (0 : Int32) [] (.int (0 : Int32)) := A3
    refine Go.st st3 ?_
    show Go _ _ _ (T3.setTop (mkF mi 25 #[.val (.int 0), .val (.ref b), .val (.int 1), .unset, .unset, .unset, .unset, .unset, .unset] [(.ref ob3)])) _
    obtain ⟨T5, X5, e5, st5⟩ := castY X3 hx hZ hown (hw _ (own_m 86 rfl)) e3 (Ins.self EX3) (g := (mkF mi 25 #[.val (.int 0), .val (.ref b), .val (.int 1), .unset, .unset, .unset, .unset, .unset, .unset] [(.ref ob3)])) rfl rfl (hb hby dc17_25)
    refine Go.st st5 ?_
    obtain ⟨fs, hr, hrun, hended, hW, hsame⟩ := X5.leave (v := some (.ref ob3)) (fun h => by rw [Bd.returns] at h; cases h) (BodyLoose.notSynchronized Bd)
    refine ⟨_, _, ?_, hP _ _ ⟨hrun, hended, _, _, rfl, ?_, ⟨_, rfl⟩, hW, hsame.mono (by decide) (by decide)⟩⟩
    · exact retOut X5 hx Bd.returns rfl (Or.inr (Or.inr (Or.inr (Or.inr ⟨rfl, rfl, rfl⟩)))) (hb hby dc17_28) hr
    · show ∃ (r : Addr) (kr : ClassId), (some (.ref ob3) : Option Value) = some (.ref r) ∧ Fr n0 _ ∧ Keep h0 T5.heap [] ∧ h0.size ≤ r ∧ n0 ≤ r ∧ Arv Z T5.heap r kr .byte (eN ln u v) ((eL ln u v).map Value.int) (.int (0 : Int32)) ∧ Exa Z T5.heap r "[B"
      rw [e5]
      have hE : eL ln u v = [] := by rw [hN, eL0] <;> rfl
      exact ⟨ob3, kb, rfl, N2, KC4, sz_ob3, g_ob3, (by rw [eN, hE]; exact V3), EX3⟩
  · have A1 : Arv Z h0 b kb .byte (1 : Int32) [(.int u)] (.int (0 : Int32)) := by rw [hN, bts1] at A0; exact A0
    refine g_iloadN X0 hx hby dc17_0 rfl ?_
    refine g_iconst X0 hx hby dc17_1 (v := 1) rfl ?_
    refine g_icmpYes X0 hx hby dc17_2 (feq (by decide)).2 (pc0 := 2) (pc' := 11) rfl (by decide) (by decide) ?_
    refine g_aloadN X0 hx hby dc17_11 rfl rfl ?_
    refine g_iconst X0 hx hby dc17_12 (v := 0) rfl ?_
    refine g_aloadN X0 hx hby dc17_13 rfl rfl ?_
    have ov6 := A1
    obtain ⟨cl6, Ar6, q6, S6, M6, H6, G6⟩ := ov6
    refine Go.st (X0.arraylength hx (by rw [e0]; exact Ar6.1) (State.isArrayOf_alike hZ.alike Ar6.2.1) (g := (mkF mi 14 #[.val (.int 0), .val (.ref b), .val (.int 1), .unset, .unset, .unset, .unset, .unset, .unset] [(.ref b), (.int 0), (.ref b)])) rfl rfl (hb hby dc17_14)) ?_
    rw [len_of S6 M6]
    obtain ⟨_, _, ⟨T7, L7, k7, n7⟩, -, X7, ⟨Lc7, hQ7, l7, y7, z7⟩, st7⟩ := Jvm.LawKit.callS X0 hx (y := (⟨"java/lang/StringCoding", "hasNegatives", "([BII)Z"⟩ : MethodName)) hown (mvT hZ (hw _ (own_m 75 rfl))) (mvT hZ (hw _ (own_m 76 rfl))) (mvT hZ (hw _ (own_m 77 rfl))) (mvT hZ (hw _ (own_m 78 rfl))) (by decide) (backOf (W := 0) (rmHN1 l Z a0 hw [] b kb u v h0 n0 Z0 A1) hZ (hw _ (own_m 78 rfl)) (hw _ (own_m 77 rfl)) (by decide) (by decide)) (g := (mkF mi 15 #[.val (.int 0), .val (.ref b), .val (.int 1), .unset, .unset, .unset, .unset, .unset, .unset] [(.int 1), (.int 0), (.ref b)])) rfl (by rw [hml]; rfl) (argsL := [(.ref b), (.int 0), (.int 1)]) (rest := []) (lenOf pd_12 rfl) rfl (by show 2 * 0 + _ ≤ _; exact Nat.le_of_eq rfl) (hb hby dc17_15) (fun _ _ => ⟨rfl, e0, (by decide : 0 + 0 ≤ _), (by decide : 0 + 0 ≤ _)⟩)
    dsimp only [Pt.U, Pt.locs, Pt.cells, Pt.slots] at X7 l7 y7 z7 st7 hQ7
    subst l7 y7 z7
    have X7 := own_cs X7 (cells' := 0) (slots' := 0) rfl rfl
    obtain ⟨rfl, N7q, e7⟩ := hQ7
    have N7 := Fr.app N0 N7q
    refine Go.st st7 ?_
    show Go _ _ _ (T7.setTop (mkF mi 18 #[.val (.int 0), .val (.ref b), .val (.int 1), .unset, .unset, .unset, .unset, .unset, .unset] [(.int (fHN1 u v))])) _
    by_cases hu : u < (0 : Int32)
    · skip
      rw [show fHN1 u v = (1 : Int32) from by simp [fHN1, fCP1, hu]]
      show Go _ _ _ (T7.setTop (mkF mi 18 #[.val (.int 0), .val (.ref b), .val (.int 1), .unset, .unset, .unset, .unset, .unset, .unset] [(.int 1)])) _
      refine g_ifYes X7 hx hby dc17_18 ((if0 _ _).trans (feq (by decide)).2) (pc0 := 18) (pc' := 29) rfl (by decide) (by decide) ?_
      refine g_iconst X7 hx hby dc17_29 (v := 0) rfl ?_
      refine g_istoreN X7 hx hby dc17_30 (l' := #[.val (.int 0), .val (.ref b), .val (.int 1), .val (.int 0), .unset, .unset, .unset, .unset, .unset]) rfl ?_
      refine g_aloadN X7 hx hby dc17_31 rfl rfl ?_
      have ov8 := A1
      obtain ⟨cl8, Ar8, q8, S8, M8, H8, G8⟩ := ov8
      refine Go.st (X7.arraylength hx (by rw [e7]; exact Ar8.1) (State.isArrayOf_alike hZ.alike Ar8.2.1) (g := (mkF mi 32 #[.val (.int 0), .val (.ref b), .val (.int 1), .val (.int 0), .unset, .unset, .unset, .unset, .unset] [(.ref b)])) rfl rfl (hb hby dc17_32)) ?_
      rw [len_of S8 M8]
      obtain ⟨_, _, ⟨T9, L9, k9, n9⟩, -, X9, ⟨Lc9, hQ9, l9, y9, z9⟩, st9⟩ := Jvm.LawKit.callS X7 hx (y := (⟨"java/lang/StringUTF16", "newBytesFor", "(I)[B"⟩ : MethodName)) hown (mvT hZ (hw _ (own_m 127 rfl))) (mvT hZ (hw _ (own_m 128 rfl))) (mvT hZ (hw _ (own_m 105 rfl))) (mvT hZ (hw _ (own_m 129 rfl))) (by decide) (backOf (W := 0) (rmNF1 l Z a0 hw [] h0 n0 Z0) hZ (hw _ (own_m 129 rfl)) (hw _ (own_m 105 rfl)) (by decide) (by decide)) (g := (mkF mi 33 #[.val (.int 0), .val (.ref b), .val (.int 1), .val (.int 0), .unset, .unset, .unset, .unset, .unset] [(.int 1)])) rfl (by rw [hml]; rfl) (argsL := [(.int 1)]) (rest := []) (lenOf pd_13 rfl) rfl (by show 2 * 0 + _ ≤ _; exact Nat.le_of_eq rfl) (hb hby dc17_33) (fun _ _ => ⟨rfl, e7, (by decide : 0 + 1 ≤ _), (by decide : 0 + 2 ≤ _)⟩)
      dsimp only [Pt.U, Pt.locs, Pt.cells, Pt.slots] at X9 l9 y9 z9 st9 hQ9
      subst l9 y9 z9
      have X9 := own_cs X9 (cells' := 1) (slots' := 2) rfl rfl
      obtain ⟨h9, e9⟩ : ∃ z, T9.heap = z := ⟨_, rfl⟩
      rw [e9] at hQ9
      obtain ⟨r9, kr9, rfl, N9q, K9, z_r9, g_r9, V_r9, E_r9⟩ := hQ9
      have N9 := Fr.app N7 N9q
      have Zs10 : n0 ≤ h9.size := Nat.le_trans Z0 K9.1
      have KC10 : Keep h0 h9 [] := (Keep.refl h0 []).trans K9 all0
      have sz_r9 : h0.size ≤ r9 := Nat.le_trans (Keep.refl h0 []).1 z_r9
      refine Go.st st9 ?_
      refine g_astore X9 hx hby dc17_36 rfl (l' := #[.val (.int 0), .val (.ref b), .val (.int 1), .val (.int 0), .val (.ref r9), .unset, .unset, .unset, .unset]) rfl ?_
      refine g_aloadN X9 hx hby dc17_38 rfl rfl ?_
      refine g_astore X9 hx hby dc17_39 rfl (l' := #[.val (.int 0), .val (.ref b), .val (.int 1), .val (.int 0), .val (.ref r9), .val (.ref b), .unset, .unset, .unset]) rfl ?_
      refine g_aload X9 hx hby dc17_41 rfl rfl ?_
      have f11 := (A1.keep K9 nin0)
      have ov12 := f11
      obtain ⟨cl12, Ar12, q12, S12, M12, H12, G12⟩ := ov12
      refine Go.st (X9.arraylength hx (by rw [e9]; exact Ar12.1) (State.isArrayOf_alike hZ.alike Ar12.2.1) (g := (mkF mi 43 #[.val (.int 0), .val (.ref b), .val (.int 1), .val (.int 0), .val (.ref r9), .val (.ref b), .unset, .unset, .unset] [(.ref b)])) rfl rfl (hb hby dc17_43)) ?_
      rw [len_of S12 M12]
      refine g_istore X9 hx hby dc17_44 (l' := #[.val (.int 0), .val (.ref b), .val (.int 1), .val (.int 0), .val (.ref r9), .val (.ref b), .val (.int 1), .unset, .unset]) rfl ?_
      refine g_iconst X9 hx hby dc17_46 (v := 0) rfl ?_
      refine g_istore X9 hx hby dc17_47 (l' := #[.val (.int 0), .val (.ref b), .val (.int 1), .val (.int 0), .val (.ref r9), .val (.ref b), .val (.int 1), .val (.int 0), .unset]) rfl ?_
      refine g_iload X9 hx hby dc17_49 rfl ?_
      refine g_iload X9 hx hby dc17_51 rfl ?_
      refine g_icmpNo X9 hx hby dc17_53 (tlt (by decide)).2.1 ?_
      refine g_aload X9 hx hby dc17_56 rfl rfl ?_
      refine g_iload X9 hx hby dc17_58 rfl ?_
      have ov13 := f11
      obtain ⟨cl13, Ar13, q13, S13, M13, H13, G13⟩ := ov13
      have hin13 : ¬ ((0 : Int32) < 0 ∨ cl13.slots.size ≤ ((0 : Int32)).toNatClampNeg) := inb_of S13 ⟨by decide, by decide⟩
      have hat13 : cl13.slots[((0 : Int32)).toNatClampNeg]? = some (.int u) := Has.at H13 hin13 rfl
      refine Go.st (X9.baloadBytes hx (j := (0 : Int32)) (v := (.int u)) (by rw [e9]; exact Ar13.1) (State.isArrayOf_alike hZ.alike Ar13.2.1) Ar13.2.2 hin13 hat13 (g := (mkF mi 60 #[.val (.int 0), .val (.ref b), .val (.int 1), .val (.int 0), .val (.ref r9), .val (.ref b), .val (.int 1), .val (.int 0), .unset] [(.int 0), (.ref b)])) rfl rfl (hb hby dc17_60)) ?_
      refine g_istore X9 hx hby dc17_61 (l' := #[.val (.int 0), .val (.ref b), .val (.int 1), .val (.int 0), .val (.ref r9), .val (.ref b), .val (.int 1), .val (.int 0), .val (.int u)]) rfl ?_
      refine g_iload X9 hx hby dc17_63 rfl ?_
      refine g_ifNo X9 hx hby dc17_65 ((if0 _ _).trans (tlt hu).2.1) ?_
      refine g_aload X9 hx hby dc17_68 rfl rfl ?_
      refine g_iloadN X9 hx hby dc17_70 rfl ?_
      refine g_iinc X9 hx hby dc17_71 rfl (x' := 1) rfl (l' := #[.val (.int 0), .val (.ref b), .val (.int 1), .val (.int 1), .val (.ref r9), .val (.ref b), .val (.int 1), .val (.int 0), .val (.int u)]) rfl ?_
      refine g_sipush X9 hx hby dc17_74 (v := 192) rfl ?_
      refine g_iload X9 hx hby dc17_77 rfl ?_
      refine g_sipush X9 hx hby dc17_79 (v := 255) rfl ?_
      refine g_iand X9 hx hby dc17_82 rfl ?_
      refine g_bipush X9 hx hby dc17_83 (v := 6) rfl ?_
      show Go _ _ _ (T9.setTop (mkF mi 85 #[.val (.int 0), .val (.ref b), .val (.int 1), .val (.int 1), .val (.ref r9), .val (.ref b), .val (.int 1), .val (.int 0), .val (.int u)] [(.int 6), (.int (u &&& (255 : Int32))), (.int 192), (.int 0), (.ref r9)])) _
      refine Go.s (XS.ishr X9.here hx rfl (hb hby dc17_85) rfl) ?_
      refine g_ior X9 hx hby dc17_86 rfl ?_
      refine g_i2b X9 hx hby dc17_87 rfl ?_
      have ov14 := V_r9
      obtain ⟨cl14, Ar14, q14, S14, M14, H14, G14⟩ := ov14
      have hin14 : ¬ ((0 : Int32) < 0 ∨ cl14.slots.size ≤ ((0 : Int32)).toNatClampNeg) := inb_of S14 ⟨by decide, by decide⟩
      obtain ⟨T15, h15, X15, e15, W15, st15⟩ := stB X9 hx hZ e9 Ar14 (j := (0 : Int32)) hin14 (g := (mkF mi 88 #[.val (.int 0), .val (.ref b), .val (.int 1), .val (.int 1), .val (.ref r9), .val (.ref b), .val (.int 1), .val (.int 0), .val (.int u)] [(.int (((192 : Int32) ||| ((u &&& (255 : Int32)) >>> ((6 : Int32) &&& 31))).toInt8.toInt32)), (.int 0), (.ref r9)])) rfl rfl (hb hby dc17_88)
      have Zs16 : n0 ≤ h15.size := Nat.le_trans Zs10 (Keep.of_wr W15).1
      have KC16 : Keep h0 h15 [] := KC10.wr W15 (Or.inr sz_r9)
      have N16 := Fr.snoc X15 N9 g_r9
      have V15 : Arv Z h15 r9 kr9 .byte (2 : Int32) [(.int ((((192 : Int32) ||| ((u &&& (255 : Int32)) >>> ((6 : Int32) &&& 31))).toInt8.toInt32).toInt8.toInt32)), (.int 0)] (.int (0 : Int32)) := Arv.set Ar14 q14 S14 M14 H14 G14 (fits_nar_byte _) W15 0 rfl (Nat.le_of_ble_eq_true rfl)
      rw [own_bb] at V15
      refine Go.st st15 ?_
      refine g_aload X15 hx hby dc17_89 rfl rfl ?_
      refine g_iloadN X15 hx hby dc17_91 rfl ?_
      refine g_iinc X15 hx hby dc17_92 rfl (x' := 2) rfl (l' := #[.val (.int 0), .val (.ref b), .val (.int 1), .val (.int 2), .val (.ref r9), .val (.ref b), .val (.int 1), .val (.int 0), .val (.int u)]) rfl ?_
      refine g_sipush X15 hx hby dc17_95 (v := 128) rfl ?_
      refine g_iload X15 hx hby dc17_98 rfl ?_
      refine g_bipush X15 hx hby dc17_100 (v := 63) rfl ?_
      refine g_iand X15 hx hby dc17_102 rfl ?_
      refine g_ior X15 hx hby dc17_103 rfl ?_
      refine g_i2b X15 hx hby dc17_104 rfl ?_
      have ov17 := V15
      obtain ⟨cl17, Ar17, q17, S17, M17, H17, G17⟩ := ov17
      have hin17 : ¬ ((1 : Int32) < 0 ∨ cl17.slots.size ≤ ((1 : Int32)).toNatClampNeg) := inb_of S17 ⟨by decide, by decide⟩
      obtain ⟨T18, h18, X18, e18, W18, st18⟩ := stB X15 hx hZ e15 Ar17 (j := (1 : Int32)) hin17 (g := (mkF mi 105 #[.val (.int 0), .val (.ref b), .val (.int 1), .val (.int 2), .val (.ref r9), .val (.ref b), .val (.int 1), .val (.int 0), .val (.int u)] [(.int (((128 : Int32) ||| (u &&& (63 : Int32))).toInt8.toInt32)), (.int 1), (.ref r9)])) rfl rfl (hb hby dc17_105)
      have Zs19 : n0 ≤ h18.size := Nat.le_trans Zs16 (Keep.of_wr W18).1
      have KC19 : Keep h0 h18 [] := KC16.wr W18 (Or.inr sz_r9)
      have N19 := Fr.snoc X18 N16 g_r9
      have V18 : Arv Z h18 r9 kr9 .byte (2 : Int32) [(.int (((192 : Int32) ||| ((u &&& (255 : Int32)) >>> ((6 : Int32) &&& 31))).toInt8.toInt32)), (.int ((((128 : Int32) ||| (u &&& (63 : Int32))).toInt8.toInt32).toInt8.toInt32))] (.int (0 : Int32)) := Arv.set Ar17 q17 S17 M17 H17 G17 (fits_nar_byte _) W18 1 rfl (Nat.le_of_ble_eq_true rfl)
      rw [own_bb] at V18
      refine Go.st st18 ?_
      refine g_goto X18 hx hby dc17_106 (pc0 := 106) (pc' := 118) rfl (by decide) (by decide) ?_
      refine g_iinc X18 hx hby dc17_118 rfl (x' := 1) rfl (l' := #[.val (.int 0), .val (.ref b), .val (.int 1), .val (.int 2), .val (.ref r9), .val (.ref b), .val (.int 1), .val (.int 1), .val (.int u)]) rfl ?_
      refine g_goto X18 hx hby dc17_121 (pc0 := 121) (pc' := 49) rfl (by decide) (by decide) ?_
      refine g_iload X18 hx hby dc17_49 rfl ?_
      refine g_iload X18 hx hby dc17_51 rfl ?_
      refine g_icmpYes X18 hx hby dc17_53 (flt (by decide)).2.1 (pc0 := 53) (pc' := 124) rfl (by decide) (by decide) ?_
      refine g_iloadN X18 hx hby dc17_124 rfl ?_
      refine g_aload X18 hx hby dc17_125 rfl rfl ?_
      have ov20 := V18
      obtain ⟨cl20, Ar20, q20, S20, M20, H20, G20⟩ := ov20
      refine Go.st (X18.arraylength hx (by rw [e18]; exact Ar20.1) (State.isArrayOf_alike hZ.alike Ar20.2.1) (g := (mkF mi 127 #[.val (.int 0), .val (.ref b), .val (.int 1), .val (.int 2), .val (.ref r9), .val (.ref b), .val (.int 1), .val (.int 1), .val (.int u)] [(.ref r9), (.int 2)])) rfl rfl (hb hby dc17_127)) ?_
      rw [len_of S20 M20]
      show Go _ _ _ (T18.setTop (mkF mi 128 #[.val (.int 0), .val (.ref b), .val (.int 1), .val (.int 2), .val (.ref r9), .val (.ref b), .val (.int 1), .val (.int 1), .val (.int u)] [(.int 2), (.int 2)])) _
      refine g_icmpNo X18 hx hby dc17_128 (teq rfl).2 ?_
      refine g_aload X18 hx hby dc17_131 rfl rfl ?_
      obtain ⟨fs, hr, hrun, hended, hW, hsame⟩ := X18.leave (v := some (.ref r9)) (fun h => by rw [Bd.returns] at h; cases h) (BodyLoose.notSynchronized Bd)
      have f21 := ((E_r9.wr W15).wr W18)
      refine ⟨_, _, ?_, hP _ _ ⟨hrun, hended, _, _, rfl, ?_, ⟨_, rfl⟩, hW, hsame.mono (by decide) (by decide)⟩⟩
      · exact retOut X18 hx Bd.returns rfl (Or.inr (Or.inr (Or.inr (Or.inr ⟨rfl, rfl, rfl⟩)))) (hb hby dc17_133) hr
      · show ∃ (r : Addr) (kr : ClassId), (some (.ref r9) : Option Value) = some (.ref r) ∧ Fr n0 _ ∧ Keep h0 T18.heap [] ∧ h0.size ≤ r ∧ n0 ≤ r ∧ Arv Z T18.heap r kr .byte (eN ln u v) ((eL ln u v).map Value.int) (.int (0 : Int32)) ∧ Exa Z T18.heap r "[B"
        rw [e18]
        have hE : eL ln u v = [(ec1 u), (ec2 u)] := by rw [hN, eL1, enP hu] <;> rfl
        exact ⟨r9, kr9, rfl, N19, KC19, sz_r9, g_r9, (by rw [eN, hE]; exact V18), f21⟩
    · skip
      rw [show fHN1 u v = (0 : Int32) from by simp [fHN1, fCP1, hu]]
      show Go _ _ _ (T7.setTop (mkF mi 18 #[.val (.int 0), .val (.ref b), .val (.int 1), .unset, .unset, .unset, .unset, .unset, .unset] [(.int 0)])) _
      refine g_ifNo X7 hx hby dc17_18 ((if0 _ _).trans (teq rfl).2) ?_
      refine g_aloadN X7 hx hby dc17_21 rfl rfl ?_
      show Go _ _ _ (T7.setTop (mkF mi 22 #[.val (.int 0), .val (.ref b), .val (.int 1), .unset, .unset, .unset, .unset, .unset, .unset] [(.ref b)])) _
      obtain ⟨T22, h22, X22, e22, E22, A22, EX22, st22⟩ := cloneH X7 hx hZ hown (hw _ (own_m 82 rfl)) (hw _ (own_m 83 rfl)) (hw _ (own_m 30 rfl)) (hw _ (own_m 28 rfl)) (hw _ (own_m 84 rfl)) (hw _ (own_m 85 rfl)) e7 A1.arh EB (g := (mkF mi 22 #[.val (.int 0), .val (.ref b), .val (.int 1), .unset, .unset, .unset, .unset, .unset, .unset] [(.ref b)])) rfl (by rw [hml]; rfl) rfl (hb hby dc17_22) (by decide) (W := 0) (by show 2 * 0 + _ ≤ _; exact Nat.le_of_eq rfl) (by decide) (cap := 1) (by decide) (by decide) (by decide)
      obtain ⟨ob22, g22⟩ : ∃ z, z = h0.size := ⟨_, rfl⟩
      rw [← g22] at A22 EX22 st22
      have Zs23 : n0 ≤ h22.size := Nat.le_trans Z0 E22.1
      have KC23 : Keep h0 h22 [] := (Keep.refl h0 []).ext E22
      have g_ob22 : n0 ≤ ob22 := Nat.le_trans Z0 (Nat.le_of_eq g22.symm)
      have sz_ob22 : h0.size ≤ ob22 := Nat.le_trans (Keep.refl h0 []).1 (Nat.le_of_eq g22.symm)
      have V22 : Arv Z h22 ob22 kb .byte (1 : Int32) [(.int u)] (.int (0 : Int32)) := A22
      refine Go.st st22 ?_
      show Go _ _ _ (T22.setTop (mkF mi 25 #[.val (.int 0), .val (.ref b), .val (.int 1), .unset, .unset, .unset, .unset, .unset, .unset] [(.ref ob22)])) _
      obtain ⟨T24, X24, e24, st24⟩ := castY X22 hx hZ hown (hw _ (own_m 86 rfl)) e22 (Ins.self EX22) (g := (mkF mi 25 #[.val (.int 0), .val (.ref b), .val (.int 1), .unset, .unset, .unset, .unset, .unset, .unset] [(.ref ob22)])) rfl rfl (hb hby dc17_25)
      refine Go.st st24 ?_
      obtain ⟨fs, hr, hrun, hended, hW, hsame⟩ := X24.leave (v := some (.ref ob22)) (fun h => by rw [Bd.returns] at h; cases h) (BodyLoose.notSynchronized Bd)
      refine ⟨_, _, ?_, hP _ _ ⟨hrun, hended, _, _, rfl, ?_, ⟨_, rfl⟩, hW, hsame.mono (by decide) (by decide)⟩⟩
      · exact retOut X24 hx Bd.returns rfl (Or.inr (Or.inr (Or.inr (Or.inr ⟨rfl, rfl, rfl⟩)))) (hb hby dc17_28) hr
      · show ∃ (r : Addr) (kr : ClassId), (some (.ref ob22) : Option Value) = some (.ref r) ∧ Fr n0 _ ∧ Keep h0 T24.heap [] ∧ h0.size ≤ r ∧ n0 ≤ r ∧ Arv Z T24.heap r kr .byte (eN ln u v) ((eL ln u v).map Value.int) (.int (0 : Int32)) ∧ Exa Z T24.heap r "[B"
        rw [e24]
        have hE : eL ln u v = [u] := by rw [hN, eL1, enN hu] <;> rfl
        exact ⟨ob22, kb, rfl, N7, KC23, sz_ob22, g_ob22, (by rw [eN, hE]; exact V22), EX22⟩
  · have A1 : Arv Z h0 b kb .byte (2 : Int32) [(.int u), (.int v)] (.int (0 : Int32)) := by rw [hN, bts2] at A0; exact A0
    refine g_iloadN X0 hx hby dc17_0 rfl ?_
    refine g_iconst X0 hx hby dc17_1 (v := 1) rfl ?_
    refine g_icmpYes X0 hx hby dc17_2 (feq (by decide)).2 (pc0 := 2) (pc' := 11) rfl (by decide) (by decide) ?_
    refine g_aloadN X0 hx hby dc17_11 rfl rfl ?_
    refine g_iconst X0 hx hby dc17_12 (v := 0) rfl ?_
    refine g_aloadN X0 hx hby dc17_13 rfl rfl ?_
    have ov25 := A1
    obtain ⟨cl25, Ar25, q25, S25, M25, H25, G25⟩ := ov25
    refine Go.st (X0.arraylength hx (by rw [e0]; exact Ar25.1) (State.isArrayOf_alike hZ.alike Ar25.2.1) (g := (mkF mi 14 #[.val (.int 0), .val (.ref b), .val (.int 1), .unset, .unset, .unset, .unset, .unset, .unset] [(.ref b), (.int 0), (.ref b)])) rfl rfl (hb hby dc17_14)) ?_
    rw [len_of S25 M25]
    obtain ⟨_, _, ⟨T26, L26, k26, n26⟩, -, X26, ⟨Lc26, hQ26, l26, y26, z26⟩, st26⟩ := Jvm.LawKit.callS X0 hx (y := (⟨"java/lang/StringCoding", "hasNegatives", "([BII)Z"⟩ : MethodName)) hown (mvT hZ (hw _ (own_m 75 rfl))) (mvT hZ (hw _ (own_m 76 rfl))) (mvT hZ (hw _ (own_m 77 rfl))) (mvT hZ (hw _ (own_m 78 rfl))) (by decide) (backOf (W := 0) (rmHN2 l Z a0 hw [] b kb u v h0 n0 Z0 A1) hZ (hw _ (own_m 78 rfl)) (hw _ (own_m 77 rfl)) (by decide) (by decide)) (g := (mkF mi 15 #[.val (.int 0), .val (.ref b), .val (.int 1), .unset, .unset, .unset, .unset, .unset, .unset] [(.int 2), (.int 0), (.ref b)])) rfl (by rw [hml]; rfl) (argsL := [(.ref b), (.int 0), (.int 2)]) (rest := []) (lenOf pd_12 rfl) rfl (by show 2 * 0 + _ ≤ _; exact Nat.le_of_eq rfl) (hb hby dc17_15) (fun _ _ => ⟨rfl, e0, (by decide : 0 + 0 ≤ _), (by decide : 0 + 0 ≤ _)⟩)
    dsimp only [Pt.U, Pt.locs, Pt.cells, Pt.slots] at X26 l26 y26 z26 st26 hQ26
    subst l26 y26 z26
    have X26 := own_cs X26 (cells' := 0) (slots' := 0) rfl rfl
    obtain ⟨rfl, N26q, e26⟩ := hQ26
    have N26 := Fr.app N0 N26q
    refine Go.st st26 ?_
    show Go _ _ _ (T26.setTop (mkF mi 18 #[.val (.int 0), .val (.ref b), .val (.int 1), .unset, .unset, .unset, .unset, .unset, .unset] [(.int (fHN2 u v))])) _
    by_cases hu : u < (0 : Int32)
    · skip
      by_cases hv : v < (0 : Int32)
      · skip
        rw [show fHN2 u v = (1 : Int32) from by simp [fHN2, fCP2, hu, hv]]
        show Go _ _ _ (T26.setTop (mkF mi 18 #[.val (.int 0), .val (.ref b), .val (.int 1), .unset, .unset, .unset, .unset, .unset, .unset] [(.int 1)])) _
        refine g_ifYes X26 hx hby dc17_18 ((if0 _ _).trans (feq (by decide)).2) (pc0 := 18) (pc' := 29) rfl (by decide) (by decide) ?_
        refine g_iconst X26 hx hby dc17_29 (v := 0) rfl ?_
        refine g_istoreN X26 hx hby dc17_30 (l' := #[.val (.int 0), .val (.ref b), .val (.int 1), .val (.int 0), .unset, .unset, .unset, .unset, .unset]) rfl ?_
        refine g_aloadN X26 hx hby dc17_31 rfl rfl ?_
        have ov27 := A1
        obtain ⟨cl27, Ar27, q27, S27, M27, H27, G27⟩ := ov27
        refine Go.st (X26.arraylength hx (by rw [e26]; exact Ar27.1) (State.isArrayOf_alike hZ.alike Ar27.2.1) (g := (mkF mi 32 #[.val (.int 0), .val (.ref b), .val (.int 1), .val (.int 0), .unset, .unset, .unset, .unset, .unset] [(.ref b)])) rfl rfl (hb hby dc17_32)) ?_
        rw [len_of S27 M27]
        obtain ⟨_, _, ⟨T28, L28, k28, n28⟩, -, X28, ⟨Lc28, hQ28, l28, y28, z28⟩, st28⟩ := Jvm.LawKit.callS X26 hx (y := (⟨"java/lang/StringUTF16", "newBytesFor", "(I)[B"⟩ : MethodName)) hown (mvT hZ (hw _ (own_m 127 rfl))) (mvT hZ (hw _ (own_m 128 rfl))) (mvT hZ (hw _ (own_m 105 rfl))) (mvT hZ (hw _ (own_m 129 rfl))) (by decide) (backOf (W := 0) (rmNF2 l Z a0 hw [] h0 n0 Z0) hZ (hw _ (own_m 129 rfl)) (hw _ (own_m 105 rfl)) (by decide) (by decide)) (g := (mkF mi 33 #[.val (.int 0), .val (.ref b), .val (.int 1), .val (.int 0), .unset, .unset, .unset, .unset, .unset] [(.int 2)])) rfl (by rw [hml]; rfl) (argsL := [(.int 2)]) (rest := []) (lenOf pd_13 rfl) rfl (by show 2 * 0 + _ ≤ _; exact Nat.le_of_eq rfl) (hb hby dc17_33) (fun _ _ => ⟨rfl, e26, (by decide : 0 + 1 ≤ _), (by decide : 0 + 4 ≤ _)⟩)
        dsimp only [Pt.U, Pt.locs, Pt.cells, Pt.slots] at X28 l28 y28 z28 st28 hQ28
        subst l28 y28 z28
        have X28 := own_cs X28 (cells' := 1) (slots' := 4) rfl rfl
        obtain ⟨h28, e28⟩ : ∃ z, T28.heap = z := ⟨_, rfl⟩
        rw [e28] at hQ28
        obtain ⟨r28, kr28, rfl, N28q, K28, z_r28, g_r28, V_r28, E_r28⟩ := hQ28
        have N28 := Fr.app N26 N28q
        have Zs29 : n0 ≤ h28.size := Nat.le_trans Z0 K28.1
        have KC29 : Keep h0 h28 [] := (Keep.refl h0 []).trans K28 all0
        have sz_r28 : h0.size ≤ r28 := Nat.le_trans (Keep.refl h0 []).1 z_r28
        refine Go.st st28 ?_
        refine g_astore X28 hx hby dc17_36 rfl (l' := #[.val (.int 0), .val (.ref b), .val (.int 1), .val (.int 0), .val (.ref r28), .unset, .unset, .unset, .unset]) rfl ?_
        refine g_aloadN X28 hx hby dc17_38 rfl rfl ?_
        refine g_astore X28 hx hby dc17_39 rfl (l' := #[.val (.int 0), .val (.ref b), .val (.int 1), .val (.int 0), .val (.ref r28), .val (.ref b), .unset, .unset, .unset]) rfl ?_
        refine g_aload X28 hx hby dc17_41 rfl rfl ?_
        have f30 := (A1.keep K28 nin0)
        have ov31 := f30
        obtain ⟨cl31, Ar31, q31, S31, M31, H31, G31⟩ := ov31
        refine Go.st (X28.arraylength hx (by rw [e28]; exact Ar31.1) (State.isArrayOf_alike hZ.alike Ar31.2.1) (g := (mkF mi 43 #[.val (.int 0), .val (.ref b), .val (.int 1), .val (.int 0), .val (.ref r28), .val (.ref b), .unset, .unset, .unset] [(.ref b)])) rfl rfl (hb hby dc17_43)) ?_
        rw [len_of S31 M31]
        refine g_istore X28 hx hby dc17_44 (l' := #[.val (.int 0), .val (.ref b), .val (.int 1), .val (.int 0), .val (.ref r28), .val (.ref b), .val (.int 2), .unset, .unset]) rfl ?_
        refine g_iconst X28 hx hby dc17_46 (v := 0) rfl ?_
        refine g_istore X28 hx hby dc17_47 (l' := #[.val (.int 0), .val (.ref b), .val (.int 1), .val (.int 0), .val (.ref r28), .val (.ref b), .val (.int 2), .val (.int 0), .unset]) rfl ?_
        refine g_iload X28 hx hby dc17_49 rfl ?_
        refine g_iload X28 hx hby dc17_51 rfl ?_
        refine g_icmpNo X28 hx hby dc17_53 (tlt (by decide)).2.1 ?_
        refine g_aload X28 hx hby dc17_56 rfl rfl ?_
        refine g_iload X28 hx hby dc17_58 rfl ?_
        have ov32 := f30
        obtain ⟨cl32, Ar32, q32, S32, M32, H32, G32⟩ := ov32
        have hin32 : ¬ ((0 : Int32) < 0 ∨ cl32.slots.size ≤ ((0 : Int32)).toNatClampNeg) := inb_of S32 ⟨by decide, by decide⟩
        have hat32 : cl32.slots[((0 : Int32)).toNatClampNeg]? = some (.int u) := Has.at H32 hin32 rfl
        refine Go.st (X28.baloadBytes hx (j := (0 : Int32)) (v := (.int u)) (by rw [e28]; exact Ar32.1) (State.isArrayOf_alike hZ.alike Ar32.2.1) Ar32.2.2 hin32 hat32 (g := (mkF mi 60 #[.val (.int 0), .val (.ref b), .val (.int 1), .val (.int 0), .val (.ref r28), .val (.ref b), .val (.int 2), .val (.int 0), .unset] [(.int 0), (.ref b)])) rfl rfl (hb hby dc17_60)) ?_
        refine g_istore X28 hx hby dc17_61 (l' := #[.val (.int 0), .val (.ref b), .val (.int 1), .val (.int 0), .val (.ref r28), .val (.ref b), .val (.int 2), .val (.int 0), .val (.int u)]) rfl ?_
        refine g_iload X28 hx hby dc17_63 rfl ?_
        refine g_ifNo X28 hx hby dc17_65 ((if0 _ _).trans (tlt hu).2.1) ?_
        refine g_aload X28 hx hby dc17_68 rfl rfl ?_
        refine g_iloadN X28 hx hby dc17_70 rfl ?_
        refine g_iinc X28 hx hby dc17_71 rfl (x' := 1) rfl (l' := #[.val (.int 0), .val (.ref b), .val (.int 1), .val (.int 1), .val (.ref r28), .val (.ref b), .val (.int 2), .val (.int 0), .val (.int u)]) rfl ?_
        refine g_sipush X28 hx hby dc17_74 (v := 192) rfl ?_
        refine g_iload X28 hx hby dc17_77 rfl ?_
        refine g_sipush X28 hx hby dc17_79 (v := 255) rfl ?_
        refine g_iand X28 hx hby dc17_82 rfl ?_
        refine g_bipush X28 hx hby dc17_83 (v := 6) rfl ?_
        show Go _ _ _ (T28.setTop (mkF mi 85 #[.val (.int 0), .val (.ref b), .val (.int 1), .val (.int 1), .val (.ref r28), .val (.ref b), .val (.int 2), .val (.int 0), .val (.int u)] [(.int 6), (.int (u &&& (255 : Int32))), (.int 192), (.int 0), (.ref r28)])) _
        refine Go.s (XS.ishr X28.here hx rfl (hb hby dc17_85) rfl) ?_
        refine g_ior X28 hx hby dc17_86 rfl ?_
        refine g_i2b X28 hx hby dc17_87 rfl ?_
        have ov33 := V_r28
        obtain ⟨cl33, Ar33, q33, S33, M33, H33, G33⟩ := ov33
        have hin33 : ¬ ((0 : Int32) < 0 ∨ cl33.slots.size ≤ ((0 : Int32)).toNatClampNeg) := inb_of S33 ⟨by decide, by decide⟩
        obtain ⟨T34, h34, X34, e34, W34, st34⟩ := stB X28 hx hZ e28 Ar33 (j := (0 : Int32)) hin33 (g := (mkF mi 88 #[.val (.int 0), .val (.ref b), .val (.int 1), .val (.int 1), .val (.ref r28), .val (.ref b), .val (.int 2), .val (.int 0), .val (.int u)] [(.int (((192 : Int32) ||| ((u &&& (255 : Int32)) >>> ((6 : Int32) &&& 31))).toInt8.toInt32)), (.int 0), (.ref r28)])) rfl rfl (hb hby dc17_88)
        have Zs35 : n0 ≤ h34.size := Nat.le_trans Zs29 (Keep.of_wr W34).1
        have KC35 : Keep h0 h34 [] := KC29.wr W34 (Or.inr sz_r28)
        have N35 := Fr.snoc X34 N28 g_r28
        have V34 : Arv Z h34 r28 kr28 .byte (4 : Int32) [(.int ((((192 : Int32) ||| ((u &&& (255 : Int32)) >>> ((6 : Int32) &&& 31))).toInt8.toInt32).toInt8.toInt32)), (.int 0), (.int 0), (.int 0)] (.int (0 : Int32)) := Arv.set Ar33 q33 S33 M33 H33 G33 (fits_nar_byte _) W34 0 rfl (Nat.le_of_ble_eq_true rfl)
        rw [own_bb] at V34
        refine Go.st st34 ?_
        refine g_aload X34 hx hby dc17_89 rfl rfl ?_
        refine g_iloadN X34 hx hby dc17_91 rfl ?_
        refine g_iinc X34 hx hby dc17_92 rfl (x' := 2) rfl (l' := #[.val (.int 0), .val (.ref b), .val (.int 1), .val (.int 2), .val (.ref r28), .val (.ref b), .val (.int 2), .val (.int 0), .val (.int u)]) rfl ?_
        refine g_sipush X34 hx hby dc17_95 (v := 128) rfl ?_
        refine g_iload X34 hx hby dc17_98 rfl ?_
        refine g_bipush X34 hx hby dc17_100 (v := 63) rfl ?_
        refine g_iand X34 hx hby dc17_102 rfl ?_
        refine g_ior X34 hx hby dc17_103 rfl ?_
        refine g_i2b X34 hx hby dc17_104 rfl ?_
        have ov36 := V34
        obtain ⟨cl36, Ar36, q36, S36, M36, H36, G36⟩ := ov36
        have hin36 : ¬ ((1 : Int32) < 0 ∨ cl36.slots.size ≤ ((1 : Int32)).toNatClampNeg) := inb_of S36 ⟨by decide, by decide⟩
        obtain ⟨T37, h37, X37, e37, W37, st37⟩ := stB X34 hx hZ e34 Ar36 (j := (1 : Int32)) hin36 (g := (mkF mi 105 #[.val (.int 0), .val (.ref b), .val (.int 1), .val (.int 2), .val (.ref r28), .val (.ref b), .val (.int 2), .val (.int 0), .val (.int u)] [(.int (((128 : Int32) ||| (u &&& (63 : Int32))).toInt8.toInt32)), (.int 1), (.ref r28)])) rfl rfl (hb hby dc17_105)
        have Zs38 : n0 ≤ h37.size := Nat.le_trans Zs35 (Keep.of_wr W37).1
        have KC38 : Keep h0 h37 [] := KC35.wr W37 (Or.inr sz_r28)
        have N38 := Fr.snoc X37 N35 g_r28
        have V37 : Arv Z h37 r28 kr28 .byte (4 : Int32) [(.int (((192 : Int32) ||| ((u &&& (255 : Int32)) >>> ((6 : Int32) &&& 31))).toInt8.toInt32)), (.int ((((128 : Int32) ||| (u &&& (63 : Int32))).toInt8.toInt32).toInt8.toInt32)), (.int 0), (.int 0)] (.int (0 : Int32)) := Arv.set Ar36 q36 S36 M36 H36 G36 (fits_nar_byte _) W37 1 rfl (Nat.le_of_ble_eq_true rfl)
        rw [own_bb] at V37
        refine Go.st st37 ?_
        refine g_goto X37 hx hby dc17_106 (pc0 := 106) (pc' := 118) rfl (by decide) (by decide) ?_
        refine g_iinc X37 hx hby dc17_118 rfl (x' := 1) rfl (l' := #[.val (.int 0), .val (.ref b), .val (.int 1), .val (.int 2), .val (.ref r28), .val (.ref b), .val (.int 2), .val (.int 1), .val (.int u)]) rfl ?_
        refine g_goto X37 hx hby dc17_121 (pc0 := 121) (pc' := 49) rfl (by decide) (by decide) ?_
        refine g_iload X37 hx hby dc17_49 rfl ?_
        refine g_iload X37 hx hby dc17_51 rfl ?_
        refine g_icmpNo X37 hx hby dc17_53 (tlt (by decide)).2.1 ?_
        refine g_aload X37 hx hby dc17_56 rfl rfl ?_
        refine g_iload X37 hx hby dc17_58 rfl ?_
        have ne_b_r28 : b ≠ r28 := Nat.ne_of_lt (Nat.lt_of_lt_of_le EB.lt z_r28)
        have f39 := ((f30.other W34 ne_b_r28).other W37 ne_b_r28)
        have ov40 := f39
        obtain ⟨cl40, Ar40, q40, S40, M40, H40, G40⟩ := ov40
        have hin40 : ¬ ((1 : Int32) < 0 ∨ cl40.slots.size ≤ ((1 : Int32)).toNatClampNeg) := inb_of S40 ⟨by decide, by decide⟩
        have hat40 : cl40.slots[((1 : Int32)).toNatClampNeg]? = some (.int v) := Has.at H40 hin40 rfl
        refine Go.st (X37.baloadBytes hx (j := (1 : Int32)) (v := (.int v)) (by rw [e37]; exact Ar40.1) (State.isArrayOf_alike hZ.alike Ar40.2.1) Ar40.2.2 hin40 hat40 (g := (mkF mi 60 #[.val (.int 0), .val (.ref b), .val (.int 1), .val (.int 2), .val (.ref r28), .val (.ref b), .val (.int 2), .val (.int 1), .val (.int u)] [(.int 1), (.ref b)])) rfl rfl (hb hby dc17_60)) ?_
        show Go _ _ _ (T37.setTop (mkF mi 61 #[.val (.int 0), .val (.ref b), .val (.int 1), .val (.int 2), .val (.ref r28), .val (.ref b), .val (.int 2), .val (.int 1), .val (.int u)] [(.int v)])) _
        refine g_istore X37 hx hby dc17_61 (l' := #[.val (.int 0), .val (.ref b), .val (.int 1), .val (.int 2), .val (.ref r28), .val (.ref b), .val (.int 2), .val (.int 1), .val (.int v)]) rfl ?_
        refine g_iload X37 hx hby dc17_63 rfl ?_
        refine g_ifNo X37 hx hby dc17_65 ((if0 _ _).trans (tlt hv).2.1) ?_
        refine g_aload X37 hx hby dc17_68 rfl rfl ?_
        refine g_iloadN X37 hx hby dc17_70 rfl ?_
        refine g_iinc X37 hx hby dc17_71 rfl (x' := 3) rfl (l' := #[.val (.int 0), .val (.ref b), .val (.int 1), .val (.int 3), .val (.ref r28), .val (.ref b), .val (.int 2), .val (.int 1), .val (.int v)]) rfl ?_
        refine g_sipush X37 hx hby dc17_74 (v := 192) rfl ?_
        refine g_iload X37 hx hby dc17_77 rfl ?_
        refine g_sipush X37 hx hby dc17_79 (v := 255) rfl ?_
        refine g_iand X37 hx hby dc17_82 rfl ?_
        refine g_bipush X37 hx hby dc17_83 (v := 6) rfl ?_
        refine Go.s (XS.ishr X37.here hx rfl (hb hby dc17_85) rfl) ?_
        refine g_ior X37 hx hby dc17_86 rfl ?_
        refine g_i2b X37 hx hby dc17_87 rfl ?_
        have ov41 := V37
        obtain ⟨cl41, Ar41, q41, S41, M41, H41, G41⟩ := ov41
        have hin41 : ¬ ((2 : Int32) < 0 ∨ cl41.slots.size ≤ ((2 : Int32)).toNatClampNeg) := inb_of S41 ⟨by decide, by decide⟩
        obtain ⟨T42, h42, X42, e42, W42, st42⟩ := stB X37 hx hZ e37 Ar41 (j := (2 : Int32)) hin41 (g := (mkF mi 88 #[.val (.int 0), .val (.ref b), .val (.int 1), .val (.int 3), .val (.ref r28), .val (.ref b), .val (.int 2), .val (.int 1), .val (.int v)] [(.int (((192 : Int32) ||| ((v &&& (255 : Int32)) >>> ((6 : Int32) &&& 31))).toInt8.toInt32)), (.int 2), (.ref r28)])) rfl rfl (hb hby dc17_88)
        have Zs43 : n0 ≤ h42.size := Nat.le_trans Zs38 (Keep.of_wr W42).1
        have KC43 : Keep h0 h42 [] := KC38.wr W42 (Or.inr sz_r28)
        have N43 := Fr.snoc X42 N38 g_r28
        have V42 : Arv Z h42 r28 kr28 .byte (4 : Int32) [(.int (((192 : Int32) ||| ((u &&& (255 : Int32)) >>> ((6 : Int32) &&& 31))).toInt8.toInt32)), (.int (((128 : Int32) ||| (u &&& (63 : Int32))).toInt8.toInt32)), (.int ((((192 : Int32) ||| ((v &&& (255 : Int32)) >>> ((6 : Int32) &&& 31))).toInt8.toInt32).toInt8.toInt32)), (.int 0)] (.int (0 : Int32)) := Arv.set Ar41 q41 S41 M41 H41 G41 (fits_nar_byte _) W42 2 rfl (Nat.le_of_ble_eq_true rfl)
        rw [own_bb] at V42
        refine Go.st st42 ?_
        refine g_aload X42 hx hby dc17_89 rfl rfl ?_
        refine g_iloadN X42 hx hby dc17_91 rfl ?_
        refine g_iinc X42 hx hby dc17_92 rfl (x' := 4) rfl (l' := #[.val (.int 0), .val (.ref b), .val (.int 1), .val (.int 4), .val (.ref r28), .val (.ref b), .val (.int 2), .val (.int 1), .val (.int v)]) rfl ?_
        refine g_sipush X42 hx hby dc17_95 (v := 128) rfl ?_
        refine g_iload X42 hx hby dc17_98 rfl ?_
        refine g_bipush X42 hx hby dc17_100 (v := 63) rfl ?_
        refine g_iand X42 hx hby dc17_102 rfl ?_
        refine g_ior X42 hx hby dc17_103 rfl ?_
        show Go _ _ _ (T42.setTop (mkF mi 104 #[.val (.int 0), .val (.ref b), .val (.int 1), .val (.int 4), .val (.ref r28), .val (.ref b), .val (.int 2), .val (.int 1), .val (.int v)] [(.int ((128 : Int32) ||| (v &&& (63 : Int32)))), (.int 3), (.ref r28)])) _
        refine g_i2b X42 hx hby dc17_104 rfl ?_
        have ov44 := V42
        obtain ⟨cl44, Ar44, q44, S44, M44, H44, G44⟩ := ov44
        have hin44 : ¬ ((3 : Int32) < 0 ∨ cl44.slots.size ≤ ((3 : Int32)).toNatClampNeg) := inb_of S44 ⟨by decide, by decide⟩
        obtain ⟨T45, h45, X45, e45, W45, st45⟩ := stB X42 hx hZ e42 Ar44 (j := (3 : Int32)) hin44 (g := (mkF mi 105 #[.val (.int 0), .val (.ref b), .val (.int 1), .val (.int 4), .val (.ref r28), .val (.ref b), .val (.int 2), .val (.int 1), .val (.int v)] [(.int (((128 : Int32) ||| (v &&& (63 : Int32))).toInt8.toInt32)), (.int 3), (.ref r28)])) rfl rfl (hb hby dc17_105)
        have Zs46 : n0 ≤ h45.size := Nat.le_trans Zs43 (Keep.of_wr W45).1
        have KC46 : Keep h0 h45 [] := KC43.wr W45 (Or.inr sz_r28)
        have N46 := Fr.snoc X45 N43 g_r28
        have V45 : Arv Z h45 r28 kr28 .byte (4 : Int32) [(.int (((192 : Int32) ||| ((u &&& (255 : Int32)) >>> ((6 : Int32) &&& 31))).toInt8.toInt32)), (.int (((128 : Int32) ||| (u &&& (63 : Int32))).toInt8.toInt32)), (.int (((192 : Int32) ||| ((v &&& (255 : Int32)) >>> ((6 : Int32) &&& 31))).toInt8.toInt32)), (.int ((((128 : Int32) ||| (v &&& (63 : Int32))).toInt8.toInt32).toInt8.toInt32))] (.int (0 : Int32)) := Arv.set Ar44 q44 S44 M44 H44 G44 (fits_nar_byte _) W45 3 rfl (Nat.le_of_ble_eq_true rfl)
        rw [own_bb] at V45
        refine Go.st st45 ?_
        refine g_goto X45 hx hby dc17_106 (pc0 := 106) (pc' := 118) rfl (by decide) (by decide) ?_
        refine g_iinc X45 hx hby dc17_118 rfl (x' := 2) rfl (l' := #[.val (.int 0), .val (.ref b), .val (.int 1), .val (.int 4), .val (.ref r28), .val (.ref b), .val (.int 2), .val (.int 2), .val (.int v)]) rfl ?_
        refine g_goto X45 hx hby dc17_121 (pc0 := 121) (pc' := 49) rfl (by decide) (by decide) ?_
        refine g_iload X45 hx hby dc17_49 rfl ?_
        refine g_iload X45 hx hby dc17_51 rfl ?_
        refine g_icmpYes X45 hx hby dc17_53 (flt (by decide)).2.1 (pc0 := 53) (pc' := 124) rfl (by decide) (by decide) ?_
        refine g_iloadN X45 hx hby dc17_124 rfl ?_
        refine g_aload X45 hx hby dc17_125 rfl rfl ?_
        have ov47 := V45
        obtain ⟨cl47, Ar47, q47, S47, M47, H47, G47⟩ := ov47
        refine Go.st (X45.arraylength hx (by rw [e45]; exact Ar47.1) (State.isArrayOf_alike hZ.alike Ar47.2.1) (g := (mkF mi 127 #[.val (.int 0), .val (.ref b), .val (.int 1), .val (.int 4), .val (.ref r28), .val (.ref b), .val (.int 2), .val (.int 2), .val (.int v)] [(.ref r28), (.int 4)])) rfl rfl (hb hby dc17_127)) ?_
        rw [len_of S47 M47]
        refine g_icmpNo X45 hx hby dc17_128 (teq rfl).2 ?_
        refine g_aload X45 hx hby dc17_131 rfl rfl ?_
        obtain ⟨fs, hr, hrun, hended, hW, hsame⟩ := X45.leave (v := some (.ref r28)) (fun h => by rw [Bd.returns] at h; cases h) (BodyLoose.notSynchronized Bd)
        have f48 := ((((E_r28.wr W34).wr W37).wr W42).wr W45)
        refine ⟨_, _, ?_, hP _ _ ⟨hrun, hended, _, _, rfl, ?_, ⟨_, rfl⟩, hW, hsame.mono (by decide) (by decide)⟩⟩
        · exact retOut X45 hx Bd.returns rfl (Or.inr (Or.inr (Or.inr (Or.inr ⟨rfl, rfl, rfl⟩)))) (hb hby dc17_133) hr
        · show ∃ (r : Addr) (kr : ClassId), (some (.ref r28) : Option Value) = some (.ref r) ∧ Fr n0 _ ∧ Keep h0 T45.heap [] ∧ h0.size ≤ r ∧ n0 ≤ r ∧ Arv Z T45.heap r kr .byte (eN ln u v) ((eL ln u v).map Value.int) (.int (0 : Int32)) ∧ Exa Z T45.heap r "[B"
          rw [e45]
          have hE : eL ln u v = [(ec1 u), (ec2 u), (ec1 v), (ec2 v)] := by rw [hN, eL2, enP hu, enP hv] <;> rfl
          exact ⟨r28, kr28, rfl, N46, KC46, sz_r28, g_r28, (by rw [eN, hE]; exact V45), f48⟩
      · skip
        rw [show fHN2 u v = (1 : Int32) from by simp [fHN2, fCP2, hu, hv]]
        show Go _ _ _ (T26.setTop (mkF mi 18 #[.val (.int 0), .val (.ref b), .val (.int 1), .unset, .unset, .unset, .unset, .unset, .unset] [(.int 1)])) _
        refine g_ifYes X26 hx hby dc17_18 ((if0 _ _).trans (feq (by decide)).2) (pc0 := 18) (pc' := 29) rfl (by decide) (by decide) ?_
        refine g_iconst X26 hx hby dc17_29 (v := 0) rfl ?_
        refine g_istoreN X26 hx hby dc17_30 (l' := #[.val (.int 0), .val (.ref b), .val (.int 1), .val (.int 0), .unset, .unset, .unset, .unset, .unset]) rfl ?_
        refine g_aloadN X26 hx hby dc17_31 rfl rfl ?_
        have ov49 := A1
        obtain ⟨cl49, Ar49, q49, S49, M49, H49, G49⟩ := ov49
        refine Go.st (X26.arraylength hx (by rw [e26]; exact Ar49.1) (State.isArrayOf_alike hZ.alike Ar49.2.1) (g := (mkF mi 32 #[.val (.int 0), .val (.ref b), .val (.int 1), .val (.int 0), .unset, .unset, .unset, .unset, .unset] [(.ref b)])) rfl rfl (hb hby dc17_32)) ?_
        rw [len_of S49 M49]
        obtain ⟨_, _, ⟨T50, L50, k50, n50⟩, -, X50, ⟨Lc50, hQ50, l50, y50, z50⟩, st50⟩ := Jvm.LawKit.callS X26 hx (y := (⟨"java/lang/StringUTF16", "newBytesFor", "(I)[B"⟩ : MethodName)) hown (mvT hZ (hw _ (own_m 127 rfl))) (mvT hZ (hw _ (own_m 128 rfl))) (mvT hZ (hw _ (own_m 105 rfl))) (mvT hZ (hw _ (own_m 129 rfl))) (by decide) (backOf (W := 0) (rmNF2 l Z a0 hw [] h0 n0 Z0) hZ (hw _ (own_m 129 rfl)) (hw _ (own_m 105 rfl)) (by decide) (by decide)) (g := (mkF mi 33 #[.val (.int 0), .val (.ref b), .val (.int 1), .val (.int 0), .unset, .unset, .unset, .unset, .unset] [(.int 2)])) rfl (by rw [hml]; rfl) (argsL := [(.int 2)]) (rest := []) (lenOf pd_13 rfl) rfl (by show 2 * 0 + _ ≤ _; exact Nat.le_of_eq rfl) (hb hby dc17_33) (fun _ _ => ⟨rfl, e26, (by decide : 0 + 1 ≤ _), (by decide : 0 + 4 ≤ _)⟩)
        dsimp only [Pt.U, Pt.locs, Pt.cells, Pt.slots] at X50 l50 y50 z50 st50 hQ50
        subst l50 y50 z50
        have X50 := own_cs X50 (cells' := 1) (slots' := 4) rfl rfl
        obtain ⟨h50, e50⟩ : ∃ z, T50.heap = z := ⟨_, rfl⟩
        rw [e50] at hQ50
        obtain ⟨r50, kr50, rfl, N50q, K50, z_r50, g_r50, V_r50, E_r50⟩ := hQ50
        have N50 := Fr.app N26 N50q
        have Zs51 : n0 ≤ h50.size := Nat.le_trans Z0 K50.1
        have KC51 : Keep h0 h50 [] := (Keep.refl h0 []).trans K50 all0
        have sz_r50 : h0.size ≤ r50 := Nat.le_trans (Keep.refl h0 []).1 z_r50
        refine Go.st st50 ?_
        refine g_astore X50 hx hby dc17_36 rfl (l' := #[.val (.int 0), .val (.ref b), .val (.int 1), .val (.int 0), .val (.ref r50), .unset, .unset, .unset, .unset]) rfl ?_
        refine g_aloadN X50 hx hby dc17_38 rfl rfl ?_
        refine g_astore X50 hx hby dc17_39 rfl (l' := #[.val (.int 0), .val (.ref b), .val (.int 1), .val (.int 0), .val (.ref r50), .val (.ref b), .unset, .unset, .unset]) rfl ?_
        refine g_aload X50 hx hby dc17_41 rfl rfl ?_
        have f52 := (A1.keep K50 nin0)
        have ov53 := f52
        obtain ⟨cl53, Ar53, q53, S53, M53, H53, G53⟩ := ov53
        refine Go.st (X50.arraylength hx (by rw [e50]; exact Ar53.1) (State.isArrayOf_alike hZ.alike Ar53.2.1) (g := (mkF mi 43 #[.val (.int 0), .val (.ref b), .val (.int 1), .val (.int 0), .val (.ref r50), .val (.ref b), .unset, .unset, .unset] [(.ref b)])) rfl rfl (hb hby dc17_43)) ?_
        rw [len_of S53 M53]
        refine g_istore X50 hx hby dc17_44 (l' := #[.val (.int 0), .val (.ref b), .val (.int 1), .val (.int 0), .val (.ref r50), .val (.ref b), .val (.int 2), .unset, .unset]) rfl ?_
        refine g_iconst X50 hx hby dc17_46 (v := 0) rfl ?_
        refine g_istore X50 hx hby dc17_47 (l' := #[.val (.int 0), .val (.ref b), .val (.int 1), .val (.int 0), .val (.ref r50), .val (.ref b), .val (.int 2), .val (.int 0), .unset]) rfl ?_
        refine g_iload X50 hx hby dc17_49 rfl ?_
        refine g_iload X50 hx hby dc17_51 rfl ?_
        refine g_icmpNo X50 hx hby dc17_53 (tlt (by decide)).2.1 ?_
        refine g_aload X50 hx hby dc17_56 rfl rfl ?_
        show Go _ _ _ (T50.setTop (mkF mi 58 #[.val (.int 0), .val (.ref b), .val (.int 1), .val (.int 0), .val (.ref r50), .val (.ref b), .val (.int 2), .val (.int 0), .unset] [(.ref b)])) _
        refine g_iload X50 hx hby dc17_58 rfl ?_
        have ov54 := f52
        obtain ⟨cl54, Ar54, q54, S54, M54, H54, G54⟩ := ov54
        have hin54 : ¬ ((0 : Int32) < 0 ∨ cl54.slots.size ≤ ((0 : Int32)).toNatClampNeg) := inb_of S54 ⟨by decide, by decide⟩
        have hat54 : cl54.slots[((0 : Int32)).toNatClampNeg]? = some (.int u) := Has.at H54 hin54 rfl
        refine Go.st (X50.baloadBytes hx (j := (0 : Int32)) (v := (.int u)) (by rw [e50]; exact Ar54.1) (State.isArrayOf_alike hZ.alike Ar54.2.1) Ar54.2.2 hin54 hat54 (g := (mkF mi 60 #[.val (.int 0), .val (.ref b), .val (.int 1), .val (.int 0), .val (.ref r50), .val (.ref b), .val (.int 2), .val (.int 0), .unset] [(.int 0), (.ref b)])) rfl rfl (hb hby dc17_60)) ?_
        refine g_istore X50 hx hby dc17_61 (l' := #[.val (.int 0), .val (.ref b), .val (.int 1), .val (.int 0), .val (.ref r50), .val (.ref b), .val (.int 2), .val (.int 0), .val (.int u)]) rfl ?_
        refine g_iload X50 hx hby dc17_63 rfl ?_
        refine g_ifNo X50 hx hby dc17_65 ((if0 _ _).trans (tlt hu).2.1) ?_
        refine g_aload X50 hx hby dc17_68 rfl rfl ?_
        refine g_iloadN X50 hx hby dc17_70 rfl ?_
        refine g_iinc X50 hx hby dc17_71 rfl (x' := 1) rfl (l' := #[.val (.int 0), .val (.ref b), .val (.int 1), .val (.int 1), .val (.ref r50), .val (.ref b), .val (.int 2), .val (.int 0), .val (.int u)]) rfl ?_
        refine g_sipush X50 hx hby dc17_74 (v := 192) rfl ?_
        refine g_iload X50 hx hby dc17_77 rfl ?_
        refine g_sipush X50 hx hby dc17_79 (v := 255) rfl ?_
        refine g_iand X50 hx hby dc17_82 rfl ?_
        refine g_bipush X50 hx hby dc17_83 (v := 6) rfl ?_
        refine Go.s (XS.ishr X50.here hx rfl (hb hby dc17_85) rfl) ?_
        refine g_ior X50 hx hby dc17_86 rfl ?_
        refine g_i2b X50 hx hby dc17_87 rfl ?_
        have ov55 := V_r50
        obtain ⟨cl55, Ar55, q55, S55, M55, H55, G55⟩ := ov55
        have hin55 : ¬ ((0 : Int32) < 0 ∨ cl55.slots.size ≤ ((0 : Int32)).toNatClampNeg) := inb_of S55 ⟨by decide, by decide⟩
        obtain ⟨T56, h56, X56, e56, W56, st56⟩ := stB X50 hx hZ e50 Ar55 (j := (0 : Int32)) hin55 (g := (mkF mi 88 #[.val (.int 0), .val (.ref b), .val (.int 1), .val (.int 1), .val (.ref r50), .val (.ref b), .val (.int 2), .val (.int 0), .val (.int u)] [(.int (((192 : Int32) ||| ((u &&& (255 : Int32)) >>> ((6 : Int32) &&& 31))).toInt8.toInt32)), (.int 0), (.ref r50)])) rfl rfl (hb hby dc17_88)
        have Zs57 : n0 ≤ h56.size := Nat.le_trans Zs51 (Keep.of_wr W56).1
        have KC57 : Keep h0 h56 [] := KC51.wr W56 (Or.inr sz_r50)
        have N57 := Fr.snoc X56 N50 g_r50
        have V56 : Arv Z h56 r50 kr50 .byte (4 : Int32) [(.int ((((192 : Int32) ||| ((u &&& (255 : Int32)) >>> ((6 : Int32) &&& 31))).toInt8.toInt32).toInt8.toInt32)), (.int 0), (.int 0), (.int 0)] (.int (0 : Int32)) := Arv.set Ar55 q55 S55 M55 H55 G55 (fits_nar_byte _) W56 0 rfl (Nat.le_of_ble_eq_true rfl)
        rw [own_bb] at V56
        refine Go.st st56 ?_
        refine g_aload X56 hx hby dc17_89 rfl rfl ?_
        refine g_iloadN X56 hx hby dc17_91 rfl ?_
        refine g_iinc X56 hx hby dc17_92 rfl (x' := 2) rfl (l' := #[.val (.int 0), .val (.ref b), .val (.int 1), .val (.int 2), .val (.ref r50), .val (.ref b), .val (.int 2), .val (.int 0), .val (.int u)]) rfl ?_
        refine g_sipush X56 hx hby dc17_95 (v := 128) rfl ?_
        refine g_iload X56 hx hby dc17_98 rfl ?_
        refine g_bipush X56 hx hby dc17_100 (v := 63) rfl ?_
        show Go _ _ _ (T56.setTop (mkF mi 102 #[.val (.int 0), .val (.ref b), .val (.int 1), .val (.int 2), .val (.ref r50), .val (.ref b), .val (.int 2), .val (.int 0), .val (.int u)] [(.int 63), (.int u), (.int 128), (.int 1), (.ref r50)])) _
        refine g_iand X56 hx hby dc17_102 rfl ?_
        refine g_ior X56 hx hby dc17_103 rfl ?_
        refine g_i2b X56 hx hby dc17_104 rfl ?_
        have ov58 := V56
        obtain ⟨cl58, Ar58, q58, S58, M58, H58, G58⟩ := ov58
        have hin58 : ¬ ((1 : Int32) < 0 ∨ cl58.slots.size ≤ ((1 : Int32)).toNatClampNeg) := inb_of S58 ⟨by decide, by decide⟩
        obtain ⟨T59, h59, X59, e59, W59, st59⟩ := stB X56 hx hZ e56 Ar58 (j := (1 : Int32)) hin58 (g := (mkF mi 105 #[.val (.int 0), .val (.ref b), .val (.int 1), .val (.int 2), .val (.ref r50), .val (.ref b), .val (.int 2), .val (.int 0), .val (.int u)] [(.int (((128 : Int32) ||| (u &&& (63 : Int32))).toInt8.toInt32)), (.int 1), (.ref r50)])) rfl rfl (hb hby dc17_105)
        have Zs60 : n0 ≤ h59.size := Nat.le_trans Zs57 (Keep.of_wr W59).1
        have KC60 : Keep h0 h59 [] := KC57.wr W59 (Or.inr sz_r50)
        have N60 := Fr.snoc X59 N57 g_r50
        have V59 : Arv Z h59 r50 kr50 .byte (4 : Int32) [(.int (((192 : Int32) ||| ((u &&& (255 : Int32)) >>> ((6 : Int32) &&& 31))).toInt8.toInt32)), (.int ((((128 : Int32) ||| (u &&& (63 : Int32))).toInt8.toInt32).toInt8.toInt32)), (.int 0), (.int 0)] (.int (0 : Int32)) := Arv.set Ar58 q58 S58 M58 H58 G58 (fits_nar_byte _) W59 1 rfl (Nat.le_of_ble_eq_true rfl)
        rw [own_bb] at V59
        refine Go.st st59 ?_
        refine g_goto X59 hx hby dc17_106 (pc0 := 106) (pc' := 118) rfl (by decide) (by decide) ?_
        refine g_iinc X59 hx hby dc17_118 rfl (x' := 1) rfl (l' := #[.val (.int 0), .val (.ref b), .val (.int 1), .val (.int 2), .val (.ref r50), .val (.ref b), .val (.int 2), .val (.int 1), .val (.int u)]) rfl ?_
        refine g_goto X59 hx hby dc17_121 (pc0 := 121) (pc' := 49) rfl (by decide) (by decide) ?_
        refine g_iload X59 hx hby dc17_49 rfl ?_
        refine g_iload X59 hx hby dc17_51 rfl ?_
        refine g_icmpNo X59 hx hby dc17_53 (tlt (by decide)).2.1 ?_
        refine g_aload X59 hx hby dc17_56 rfl rfl ?_
        refine g_iload X59 hx hby dc17_58 rfl ?_
        have ne_b_r50 : b ≠ r50 := Nat.ne_of_lt (Nat.lt_of_lt_of_le EB.lt z_r50)
        have f61 := ((f52.other W56 ne_b_r50).other W59 ne_b_r50)
        have ov62 := f61
        obtain ⟨cl62, Ar62, q62, S62, M62, H62, G62⟩ := ov62
        have hin62 : ¬ ((1 : Int32) < 0 ∨ cl62.slots.size ≤ ((1 : Int32)).toNatClampNeg) := inb_of S62 ⟨by decide, by decide⟩
        have hat62 : cl62.slots[((1 : Int32)).toNatClampNeg]? = some (.int v) := Has.at H62 hin62 rfl
        refine Go.st (X59.baloadBytes hx (j := (1 : Int32)) (v := (.int v)) (by rw [e59]; exact Ar62.1) (State.isArrayOf_alike hZ.alike Ar62.2.1) Ar62.2.2 hin62 hat62 (g := (mkF mi 60 #[.val (.int 0), .val (.ref b), .val (.int 1), .val (.int 2), .val (.ref r50), .val (.ref b), .val (.int 2), .val (.int 1), .val (.int u)] [(.int 1), (.ref b)])) rfl rfl (hb hby dc17_60)) ?_
        refine g_istore X59 hx hby dc17_61 (l' := #[.val (.int 0), .val (.ref b), .val (.int 1), .val (.int 2), .val (.ref r50), .val (.ref b), .val (.int 2), .val (.int 1), .val (.int v)]) rfl ?_
        refine g_iload X59 hx hby dc17_63 rfl ?_
        refine g_ifYes X59 hx hby dc17_65 ((if0 _ _).trans (flt hv).2.1) (pc0 := 65) (pc' := 109) rfl (by decide) (by decide) ?_
        refine g_aload X59 hx hby dc17_109 rfl rfl ?_
        refine g_iloadN X59 hx hby dc17_111 rfl ?_
        refine g_iinc X59 hx hby dc17_112 rfl (x' := 3) rfl (l' := #[.val (.int 0), .val (.ref b), .val (.int 1), .val (.int 3), .val (.ref r50), .val (.ref b), .val (.int 2), .val (.int 1), .val (.int v)]) rfl ?_
        refine g_iload X59 hx hby dc17_115 rfl ?_
        have ov63 := V59
        obtain ⟨cl63, Ar63, q63, S63, M63, H63, G63⟩ := ov63
        have hin63 : ¬ ((2 : Int32) < 0 ∨ cl63.slots.size ≤ ((2 : Int32)).toNatClampNeg) := inb_of S63 ⟨by decide, by decide⟩
        obtain ⟨T64, h64, X64, e64, W64, st64⟩ := stB X59 hx hZ e59 Ar63 (j := (2 : Int32)) hin63 (g := (mkF mi 117 #[.val (.int 0), .val (.ref b), .val (.int 1), .val (.int 3), .val (.ref r50), .val (.ref b), .val (.int 2), .val (.int 1), .val (.int v)] [(.int v), (.int 2), (.ref r50)])) rfl rfl (hb hby dc17_117)
        have Zs65 : n0 ≤ h64.size := Nat.le_trans Zs60 (Keep.of_wr W64).1
        have KC65 : Keep h0 h64 [] := KC60.wr W64 (Or.inr sz_r50)
        have N65 := Fr.snoc X64 N60 g_r50
        have V64 : Arv Z h64 r50 kr50 .byte (4 : Int32) [(.int (((192 : Int32) ||| ((u &&& (255 : Int32)) >>> ((6 : Int32) &&& 31))).toInt8.toInt32)), (.int (((128 : Int32) ||| (u &&& (63 : Int32))).toInt8.toInt32)), (.int (v.toInt8.toInt32)), (.int 0)] (.int (0 : Int32)) := Arv.set Ar63 q63 S63 M63 H63 G63 (fits_nar_byte _) W64 2 rfl (Nat.le_of_ble_eq_true rfl)
        rw [hv8] at V64
        refine Go.st st64 ?_
        refine g_iinc X64 hx hby dc17_118 rfl (x' := 2) rfl (l' := #[.val (.int 0), .val (.ref b), .val (.int 1), .val (.int 3), .val (.ref r50), .val (.ref b), .val (.int 2), .val (.int 2), .val (.int v)]) rfl ?_
        refine g_goto X64 hx hby dc17_121 (pc0 := 121) (pc' := 49) rfl (by decide) (by decide) ?_
        refine g_iload X64 hx hby dc17_49 rfl ?_
        refine g_iload X64 hx hby dc17_51 rfl ?_
        refine g_icmpYes X64 hx hby dc17_53 (flt (by decide)).2.1 (pc0 := 53) (pc' := 124) rfl (by decide) (by decide) ?_
        refine g_iloadN X64 hx hby dc17_124 rfl ?_
        refine g_aload X64 hx hby dc17_125 rfl rfl ?_
        have ov66 := V64
        obtain ⟨cl66, Ar66, q66, S66, M66, H66, G66⟩ := ov66
        refine Go.st (X64.arraylength hx (by rw [e64]; exact Ar66.1) (State.isArrayOf_alike hZ.alike Ar66.2.1) (g := (mkF mi 127 #[.val (.int 0), .val (.ref b), .val (.int 1), .val (.int 3), .val (.ref r50), .val (.ref b), .val (.int 2), .val (.int 2), .val (.int v)] [(.ref r50), (.int 3)])) rfl rfl (hb hby dc17_127)) ?_
        rw [len_of S66 M66]
        refine g_icmpYes X64 hx hby dc17_128 (feq (by decide)).2 (pc0 := 128) (pc' := 134) rfl (by decide) (by decide) ?_
        refine g_aload X64 hx hby dc17_134 rfl rfl ?_
        show Go _ _ _ (T64.setTop (mkF mi 136 #[.val (.int 0), .val (.ref b), .val (.int 1), .val (.int 3), .val (.ref r50), .val (.ref b), .val (.int 2), .val (.int 2), .val (.int v)] [(.ref r50)])) _
        refine g_iloadN X64 hx hby dc17_136 rfl ?_
        obtain ⟨_, _, ⟨T67, L67, k67, n67⟩, -, X67, ⟨Lc67, hQ67, l67, y67, z67⟩, st67⟩ := Jvm.LawKit.callS X64 hx (y := (⟨"java/util/Arrays", "copyOf", "([BI)[B"⟩ : MethodName)) hown (mvT hZ (hw _ (own_m 134 rfl))) (mvT hZ (hw _ (own_m 135 rfl))) (mvT hZ (hw _ (own_m 136 rfl))) (mvT hZ (hw _ (own_m 137 rfl))) (by decide) (backOf (W := 0) (rmCC l Z a0 hw [] r50 kr50 (((192 : Int32) ||| ((u &&& (255 : Int32)) >>> ((6 : Int32) &&& 31))).toInt8.toInt32) (((128 : Int32) ||| (u &&& (63 : Int32))).toInt8.toInt32) v (0 : Int32) h64 n0 Zs65 V64) hZ (hw _ (own_m 137 rfl)) (hw _ (own_m 136 rfl)) (by decide) (by decide)) (g := (mkF mi 137 #[.val (.int 0), .val (.ref b), .val (.int 1), .val (.int 3), .val (.ref r50), .val (.ref b), .val (.int 2), .val (.int 2), .val (.int v)] [(.int 3), (.ref r50)])) rfl (by rw [hml]; rfl) (argsL := [(.ref r50), (.int 3)]) (rest := []) (lenOf pd_14 rfl) rfl (by show 2 * 0 + _ ≤ _; exact Nat.le_of_eq rfl) (hb hby dc17_137) (fun _ _ => ⟨rfl, e64, (by decide : 1 + 1 ≤ _), (by decide : 4 + 3 ≤ _)⟩)
        dsimp only [Pt.U, Pt.locs, Pt.cells, Pt.slots] at X67 l67 y67 z67 st67 hQ67
        subst l67 y67 z67
        have X67 := own_cs X67 (cells' := 2) (slots' := 7) rfl rfl
        obtain ⟨h67, e67⟩ : ∃ z, T67.heap = z := ⟨_, rfl⟩
        rw [e67] at hQ67
        obtain ⟨r67, kr67, rfl, N67q, K67, z_r67, g_r67, V_r67, E_r67⟩ := hQ67
        have N67 := Fr.app N65 N67q
        have Zs68 : n0 ≤ h67.size := Nat.le_trans Zs65 K67.1
        have KC68 : Keep h0 h67 [] := KC65.trans K67 all0
        have sz_r67 : h0.size ≤ r67 := Nat.le_trans KC65.1 z_r67
        refine Go.st st67 ?_
        obtain ⟨fs, hr, hrun, hended, hW, hsame⟩ := X67.leave (v := some (.ref r67)) (fun h => by rw [Bd.returns] at h; cases h) (BodyLoose.notSynchronized Bd)
        refine ⟨_, _, ?_, hP _ _ ⟨hrun, hended, _, _, rfl, ?_, ⟨_, rfl⟩, hW, hsame.mono (by decide) (by decide)⟩⟩
        · exact retOut X67 hx Bd.returns rfl (Or.inr (Or.inr (Or.inr (Or.inr ⟨rfl, rfl, rfl⟩)))) (hb hby dc17_140) hr
        · show ∃ (r : Addr) (kr : ClassId), (some (.ref r67) : Option Value) = some (.ref r) ∧ Fr n0 _ ∧ Keep h0 T67.heap [] ∧ h0.size ≤ r ∧ n0 ≤ r ∧ Arv Z T67.heap r kr .byte (eN ln u v) ((eL ln u v).map Value.int) (.int (0 : Int32)) ∧ Exa Z T67.heap r "[B"
          rw [e67]
          have hE : eL ln u v = [(ec1 u), (ec2 u), v] := by rw [hN, eL2, enP hu, enN hv] <;> rfl
          exact ⟨r67, kr67, rfl, N67, KC68, sz_r67, g_r67, (by rw [eN, hE]; exact V_r67), E_r67⟩
    · skip
      by_cases hv : v < (0 : Int32)
      · skip
        rw [show fHN2 u v = (1 : Int32) from by simp [fHN2, fCP2, hu, hv]]
        show Go _ _ _ (T26.setTop (mkF mi 18 #[.val (.int 0), .val (.ref b), .val (.int 1), .unset, .unset, .unset, .unset, .unset, .unset] [(.int 1)])) _
        refine g_ifYes X26 hx hby dc17_18 ((if0 _ _).trans (feq (by decide)).2) (pc0 := 18) (pc' := 29) rfl (by decide) (by decide) ?_
        refine g_iconst X26 hx hby dc17_29 (v := 0) rfl ?_
        refine g_istoreN X26 hx hby dc17_30 (l' := #[.val (.int 0), .val (.ref b), .val (.int 1), .val (.int 0), .unset, .unset, .unset, .unset, .unset]) rfl ?_
        refine g_aloadN X26 hx hby dc17_31 rfl rfl ?_
        have ov69 := A1
        obtain ⟨cl69, Ar69, q69, S69, M69, H69, G69⟩ := ov69
        refine Go.st (X26.arraylength hx (by rw [e26]; exact Ar69.1) (State.isArrayOf_alike hZ.alike Ar69.2.1) (g := (mkF mi 32 #[.val (.int 0), .val (.ref b), .val (.int 1), .val (.int 0), .unset, .unset, .unset, .unset, .unset] [(.ref b)])) rfl rfl (hb hby dc17_32)) ?_
        rw [len_of S69 M69]
        obtain ⟨_, _, ⟨T70, L70, k70, n70⟩, -, X70, ⟨Lc70, hQ70, l70, y70, z70⟩, st70⟩ := Jvm.LawKit.callS X26 hx (y := (⟨"java/lang/StringUTF16", "newBytesFor", "(I)[B"⟩ : MethodName)) hown (mvT hZ (hw _ (own_m 127 rfl))) (mvT hZ (hw _ (own_m 128 rfl))) (mvT hZ (hw _ (own_m 105 rfl))) (mvT hZ (hw _ (own_m 129 rfl))) (by decide) (backOf (W := 0) (rmNF2 l Z a0 hw [] h0 n0 Z0) hZ (hw _ (own_m 129 rfl)) (hw _ (own_m 105 rfl)) (by decide) (by decide)) (g := (mkF mi 33 #[.val (.int 0), .val (.ref b), .val (.int 1), .val (.int 0), .unset, .unset, .unset, .unset, .unset] [(.int 2)])) rfl (by rw [hml]; rfl) (argsL := [(.int 2)]) (rest := []) (lenOf pd_13 rfl) rfl (by show 2 * 0 + _ ≤ _; exact Nat.le_of_eq rfl) (hb hby dc17_33) (fun _ _ => ⟨rfl, e26, (by decide : 0 + 1 ≤ _), (by decide : 0 + 4 ≤ _)⟩)
        dsimp only [Pt.U, Pt.locs, Pt.cells, Pt.slots] at X70 l70 y70 z70 st70 hQ70
        subst l70 y70 z70
        have X70 := own_cs X70 (cells' := 1) (slots' := 4) rfl rfl
        obtain ⟨h70, e70⟩ : ∃ z, T70.heap = z := ⟨_, rfl⟩
        rw [e70] at hQ70
        obtain ⟨r70, kr70, rfl, N70q, K70, z_r70, g_r70, V_r70, E_r70⟩ := hQ70
        have N70 := Fr.app N26 N70q
        have Zs71 : n0 ≤ h70.size := Nat.le_trans Z0 K70.1
        have KC71 : Keep h0 h70 [] := (Keep.refl h0 []).trans K70 all0
        have sz_r70 : h0.size ≤ r70 := Nat.le_trans (Keep.refl h0 []).1 z_r70
        refine Go.st st70 ?_
        refine g_astore X70 hx hby dc17_36 rfl (l' := #[.val (.int 0), .val (.ref b), .val (.int 1), .val (.int 0), .val (.ref r70), .unset, .unset, .unset, .unset]) rfl ?_
        refine g_aloadN X70 hx hby dc17_38 rfl rfl ?_
        refine g_astore X70 hx hby dc17_39 rfl (l' := #[.val (.int 0), .val (.ref b), .val (.int 1), .val (.int 0), .val (.ref r70), .val (.ref b), .unset, .unset, .unset]) rfl ?_
        refine g_aload X70 hx hby dc17_41 rfl rfl ?_
        have f72 := (A1.keep K70 nin0)
        have ov73 := f72
        obtain ⟨cl73, Ar73, q73, S73, M73, H73, G73⟩ := ov73
        refine Go.st (X70.arraylength hx (by rw [e70]; exact Ar73.1) (State.isArrayOf_alike hZ.alike Ar73.2.1) (g := (mkF mi 43 #[.val (.int 0), .val (.ref b), .val (.int 1), .val (.int 0), .val (.ref r70), .val (.ref b), .unset, .unset, .unset] [(.ref b)])) rfl rfl (hb hby dc17_43)) ?_
        rw [len_of S73 M73]
        refine g_istore X70 hx hby dc17_44 (l' := #[.val (.int 0), .val (.ref b), .val (.int 1), .val (.int 0), .val (.ref r70), .val (.ref b), .val (.int 2), .unset, .unset]) rfl ?_
        refine g_iconst X70 hx hby dc17_46 (v := 0) rfl ?_
        refine g_istore X70 hx hby dc17_47 (l' := #[.val (.int 0), .val (.ref b), .val (.int 1), .val (.int 0), .val (.ref r70), .val (.ref b), .val (.int 2), .val (.int 0), .unset]) rfl ?_
        refine g_iload X70 hx hby dc17_49 rfl ?_
        refine g_iload X70 hx hby dc17_51 rfl ?_
        refine g_icmpNo X70 hx hby dc17_53 (tlt (by decide)).2.1 ?_
        refine g_aload X70 hx hby dc17_56 rfl rfl ?_
        refine g_iload X70 hx hby dc17_58 rfl ?_
        have ov74 := f72
        obtain ⟨cl74, Ar74, q74, S74, M74, H74, G74⟩ := ov74
        have hin74 : ¬ ((0 : Int32) < 0 ∨ cl74.slots.size ≤ ((0 : Int32)).toNatClampNeg) := inb_of S74 ⟨by decide, by decide⟩
        have hat74 : cl74.slots[((0 : Int32)).toNatClampNeg]? = some (.int u) := Has.at H74 hin74 rfl
        refine Go.st (X70.baloadBytes hx (j := (0 : Int32)) (v := (.int u)) (by rw [e70]; exact Ar74.1) (State.isArrayOf_alike hZ.alike Ar74.2.1) Ar74.2.2 hin74 hat74 (g := (mkF mi 60 #[.val (.int 0), .val (.ref b), .val (.int 1), .val (.int 0), .val (.ref r70), .val (.ref b), .val (.int 2), .val (.int 0), .unset] [(.int 0), (.ref b)])) rfl rfl (hb hby dc17_60)) ?_
        refine g_istore X70 hx hby dc17_61 (l' := #[.val (.int 0), .val (.ref b), .val (.int 1), .val (.int 0), .val (.ref r70), .val (.ref b), .val (.int 2), .val (.int 0), .val (.int u)]) rfl ?_
        refine g_iload X70 hx hby dc17_63 rfl ?_
        refine g_ifYes X70 hx hby dc17_65 ((if0 _ _).trans (flt hu).2.1) (pc0 := 65) (pc' := 109) rfl (by decide) (by decide) ?_
        refine g_aload X70 hx hby dc17_109 rfl rfl ?_
        refine g_iloadN X70 hx hby dc17_111 rfl ?_
        refine g_iinc X70 hx hby dc17_112 rfl (x' := 1) rfl (l' := #[.val (.int 0), .val (.ref b), .val (.int 1), .val (.int 1), .val (.ref r70), .val (.ref b), .val (.int 2), .val (.int 0), .val (.int u)]) rfl ?_
        refine g_iload X70 hx hby dc17_115 rfl ?_
        have ov75 := V_r70
        obtain ⟨cl75, Ar75, q75, S75, M75, H75, G75⟩ := ov75
        have hin75 : ¬ ((0 : Int32) < 0 ∨ cl75.slots.size ≤ ((0 : Int32)).toNatClampNeg) := inb_of S75 ⟨by decide, by decide⟩
        obtain ⟨T76, h76, X76, e76, W76, st76⟩ := stB X70 hx hZ e70 Ar75 (j := (0 : Int32)) hin75 (g := (mkF mi 117 #[.val (.int 0), .val (.ref b), .val (.int 1), .val (.int 1), .val (.ref r70), .val (.ref b), .val (.int 2), .val (.int 0), .val (.int u)] [(.int u), (.int 0), (.ref r70)])) rfl rfl (hb hby dc17_117)
        have Zs77 : n0 ≤ h76.size := Nat.le_trans Zs71 (Keep.of_wr W76).1
        have KC77 : Keep h0 h76 [] := KC71.wr W76 (Or.inr sz_r70)
        have N77 := Fr.snoc X76 N70 g_r70
        have V76 : Arv Z h76 r70 kr70 .byte (4 : Int32) [(.int (u.toInt8.toInt32)), (.int 0), (.int 0), (.int 0)] (.int (0 : Int32)) := Arv.set Ar75 q75 S75 M75 H75 G75 (fits_nar_byte _) W76 0 rfl (Nat.le_of_ble_eq_true rfl)
        rw [hu8] at V76
        refine Go.st st76 ?_
        refine g_iinc X76 hx hby dc17_118 rfl (x' := 1) rfl (l' := #[.val (.int 0), .val (.ref b), .val (.int 1), .val (.int 1), .val (.ref r70), .val (.ref b), .val (.int 2), .val (.int 1), .val (.int u)]) rfl ?_
        show Go _ _ _ (T76.setTop (mkF mi 121 #[.val (.int 0), .val (.ref b), .val (.int 1), .val (.int 1), .val (.ref r70), .val (.ref b), .val (.int 2), .val (.int 1), .val (.int u)] [])) _
        refine g_goto X76 hx hby dc17_121 (pc0 := 121) (pc' := 49) rfl (by decide) (by decide) ?_
        refine g_iload X76 hx hby dc17_49 rfl ?_
        refine g_iload X76 hx hby dc17_51 rfl ?_
        refine g_icmpNo X76 hx hby dc17_53 (tlt (by decide)).2.1 ?_
        refine g_aload X76 hx hby dc17_56 rfl rfl ?_
        refine g_iload X76 hx hby dc17_58 rfl ?_
        have ne_b_r70 : b ≠ r70 := Nat.ne_of_lt (Nat.lt_of_lt_of_le EB.lt z_r70)
        have f78 := (f72.other W76 ne_b_r70)
        have ov79 := f78
        obtain ⟨cl79, Ar79, q79, S79, M79, H79, G79⟩ := ov79
        have hin79 : ¬ ((1 : Int32) < 0 ∨ cl79.slots.size ≤ ((1 : Int32)).toNatClampNeg) := inb_of S79 ⟨by decide, by decide⟩
        have hat79 : cl79.slots[((1 : Int32)).toNatClampNeg]? = some (.int v) := Has.at H79 hin79 rfl
        refine Go.st (X76.baloadBytes hx (j := (1 : Int32)) (v := (.int v)) (by rw [e76]; exact Ar79.1) (State.isArrayOf_alike hZ.alike Ar79.2.1) Ar79.2.2 hin79 hat79 (g := (mkF mi 60 #[.val (.int 0), .val (.ref b), .val (.int 1), .val (.int 1), .val (.ref r70), .val (.ref b), .val (.int 2), .val (.int 1), .val (.int u)] [(.int 1), (.ref b)])) rfl rfl (hb hby dc17_60)) ?_
        refine g_istore X76 hx hby dc17_61 (l' := #[.val (.int 0), .val (.ref b), .val (.int 1), .val (.int 1), .val (.ref r70), .val (.ref b), .val (.int 2), .val (.int 1), .val (.int v)]) rfl ?_
        refine g_iload X76 hx hby dc17_63 rfl ?_
        refine g_ifNo X76 hx hby dc17_65 ((if0 _ _).trans (tlt hv).2.1) ?_
        refine g_aload X76 hx hby dc17_68 rfl rfl ?_
        refine g_iloadN X76 hx hby dc17_70 rfl ?_
        refine g_iinc X76 hx hby dc17_71 rfl (x' := 2) rfl (l' := #[.val (.int 0), .val (.ref b), .val (.int 1), .val (.int 2), .val (.ref r70), .val (.ref b), .val (.int 2), .val (.int 1), .val (.int v)]) rfl ?_
        refine g_sipush X76 hx hby dc17_74 (v := 192) rfl ?_
        refine g_iload X76 hx hby dc17_77 rfl ?_
        refine g_sipush X76 hx hby dc17_79 (v := 255) rfl ?_
        refine g_iand X76 hx hby dc17_82 rfl ?_
        refine g_bipush X76 hx hby dc17_83 (v := 6) rfl ?_
        refine Go.s (XS.ishr X76.here hx rfl (hb hby dc17_85) rfl) ?_
        refine g_ior X76 hx hby dc17_86 rfl ?_
        refine g_i2b X76 hx hby dc17_87 rfl ?_
        have ov80 := V76
        obtain ⟨cl80, Ar80, q80, S80, M80, H80, G80⟩ := ov80
        have hin80 : ¬ ((1 : Int32) < 0 ∨ cl80.slots.size ≤ ((1 : Int32)).toNatClampNeg) := inb_of S80 ⟨by decide, by decide⟩
        obtain ⟨T81, h81, X81, e81, W81, st81⟩ := stB X76 hx hZ e76 Ar80 (j := (1 : Int32)) hin80 (g := (mkF mi 88 #[.val (.int 0), .val (.ref b), .val (.int 1), .val (.int 2), .val (.ref r70), .val (.ref b), .val (.int 2), .val (.int 1), .val (.int v)] [(.int (((192 : Int32) ||| ((v &&& (255 : Int32)) >>> ((6 : Int32) &&& 31))).toInt8.toInt32)), (.int 1), (.ref r70)])) rfl rfl (hb hby dc17_88)
        have Zs82 : n0 ≤ h81.size := Nat.le_trans Zs77 (Keep.of_wr W81).1
        have KC82 : Keep h0 h81 [] := KC77.wr W81 (Or.inr sz_r70)
        have N82 := Fr.snoc X81 N77 g_r70
        have V81 : Arv Z h81 r70 kr70 .byte (4 : Int32) [(.int u), (.int ((((192 : Int32) ||| ((v &&& (255 : Int32)) >>> ((6 : Int32) &&& 31))).toInt8.toInt32).toInt8.toInt32)), (.int 0), (.int 0)] (.int (0 : Int32)) := Arv.set Ar80 q80 S80 M80 H80 G80 (fits_nar_byte _) W81 1 rfl (Nat.le_of_ble_eq_true rfl)
        rw [own_bb] at V81
        refine Go.st st81 ?_
        refine g_aload X81 hx hby dc17_89 rfl rfl ?_
        show Go _ _ _ (T81.setTop (mkF mi 91 #[.val (.int 0), .val (.ref b), .val (.int 1), .val (.int 2), .val (.ref r70), .val (.ref b), .val (.int 2), .val (.int 1), .val (.int v)] [(.ref r70)])) _
        refine g_iloadN X81 hx hby dc17_91 rfl ?_
        refine g_iinc X81 hx hby dc17_92 rfl (x' := 3) rfl (l' := #[.val (.int 0), .val (.ref b), .val (.int 1), .val (.int 3), .val (.ref r70), .val (.ref b), .val (.int 2), .val (.int 1), .val (.int v)]) rfl ?_
        refine g_sipush X81 hx hby dc17_95 (v := 128) rfl ?_
        refine g_iload X81 hx hby dc17_98 rfl ?_
        refine g_bipush X81 hx hby dc17_100 (v := 63) rfl ?_
        refine g_iand X81 hx hby dc17_102 rfl ?_
        refine g_ior X81 hx hby dc17_103 rfl ?_
        refine g_i2b X81 hx hby dc17_104 rfl ?_
        have ov83 := V81
        obtain ⟨cl83, Ar83, q83, S83, M83, H83, G83⟩ := ov83
        have hin83 : ¬ ((2 : Int32) < 0 ∨ cl83.slots.size ≤ ((2 : Int32)).toNatClampNeg) := inb_of S83 ⟨by decide, by decide⟩
        obtain ⟨T84, h84, X84, e84, W84, st84⟩ := stB X81 hx hZ e81 Ar83 (j := (2 : Int32)) hin83 (g := (mkF mi 105 #[.val (.int 0), .val (.ref b), .val (.int 1), .val (.int 3), .val (.ref r70), .val (.ref b), .val (.int 2), .val (.int 1), .val (.int v)] [(.int (((128 : Int32) ||| (v &&& (63 : Int32))).toInt8.toInt32)), (.int 2), (.ref r70)])) rfl rfl (hb hby dc17_105)
        have Zs85 : n0 ≤ h84.size := Nat.le_trans Zs82 (Keep.of_wr W84).1
        have KC85 : Keep h0 h84 [] := KC82.wr W84 (Or.inr sz_r70)
        have N85 := Fr.snoc X84 N82 g_r70
        have V84 : Arv Z h84 r70 kr70 .byte (4 : Int32) [(.int u), (.int (((192 : Int32) ||| ((v &&& (255 : Int32)) >>> ((6 : Int32) &&& 31))).toInt8.toInt32)), (.int ((((128 : Int32) ||| (v &&& (63 : Int32))).toInt8.toInt32).toInt8.toInt32)), (.int 0)] (.int (0 : Int32)) := Arv.set Ar83 q83 S83 M83 H83 G83 (fits_nar_byte _) W84 2 rfl (Nat.le_of_ble_eq_true rfl)
        rw [own_bb] at V84
        refine Go.st st84 ?_
        refine g_goto X84 hx hby dc17_106 (pc0 := 106) (pc' := 118) rfl (by decide) (by decide) ?_
        refine g_iinc X84 hx hby dc17_118 rfl (x' := 2) rfl (l' := #[.val (.int 0), .val (.ref b), .val (.int 1), .val (.int 3), .val (.ref r70), .val (.ref b), .val (.int 2), .val (.int 2), .val (.int v)]) rfl ?_
        refine g_goto X84 hx hby dc17_121 (pc0 := 121) (pc' := 49) rfl (by decide) (by decide) ?_
        refine g_iload X84 hx hby dc17_49 rfl ?_
        refine g_iload X84 hx hby dc17_51 rfl ?_
        refine g_icmpYes X84 hx hby dc17_53 (flt (by decide)).2.1 (pc0 := 53) (pc' := 124) rfl (by decide) (by decide) ?_
        refine g_iloadN X84 hx hby dc17_124 rfl ?_
        refine g_aload X84 hx hby dc17_125 rfl rfl ?_
        have ov86 := V84
        obtain ⟨cl86, Ar86, q86, S86, M86, H86, G86⟩ := ov86
        refine Go.st (X84.arraylength hx (by rw [e84]; exact Ar86.1) (State.isArrayOf_alike hZ.alike Ar86.2.1) (g := (mkF mi 127 #[.val (.int 0), .val (.ref b), .val (.int 1), .val (.int 3), .val (.ref r70), .val (.ref b), .val (.int 2), .val (.int 2), .val (.int v)] [(.ref r70), (.int 3)])) rfl rfl (hb hby dc17_127)) ?_
        rw [len_of S86 M86]
        refine g_icmpYes X84 hx hby dc17_128 (feq (by decide)).2 (pc0 := 128) (pc' := 134) rfl (by decide) (by decide) ?_
        refine g_aload X84 hx hby dc17_134 rfl rfl ?_
        refine g_iloadN X84 hx hby dc17_136 rfl ?_
        obtain ⟨_, _, ⟨T87, L87, k87, n87⟩, -, X87, ⟨Lc87, hQ87, l87, y87, z87⟩, st87⟩ := Jvm.LawKit.callS X84 hx (y := (⟨"java/util/Arrays", "copyOf", "([BI)[B"⟩ : MethodName)) hown (mvT hZ (hw _ (own_m 134 rfl))) (mvT hZ (hw _ (own_m 135 rfl))) (mvT hZ (hw _ (own_m 136 rfl))) (mvT hZ (hw _ (own_m 137 rfl))) (by decide) (backOf (W := 0) (rmCC l Z a0 hw [] r70 kr70 u (((192 : Int32) ||| ((v &&& (255 : Int32)) >>> ((6 : Int32) &&& 31))).toInt8.toInt32) (((128 : Int32) ||| (v &&& (63 : Int32))).toInt8.toInt32) (0 : Int32) h84 n0 Zs85 V84) hZ (hw _ (own_m 137 rfl)) (hw _ (own_m 136 rfl)) (by decide) (by decide)) (g := (mkF mi 137 #[.val (.int 0), .val (.ref b), .val (.int 1), .val (.int 3), .val (.ref r70), .val (.ref b), .val (.int 2), .val (.int 2), .val (.int v)] [(.int 3), (.ref r70)])) rfl (by rw [hml]; rfl) (argsL := [(.ref r70), (.int 3)]) (rest := []) (lenOf pd_14 rfl) rfl (by show 2 * 0 + _ ≤ _; exact Nat.le_of_eq rfl) (hb hby dc17_137) (fun _ _ => ⟨rfl, e84, (by decide : 1 + 1 ≤ _), (by decide : 4 + 3 ≤ _)⟩)
        dsimp only [Pt.U, Pt.locs, Pt.cells, Pt.slots] at X87 l87 y87 z87 st87 hQ87
        subst l87 y87 z87
        have X87 := own_cs X87 (cells' := 2) (slots' := 7) rfl rfl
        obtain ⟨h87, e87⟩ : ∃ z, T87.heap = z := ⟨_, rfl⟩
        rw [e87] at hQ87
        obtain ⟨r87, kr87, rfl, N87q, K87, z_r87, g_r87, V_r87, E_r87⟩ := hQ87
        have N87 := Fr.app N85 N87q
        have Zs88 : n0 ≤ h87.size := Nat.le_trans Zs85 K87.1
        have KC88 : Keep h0 h87 [] := KC85.trans K87 all0
        have sz_r87 : h0.size ≤ r87 := Nat.le_trans KC85.1 z_r87
        refine Go.st st87 ?_
        obtain ⟨fs, hr, hrun, hended, hW, hsame⟩ := X87.leave (v := some (.ref r87)) (fun h => by rw [Bd.returns] at h; cases h) (BodyLoose.notSynchronized Bd)
        refine ⟨_, _, ?_, hP _ _ ⟨hrun, hended, _, _, rfl, ?_, ⟨_, rfl⟩, hW, hsame.mono (by decide) (by decide)⟩⟩
        · exact retOut X87 hx Bd.returns rfl (Or.inr (Or.inr (Or.inr (Or.inr ⟨rfl, rfl, rfl⟩)))) (hb hby dc17_140) hr
        · show ∃ (r : Addr) (kr : ClassId), (some (.ref r87) : Option Value) = some (.ref r) ∧ Fr n0 _ ∧ Keep h0 T87.heap [] ∧ h0.size ≤ r ∧ n0 ≤ r ∧ Arv Z T87.heap r kr .byte (eN ln u v) ((eL ln u v).map Value.int) (.int (0 : Int32)) ∧ Exa Z T87.heap r "[B"
          rw [e87]
          have hE : eL ln u v = [u, (ec1 v), (ec2 v)] := by rw [hN, eL2, enN hu, enP hv] <;> rfl
          exact ⟨r87, kr87, rfl, N87, KC88, sz_r87, g_r87, (by rw [eN, hE]; exact V_r87), E_r87⟩
      · skip
        rw [show fHN2 u v = (0 : Int32) from by simp [fHN2, fCP2, hu, hv]]
        show Go _ _ _ (T26.setTop (mkF mi 18 #[.val (.int 0), .val (.ref b), .val (.int 1), .unset, .unset, .unset, .unset, .unset, .unset] [(.int 0)])) _
        refine g_ifNo X26 hx hby dc17_18 ((if0 _ _).trans (teq rfl).2) ?_
        refine g_aloadN X26 hx hby dc17_21 rfl rfl ?_
        show Go _ _ _ (T26.setTop (mkF mi 22 #[.val (.int 0), .val (.ref b), .val (.int 1), .unset, .unset, .unset, .unset, .unset, .unset] [(.ref b)])) _
        obtain ⟨T89, h89, X89, e89, E89, A89, EX89, st89⟩ := cloneH X26 hx hZ hown (hw _ (own_m 82 rfl)) (hw _ (own_m 83 rfl)) (hw _ (own_m 30 rfl)) (hw _ (own_m 28 rfl)) (hw _ (own_m 84 rfl)) (hw _ (own_m 85 rfl)) e26 A1.arh EB (g := (mkF mi 22 #[.val (.int 0), .val (.ref b), .val (.int 1), .unset, .unset, .unset, .unset, .unset, .unset] [(.ref b)])) rfl (by rw [hml]; rfl) rfl (hb hby dc17_22) (by decide) (W := 0) (by show 2 * 0 + _ ≤ _; exact Nat.le_of_eq rfl) (by decide) (cap := 2) (by decide) (by decide) (by decide)
        obtain ⟨ob89, g89⟩ : ∃ z, z = h0.size := ⟨_, rfl⟩
        rw [← g89] at A89 EX89 st89
        have Zs90 : n0 ≤ h89.size := Nat.le_trans Z0 E89.1
        have KC90 : Keep h0 h89 [] := (Keep.refl h0 []).ext E89
        have g_ob89 : n0 ≤ ob89 := Nat.le_trans Z0 (Nat.le_of_eq g89.symm)
        have sz_ob89 : h0.size ≤ ob89 := Nat.le_trans (Keep.refl h0 []).1 (Nat.le_of_eq g89.symm)
        have V89 : Arv Z h89 ob89 kb .byte (2 : Int32) [(.int u), (.int v)] (.int (0 : Int32)) := A89
        refine Go.st st89 ?_
        show Go _ _ _ (T89.setTop (mkF mi 25 #[.val (.int 0), .val (.ref b), .val (.int 1), .unset, .unset, .unset, .unset, .unset, .unset] [(.ref ob89)])) _
        obtain ⟨T91, X91, e91, st91⟩ := castY X89 hx hZ hown (hw _ (own_m 86 rfl)) e89 (Ins.self EX89) (g := (mkF mi 25 #[.val (.int 0), .val (.ref b), .val (.int 1), .unset, .unset, .unset, .unset, .unset, .unset] [(.ref ob89)])) rfl rfl (hb hby dc17_25)
        refine Go.st st91 ?_
        obtain ⟨fs, hr, hrun, hended, hW, hsame⟩ := X91.leave (v := some (.ref ob89)) (fun h => by rw [Bd.returns] at h; cases h) (BodyLoose.notSynchronized Bd)
        refine ⟨_, _, ?_, hP _ _ ⟨hrun, hended, _, _, rfl, ?_, ⟨_, rfl⟩, hW, hsame.mono (by decide) (by decide)⟩⟩
        · exact retOut X91 hx Bd.returns rfl (Or.inr (Or.inr (Or.inr (Or.inr ⟨rfl, rfl, rfl⟩)))) (hb hby dc17_28) hr
        · show ∃ (r : Addr) (kr : ClassId), (some (.ref ob89) : Option Value) = some (.ref r) ∧ Fr n0 _ ∧ Keep h0 T91.heap [] ∧ h0.size ≤ r ∧ n0 ≤ r ∧ Arv Z T91.heap r kr .byte (eN ln u v) ((eL ln u v).map Value.int) (.int (0 : Int32)) ∧ Exa Z T91.heap r "[B"
          rw [e91]
          have hE : eL ln u v = [u, v] := by rw [hN, eL2, enN hu, enN hv] <;> rfl
          exact ⟨ob89, kb, rfl, N26, KC90, sz_ob89, g_ob89, (by rw [eN, hE]; exact V89), EX89⟩
theorem dc18_0 : decode jdk_42_method_18_code 0 = .ok (.aload_n 0, 1) := by decide +kernel
theorem dc18_1 : decode jdk_42_method_18_code 1 = .ok (.getstatic 86, 3) := by decide +kernel
theorem dc18_4 : decode jdk_42_method_18_code 4 = .ok (.if_acmp .ne 10, 3) := by decide +kernel
theorem dc18_7 : decode jdk_42_method_18_code 7 = .ok (.iload_n 1, 1) := by decide +kernel
theorem dc18_8 : decode jdk_42_method_18_code 8 = .ok (.aload_n 2, 1) := by decide +kernel
theorem dc18_9 : decode jdk_42_method_18_code 9 = .ok (.iconst 1, 1) := by decide +kernel
theorem dc18_10 : decode jdk_42_method_18_code 10 = .ok (.invokestatic 252, 3) := by decide +kernel
theorem pd_15 : parseMethodDescriptor "(B[BZ)[B" = some ⟨[.byte, (.array .byte), .boolean], some (.array .byte)⟩ := by decide +kernel
theorem dc18_13 : decode jdk_42_method_18_code 13 = .ok (.areturn, 1) := by decide +kernel
theorem ef_rmEn (mi : MethodId) (cs : Addr) (b : Addr) (kb : ClassId) (ln : Int32) (u : Int32) (v : Int32) : entryFrame mi #[(.ref cs), (.int 0), (.ref b)] 3 = mkF mi 0 #[.val (.ref cs), .val (.int 0), .val (.ref b)] [] := by first | (simp [entryFrame, mkF, argsToLocals, Value.category]; done) | rfl
def Q_rmEn (Z : State) (cs : Addr) (b : Addr) (kb : ClassId) (ln : Int32) (u : Int32) (v : Int32) (h0 : Heap) (n0 : Nat) (vv_ : Option Value) (hh_ : Heap) (LL_ : List Loc) : Prop := ∃ (r : Addr) (kr : ClassId), vv_ = some (.ref r) ∧ Fr n0 LL_ ∧ Keep h0 hh_ [] ∧ h0.size ≤ r ∧ n0 ≤ r ∧ Arv Z hh_ r kr .byte (eN ln u v) ((eL ln u v).map Value.int) (.int (0 : Int32)) ∧ Exa Z hh_ r "[B"
set_option maxRecDepth 65536 in
set_option maxHeartbeats 40000000 in
theorem rmEn (l : Launch) (Z : State) (a0 : Array Value) (hw : ∀ d ∈ tables_1, d.before a0 Z = true) (ws : List Jvm.Cond) (cs : Addr) (b : Addr) (kb : ClassId) (ln : Int32) (u : Int32) (v : Int32) (h0 : Heap) (n0 : Nat) (Z0 : n0 ≤ h0.size) (A0 : Arv Z h0 b kb .byte ln (bts ln u v) (.int (0 : Int32))) (EB : Exa Z h0 b "[B") (hl : ln = 0 ∨ ln = 1 ∨ ln = 2) (hu8 : u.toInt8.toInt32 = u) (hv8 : v.toInt8.toInt32 = v) (S2 : Sta Z h0 "sun/nio/cs/UTF_8" "INSTANCE" "Lsun/nio/cs/UTF_8;" (.ref cs)) :
    MetFree l (⟨"java/lang/String", "encode", "(Ljava/nio/charset/Charset;B[B)[B"⟩ : MethodName) (head1 (Jvm.Cond.code (⟨"java/lang/String", "encode", "(Ljava/nio/charset/Charset;B[B)[B"⟩ : MethodName) jdk_42_method_18_code 3 (some (.array .byte)) :: ws) ({ frames := 3, cells := 2, slots := 7, locals := 52 } : Room)) (fun aa_ U => aa_ = #[(.ref cs), (.int 0), (.ref b)] ∧ Z.Warmed39 U.vm ∧ U.heap = h0) (fun _ _ _ _ _ => True) (fun _ U oo_ UV_ => ∃ vv_ LL_, oo_ = .returned vv_ ∧ Q_rmEn Z cs b kb ln u v h0 n0 vv_ UV_.heap LL_ ∧ FrameEnd U oo_ UV_ LL_ ({ frames := 3, cells := 2, slots := 7, locals := 52 } : Room).cells ({ frames := 3, cells := 2, slots := 7, locals := 52 } : Room).slots) := by
  refine MetFree.of_bodySF (plainFor_of_name pn_1) hisR ?_
  intro pg ev si mi args below meth ci s₁ Bd hml0 hP0 hK
  obtain ⟨rfl, hZ, hh⟩ := hP0
  have hx := Bd.exec
  have hby := Bd.bytes
  have hml : ci.maxLocals = 3 := hml0
  have hown : si.vm.findClass "java/lang/String" = some mi.cls := findClass_of_methodNamed Bd.named
  have hnm := (name_of_methodNamed Bd.named Bd.method).1
  have X0 : Stand pg l ev ({ frames := 3, cells := 2, slots := 7, locals := 52 } : Room) si mi #[(.ref cs), (.int 0), (.ref b)] below meth ci s₁ [] 0 0 := Stand.of_body Bd
  have e0 : s₁.heap = h0 := by rw [← hh, Bd.state]; rfl
  have N0 := Fr.nil n0
  refine Go.start (fun P hP => ?_)
  refine Go.st (fun t_ k_ => castTop (ef_rmEn mi cs b kb ln u v) k_) (A := s₁.setTop (mkF mi 0 #[.val (.ref cs), .val (.int 0), .val (.ref b)] [])) ?_
  show Go _ _ _ (s₁.setTop (mkF mi 0 #[.val (.ref cs), .val (.int 0), .val (.ref b)] [])) _
  refine g_aloadN X0 hx hby dc18_0 rfl rfl ?_
  obtain ⟨T1, X1, e1, st1⟩ := getS2 X0 hx hZ hown (host := "") (Or.inl (hw _ (own_m 70 rfl))) Via.refl e0 S2 (g := (mkF mi 1 #[.val (.ref cs), .val (.int 0), .val (.ref b)] [(.ref cs)])) rfl (hb hby dc18_1)
  refine Go.st st1 ?_
  refine Go.st (fun t_ k_ => Jvm.RoadKit.acmp (g := (mkF mi 4 #[.val (.ref cs), .val (.int 0), .val (.ref b)] [(.ref cs), (.ref cs)])) X1 hx rfl rfl rfl (pc0 := 4) (pc' := 7) (same := true) rfl (hb hby dc18_4) rfl (decide_eq_true rfl) (by decide) (by decide) k_) ?_
  refine g_iloadN X1 hx hby dc18_7 rfl ?_
  refine g_aloadN X1 hx hby dc18_8 rfl rfl ?_
  refine g_iconst X1 hx hby dc18_9 (v := 1) rfl ?_
  obtain ⟨_, _, ⟨T2, L2, k2, n2⟩, -, X2, ⟨Lc2, hQ2, l2, y2, z2⟩, st2⟩ := Jvm.LawKit.callS X1 hx (y := (⟨"java/lang/String", "encodeUTF8", "(B[BZ)[B"⟩ : MethodName)) hown (mvT hZ (hw _ (own_m 72 rfl))) (mvT hZ (hw _ (own_m 73 rfl))) (mvT hZ (hw _ (own_m 6 rfl))) (mvT hZ (hw _ (own_m 74 rfl))) (by decide) (backOf (W := 0) (rmE8 l Z a0 hw [] b kb ln u v h0 n0 Z0 A0 EB hl hu8 hv8) hZ (hw _ (own_m 74 rfl)) (hw _ (own_m 6 rfl)) (by decide) (by decide)) (g := (mkF mi 10 #[.val (.ref cs), .val (.int 0), .val (.ref b)] [(.int 1), (.ref b), (.int 0)])) rfl (by rw [hml]; rfl) (argsL := [(.int 0), (.ref b), (.int 1)]) (rest := []) (lenOf pd_15 rfl) rfl (by show 2 * 0 + _ ≤ _; exact Nat.le_of_eq rfl) (hb hby dc18_10) (fun _ _ => ⟨rfl, e1, (by decide : 0 + 2 ≤ _), (by decide : 0 + 7 ≤ _)⟩)
  dsimp only [Pt.U, Pt.locs, Pt.cells, Pt.slots] at X2 l2 y2 z2 st2 hQ2
  subst l2 y2 z2
  have X2 := own_cs X2 (cells' := 2) (slots' := 7) rfl rfl
  obtain ⟨h2, e2⟩ : ∃ z, T2.heap = z := ⟨_, rfl⟩
  rw [e2] at hQ2
  obtain ⟨r2, kr2, rfl, N2q, K2, z_r2, g_r2, V_r2, E_r2⟩ := hQ2
  have N2 := Fr.app N0 N2q
  have Zs3 : n0 ≤ h2.size := Nat.le_trans Z0 K2.1
  have KC3 : Keep h0 h2 [] := (Keep.refl h0 []).trans K2 all0
  have sz_r2 : h0.size ≤ r2 := Nat.le_trans (Keep.refl h0 []).1 z_r2
  refine Go.st st2 ?_
  obtain ⟨fs, hr, hrun, hended, hW, hsame⟩ := X2.leave (v := some (.ref r2)) (fun h => by rw [Bd.returns] at h; cases h) (BodyLoose.notSynchronized Bd)
  refine ⟨_, _, ?_, hP _ _ ⟨hrun, hended, _, _, rfl, ?_, ⟨_, rfl⟩, hW, hsame.mono (by decide) (by decide)⟩⟩
  · exact retOut X2 hx Bd.returns rfl (Or.inr (Or.inr (Or.inr (Or.inr ⟨rfl, rfl, rfl⟩)))) (hb hby dc18_13) hr
  · show ∃ (r : Addr) (kr : ClassId), (some (.ref r2) : Option Value) = some (.ref r) ∧ Fr n0 _ ∧ Keep h0 T2.heap [] ∧ h0.size ≤ r ∧ n0 ≤ r ∧ Arv Z T2.heap r kr .byte (eN ln u v) ((eL ln u v).map Value.int) (.int (0 : Int32)) ∧ Exa Z T2.heap r "[B"
    rw [e2]
    exact ⟨r2, kr2, rfl, N2, KC3, sz_r2, g_r2, V_r2, E_r2⟩
theorem dc19_0 : decode jdk_42_method_152_code 0 = .ok (.getstatic 38, 3) := by decide +kernel
theorem dc19_3 : decode jdk_42_method_152_code 3 = .ok (.ifCond .eq 10, 3) := by decide +kernel
theorem dc19_6 : decode jdk_42_method_152_code 6 = .ok (.aload_n 0, 1) := by decide +kernel
theorem dc19_7 : decode jdk_42_method_152_code 7 = .ok (.getfield 15, 3) := by decide +kernel
theorem dc19_10 : decode jdk_42_method_152_code 10 = .ok (.goto 4, 3) := by decide +kernel
theorem dc19_14 : decode jdk_42_method_152_code 14 = .ok (.ireturn, 1) := by decide +kernel
theorem ef_rmCd (mi : MethodId) (o : Addr) (cz : Int32) : entryFrame mi #[(.ref o)] 1 = mkF mi 0 #[.val (.ref o)] [] := by first | (simp [entryFrame, mkF, argsToLocals, Value.category]; done) | rfl
def Q_rmCd (Z : State) (o : Addr) (cz : Int32) (h0 : Heap) (n0 : Nat) (vv_ : Option Value) (hh_ : Heap) (LL_ : List Loc) : Prop := vv_ = some (.int (0 : Int32)) ∧ Fr n0 LL_ ∧ hh_ = h0
set_option maxRecDepth 65536 in
set_option maxHeartbeats 40000000 in
theorem rmCd (l : Launch) (Z : State) (a0 : Array Value) (hw : ∀ d ∈ tables_1, d.before a0 Z = true) (ws : List Jvm.Cond) (o : Addr) (cz : Int32) (h0 : Heap) (n0 : Nat) (Z0 : n0 ≤ h0.size) (F1 : Fld Z h0 o "java/lang/String" "coder" "B" (.int (0 : Int32))) (SC : Sta Z h0 "java/lang/String" "COMPACT_STRINGS" "Z" (.int cz)) (hcz : ¬ (cz = (0 : Int32))) :
    MetFree l (⟨"java/lang/String", "coder", "()B"⟩ : MethodName) (head1 (Jvm.Cond.code (⟨"java/lang/String", "coder", "()B"⟩ : MethodName) jdk_42_method_152_code 1 (some .byte) :: ws) ({ frames := 0, cells := 0, slots := 0, locals := 0 } : Room)) (fun aa_ U => aa_ = #[(.ref o)] ∧ Z.Warmed39 U.vm ∧ U.heap = h0) (fun _ _ _ _ _ => True) (fun _ U oo_ UV_ => ∃ vv_ LL_, oo_ = .returned vv_ ∧ Q_rmCd Z o cz h0 n0 vv_ UV_.heap LL_ ∧ FrameEnd U oo_ UV_ LL_ ({ frames := 0, cells := 0, slots := 0, locals := 0 } : Room).cells ({ frames := 0, cells := 0, slots := 0, locals := 0 } : Room).slots) := by
  refine MetFree.of_bodySF (plainFor_of_name pn_1) hisR ?_
  intro pg ev si mi args below meth ci s₁ Bd hml0 hP0 hK
  obtain ⟨rfl, hZ, hh⟩ := hP0
  have hx := Bd.exec
  have hby := Bd.bytes
  have hml : ci.maxLocals = 1 := hml0
  have hown : si.vm.findClass "java/lang/String" = some mi.cls := findClass_of_methodNamed Bd.named
  have hnm := (name_of_methodNamed Bd.named Bd.method).1
  have X0 : Stand pg l ev ({ frames := 0, cells := 0, slots := 0, locals := 0 } : Room) si mi #[(.ref o)] below meth ci s₁ [] 0 0 := Stand.of_body Bd
  have e0 : s₁.heap = h0 := by rw [← hh, Bd.state]; rfl
  have N0 := Fr.nil n0
  refine Go.start (fun P hP => ?_)
  refine Go.st (fun t_ k_ => castTop (ef_rmCd mi o cz) k_) (A := s₁.setTop (mkF mi 0 #[.val (.ref o)] [])) ?_
  show Go _ _ _ (s₁.setTop (mkF mi 0 #[.val (.ref o)] [])) _
  obtain ⟨T1, X1, e1, st1⟩ := getS2 X0 hx hZ hown (host := "") (Or.inl (hw _ (own_m 64 rfl))) Via.refl e0 SC (g := (mkF mi 0 #[.val (.ref o)] [])) rfl (hb hby dc19_0)
  refine Go.st st1 ?_
  refine g_ifNo X1 hx hby dc19_3 ((if0 _ _).trans (feq hcz).1) ?_
  refine g_aloadN X1 hx hby dc19_6 rfl rfl ?_
  obtain ⟨T2, X2, e2, st2⟩ := getF X1 hx hZ hown (host := "") (Or.inl (hw _ (own_m 65 rfl))) Via.refl e1 F1 (g := (mkF mi 7 #[.val (.ref o)] [(.ref o)])) rfl rfl (hb hby dc19_7)
  refine Go.st st2 ?_
  refine g_goto X2 hx hby dc19_10 (pc0 := 10) (pc' := 14) rfl (by decide) (by decide) ?_
  obtain ⟨fs, hr, hrun, hended, hW, hsame⟩ := X2.leave (v := some (.int 0)) (fun h => by rw [Bd.returns] at h; cases h) (BodyLoose.notSynchronized Bd)
  refine ⟨_, _, ?_, hP _ _ ⟨hrun, hended, _, _, rfl, ?_, ⟨_, rfl⟩, hW, hsame.mono (by decide) (by decide)⟩⟩
  · exact retN X2 hx (t := .byte) Bd.returns (by simp) (hb hby dc19_14) hr
  · show (some (.int 0) : Option Value) = some (.int (0 : Int32)) ∧ Fr n0 _ ∧ T2.heap = h0
    rw [e2]
    exact ⟨rfl, N0, rfl⟩
theorem dc20_0 : decode jdk_42_method_64_code 0 = .ok (.aload_n 1, 1) := by decide +kernel
theorem dc20_1 : decode jdk_42_method_64_code 1 = .ok (.ifnonnull 11, 3) := by decide +kernel
theorem dc20_12 : decode jdk_42_method_64_code 12 = .ok (.aload_n 1, 1) := by decide +kernel
theorem dc20_13 : decode jdk_42_method_64_code 13 = .ok (.aload_n 0, 1) := by decide +kernel
theorem dc20_14 : decode jdk_42_method_64_code 14 = .ok (.invokevirtual 335, 3) := by decide +kernel
theorem pd_16 : parseMethodDescriptor "()B" = some ⟨[], some .byte⟩ := by decide +kernel
theorem dc20_17 : decode jdk_42_method_64_code 17 = .ok (.aload_n 0, 1) := by decide +kernel
theorem dc20_18 : decode jdk_42_method_64_code 18 = .ok (.getfield 9, 3) := by decide +kernel
theorem dc20_21 : decode jdk_42_method_64_code 21 = .ok (.invokestatic 535, 3) := by decide +kernel
theorem pd_17 : parseMethodDescriptor "(Ljava/nio/charset/Charset;B[B)[B" = some ⟨[(.object "java/nio/charset/Charset"), .byte, (.array .byte)], some (.array .byte)⟩ := by decide +kernel
theorem dc20_24 : decode jdk_42_method_64_code 24 = .ok (.areturn, 1) := by decide +kernel
theorem ef_rmGB (mi : MethodId) (o : Addr) (cs : Addr) (b : Addr) (kb : ClassId) (ln : Int32) (u : Int32) (v : Int32) (cz : Int32) : entryFrame mi #[(.ref o), (.ref cs)] 2 = mkF mi 0 #[.val (.ref o), .val (.ref cs)] [] := by first | (simp [entryFrame, mkF, argsToLocals, Value.category]; done) | rfl
def Q_rmGB (Z : State) (o : Addr) (cs : Addr) (b : Addr) (kb : ClassId) (ln : Int32) (u : Int32) (v : Int32) (cz : Int32) (h0 : Heap) (n0 : Nat) (vv_ : Option Value) (hh_ : Heap) (LL_ : List Loc) : Prop := ∃ (r : Addr) (kr : ClassId), vv_ = some (.ref r) ∧ Fr n0 LL_ ∧ Keep h0 hh_ [] ∧ h0.size ≤ r ∧ n0 ≤ r ∧ Arv Z hh_ r kr .byte (eN ln u v) ((eL ln u v).map Value.int) (.int (0 : Int32)) ∧ Exa Z hh_ r "[B"
set_option maxRecDepth 65536 in
set_option maxHeartbeats 40000000 in
theorem rmGB (l : Launch) (Z : State) (a0 : Array Value) (hw : ∀ d ∈ tables_1, d.before a0 Z = true) (ws : List Jvm.Cond) (o : Addr) (cs : Addr) (b : Addr) (kb : ClassId) (ln : Int32) (u : Int32) (v : Int32) (cz : Int32) (h0 : Heap) (n0 : Nat) (Z0 : n0 ≤ h0.size) (E0 : Exa Z h0 o "java/lang/String") (F1 : Fld Z h0 o "java/lang/String" "coder" "B" (.int (0 : Int32))) (F2 : Fld Z h0 o "java/lang/String" "value" "[B" (.ref b)) (A0 : Arv Z h0 b kb .byte ln (bts ln u v) (.int (0 : Int32))) (EB : Exa Z h0 b "[B") (hl : ln = 0 ∨ ln = 1 ∨ ln = 2) (hu8 : u.toInt8.toInt32 = u) (hv8 : v.toInt8.toInt32 = v) (S2 : Sta Z h0 "sun/nio/cs/UTF_8" "INSTANCE" "Lsun/nio/cs/UTF_8;" (.ref cs)) (SC : Sta Z h0 "java/lang/String" "COMPACT_STRINGS" "Z" (.int cz)) (hcz : ¬ (cz = (0 : Int32))) :
    MetFree l (⟨"java/lang/String", "getBytes", "(Ljava/nio/charset/Charset;)[B"⟩ : MethodName) (head1 (Jvm.Cond.code (⟨"java/lang/String", "getBytes", "(Ljava/nio/charset/Charset;)[B"⟩ : MethodName) jdk_42_method_64_code 2 (some (.array .byte)) :: ws) ({ frames := 4, cells := 2, slots := 7, locals := 66 } : Room)) (fun aa_ U => aa_ = #[(.ref o), (.ref cs)] ∧ Z.Warmed39 U.vm ∧ U.heap = h0) (fun _ _ _ _ _ => True) (fun _ U oo_ UV_ => ∃ vv_ LL_, oo_ = .returned vv_ ∧ Q_rmGB Z o cs b kb ln u v cz h0 n0 vv_ UV_.heap LL_ ∧ FrameEnd U oo_ UV_ LL_ ({ frames := 4, cells := 2, slots := 7, locals := 66 } : Room).cells ({ frames := 4, cells := 2, slots := 7, locals := 66 } : Room).slots) := by
  refine MetFree.of_bodySF (plainFor_of_name pn_1) hisR ?_
  intro pg ev si mi args below meth ci s₁ Bd hml0 hP0 hK
  obtain ⟨rfl, hZ, hh⟩ := hP0
  have hx := Bd.exec
  have hby := Bd.bytes
  have hml : ci.maxLocals = 2 := hml0
  have hown : si.vm.findClass "java/lang/String" = some mi.cls := findClass_of_methodNamed Bd.named
  have hnm := (name_of_methodNamed Bd.named Bd.method).1
  have X0 : Stand pg l ev ({ frames := 4, cells := 2, slots := 7, locals := 66 } : Room) si mi #[(.ref o), (.ref cs)] below meth ci s₁ [] 0 0 := Stand.of_body Bd
  have e0 : s₁.heap = h0 := by rw [← hh, Bd.state]; rfl
  have N0 := Fr.nil n0
  refine Go.start (fun P hP => ?_)
  refine Go.st (fun t_ k_ => castTop (ef_rmGB mi o cs b kb ln u v cz) k_) (A := s₁.setTop (mkF mi 0 #[.val (.ref o), .val (.ref cs)] [])) ?_
  show Go _ _ _ (s₁.setTop (mkF mi 0 #[.val (.ref o), .val (.ref cs)] [])) _
  refine g_aloadN X0 hx hby dc20_0 rfl rfl ?_
  refine Go.st (fun t_ k_ => XS.ifnonnullYes X0.here hx rfl (pc0 := 1) (pc' := 12) rfl (hb hby dc20_1) rfl (by decide) (by decide) k_) ?_
  refine g_aloadN X0 hx hby dc20_12 rfl rfl ?_
  refine g_aloadN X0 hx hby dc20_13 rfl rfl ?_
  obtain ⟨cq1, kq1, q1a, q1b, q1c⟩ := isOf hZ e0 E0
  obtain ⟨_, _, ⟨T1, L1, k1, n1⟩, -, X1, ⟨Lc1, hQ1, l1, y1, z1⟩, st1⟩ := X0.virtualBack hx (y := (⟨"java/lang/String", "coder", "()B"⟩ : MethodName)) (z := (⟨"java/lang/String", "coder", "()B"⟩ : MethodName)) hown (mvT hZ (hw _ (own_m 59 rfl))) (mvT hZ (hw _ (own_m 60 rfl))) (notFace_of_selects (args := #[]) (mvT hZ (hw _ (own_m 62 rfl)))) (mvT hZ (hw _ (own_m 62 rfl))) (mvT hZ (hw _ (own_m 61 rfl))) (by decide) (backOf (W := 1) (rmCd l Z a0 hw [] o cz h0 n0 Z0 F1 SC hcz) hZ (hw _ (own_m 63 rfl)) (hw _ (own_m 6 rfl)) (by decide) (by decide)) q1a q1c (g := (mkF mi 14 #[.val (.ref o), .val (.ref cs)] [(.ref o), (.ref cs)])) rfl (by rw [hml]; rfl) (Steps.refl _) (argsL := []) (rest := [(.ref cs)]) (lenOf pd_16 rfl) rfl (by show 2 * 0 + _ ≤ _; exact Nat.le_of_eq rfl) (hb hby dc20_14) (fun _ _ => ⟨rfl, e0, (by decide : 0 + 0 ≤ _), (by decide : 0 + 0 ≤ _)⟩)
  dsimp only [Pt.U, Pt.locs, Pt.cells, Pt.slots] at X1 l1 y1 z1 st1 hQ1
  subst l1 y1 z1
  have X1 := own_cs X1 (cells' := 0) (slots' := 0) rfl rfl
  obtain ⟨rfl, N1q, e1⟩ := hQ1
  have N1 := Fr.app N0 N1q
  refine Go.tr st1 ?_
  refine g_aloadN X1 hx hby dc20_17 rfl rfl ?_
  obtain ⟨T2, X2, e2, st2⟩ := getF X1 hx hZ hown (host := "") (Or.inl (hw _ (own_m 66 rfl))) Via.refl e1 F2 (g := (mkF mi 18 #[.val (.ref o), .val (.ref cs)] [(.ref o), (.int 0), (.ref cs)])) rfl rfl (hb hby dc20_18)
  refine Go.st st2 ?_
  obtain ⟨_, _, ⟨T3, L3, k3, n3⟩, -, X3, ⟨Lc3, hQ3, l3, y3, z3⟩, st3⟩ := Jvm.LawKit.callS X2 hx (y := (⟨"java/lang/String", "encode", "(Ljava/nio/charset/Charset;B[B)[B"⟩ : MethodName)) hown (mvT hZ (hw _ (own_m 67 rfl))) (mvT hZ (hw _ (own_m 68 rfl))) (mvT hZ (hw _ (own_m 6 rfl))) (mvT hZ (hw _ (own_m 69 rfl))) (by decide) (backOf (W := 0) (rmEn l Z a0 hw [] cs b kb ln u v h0 n0 Z0 A0 EB hl hu8 hv8 S2) hZ (hw _ (own_m 69 rfl)) (hw _ (own_m 6 rfl)) (by decide) (by decide)) (g := (mkF mi 21 #[.val (.ref o), .val (.ref cs)] [(.ref b), (.int 0), (.ref cs)])) rfl (by rw [hml]; rfl) (argsL := [(.ref cs), (.int 0), (.ref b)]) (rest := []) (lenOf pd_17 rfl) rfl (by show 2 * 0 + _ ≤ _; exact Nat.le_of_eq rfl) (hb hby dc20_21) (fun _ _ => ⟨rfl, e2, (by decide : 0 + 2 ≤ _), (by decide : 0 + 7 ≤ _)⟩)
  dsimp only [Pt.U, Pt.locs, Pt.cells, Pt.slots] at X3 l3 y3 z3 st3 hQ3
  subst l3 y3 z3
  have X3 := own_cs X3 (cells' := 2) (slots' := 7) rfl rfl
  obtain ⟨h3, e3⟩ : ∃ z, T3.heap = z := ⟨_, rfl⟩
  rw [e3] at hQ3
  obtain ⟨r3, kr3, rfl, N3q, K3, z_r3, g_r3, V_r3, E_r3⟩ := hQ3
  have N3 := Fr.app N1 N3q
  have Zs4 : n0 ≤ h3.size := Nat.le_trans Z0 K3.1
  have KC4 : Keep h0 h3 [] := (Keep.refl h0 []).trans K3 all0
  have sz_r3 : h0.size ≤ r3 := Nat.le_trans (Keep.refl h0 []).1 z_r3
  refine Go.st st3 ?_
  obtain ⟨fs, hr, hrun, hended, hW, hsame⟩ := X3.leave (v := some (.ref r3)) (fun h => by rw [Bd.returns] at h; cases h) (BodyLoose.notSynchronized Bd)
  refine ⟨_, _, ?_, hP _ _ ⟨hrun, hended, _, _, rfl, ?_, ⟨_, rfl⟩, hW, hsame.mono (by decide) (by decide)⟩⟩
  · exact retOut X3 hx Bd.returns rfl (Or.inr (Or.inr (Or.inr (Or.inr ⟨rfl, rfl, rfl⟩)))) (hb hby dc20_24) hr
  · show ∃ (r : Addr) (kr : ClassId), (some (.ref r3) : Option Value) = some (.ref r) ∧ Fr n0 _ ∧ Keep h0 T3.heap [] ∧ h0.size ≤ r ∧ n0 ≤ r ∧ Arv Z T3.heap r kr .byte (eN ln u v) ((eL ln u v).map Value.int) (.int (0 : Int32)) ∧ Exa Z T3.heap r "[B"
    rw [e3]
    exact ⟨r3, kr3, rfl, N3, KC4, sz_r3, g_r3, V_r3, E_r3⟩
theorem own_enl (u : Int32) : (enc1 u).length = 1 ∨ (enc1 u).length = 2 := by
  unfold enc1; split
  · exact Or.inr rfl
  · exact Or.inl rfl
theorem own_eLl {ln u v : Int32} (hl : ln = 0 ∨ ln = 1 ∨ ln = 2) : (eL ln u v).length ≤ 4 := by
  rcases hl with rfl | rfl | rfl
  · rw [eL0]; decide
  · rw [eL1]; have := own_enl u; omega
  · rw [eL2, List.length_append]; have := own_enl u; have := own_enl v; omega
theorem own_ofN {n : Nat} (h : n ≤ 100) : (Int32.ofNat n).toInt = n := Int32.toInt_ofNat_small (by omega)
theorem own_z0 : (0 : Int32).toInt = 0 := rfl
theorem own_nn {i : Int32} (h : ¬ i < 0) : i.toInt = i.toNatClampNeg := by
  rw [Int32.lt_iff_toInt_lt, own_z0] at h
  simp only [Int32.toNatClampNeg]; omega
theorem own_ofN0 {n : Nat} (h : n ≤ 100) : ¬ (Int32.ofNat n) < 0 := by rw [Int32.lt_iff_toInt_lt, own_z0, own_ofN h]; omega
theorem own_ofNn {n : Nat} (h : n ≤ 100) : (Int32.ofNat n).toNatClampNeg = n := by
  have e := own_ofN h
  simp only [Int32.toNatClampNeg]; omega
theorem own_i1 {i N : Int32} (hi : ¬ i < 0) (h : i.toNatClampNeg < N.toNatClampNeg) : i < N ∧ ¬ (i + (1 : Int32)) < 0 ∧ (i + (1 : Int32)).toNatClampNeg = i.toNatClampNeg + 1 := by
  have e := own_nn hi
  have q := c_iadd i 1
  have l1 : (1 : Int32).toInt = 1 := rfl
  have b1 := Int32.le_toInt (i + 1)
  have b2 := Int32.toInt_lt (i + 1)
  have b3 := Int32.toInt_lt N
  simp only [Int32.toNatClampNeg] at h ⊢
  simp only [Int32.lt_iff_toInt_lt, own_z0]
  omega
theorem own_iN {i N : Int32} (hi : ¬ i < 0) (hN : ¬ N < 0) (h : i.toNatClampNeg = N.toNatClampNeg) : i = N := by
  apply Int32.toInt_inj.mp; rw [own_nn hi, own_nn hN, h]
theorem own_maxI (a b : Int32) : a.toInt ≤ (fMax a b).toInt ∧ b.toInt ≤ (fMax a b).toInt ∧ ((fMax a b).toInt = a.toInt ∨ (fMax a b).toInt = b.toInt) := by
  unfold fMax; split <;> rename_i q <;> rw [Int32.lt_iff_toInt_lt] at q <;> omega
def nL (g : Nat → List Int32) (i : Nat) : Int32 := Int32.ofNat (g i).length
def idl (g : Nat → List Int32) (len : Int32) : Nat → List Value
  | 0 => []
  | k + 1 => if nL g k = len then idl g len k ++ [.int (Int32.ofNat k)] else idl g len k
def cI (g : Nat → List Int32) (len : Int32) (k : Nat) : Int32 := Int32.ofNat (idl g len k).length
theorem idl_le (g : Nat → List Int32) (len : Int32) : ∀ k, (idl g len k).length ≤ k
  | 0 => Nat.le_refl _
  | k + 1 => by
    have := idl_le g len k
    unfold idl; split
    · rw [List.length_append]; simp; omega
    · omega
theorem idl_mono (g : Nat → List Int32) (len : Int32) (k : Nat) : ∀ d, (idl g len k).length ≤ (idl g len (k + d)).length
  | 0 => Nat.le_refl _
  | d + 1 => by
    have := idl_mono g len k d
    show _ ≤ (idl g len (k + d + 1)).length
    rw [idl]; split
    · rw [List.length_append]; omega
    · exact this
theorem cI_s (g : Nat → List Int32) (len : Int32) (k : Nat) : cI g len (k + 1) = cI g len k + (if nL g k = len then (1 : Int32) else (0 : Int32)) := by
  unfold cI; rw [idl]; split
  · rw [List.length_append]; exact Int32.ofNat_add _ _
  · exact (Int32.add_zero _).symm
theorem cI_b (g : Nat → List Int32) (len : Int32) {k : Nat} (h : k ≤ 3) : ¬ cI g len k < 0 ∧ (cI g len k).toNatClampNeg ≤ 3 ∧ (cI g len k).toNatClampNeg = (idl g len k).length := by
  have := idl_le g len k
  refine ⟨own_ofN0 (by omega), ?_, own_ofNn (by omega)⟩
  unfold cI; rw [own_ofNn (by omega)]; omega
theorem cI_at {g : Nat → List Int32} {len : Int32} {k N : Nat} (h : nL g k = len) (hk : k < N) (hN : N ≤ 3) : ¬ cI g len k < 0 ∧ cI g len k < cI g len N ∧ (cI g len k).toNatClampNeg = (idl g len k).length := by
  obtain ⟨d, rfl⟩ : ∃ d, N = k + 1 + d := ⟨N - (k + 1), by omega⟩
  have h1 := idl_mono g len (k + 1) d
  have h2 := idl_le g len (k + 1 + d)
  have h3 : (idl g len (k + 1)).length = (idl g len k).length + 1 := by rw [idl, if_pos h, List.length_append]; rfl
  refine ⟨own_ofN0 (by omega), ?_, own_ofNn (by omega)⟩
  rw [Int32.lt_iff_toInt_lt]; unfold cI; rw [own_ofN (by omega), own_ofN (by omega)]; omega
/-- the array of encodings, its first k entries filled -/
def EncA (Z : State) (h : Heap) (B : Nat) (o en : Addr) (ken : ClassId) (N : Int32) (hse : List (Int32 × Value)) (g : Nat → List Int32) (k : Nat) : Prop :=
  Arh Z h en ken (.array .byte) N hse [] .null ∧ en < B ∧ en ≠ o ∧ ∀ i, i < k → ∃ (re : Addr) (kr : ClassId), getH hse [] .null i = .ref re ∧ re < B ∧ re ≠ o ∧ Arv Z h re kr .byte (nL g i) ((g i).map Value.int) (.int (0 : Int32))
theorem EncA.keep {Z : State} {h h' : Heap} {B : Nat} {o en : Addr} {ken : ClassId} {N : Int32} {hse : List (Int32 × Value)} {g : Nat → List Int32} {k : Nat} {ws : List Addr} (F : EncA Z h B o en ken N hse g k) (K : Keep h h' ws) (q : ∀ x ∈ ws, B ≤ x ∨ x = o) : EncA Z h' B o en ken N hse g k := by
  obtain ⟨A, b1, b2, G⟩ := F
  have nin : ∀ y : Addr, y < B → y ≠ o → y ∉ ws := fun y h1 h2 hm => by rcases q y hm with z | z; exact absurd h1 (Nat.not_lt.mpr z); exact h2 z
  refine ⟨A.keep K (nin _ b1 b2), b1, b2, fun i hi => ?_⟩
  obtain ⟨re, kr, c1, c2, c3, c4⟩ := G i hi
  exact ⟨re, kr, c1, c2, c3, c4.keep K (nin _ c2 c3)⟩
theorem own_one {P : Addr → Prop} {a : Addr} (h : P a) : ∀ x ∈ [a], P x := fun x hx => by cases List.mem_singleton.mp hx; exact h
theorem own_snoc {Z : State} {h h' : Heap} {a : Addr} {k : ClassId} {ty : FieldType} {z j : Int32} {vs : List Value} {dv v : Value} {c : Cell} (A : Arr Z h a c ty) (q1 : c.cls = k) (S : c.slots.size = z.toNatClampNeg) (q3 : ¬ z < 0) (H : Has c vs dv) (G : ∀ i, i < c.slots.size → fits ty (vs.getD i dv) = true) (hv : fits ty v = true) (W : Wr h h' a j.toNatClampNeg v) (hj : j.toNatClampNeg = vs.length) : Arv Z h' a k ty z (vs ++ [v]) dv := by
  have e : ∀ i, (vs ++ [dv]).getD i dv = vs.getD i dv := fun i => by
    rw [List.getD_eq_getElem?_getD, List.getD_eq_getElem?_getD]
    by_cases q : i < vs.length
    · rw [List.getElem?_append_left q]
    · rw [List.getElem?_append_right (Nat.le_of_not_lt q), List.getElem?_eq_none (l := vs) (Nat.le_of_not_lt q)]
      cases hk : i - vs.length with
      | zero => simp
      | succ m => simp
  have r := Arv.set A q1 S q3 (vs := vs ++ [dv]) (fun i hi => by rw [e]; exact H i hi) (fun i hi => by rw [e]; exact G i hi) hv W vs.length hj (by simp)
  have e2 : (vs ++ [dv]).set vs.length v = vs ++ [v] := by rw [List.set_append_right _ _ (Nat.le_refl _)]; simp
  rw [e2] at r; exact r
theorem dc21_101 : decode prog_163_method_1_code 101 = .ok (.iload 7, 2) := by decide +kernel
theorem dc21_103 : decode prog_163_method_1_code 103 = .ok (.iload 6, 2) := by decide +kernel
theorem dc21_105 : decode prog_163_method_1_code 105 = .ok (.if_icmp .ge 33, 3) := by decide +kernel
theorem dc21_108 : decode prog_163_method_1_code 108 = .ok (.aload 5, 2) := by decide +kernel
theorem dc21_110 : decode prog_163_method_1_code 110 = .ok (.iload 7, 2) := by decide +kernel
theorem dc21_112 : decode prog_163_method_1_code 112 = .ok (.aaload, 1) := by decide +kernel
theorem dc21_113 : decode prog_163_method_1_code 113 = .ok (.astore 8, 2) := by decide +kernel
theorem dc21_115 : decode prog_163_method_1_code 115 = .ok (.iload 4, 2) := by decide +kernel
theorem dc21_117 : decode prog_163_method_1_code 117 = .ok (.aload 8, 2) := by decide +kernel
theorem dc21_119 : decode prog_163_method_1_code 119 = .ok (.arraylength, 1) := by decide +kernel
theorem dc21_120 : decode prog_163_method_1_code 120 = .ok (.iload_n 3, 1) := by decide +kernel
theorem dc21_121 : decode prog_163_method_1_code 121 = .ok (.if_icmp .ne 7, 3) := by decide +kernel
theorem dc21_124 : decode prog_163_method_1_code 124 = .ok (.iconst 1, 1) := by decide +kernel
theorem dc21_125 : decode prog_163_method_1_code 125 = .ok (.goto 4, 3) := by decide +kernel
theorem dc21_128 : decode prog_163_method_1_code 128 = .ok (.iconst 0, 1) := by decide +kernel
theorem dc21_129 : decode prog_163_method_1_code 129 = .ok (.iadd, 1) := by decide +kernel
theorem dc21_130 : decode prog_163_method_1_code 130 = .ok (.istore 4, 2) := by decide +kernel
theorem dc21_132 : decode prog_163_method_1_code 132 = .ok (.iinc 7 1, 3) := by decide +kernel
theorem dc21_135 : decode prog_163_method_1_code 135 = .ok (.goto (-34), 3) := by decide +kernel
set_option maxRecDepth 65536 in
set_option maxHeartbeats 40000000 in
theorem own_cntu (l : Launch) (Z : State) (a0 : Array Value) (hw : ∀ d ∈ tables_1, d.before a0 Z = true) {pg : Program} {ev : Env} {si : State} {mi : MethodId} {args : Array Value} {below : List Frame} {meth : Method} {ci : Code} {R : Room} {s₁ : State} {locs : List Loc} {cells slots : Nat} (X0 : Stand pg l ev R si mi args below meth ci s₁ locs cells slots) (hx : pg.tables.exec = Jvm.exec) (hby : ci.code = prog_163_method_1_code) (hml : ci.maxLocals = 9) (hZ : Z.Warmed39 si.vm) (hown : si.vm.findClass "com/example/crossbook/crossbook/venue/JsonFields$Texts" = some mi.cls) {P : State → Outcome → Prop} (o : Addr) (ta : Addr) (mx : Int32) (len : Int32) (c : Int32) (en : Addr) (N : Int32) (i : Int32) (re : Addr) (ken : ClassId) (hse : List (Int32 × Value)) (kr : ClassId) (m : Int32) (vl : List Value) (h0 : Heap) (n0 : Nat) (Z0 : n0 ≤ h0.size) (e0 : s₁.heap = h0) (N0 : Fr n0 locs) (A0 : Arh Z h0 en ken (.array .byte) N hse [] .null) (hi : ¬ i < 0) (hiN : i < N) (hve : getH hse [] .null i.toNatClampNeg = .ref re) (R0 : Arv Z h0 re kr .byte m vl (.int (0 : Int32))) (K : Go pg.tables ev below (s₁.setTop (mkF mi 101 #[.val (.ref o), .val (.ref ta), .val (.int mx), .val (.int len), .val (.int (c + (if m = len then (1 : Int32) else (0 : Int32)))), .val (.ref en), .val (.int N), .val (.int (i + (1 : Int32))), .val (.ref re)] [])) P) :
    Go pg.tables ev below (s₁.setTop (mkF mi 101 #[.val (.ref o), .val (.ref ta), .val (.int mx), .val (.int len), .val (.int c), .val (.ref en), .val (.int N), .val (.int i), .unset] [])) P := by
  refine g_iload X0 hx hby dc21_101 rfl ?_
  refine g_iload X0 hx hby dc21_103 rfl ?_
  refine g_icmpNo X0 hx hby dc21_105 (tlt hiN).2.1 ?_
  refine g_aload X0 hx hby dc21_108 rfl rfl ?_
  refine g_iload X0 hx hby dc21_110 rfl ?_
  have ov1 := A0
  obtain ⟨cl1, Ar1, q1, S1, M1, H1, G1⟩ := ov1
  have hin1 : ¬ (i < 0 ∨ cl1.slots.size ≤ (i).toNatClampNeg) := inb_of S1 ⟨hi, hiN⟩
  have hat1 : cl1.slots[(i).toNatClampNeg]? = some (.ref re) := atH H1 hin1 hve
  refine Go.st (X0.aaload hx (j := i) (v := (.ref re)) (by rw [e0]; exact Ar1.1) (State.isArrayOf_alike hZ.alike Ar1.2.1) rfl Ar1.2.2 hin1 hat1 (g := (mkF mi 112 #[.val (.ref o), .val (.ref ta), .val (.int mx), .val (.int len), .val (.int c), .val (.ref en), .val (.int N), .val (.int i), .unset] [(.int i), (.ref en)])) rfl rfl (hb hby dc21_112)) ?_
  refine g_astore X0 hx hby dc21_113 rfl (l' := #[.val (.ref o), .val (.ref ta), .val (.int mx), .val (.int len), .val (.int c), .val (.ref en), .val (.int N), .val (.int i), .val (.ref re)]) rfl ?_
  refine g_iload X0 hx hby dc21_115 rfl ?_
  refine g_aload X0 hx hby dc21_117 rfl rfl ?_
  have ov2 := R0
  obtain ⟨cl2, Ar2, q2, S2, M2, H2, G2⟩ := ov2
  refine Go.st (X0.arraylength hx (by rw [e0]; exact Ar2.1) (State.isArrayOf_alike hZ.alike Ar2.2.1) (g := (mkF mi 119 #[.val (.ref o), .val (.ref ta), .val (.int mx), .val (.int len), .val (.int c), .val (.ref en), .val (.int N), .val (.int i), .val (.ref re)] [(.ref re), (.int c)])) rfl rfl (hb hby dc21_119)) ?_
  rw [len_of S2 M2]
  refine g_iloadN X0 hx hby dc21_120 rfl ?_
  have dm3 : ∀ t_, Steps pg.tables ev below (s₁.setTop (mkF mi 129 #[.val (.ref o), .val (.ref ta), .val (.int mx), .val (.int len), .val (.int c), .val (.ref en), .val (.int N), .val (.int i), .val (.ref re)] [(.int (if m = len then (1 : Int32) else (0 : Int32))), (.int c)])) t_ → Steps pg.tables ev below (s₁.setTop (mkF mi 121 #[.val (.ref o), .val (.ref ta), .val (.int mx), .val (.int len), .val (.int c), .val (.ref en), .val (.int N), .val (.int i), .val (.ref re)] [(.int len), (.int m), (.int c)])) t_ := by
    intro t_ k_
    by_cases hd : m = len
    · refine XS.icmpNo X0.here hx rfl (hb hby dc21_121) rfl (teq hd).2 ?_
      refine XS.iconst X0.here hx rfl (hb hby dc21_124) ?_
      refine XS.goto X0.here hx rfl (pc0 := 125) (pc' := 129) rfl (hb hby dc21_125) (by decide) (by decide) ?_
      show Steps _ _ _ (s₁.setTop (mkF mi 129 #[.val (.ref o), .val (.ref ta), .val (.int mx), .val (.int len), .val (.int c), .val (.ref en), .val (.int N), .val (.int i), .val (.ref re)] [(.int 1), (.int c)])) t_
      exact own_cst (if_pos hd) k_
    · refine XS.icmpYes X0.here hx rfl (pc0 := 121) (pc' := 128) rfl (hb hby dc21_121) rfl (feq hd).2 (by decide) (by decide) ?_
      refine XS.iconst X0.here hx rfl (hb hby dc21_128) ?_
      show Steps _ _ _ (s₁.setTop (mkF mi 129 #[.val (.ref o), .val (.ref ta), .val (.int mx), .val (.int len), .val (.int c), .val (.ref en), .val (.int N), .val (.int i), .val (.ref re)] [(.int 0), (.int c)])) t_
      exact own_cst (if_neg hd) k_
  refine Go.st dm3 ?_
  show Go _ _ _ (s₁.setTop (mkF mi 129 #[.val (.ref o), .val (.ref ta), .val (.int mx), .val (.int len), .val (.int c), .val (.ref en), .val (.int N), .val (.int i), .val (.ref re)] [(.int (if m = len then (1 : Int32) else (0 : Int32))), (.int c)])) _
  refine g_iadd X0 hx hby dc21_129 rfl ?_
  refine g_istore X0 hx hby dc21_130 (l' := #[.val (.ref o), .val (.ref ta), .val (.int mx), .val (.int len), .val (.int (c + (if m = len then (1 : Int32) else (0 : Int32)))), .val (.ref en), .val (.int N), .val (.int i), .val (.ref re)]) rfl ?_
  refine g_iinc X0 hx hby dc21_132 rfl rfl (l' := #[.val (.ref o), .val (.ref ta), .val (.int mx), .val (.int len), .val (.int (c + (if m = len then (1 : Int32) else (0 : Int32)))), .val (.ref en), .val (.int N), .val (.int (i + (1 : Int32))), .val (.ref re)]) rfl ?_
  refine g_goto X0 hx hby dc21_135 (pc0 := 135) (pc' := 101) rfl (by decide) (by decide) ?_
  show Go _ _ _ (s₁.setTop (mkF mi 101 #[.val (.ref o), .val (.ref ta), .val (.int mx), .val (.int len), .val (.int (c + (if m = len then (1 : Int32) else (0 : Int32)))), .val (.ref en), .val (.int N), .val (.int (i + (1 : Int32))), .val (.ref re)] [])) _
  exact K
set_option maxRecDepth 65536 in
set_option maxHeartbeats 40000000 in
theorem own_cntr (l : Launch) (Z : State) (a0 : Array Value) (hw : ∀ d ∈ tables_1, d.before a0 Z = true) {pg : Program} {ev : Env} {si : State} {mi : MethodId} {args : Array Value} {below : List Frame} {meth : Method} {ci : Code} {R : Room} {s₁ : State} {locs : List Loc} {cells slots : Nat} (X0 : Stand pg l ev R si mi args below meth ci s₁ locs cells slots) (hx : pg.tables.exec = Jvm.exec) (hby : ci.code = prog_163_method_1_code) (hml : ci.maxLocals = 9) (hZ : Z.Warmed39 si.vm) (hown : si.vm.findClass "com/example/crossbook/crossbook/venue/JsonFields$Texts" = some mi.cls) {P : State → Outcome → Prop} (o : Addr) (ta : Addr) (mx : Int32) (len : Int32) (c : Int32) (en : Addr) (N : Int32) (i : Int32) (re : Addr) (ken : ClassId) (hse : List (Int32 × Value)) (kr : ClassId) (m : Int32) (vl : List Value) (p8 : Addr) (h0 : Heap) (n0 : Nat) (Z0 : n0 ≤ h0.size) (e0 : s₁.heap = h0) (N0 : Fr n0 locs) (A0 : Arh Z h0 en ken (.array .byte) N hse [] .null) (hi : ¬ i < 0) (hiN : i < N) (hve : getH hse [] .null i.toNatClampNeg = .ref re) (R0 : Arv Z h0 re kr .byte m vl (.int (0 : Int32))) (K : Go pg.tables ev below (s₁.setTop (mkF mi 101 #[.val (.ref o), .val (.ref ta), .val (.int mx), .val (.int len), .val (.int (c + (if m = len then (1 : Int32) else (0 : Int32)))), .val (.ref en), .val (.int N), .val (.int (i + (1 : Int32))), .val (.ref re)] [])) P) :
    Go pg.tables ev below (s₁.setTop (mkF mi 101 #[.val (.ref o), .val (.ref ta), .val (.int mx), .val (.int len), .val (.int c), .val (.ref en), .val (.int N), .val (.int i), .val (.ref p8)] [])) P := by
  refine g_iload X0 hx hby dc21_101 rfl ?_
  refine g_iload X0 hx hby dc21_103 rfl ?_
  refine g_icmpNo X0 hx hby dc21_105 (tlt hiN).2.1 ?_
  refine g_aload X0 hx hby dc21_108 rfl rfl ?_
  refine g_iload X0 hx hby dc21_110 rfl ?_
  have ov1 := A0
  obtain ⟨cl1, Ar1, q1, S1, M1, H1, G1⟩ := ov1
  have hin1 : ¬ (i < 0 ∨ cl1.slots.size ≤ (i).toNatClampNeg) := inb_of S1 ⟨hi, hiN⟩
  have hat1 : cl1.slots[(i).toNatClampNeg]? = some (.ref re) := atH H1 hin1 hve
  refine Go.st (X0.aaload hx (j := i) (v := (.ref re)) (by rw [e0]; exact Ar1.1) (State.isArrayOf_alike hZ.alike Ar1.2.1) rfl Ar1.2.2 hin1 hat1 (g := (mkF mi 112 #[.val (.ref o), .val (.ref ta), .val (.int mx), .val (.int len), .val (.int c), .val (.ref en), .val (.int N), .val (.int i), .val (.ref p8)] [(.int i), (.ref en)])) rfl rfl (hb hby dc21_112)) ?_
  refine g_astore X0 hx hby dc21_113 rfl (l' := #[.val (.ref o), .val (.ref ta), .val (.int mx), .val (.int len), .val (.int c), .val (.ref en), .val (.int N), .val (.int i), .val (.ref re)]) rfl ?_
  refine g_iload X0 hx hby dc21_115 rfl ?_
  refine g_aload X0 hx hby dc21_117 rfl rfl ?_
  have ov2 := R0
  obtain ⟨cl2, Ar2, q2, S2, M2, H2, G2⟩ := ov2
  refine Go.st (X0.arraylength hx (by rw [e0]; exact Ar2.1) (State.isArrayOf_alike hZ.alike Ar2.2.1) (g := (mkF mi 119 #[.val (.ref o), .val (.ref ta), .val (.int mx), .val (.int len), .val (.int c), .val (.ref en), .val (.int N), .val (.int i), .val (.ref re)] [(.ref re), (.int c)])) rfl rfl (hb hby dc21_119)) ?_
  rw [len_of S2 M2]
  refine g_iloadN X0 hx hby dc21_120 rfl ?_
  have dm3 : ∀ t_, Steps pg.tables ev below (s₁.setTop (mkF mi 129 #[.val (.ref o), .val (.ref ta), .val (.int mx), .val (.int len), .val (.int c), .val (.ref en), .val (.int N), .val (.int i), .val (.ref re)] [(.int (if m = len then (1 : Int32) else (0 : Int32))), (.int c)])) t_ → Steps pg.tables ev below (s₁.setTop (mkF mi 121 #[.val (.ref o), .val (.ref ta), .val (.int mx), .val (.int len), .val (.int c), .val (.ref en), .val (.int N), .val (.int i), .val (.ref re)] [(.int len), (.int m), (.int c)])) t_ := by
    intro t_ k_
    by_cases hd : m = len
    · refine XS.icmpNo X0.here hx rfl (hb hby dc21_121) rfl (teq hd).2 ?_
      refine XS.iconst X0.here hx rfl (hb hby dc21_124) ?_
      refine XS.goto X0.here hx rfl (pc0 := 125) (pc' := 129) rfl (hb hby dc21_125) (by decide) (by decide) ?_
      show Steps _ _ _ (s₁.setTop (mkF mi 129 #[.val (.ref o), .val (.ref ta), .val (.int mx), .val (.int len), .val (.int c), .val (.ref en), .val (.int N), .val (.int i), .val (.ref re)] [(.int 1), (.int c)])) t_
      exact own_cst (if_pos hd) k_
    · refine XS.icmpYes X0.here hx rfl (pc0 := 121) (pc' := 128) rfl (hb hby dc21_121) rfl (feq hd).2 (by decide) (by decide) ?_
      refine XS.iconst X0.here hx rfl (hb hby dc21_128) ?_
      show Steps _ _ _ (s₁.setTop (mkF mi 129 #[.val (.ref o), .val (.ref ta), .val (.int mx), .val (.int len), .val (.int c), .val (.ref en), .val (.int N), .val (.int i), .val (.ref re)] [(.int 0), (.int c)])) t_
      exact own_cst (if_neg hd) k_
  refine Go.st dm3 ?_
  show Go _ _ _ (s₁.setTop (mkF mi 129 #[.val (.ref o), .val (.ref ta), .val (.int mx), .val (.int len), .val (.int c), .val (.ref en), .val (.int N), .val (.int i), .val (.ref re)] [(.int (if m = len then (1 : Int32) else (0 : Int32))), (.int c)])) _
  refine g_iadd X0 hx hby dc21_129 rfl ?_
  refine g_istore X0 hx hby dc21_130 (l' := #[.val (.ref o), .val (.ref ta), .val (.int mx), .val (.int len), .val (.int (c + (if m = len then (1 : Int32) else (0 : Int32)))), .val (.ref en), .val (.int N), .val (.int i), .val (.ref re)]) rfl ?_
  refine g_iinc X0 hx hby dc21_132 rfl rfl (l' := #[.val (.ref o), .val (.ref ta), .val (.int mx), .val (.int len), .val (.int (c + (if m = len then (1 : Int32) else (0 : Int32)))), .val (.ref en), .val (.int N), .val (.int (i + (1 : Int32))), .val (.ref re)]) rfl ?_
  refine g_goto X0 hx hby dc21_135 (pc0 := 135) (pc' := 101) rfl (by decide) (by decide) ?_
  show Go _ _ _ (s₁.setTop (mkF mi 101 #[.val (.ref o), .val (.ref ta), .val (.int mx), .val (.int len), .val (.int (c + (if m = len then (1 : Int32) else (0 : Int32)))), .val (.ref en), .val (.int N), .val (.int (i + (1 : Int32))), .val (.ref re)] [])) _
  exact K
theorem own_cntL (l : Launch) (Z : State) (a0 : Array Value) (hw : ∀ d ∈ tables_1, d.before a0 Z = true) {pg : Program} {ev : Env} {si : State} {mi : MethodId} {args : Array Value} {below : List Frame} {meth : Method} {ci : Code} {R : Room} {s₁ : State} {locs : List Loc} {cells slots : Nat} (X0 : Stand pg l ev R si mi args below meth ci s₁ locs cells slots) (hx : pg.tables.exec = Jvm.exec) (hby : ci.code = prog_163_method_1_code) (hml : ci.maxLocals = 9) (hZ : Z.Warmed39 si.vm) (hown : si.vm.findClass "com/example/crossbook/crossbook/venue/JsonFields$Texts" = some mi.cls) {P : State → Outcome → Prop} (o ta : Addr) (mx len : Int32) (en : Addr) (N : Int32) (ken : ClassId) (hse : List (Int32 × Value)) (g : Nat → List Int32) (B : Nat) (h0 : Heap) (n0 : Nat) (Z0 : n0 ≤ h0.size) (e0 : s₁.heap = h0) (N0 : Fr n0 locs) (EA : EncA Z h0 B o en ken N hse g N.toNatClampNeg) (hN : ¬ N < 0)
    (K : ∀ s8 : Slot, (s8 = .unset ∨ ∃ a, s8 = .val (.ref a)) → Go pg.tables ev below (s₁.setTop (mkF mi 101 #[.val (.ref o), .val (.ref ta), .val (.int mx), .val (.int len), .val (.int (cI g len N.toNatClampNeg)), .val (.ref en), .val (.int N), .val (.int N), s8] [])) P) :
    ∀ (d : Nat) (i : Int32) (s8 : Slot), ¬ i < 0 → i.toNatClampNeg + d = N.toNatClampNeg → (s8 = .unset ∨ ∃ a, s8 = .val (.ref a)) → Go pg.tables ev below (s₁.setTop (mkF mi 101 #[.val (.ref o), .val (.ref ta), .val (.int mx), .val (.int len), .val (.int (cI g len i.toNatClampNeg)), .val (.ref en), .val (.int N), .val (.int i), s8] [])) P := by
  intro d
  induction d with
  | zero =>
    intro i s8 hi hd h8
    obtain rfl := own_iN hi hN (by omega)
    exact K s8 h8
  | succ d ih =>
    intro i s8 hi hd h8
    obtain ⟨hiN, h1, h2⟩ := own_i1 (N := N) hi (by omega)
    obtain ⟨re, kr, hve, -, -, R0⟩ := EA.2.2.2 i.toNatClampNeg (by omega)
    have k := ih (i + (1 : Int32)) (.val (.ref re)) h1 (by omega) (Or.inr ⟨re, rfl⟩)
    rw [h2, cI_s] at k
    rcases h8 with rfl | ⟨p8, rfl⟩
    · exact own_cntu l Z a0 hw X0 hx hby hml hZ hown o ta mx len _ en N i re ken hse kr _ _ h0 n0 Z0 e0 N0 EA.1 hi hiN hve R0 k
    · exact own_cntr l Z a0 hw X0 hx hby hml hZ hown o ta mx len _ en N i re ken hse kr _ _ p8 h0 n0 Z0 e0 N0 EA.1 hi hiN hve R0 k
theorem dc21_154 : decode prog_163_method_1_code 154 = .ok (.iload 5, 2) := by decide +kernel
theorem dc21_156 : decode prog_163_method_1_code 156 = .ok (.aload_n 0, 1) := by decide +kernel
theorem dc21_157 : decode prog_163_method_1_code 157 = .ok (.getfield 20, 3) := by decide +kernel
theorem dc21_160 : decode prog_163_method_1_code 160 = .ok (.arraylength, 1) := by decide +kernel
theorem dc21_161 : decode prog_163_method_1_code 161 = .ok (.if_icmp .ge 35, 3) := by decide +kernel
theorem dc21_164 : decode prog_163_method_1_code 164 = .ok (.aload_n 0, 1) := by decide +kernel
theorem dc21_165 : decode prog_163_method_1_code 165 = .ok (.getfield 20, 3) := by decide +kernel
theorem dc21_168 : decode prog_163_method_1_code 168 = .ok (.iload 5, 2) := by decide +kernel
theorem dc21_170 : decode prog_163_method_1_code 170 = .ok (.aaload, 1) := by decide +kernel
theorem dc21_171 : decode prog_163_method_1_code 171 = .ok (.arraylength, 1) := by decide +kernel
theorem dc21_172 : decode prog_163_method_1_code 172 = .ok (.iload_n 3, 1) := by decide +kernel
theorem dc21_173 : decode prog_163_method_1_code 173 = .ok (.if_icmp .ne 17, 3) := by decide +kernel
theorem dc21_176 : decode prog_163_method_1_code 176 = .ok (.aload_n 0, 1) := by decide +kernel
theorem dc21_177 : decode prog_163_method_1_code 177 = .ok (.getfield 44, 3) := by decide +kernel
theorem dc21_180 : decode prog_163_method_1_code 180 = .ok (.iload_n 3, 1) := by decide +kernel
theorem dc21_181 : decode prog_163_method_1_code 181 = .ok (.aaload, 1) := by decide +kernel
theorem dc21_182 : decode prog_163_method_1_code 182 = .ok (.iload 4, 2) := by decide +kernel
theorem dc21_184 : decode prog_163_method_1_code 184 = .ok (.iinc 4 1, 3) := by decide +kernel
theorem dc21_187 : decode prog_163_method_1_code 187 = .ok (.iload 5, 2) := by decide +kernel
theorem dc21_189 : decode prog_163_method_1_code 189 = .ok (.iastore, 1) := by decide +kernel
theorem dc21_190 : decode prog_163_method_1_code 190 = .ok (.iinc 5 1, 3) := by decide +kernel
theorem dc21_193 : decode prog_163_method_1_code 193 = .ok (.goto (-39), 3) := by decide +kernel
set_option maxRecDepth 65536 in
set_option maxHeartbeats 40000000 in
theorem own_put (l : Launch) (Z : State) (a0 : Array Value) (hw : ∀ d ∈ tables_1, d.before a0 Z = true) {pg : Program} {ev : Env} {si : State} {mi : MethodId} {args : Array Value} {below : List Frame} {meth : Method} {ci : Code} {R : Room} {s₁ : State} {locs : List Loc} {cells slots : Nat} (X0 : Stand pg l ev R si mi args below meth ci s₁ locs cells slots) (hx : pg.tables.exec = Jvm.exec) (hby : ci.code = prog_163_method_1_code) (hml : ci.maxLocals = 9) (hZ : Z.Warmed39 si.vm) (hown : si.vm.findClass "com/example/crossbook/crossbook/venue/JsonFields$Texts" = some mi.cls) {P : State → Outcome → Prop} (o : Addr) (ta : Addr) (mx : Int32) (len : Int32) (a : Int32) (i : Int32) (N : Int32) (s8 : Slot) (en : Addr) (re : Addr) (bl : Addr) (r : Addr) (ken : ClassId) (hse : List (Int32 × Value)) (kr : ClassId) (m : Int32) (vl : List Value) (kbl : ClassId) (nb : Int32) (hs : List (Int32 × Value)) (kq : ClassId) (cnt : Int32) (us : List Value) (h0 : Heap) (n0 : Nat) (Z0 : n0 ≤ h0.size) (e0 : s₁.heap = h0) (N0 : Fr n0 locs) (A0 : Arh Z h0 en ken (.array .byte) N hse [] .null) (hi : ¬ i < 0) (hiN : i < N) (hve : getH hse [] .null i.toNatClampNeg = .ref re) (R0 : Arv Z h0 re kr .byte m vl (.int (0 : Int32))) (F1 : Fld Z h0 o "com/example/crossbook/crossbook/venue/JsonFields$Texts" "encoded" "[[B" (.ref en)) (F2 : Fld Z h0 o "com/example/crossbook/crossbook/venue/JsonFields$Texts" "byLength" "[[I" (.ref bl)) (BL : Arh Z h0 bl kbl (.array .int) nb ((len, .ref r) :: hs) [] .null) (RQ : Arv Z h0 r kq .int cnt us (.int (0 : Int32))) (hl0 : ¬ len < 0) (hln : len < nb) (ha : m = len → ¬ a < 0 ∧ a < cnt ∧ a.toNatClampNeg = us.length) (n1 : o ≠ r) (n2 : en ≠ r) (n3 : re ≠ r) (n4 : bl ≠ r) (g_r : n0 ≤ r) (K : ∀ (T' : State) (locs' : List Loc) (h' : Heap), Stand pg l ev R si mi args below meth ci T' locs' cells slots → T'.heap = h' → Fr n0 locs' → Keep h0 h' [r] → Arv Z h' r kq .int cnt (if m = len then us ++ [.int i] else us) (.int (0 : Int32)) → Go pg.tables ev below (T'.setTop (mkF mi 154 #[.val (.ref o), .val (.ref ta), .val (.int mx), .val (.int len), .val (.int (a + (if m = len then (1 : Int32) else (0 : Int32)))), .val (.int (i + (1 : Int32))), .val (.int N), .val (.int N), s8] [])) P) :
    Go pg.tables ev below (s₁.setTop (mkF mi 154 #[.val (.ref o), .val (.ref ta), .val (.int mx), .val (.int len), .val (.int a), .val (.int i), .val (.int N), .val (.int N), s8] [])) P := by
  refine g_iload X0 hx hby dc21_154 rfl ?_
  refine g_aloadN X0 hx hby dc21_156 rfl rfl ?_
  obtain ⟨T1, X1, e1, st1⟩ := getF X0 hx hZ hown (host := "") (Or.inl (hw _ (own_m 38 rfl))) Via.refl e0 F1 (g := (mkF mi 157 #[.val (.ref o), .val (.ref ta), .val (.int mx), .val (.int len), .val (.int a), .val (.int i), .val (.int N), .val (.int N), s8] [(.ref o), (.int i)])) rfl rfl (hb hby dc21_157)
  refine Go.st st1 ?_
  have ov2 := A0
  obtain ⟨cl2, Ar2, q2, S2, M2, H2, G2⟩ := ov2
  refine Go.st (X1.arraylength hx (by rw [e1]; exact Ar2.1) (State.isArrayOf_alike hZ.alike Ar2.2.1) (g := (mkF mi 160 #[.val (.ref o), .val (.ref ta), .val (.int mx), .val (.int len), .val (.int a), .val (.int i), .val (.int N), .val (.int N), s8] [(.ref en), (.int i)])) rfl rfl (hb hby dc21_160)) ?_
  rw [len_of S2 M2]
  refine g_icmpNo X1 hx hby dc21_161 (tlt hiN).2.1 ?_
  refine g_aloadN X1 hx hby dc21_164 rfl rfl ?_
  obtain ⟨T3, X3, e3, st3⟩ := getF X1 hx hZ hown (host := "") (Or.inl (hw _ (own_m 38 rfl))) Via.refl e1 F1 (g := (mkF mi 165 #[.val (.ref o), .val (.ref ta), .val (.int mx), .val (.int len), .val (.int a), .val (.int i), .val (.int N), .val (.int N), s8] [(.ref o)])) rfl rfl (hb hby dc21_165)
  refine Go.st st3 ?_
  refine g_iload X3 hx hby dc21_168 rfl ?_
  have ov4 := A0
  obtain ⟨cl4, Ar4, q4, S4, M4, H4, G4⟩ := ov4
  have hin4 : ¬ (i < 0 ∨ cl4.slots.size ≤ (i).toNatClampNeg) := inb_of S4 ⟨hi, hiN⟩
  have hat4 : cl4.slots[(i).toNatClampNeg]? = some (.ref re) := atH H4 hin4 hve
  refine Go.st (X3.aaload hx (j := i) (v := (.ref re)) (by rw [e3]; exact Ar4.1) (State.isArrayOf_alike hZ.alike Ar4.2.1) rfl Ar4.2.2 hin4 hat4 (g := (mkF mi 170 #[.val (.ref o), .val (.ref ta), .val (.int mx), .val (.int len), .val (.int a), .val (.int i), .val (.int N), .val (.int N), s8] [(.int i), (.ref en)])) rfl rfl (hb hby dc21_170)) ?_
  have ov5 := R0
  obtain ⟨cl5, Ar5, q5, S5, M5, H5, G5⟩ := ov5
  refine Go.st (X3.arraylength hx (by rw [e3]; exact Ar5.1) (State.isArrayOf_alike hZ.alike Ar5.2.1) (g := (mkF mi 171 #[.val (.ref o), .val (.ref ta), .val (.int mx), .val (.int len), .val (.int a), .val (.int i), .val (.int N), .val (.int N), s8] [(.ref re)])) rfl rfl (hb hby dc21_171)) ?_
  rw [len_of S5 M5]
  refine g_iloadN X3 hx hby dc21_172 rfl ?_
  by_cases hc173_1 : m = len
  · refine g_icmpNo X3 hx hby dc21_173 (teq hc173_1).2 ?_
    refine g_aloadN X3 hx hby dc21_176 rfl rfl ?_
    obtain ⟨T6, X6, e6, st6⟩ := getF X3 hx hZ hown (host := "") (Or.inl (hw _ (own_m 42 rfl))) Via.refl e3 F2 (g := (mkF mi 177 #[.val (.ref o), .val (.ref ta), .val (.int mx), .val (.int len), .val (.int a), .val (.int i), .val (.int N), .val (.int N), s8] [(.ref o)])) rfl rfl (hb hby dc21_177)
    refine Go.st st6 ?_
    refine g_iloadN X6 hx hby dc21_180 rfl ?_
    have ov7 := BL
    obtain ⟨cl7, Ar7, q7, S7, M7, H7, G7⟩ := ov7
    have hin7 : ¬ (len < 0 ∨ cl7.slots.size ≤ (len).toNatClampNeg) := inb_of S7 ⟨hl0, hln⟩
    have hat7 : cl7.slots[(len).toNatClampNeg]? = some (.ref r) := atH H7 hin7 (getH_hit hl0 rfl)
    refine Go.st (X6.aaload hx (j := len) (v := (.ref r)) (by rw [e6]; exact Ar7.1) (State.isArrayOf_alike hZ.alike Ar7.2.1) rfl Ar7.2.2 hin7 hat7 (g := (mkF mi 181 #[.val (.ref o), .val (.ref ta), .val (.int mx), .val (.int len), .val (.int a), .val (.int i), .val (.int N), .val (.int N), s8] [(.int len), (.ref bl)])) rfl rfl (hb hby dc21_181)) ?_
    refine g_iload X6 hx hby dc21_182 rfl ?_
    refine g_iinc X6 hx hby dc21_184 rfl rfl (l' := #[.val (.ref o), .val (.ref ta), .val (.int mx), .val (.int len), .val (.int (a + (1 : Int32))), .val (.int i), .val (.int N), .val (.int N), s8]) rfl ?_
    refine g_iload X6 hx hby dc21_187 rfl ?_
    have ov8 := RQ
    obtain ⟨cl8, Ar8, q8, S8, M8, H8, G8⟩ := ov8
    have hin8 : ¬ (a < 0 ∨ cl8.slots.size ≤ (a).toNatClampNeg) := inb_of S8 ⟨(ha hc173_1).1, (ha hc173_1).2.1⟩
    obtain ⟨T9, h9, X9, e9, W9, st9⟩ := stI X6 hx hZ e6 Ar8 (j := a) hin8 (g := (mkF mi 189 #[.val (.ref o), .val (.ref ta), .val (.int mx), .val (.int len), .val (.int (a + (1 : Int32))), .val (.int i), .val (.int N), .val (.int N), s8] [(.int i), (.int a), (.ref r)])) rfl rfl (hb hby dc21_189)
    have Zs10 : n0 ≤ h9.size := Nat.le_trans Z0 (Keep.of_wr W9).1
    have KC10 : Keep h0 h9 [r] := (Keep.refl h0 [r]).wr W9 (Or.inl (List.mem_of_getElem? (i := 0) rfl))
    have N10 := Fr.snoc X9 N0 g_r
    have V9 : Arv Z h9 r kq .int cnt (us ++ [(.int i)]) (.int (0 : Int32)) := own_snoc Ar8 q8 S8 M8 H8 G8 rfl W9 (ha hc173_1).2.2
    refine Go.st st9 ?_
    refine g_iinc X9 hx hby dc21_190 rfl rfl (l' := #[.val (.ref o), .val (.ref ta), .val (.int mx), .val (.int len), .val (.int (a + (1 : Int32))), .val (.int (i + (1 : Int32))), .val (.int N), .val (.int N), s8]) rfl ?_
    refine g_goto X9 hx hby dc21_193 (pc0 := 193) (pc' := 154) rfl (by decide) (by decide) ?_
    show Go _ _ _ (T9.setTop (mkF mi 154 #[.val (.ref o), .val (.ref ta), .val (.int mx), .val (.int len), .val (.int (a + (1 : Int32))), .val (.int (i + (1 : Int32))), .val (.int N), .val (.int N), s8] [])) _
    have k := K _ _ _ X9 e9 N10 KC10 (by rw [if_pos hc173_1]; exact V9)
    rw [if_pos hc173_1] at k
    exact k
  · refine g_icmpYes X3 hx hby dc21_173 (feq hc173_1).2 (pc0 := 173) (pc' := 190) rfl (by decide) (by decide) ?_
    refine g_iinc X3 hx hby dc21_190 rfl rfl (l' := #[.val (.ref o), .val (.ref ta), .val (.int mx), .val (.int len), .val (.int a), .val (.int (i + (1 : Int32))), .val (.int N), .val (.int N), s8]) rfl ?_
    refine g_goto X3 hx hby dc21_193 (pc0 := 193) (pc' := 154) rfl (by decide) (by decide) ?_
    show Go _ _ _ (T3.setTop (mkF mi 154 #[.val (.ref o), .val (.ref ta), .val (.int mx), .val (.int len), .val (.int a), .val (.int (i + (1 : Int32))), .val (.int N), .val (.int N), s8] [])) _
    have k := K _ _ _ X3 e3 N0 (Keep.refl h0 [r]) (by rw [if_neg hc173_1]; exact RQ)
    rw [if_neg hc173_1, Int32.add_zero] at k
    exact k
theorem own_putL (l : Launch) (Z : State) (a0 : Array Value) (hw : ∀ d ∈ tables_1, d.before a0 Z = true) {pg : Program} {ev : Env} {si : State} {mi : MethodId} {args : Array Value} {below : List Frame} {meth : Method} {ci : Code} {R : Room} (hx : pg.tables.exec = Jvm.exec) (hby : ci.code = prog_163_method_1_code) (hml : ci.maxLocals = 9) (hZ : Z.Warmed39 si.vm) (hown : si.vm.findClass "com/example/crossbook/crossbook/venue/JsonFields$Texts" = some mi.cls) {P : State → Outcome → Prop} (o ta : Addr) (mx len N : Int32) (s8 : Slot) (en bl r : Addr) (ken : ClassId) (hse : List (Int32 × Value)) (kbl : ClassId) (nb : Int32) (hs : List (Int32 × Value)) (kq : ClassId) (g : Nat → List Int32) (B : Nat) (n0 cells slots : Nat) (hl0 : ¬ len < 0) (hln : len < nb) (hN : ¬ N < 0) (hN3 : N.toNatClampNeg ≤ 3) (n1 : o ≠ r) (n4 : bl ≠ r) (hB : B ≤ r) (g_r : n0 ≤ r) :
    ∀ (d : Nat) (i : Int32) (s₁ : State) (locs : List Loc) (h0 : Heap), ¬ i < 0 → i.toNatClampNeg + d = N.toNatClampNeg → Stand pg l ev R si mi args below meth ci s₁ locs cells slots → n0 ≤ h0.size → s₁.heap = h0 → Fr n0 locs → EncA Z h0 B o en ken N hse g N.toNatClampNeg → Fld Z h0 o "com/example/crossbook/crossbook/venue/JsonFields$Texts" "encoded" "[[B" (.ref en) → Fld Z h0 o "com/example/crossbook/crossbook/venue/JsonFields$Texts" "byLength" "[[I" (.ref bl) → Arh Z h0 bl kbl (.array .int) nb ((len, .ref r) :: hs) [] .null → Arv Z h0 r kq .int (cI g len N.toNatClampNeg) (idl g len i.toNatClampNeg) (.int (0 : Int32)) →
      (∀ (T' : State) (locs' : List Loc) (h' : Heap), Stand pg l ev R si mi args below meth ci T' locs' cells slots → T'.heap = h' → Fr n0 locs' → Keep h0 h' [r] → Arv Z h' r kq .int (cI g len N.toNatClampNeg) (idl g len N.toNatClampNeg) (.int (0 : Int32)) → Go pg.tables ev below (T'.setTop (mkF mi 154 #[.val (.ref o), .val (.ref ta), .val (.int mx), .val (.int len), .val (.int (cI g len N.toNatClampNeg)), .val (.int N), .val (.int N), .val (.int N), s8] [])) P) →
      Go pg.tables ev below (s₁.setTop (mkF mi 154 #[.val (.ref o), .val (.ref ta), .val (.int mx), .val (.int len), .val (.int (cI g len i.toNatClampNeg)), .val (.int i), .val (.int N), .val (.int N), s8] [])) P := by
  intro d
  induction d with
  | zero =>
    intro i s₁ locs h0 hi hd X0 Z0 e0 N0 EA F1 F2 BL RQ K
    obtain rfl := own_iN hi hN (by omega)
    exact K _ _ _ X0 e0 N0 (Keep.refl h0 [r]) RQ
  | succ d ih =>
    intro i s₁ locs h0 hi hd X0 Z0 e0 N0 EA F1 F2 BL RQ K
    obtain ⟨hiN, h1, h2⟩ := own_i1 (N := N) hi (by omega)
    obtain ⟨re, kr, hve, c2, -, R0⟩ := EA.2.2.2 i.toNatClampNeg (by omega)
    refine own_put l Z a0 hw X0 hx hby hml hZ hown o ta mx len _ i N s8 en re bl r ken hse kr _ _ kbl nb hs kq _ _ h0 n0 Z0 e0 N0 EA.1 hi hiN hve R0 F1 F2 BL RQ hl0 hln (fun q => cI_at q (by omega) hN3) n1 (Nat.ne_of_lt (Nat.lt_of_lt_of_le EA.2.1 hB)) (Nat.ne_of_lt (Nat.lt_of_lt_of_le c2 hB)) n4 g_r (fun T' locs' h' X' e' N' K' R' => ?_)
    have q := ih (i + (1 : Int32)) T' locs' h' h1 (by omega) X' (Nat.le_trans Z0 K'.1) e' N' (EA.keep K' (own_one (Or.inl hB))) (F1.keep K' (ninS n1 nin0)) (F2.keep K' (ninS n1 nin0)) (BL.keep K' (ninS n4 nin0)) (by
      rw [h2]; unfold idl
      have e : (Int32.ofNat i.toNatClampNeg) = i := by apply Int32.toInt_inj.mp; rw [own_ofN (by omega), own_nn hi]
      rw [e]; exact R') (fun T2 l2 h2' X2 e2 N2 K2 R2 => K T2 l2 h2' X2 e2 N2 (K'.trans K2 (fun x hx => Or.inl hx)) R2)
    rw [h2, cI_s] at q
    exact q
theorem dc21_84 : decode prog_163_method_1_code 84 = .ok (.iconst 0, 1) := by decide +kernel
theorem dc21_85 : decode prog_163_method_1_code 85 = .ok (.istore 4, 2) := by decide +kernel
theorem dc21_87 : decode prog_163_method_1_code 87 = .ok (.aload_n 0, 1) := by decide +kernel
theorem dc21_88 : decode prog_163_method_1_code 88 = .ok (.getfield 20, 3) := by decide +kernel
theorem dc21_91 : decode prog_163_method_1_code 91 = .ok (.astore 5, 2) := by decide +kernel
theorem dc21_93 : decode prog_163_method_1_code 93 = .ok (.aload 5, 2) := by decide +kernel
theorem dc21_95 : decode prog_163_method_1_code 95 = .ok (.arraylength, 1) := by decide +kernel
theorem dc21_96 : decode prog_163_method_1_code 96 = .ok (.istore 6, 2) := by decide +kernel
theorem dc21_98 : decode prog_163_method_1_code 98 = .ok (.iconst 0, 1) := by decide +kernel
theorem dc21_99 : decode prog_163_method_1_code 99 = .ok (.istore 7, 2) := by decide +kernel
theorem dc21_138 : decode prog_163_method_1_code 138 = .ok (.aload_n 0, 1) := by decide +kernel
theorem dc21_139 : decode prog_163_method_1_code 139 = .ok (.getfield 44, 3) := by decide +kernel
theorem dc21_142 : decode prog_163_method_1_code 142 = .ok (.iload_n 3, 1) := by decide +kernel
theorem dc21_143 : decode prog_163_method_1_code 143 = .ok (.iload 4, 2) := by decide +kernel
theorem dc21_145 : decode prog_163_method_1_code 145 = .ok (.newarray .int, 2) := by decide +kernel
theorem dc21_147 : decode prog_163_method_1_code 147 = .ok (.aastore, 1) := by decide +kernel
theorem dc21_148 : decode prog_163_method_1_code 148 = .ok (.iconst 0, 1) := by decide +kernel
theorem dc21_149 : decode prog_163_method_1_code 149 = .ok (.istore 4, 2) := by decide +kernel
theorem dc21_151 : decode prog_163_method_1_code 151 = .ok (.iconst 0, 1) := by decide +kernel
theorem dc21_152 : decode prog_163_method_1_code 152 = .ok (.istore 5, 2) := by decide +kernel
theorem dc21_196 : decode prog_163_method_1_code 196 = .ok (.iinc 3 1, 3) := by decide +kernel
theorem dc21_199 : decode prog_163_method_1_code 199 = .ok (.goto (-120), 3) := by decide +kernel
set_option maxRecDepth 65536 in
set_option maxHeartbeats 40000000 in
theorem own_turnU (l : Launch) (Z : State) (a0 : Array Value) (hw : ∀ d ∈ tables_1, d.before a0 Z = true) {pg : Program} {ev : Env} {si : State} {mi : MethodId} {args : Array Value} {below : List Frame} {meth : Method} {ci : Code} {R : Room} {s₁ : State} {locs : List Loc} {cells slots : Nat} (X0 : Stand pg l ev R si mi args below meth ci s₁ locs cells slots) (hx : pg.tables.exec = Jvm.exec) (hby : ci.code = prog_163_method_1_code) (hml : ci.maxLocals = 9) (hZ : Z.Warmed39 si.vm) (hown : si.vm.findClass "com/example/crossbook/crossbook/venue/JsonFields$Texts" = some mi.cls) {P : State → Outcome → Prop} (o : Addr) (ta : Addr) (mx : Int32) (len : Int32) (N : Int32) (en : Addr) (bl : Addr) (ken : ClassId) (hse : List (Int32 × Value)) (kbl : ClassId) (nb : Int32) (hs : List (Int32 × Value)) (g : Nat → List Int32) (B : Nat) (h0 : Heap) (n0 : Nat) (Z0 : n0 ≤ h0.size) (e0 : s₁.heap = h0) (N0 : Fr n0 locs) (F1 : Fld Z h0 o "com/example/crossbook/crossbook/venue/JsonFields$Texts" "encoded" "[[B" (.ref en)) (F2 : Fld Z h0 o "com/example/crossbook/crossbook/venue/JsonFields$Texts" "byLength" "[[I" (.ref bl)) (EA : EncA Z h0 B o en ken N hse g N.toNatClampNeg) (BL : Arh Z h0 bl kbl (.array .int) nb hs [] .null) (O_bl : OvrA Z kbl .int "[I") (hN : ¬ N < 0) (hN3 : N.toNatClampNeg ≤ 3) (hl0 : ¬ len < 0) (hln : len < nb) (g_bl : n0 ≤ bl) (hBb : B ≤ bl) (hB : B ≤ h0.size) (ho : o < h0.size) (n1 : o ≠ bl) (hc1 : cells + 1 ≤ R.cells) (hs1 : slots + 3 ≤ R.slots) (K : ∀ (T' : State) (locs' : List Loc) (h' : Heap) (q : Addr) (kq : ClassId) (s8 : Slot), (s8 = .unset ∨ ∃ a, s8 = .val (.ref a)) → Stand pg l ev R si mi args below meth ci T' locs' (cells + 1) (slots + 3) → T'.heap = h' → Fr n0 locs' → Keep h0 h' [bl] → h0.size ≤ q → Arh Z h' bl kbl (.array .int) nb ((len, .ref q) :: hs) [] .null → Arv Z h' q kq .int (cI g len N.toNatClampNeg) (idl g len N.toNatClampNeg) (.int (0 : Int32)) → Go pg.tables ev below (T'.setTop (mkF mi 79 #[.val (.ref o), .val (.ref ta), .val (.int mx), .val (.int (len + (1 : Int32))), .val (.int (cI g len N.toNatClampNeg)), .val (.int N), .val (.int N), .val (.int N), s8] [])) P) :
    Go pg.tables ev below (s₁.setTop (mkF mi 84 #[.val (.ref o), .val (.ref ta), .val (.int mx), .val (.int len), .unset, .unset, .unset, .unset, .unset] [])) P := by
  refine g_iconst X0 hx hby dc21_84 (v := 0) rfl ?_
  refine g_istore X0 hx hby dc21_85 (l' := #[.val (.ref o), .val (.ref ta), .val (.int mx), .val (.int len), .val (.int 0), .unset, .unset, .unset, .unset]) rfl ?_
  refine g_aloadN X0 hx hby dc21_87 rfl rfl ?_
  obtain ⟨T1, X1, e1, st1⟩ := getF X0 hx hZ hown (host := "") (Or.inl (hw _ (own_m 38 rfl))) Via.refl e0 F1 (g := (mkF mi 88 #[.val (.ref o), .val (.ref ta), .val (.int mx), .val (.int len), .val (.int 0), .unset, .unset, .unset, .unset] [(.ref o)])) rfl rfl (hb hby dc21_88)
  refine Go.st st1 ?_
  refine g_astore X1 hx hby dc21_91 rfl (l' := #[.val (.ref o), .val (.ref ta), .val (.int mx), .val (.int len), .val (.int 0), .val (.ref en), .unset, .unset, .unset]) rfl ?_
  refine g_aload X1 hx hby dc21_93 rfl rfl ?_
  have ov2 := EA.1
  obtain ⟨cl2, Ar2, q2, S2, M2, H2, G2⟩ := ov2
  refine Go.st (X1.arraylength hx (by rw [e1]; exact Ar2.1) (State.isArrayOf_alike hZ.alike Ar2.2.1) (g := (mkF mi 95 #[.val (.ref o), .val (.ref ta), .val (.int mx), .val (.int len), .val (.int 0), .val (.ref en), .unset, .unset, .unset] [(.ref en)])) rfl rfl (hb hby dc21_95)) ?_
  rw [len_of S2 M2]
  refine g_istore X1 hx hby dc21_96 (l' := #[.val (.ref o), .val (.ref ta), .val (.int mx), .val (.int len), .val (.int 0), .val (.ref en), .val (.int N), .unset, .unset]) rfl ?_
  refine g_iconst X1 hx hby dc21_98 (v := 0) rfl ?_
  refine g_istore X1 hx hby dc21_99 (l' := #[.val (.ref o), .val (.ref ta), .val (.int mx), .val (.int len), .val (.int 0), .val (.ref en), .val (.int N), .val (.int 0), .unset]) rfl ?_
  show Go _ _ _ (T1.setTop (mkF mi 101 #[.val (.ref o), .val (.ref ta), .val (.int mx), .val (.int len), .val (.int 0), .val (.ref en), .val (.int N), .val (.int 0), .unset] [])) _
  refine own_cntL l Z a0 hw X1 hx hby hml hZ hown o ta mx len en N ken hse g B h0 n0 Z0 e1 N0 (EA.keep (Keep.refl h0 []) (fun _ q => nomatch q)) hN (fun s8_ h8_ => ?_) N.toNatClampNeg (0 : Int32) .unset (by decide) (Nat.zero_add _) (Or.inl rfl)
  show Go _ _ _ (T1.setTop (mkF mi 101 #[.val (.ref o), .val (.ref ta), .val (.int mx), .val (.int len), .val (.int (cI g len N.toNatClampNeg)), .val (.ref en), .val (.int N), .val (.int N), s8_] [])) _
  refine g_iload X1 hx hby dc21_101 rfl ?_
  refine g_iload X1 hx hby dc21_103 rfl ?_
  refine g_icmpYes X1 hx hby dc21_105 (flt Int32.lt_irrefl).2.1 (pc0 := 105) (pc' := 138) rfl (by decide) (by decide) ?_
  refine g_aloadN X1 hx hby dc21_138 rfl rfl ?_
  obtain ⟨T3, X3, e3, st3⟩ := getF X1 hx hZ hown (host := "") (Or.inl (hw _ (own_m 42 rfl))) Via.refl e1 F2 (g := (mkF mi 139 #[.val (.ref o), .val (.ref ta), .val (.int mx), .val (.int len), .val (.int (cI g len N.toNatClampNeg)), .val (.ref en), .val (.int N), .val (.int N), s8_] [(.ref o)])) rfl rfl (hb hby dc21_139)
  refine Go.st st3 ?_
  refine g_iloadN X3 hx hby dc21_142 rfl ?_
  refine g_iload X3 hx hby dc21_143 rfl ?_
  obtain ⟨T4, h4, k4, X4, e4, E4, A4, EX4, st4⟩ := newPE X3 hx hZ (hw _ (own_m 44 rfl)) e3 (g := (mkF mi 145 #[.val (.ref o), .val (.ref ta), .val (.int mx), .val (.int len), .val (.int (cI g len N.toNatClampNeg)), .val (.ref en), .val (.int N), .val (.int N), s8_] [(.int (cI g len N.toNatClampNeg)), (.int len), (.ref bl)])) rfl (hb hby dc21_145) rfl (cI_b g len hN3).1 (cap := 3) (cI_b g len hN3).2.1 (by decide) hc1 hs1 (ad := "[I") (by decide)
  obtain ⟨ob4, g4⟩ : ∃ z, z = h0.size := ⟨_, rfl⟩
  rw [← g4] at A4 EX4 st4
  have Zs5 : n0 ≤ h4.size := Nat.le_trans Z0 E4.1
  have KC5 : Keep h0 h4 [bl] := (Keep.refl h0 [bl]).ext E4
  have g_ob4 : n0 ≤ ob4 := Nat.le_trans Z0 (Nat.le_of_eq g4.symm)
  have sz_ob4 : h0.size ≤ ob4 := Nat.le_trans (Keep.refl h0 [bl]).1 (Nat.le_of_eq g4.symm)
  have V4 : Arv Z h4 ob4 k4 .int (cI g len N.toNatClampNeg) [] (.int (0 : Int32)) := Arv.new A4 (cI_b g len hN3).1
  refine Go.st st4 ?_
  show Go _ _ _ (T4.setTop (mkF mi 147 #[.val (.ref o), .val (.ref ta), .val (.int mx), .val (.int len), .val (.int (cI g len N.toNatClampNeg)), .val (.ref en), .val (.int N), .val (.int N), s8_] [(.ref ob4), (.int len), (.ref bl)])) _
  have f6 := (BL.ext E4)
  have ov7 := f6
  obtain ⟨cl7, Ar7, q7, S7, M7, H7, G7⟩ := ov7
  have hin7 : ¬ (len < 0 ∨ cl7.slots.size ≤ (len).toNatClampNeg) := inb_of S7 ⟨hl0, hln⟩
  obtain ⟨T8, h8, X8, e8, W8, st8⟩ := stR X4 hx hZ e4 Ar7 (j := len) hin7 rfl (Sto.ofVA Ar7 q7 O_bl (Ins.self EX4)) (g := (mkF mi 147 #[.val (.ref o), .val (.ref ta), .val (.int mx), .val (.int len), .val (.int (cI g len N.toNatClampNeg)), .val (.ref en), .val (.int N), .val (.int N), s8_] [(.ref ob4), (.int len), (.ref bl)])) rfl rfl (hb hby dc21_147)
  have Zs9 : n0 ≤ h8.size := Nat.le_trans Zs5 (Keep.of_wr W8).1
  have KC9 : Keep h0 h8 [bl] := KC5.wr W8 (Or.inl (List.mem_of_getElem? (i := 0) rfl))
  have N9 := Fr.snoc X8 N0 g_bl
  have V8 : Arh Z h8 bl kbl (.array .int) nb ((len, (.ref ob4)) :: hs) [] .null := Arh.push Ar7 q7 S7 M7 H7 G7 rfl W8 hin7
  refine Go.st st8 ?_
  refine g_iconst X8 hx hby dc21_148 (v := 0) rfl ?_
  refine g_istore X8 hx hby dc21_149 (l' := #[.val (.ref o), .val (.ref ta), .val (.int mx), .val (.int len), .val (.int 0), .val (.ref en), .val (.int N), .val (.int N), s8_]) rfl ?_
  refine g_iconst X8 hx hby dc21_151 (v := 0) rfl ?_
  refine g_istore X8 hx hby dc21_152 (l' := #[.val (.ref o), .val (.ref ta), .val (.int mx), .val (.int len), .val (.int 0), .val (.int 0), .val (.int N), .val (.int N), s8_]) rfl ?_
  show Go _ _ _ (T8.setTop (mkF mi 154 #[.val (.ref o), .val (.ref ta), .val (.int mx), .val (.int len), .val (.int 0), .val (.int 0), .val (.int N), .val (.int N), s8_] [])) _
  have ne_o_ob4 : o ≠ ob4 := Nat.ne_of_lt (Nat.lt_of_lt_of_le F1.lt (Nat.le_of_eq g4.symm))
  have ne_bl_ob4 : bl ≠ ob4 := Nat.ne_of_lt (Nat.lt_of_lt_of_le BL.lt (Nat.le_of_eq g4.symm))
  have f11 := ((F1.ext E4).other W8 (Or.inl n1))
  have f12 := ((F2.ext E4).other W8 (Or.inl n1))
  have f13 := (V4.other W8 (Ne.symm ne_bl_ob4))
  refine own_putL l Z a0 hw hx hby hml hZ hown o ta mx len N s8_ en bl ob4 ken hse kbl nb hs k4 g B n0 _ _ hl0 hln hN hN3 ne_o_ob4 ne_bl_ob4 (Nat.le_trans hB sz_ob4) g_ob4 N.toNatClampNeg (0 : Int32) _ _ _ (by decide) (Nat.zero_add _) X8 Zs9 e8 N9 (EA.keep KC9 (own_one (Or.inl hBb))) f11 f12 V8 f13 (fun T10 L10 h10 X10 e10 N10 K10 RQ10 => ?_)
  have Zs14 : n0 ≤ h10.size := Nat.le_trans Zs9 K10.1
  have KC14 : Keep h0 h10 [bl] := KC9.trans K10 (allS (P := fun x => x ∈ [bl] ∨ h0.size ≤ x) (Or.inr sz_ob4) all0)
  show Go _ _ _ (T10.setTop (mkF mi 154 #[.val (.ref o), .val (.ref ta), .val (.int mx), .val (.int len), .val (.int (cI g len N.toNatClampNeg)), .val (.int N), .val (.int N), .val (.int N), s8_] [])) _
  refine g_iload X10 hx hby dc21_154 rfl ?_
  refine g_aloadN X10 hx hby dc21_156 rfl rfl ?_
  have f15 := (f11.keep K10 (ninS ne_o_ob4 nin0))
  obtain ⟨T16, X16, e16, st16⟩ := getF X10 hx hZ hown (host := "") (Or.inl (hw _ (own_m 38 rfl))) Via.refl e10 f15 (g := (mkF mi 157 #[.val (.ref o), .val (.ref ta), .val (.int mx), .val (.int len), .val (.int (cI g len N.toNatClampNeg)), .val (.int N), .val (.int N), .val (.int N), s8_] [(.ref o), (.int N)])) rfl rfl (hb hby dc21_157)
  refine Go.st st16 ?_
  have ne_en_ob4 : en ≠ ob4 := Nat.ne_of_lt (Nat.lt_of_lt_of_le EA.1.lt (Nat.le_of_eq g4.symm))
  have f17 := (((EA.1.ext E4).other W8 (Nat.ne_of_lt (Nat.lt_of_lt_of_le EA.2.1 hBb))).keep K10 (ninS ne_en_ob4 nin0))
  have ov18 := f17
  obtain ⟨cl18, Ar18, q18, S18, M18, H18, G18⟩ := ov18
  refine Go.st (X16.arraylength hx (by rw [e16]; exact Ar18.1) (State.isArrayOf_alike hZ.alike Ar18.2.1) (g := (mkF mi 160 #[.val (.ref o), .val (.ref ta), .val (.int mx), .val (.int len), .val (.int (cI g len N.toNatClampNeg)), .val (.int N), .val (.int N), .val (.int N), s8_] [(.ref en), (.int N)])) rfl rfl (hb hby dc21_160)) ?_
  rw [len_of S18 M18]
  refine g_icmpYes X16 hx hby dc21_161 (flt Int32.lt_irrefl).2.1 (pc0 := 161) (pc' := 196) rfl (by decide) (by decide) ?_
  refine g_iinc X16 hx hby dc21_196 rfl rfl (l' := #[.val (.ref o), .val (.ref ta), .val (.int mx), .val (.int (len + (1 : Int32))), .val (.int (cI g len N.toNatClampNeg)), .val (.int N), .val (.int N), .val (.int N), s8_]) rfl ?_
  refine g_goto X16 hx hby dc21_199 (pc0 := 199) (pc' := 79) rfl (by decide) (by decide) ?_
  show Go _ _ _ (T16.setTop (mkF mi 79 #[.val (.ref o), .val (.ref ta), .val (.int mx), .val (.int (len + (1 : Int32))), .val (.int (cI g len N.toNatClampNeg)), .val (.int N), .val (.int N), .val (.int N), s8_] [])) _
  have f19 := (V8.keep K10 (ninS ne_bl_ob4 nin0))
  exact K _ _ _ ob4 k4 s8_ h8_ X16 e16 N10 KC14 sz_ob4 f19 RQ10
set_option maxRecDepth 65536 in
set_option maxHeartbeats 40000000 in
theorem own_turnR (l : Launch) (Z : State) (a0 : Array Value) (hw : ∀ d ∈ tables_1, d.before a0 Z = true) {pg : Program} {ev : Env} {si : State} {mi : MethodId} {args : Array Value} {below : List Frame} {meth : Method} {ci : Code} {R : Room} {s₁ : State} {locs : List Loc} {cells slots : Nat} (X0 : Stand pg l ev R si mi args below meth ci s₁ locs cells slots) (hx : pg.tables.exec = Jvm.exec) (hby : ci.code = prog_163_method_1_code) (hml : ci.maxLocals = 9) (hZ : Z.Warmed39 si.vm) (hown : si.vm.findClass "com/example/crossbook/crossbook/venue/JsonFields$Texts" = some mi.cls) {P : State → Outcome → Prop} (o : Addr) (ta : Addr) (mx : Int32) (len : Int32) (N : Int32) (en : Addr) (bl : Addr) (ken : ClassId) (hse : List (Int32 × Value)) (kbl : ClassId) (nb : Int32) (hs : List (Int32 × Value)) (g : Nat → List Int32) (B : Nat) (c4 : Int32) (s8 : Slot) (h0 : Heap) (n0 : Nat) (Z0 : n0 ≤ h0.size) (e0 : s₁.heap = h0) (N0 : Fr n0 locs) (h8 : (s8 = .unset ∨ ∃ a, s8 = .val (.ref a))) (F1 : Fld Z h0 o "com/example/crossbook/crossbook/venue/JsonFields$Texts" "encoded" "[[B" (.ref en)) (F2 : Fld Z h0 o "com/example/crossbook/crossbook/venue/JsonFields$Texts" "byLength" "[[I" (.ref bl)) (EA : EncA Z h0 B o en ken N hse g N.toNatClampNeg) (BL : Arh Z h0 bl kbl (.array .int) nb hs [] .null) (O_bl : OvrA Z kbl .int "[I") (hN : ¬ N < 0) (hN3 : N.toNatClampNeg ≤ 3) (hl0 : ¬ len < 0) (hln : len < nb) (g_bl : n0 ≤ bl) (hBb : B ≤ bl) (hB : B ≤ h0.size) (ho : o < h0.size) (n1 : o ≠ bl) (hc1 : cells + 1 ≤ R.cells) (hs1 : slots + 3 ≤ R.slots) (K : ∀ (T' : State) (locs' : List Loc) (h' : Heap) (q : Addr) (kq : ClassId) (s8 : Slot), (s8 = .unset ∨ ∃ a, s8 = .val (.ref a)) → Stand pg l ev R si mi args below meth ci T' locs' (cells + 1) (slots + 3) → T'.heap = h' → Fr n0 locs' → Keep h0 h' [bl] → h0.size ≤ q → Arh Z h' bl kbl (.array .int) nb ((len, .ref q) :: hs) [] .null → Arv Z h' q kq .int (cI g len N.toNatClampNeg) (idl g len N.toNatClampNeg) (.int (0 : Int32)) → Go pg.tables ev below (T'.setTop (mkF mi 79 #[.val (.ref o), .val (.ref ta), .val (.int mx), .val (.int (len + (1 : Int32))), .val (.int (cI g len N.toNatClampNeg)), .val (.int N), .val (.int N), .val (.int N), s8] [])) P) :
    Go pg.tables ev below (s₁.setTop (mkF mi 84 #[.val (.ref o), .val (.ref ta), .val (.int mx), .val (.int len), .val (.int c4), .val (.int N), .val (.int N), .val (.int N), s8] [])) P := by
  refine g_iconst X0 hx hby dc21_84 (v := 0) rfl ?_
  refine g_istore X0 hx hby dc21_85 (l' := #[.val (.ref o), .val (.ref ta), .val (.int mx), .val (.int len), .val (.int 0), .val (.int N), .val (.int N), .val (.int N), s8]) rfl ?_
  refine g_aloadN X0 hx hby dc21_87 rfl rfl ?_
  obtain ⟨T1, X1, e1, st1⟩ := getF X0 hx hZ hown (host := "") (Or.inl (hw _ (own_m 38 rfl))) Via.refl e0 F1 (g := (mkF mi 88 #[.val (.ref o), .val (.ref ta), .val (.int mx), .val (.int len), .val (.int 0), .val (.int N), .val (.int N), .val (.int N), s8] [(.ref o)])) rfl rfl (hb hby dc21_88)
  refine Go.st st1 ?_
  refine g_astore X1 hx hby dc21_91 rfl (l' := #[.val (.ref o), .val (.ref ta), .val (.int mx), .val (.int len), .val (.int 0), .val (.ref en), .val (.int N), .val (.int N), s8]) rfl ?_
  refine g_aload X1 hx hby dc21_93 rfl rfl ?_
  have ov2 := EA.1
  obtain ⟨cl2, Ar2, q2, S2, M2, H2, G2⟩ := ov2
  refine Go.st (X1.arraylength hx (by rw [e1]; exact Ar2.1) (State.isArrayOf_alike hZ.alike Ar2.2.1) (g := (mkF mi 95 #[.val (.ref o), .val (.ref ta), .val (.int mx), .val (.int len), .val (.int 0), .val (.ref en), .val (.int N), .val (.int N), s8] [(.ref en)])) rfl rfl (hb hby dc21_95)) ?_
  rw [len_of S2 M2]
  refine g_istore X1 hx hby dc21_96 (l' := #[.val (.ref o), .val (.ref ta), .val (.int mx), .val (.int len), .val (.int 0), .val (.ref en), .val (.int N), .val (.int N), s8]) rfl ?_
  refine g_iconst X1 hx hby dc21_98 (v := 0) rfl ?_
  refine g_istore X1 hx hby dc21_99 (l' := #[.val (.ref o), .val (.ref ta), .val (.int mx), .val (.int len), .val (.int 0), .val (.ref en), .val (.int N), .val (.int 0), s8]) rfl ?_
  show Go _ _ _ (T1.setTop (mkF mi 101 #[.val (.ref o), .val (.ref ta), .val (.int mx), .val (.int len), .val (.int 0), .val (.ref en), .val (.int N), .val (.int 0), s8] [])) _
  refine own_cntL l Z a0 hw X1 hx hby hml hZ hown o ta mx len en N ken hse g B h0 n0 Z0 e1 N0 (EA.keep (Keep.refl h0 []) (fun _ q => nomatch q)) hN (fun s8_ h8_ => ?_) N.toNatClampNeg (0 : Int32) s8 (by decide) (Nat.zero_add _) h8
  show Go _ _ _ (T1.setTop (mkF mi 101 #[.val (.ref o), .val (.ref ta), .val (.int mx), .val (.int len), .val (.int (cI g len N.toNatClampNeg)), .val (.ref en), .val (.int N), .val (.int N), s8_] [])) _
  refine g_iload X1 hx hby dc21_101 rfl ?_
  refine g_iload X1 hx hby dc21_103 rfl ?_
  refine g_icmpYes X1 hx hby dc21_105 (flt Int32.lt_irrefl).2.1 (pc0 := 105) (pc' := 138) rfl (by decide) (by decide) ?_
  refine g_aloadN X1 hx hby dc21_138 rfl rfl ?_
  obtain ⟨T3, X3, e3, st3⟩ := getF X1 hx hZ hown (host := "") (Or.inl (hw _ (own_m 42 rfl))) Via.refl e1 F2 (g := (mkF mi 139 #[.val (.ref o), .val (.ref ta), .val (.int mx), .val (.int len), .val (.int (cI g len N.toNatClampNeg)), .val (.ref en), .val (.int N), .val (.int N), s8_] [(.ref o)])) rfl rfl (hb hby dc21_139)
  refine Go.st st3 ?_
  refine g_iloadN X3 hx hby dc21_142 rfl ?_
  refine g_iload X3 hx hby dc21_143 rfl ?_
  obtain ⟨T4, h4, k4, X4, e4, E4, A4, EX4, st4⟩ := newPE X3 hx hZ (hw _ (own_m 44 rfl)) e3 (g := (mkF mi 145 #[.val (.ref o), .val (.ref ta), .val (.int mx), .val (.int len), .val (.int (cI g len N.toNatClampNeg)), .val (.ref en), .val (.int N), .val (.int N), s8_] [(.int (cI g len N.toNatClampNeg)), (.int len), (.ref bl)])) rfl (hb hby dc21_145) rfl (cI_b g len hN3).1 (cap := 3) (cI_b g len hN3).2.1 (by decide) hc1 hs1 (ad := "[I") (by decide)
  obtain ⟨ob4, g4⟩ : ∃ z, z = h0.size := ⟨_, rfl⟩
  rw [← g4] at A4 EX4 st4
  have Zs5 : n0 ≤ h4.size := Nat.le_trans Z0 E4.1
  have KC5 : Keep h0 h4 [bl] := (Keep.refl h0 [bl]).ext E4
  have g_ob4 : n0 ≤ ob4 := Nat.le_trans Z0 (Nat.le_of_eq g4.symm)
  have sz_ob4 : h0.size ≤ ob4 := Nat.le_trans (Keep.refl h0 [bl]).1 (Nat.le_of_eq g4.symm)
  have V4 : Arv Z h4 ob4 k4 .int (cI g len N.toNatClampNeg) [] (.int (0 : Int32)) := Arv.new A4 (cI_b g len hN3).1
  refine Go.st st4 ?_
  show Go _ _ _ (T4.setTop (mkF mi 147 #[.val (.ref o), .val (.ref ta), .val (.int mx), .val (.int len), .val (.int (cI g len N.toNatClampNeg)), .val (.ref en), .val (.int N), .val (.int N), s8_] [(.ref ob4), (.int len), (.ref bl)])) _
  have f6 := (BL.ext E4)
  have ov7 := f6
  obtain ⟨cl7, Ar7, q7, S7, M7, H7, G7⟩ := ov7
  have hin7 : ¬ (len < 0 ∨ cl7.slots.size ≤ (len).toNatClampNeg) := inb_of S7 ⟨hl0, hln⟩
  obtain ⟨T8, h8, X8, e8, W8, st8⟩ := stR X4 hx hZ e4 Ar7 (j := len) hin7 rfl (Sto.ofVA Ar7 q7 O_bl (Ins.self EX4)) (g := (mkF mi 147 #[.val (.ref o), .val (.ref ta), .val (.int mx), .val (.int len), .val (.int (cI g len N.toNatClampNeg)), .val (.ref en), .val (.int N), .val (.int N), s8_] [(.ref ob4), (.int len), (.ref bl)])) rfl rfl (hb hby dc21_147)
  have Zs9 : n0 ≤ h8.size := Nat.le_trans Zs5 (Keep.of_wr W8).1
  have KC9 : Keep h0 h8 [bl] := KC5.wr W8 (Or.inl (List.mem_of_getElem? (i := 0) rfl))
  have N9 := Fr.snoc X8 N0 g_bl
  have V8 : Arh Z h8 bl kbl (.array .int) nb ((len, (.ref ob4)) :: hs) [] .null := Arh.push Ar7 q7 S7 M7 H7 G7 rfl W8 hin7
  refine Go.st st8 ?_
  refine g_iconst X8 hx hby dc21_148 (v := 0) rfl ?_
  refine g_istore X8 hx hby dc21_149 (l' := #[.val (.ref o), .val (.ref ta), .val (.int mx), .val (.int len), .val (.int 0), .val (.ref en), .val (.int N), .val (.int N), s8_]) rfl ?_
  refine g_iconst X8 hx hby dc21_151 (v := 0) rfl ?_
  refine g_istore X8 hx hby dc21_152 (l' := #[.val (.ref o), .val (.ref ta), .val (.int mx), .val (.int len), .val (.int 0), .val (.int 0), .val (.int N), .val (.int N), s8_]) rfl ?_
  show Go _ _ _ (T8.setTop (mkF mi 154 #[.val (.ref o), .val (.ref ta), .val (.int mx), .val (.int len), .val (.int 0), .val (.int 0), .val (.int N), .val (.int N), s8_] [])) _
  have ne_o_ob4 : o ≠ ob4 := Nat.ne_of_lt (Nat.lt_of_lt_of_le F1.lt (Nat.le_of_eq g4.symm))
  have ne_bl_ob4 : bl ≠ ob4 := Nat.ne_of_lt (Nat.lt_of_lt_of_le BL.lt (Nat.le_of_eq g4.symm))
  have f11 := ((F1.ext E4).other W8 (Or.inl n1))
  have f12 := ((F2.ext E4).other W8 (Or.inl n1))
  have f13 := (V4.other W8 (Ne.symm ne_bl_ob4))
  refine own_putL l Z a0 hw hx hby hml hZ hown o ta mx len N s8_ en bl ob4 ken hse kbl nb hs k4 g B n0 _ _ hl0 hln hN hN3 ne_o_ob4 ne_bl_ob4 (Nat.le_trans hB sz_ob4) g_ob4 N.toNatClampNeg (0 : Int32) _ _ _ (by decide) (Nat.zero_add _) X8 Zs9 e8 N9 (EA.keep KC9 (own_one (Or.inl hBb))) f11 f12 V8 f13 (fun T10 L10 h10 X10 e10 N10 K10 RQ10 => ?_)
  have Zs14 : n0 ≤ h10.size := Nat.le_trans Zs9 K10.1
  have KC14 : Keep h0 h10 [bl] := KC9.trans K10 (allS (P := fun x => x ∈ [bl] ∨ h0.size ≤ x) (Or.inr sz_ob4) all0)
  show Go _ _ _ (T10.setTop (mkF mi 154 #[.val (.ref o), .val (.ref ta), .val (.int mx), .val (.int len), .val (.int (cI g len N.toNatClampNeg)), .val (.int N), .val (.int N), .val (.int N), s8_] [])) _
  refine g_iload X10 hx hby dc21_154 rfl ?_
  refine g_aloadN X10 hx hby dc21_156 rfl rfl ?_
  have f15 := (f11.keep K10 (ninS ne_o_ob4 nin0))
  obtain ⟨T16, X16, e16, st16⟩ := getF X10 hx hZ hown (host := "") (Or.inl (hw _ (own_m 38 rfl))) Via.refl e10 f15 (g := (mkF mi 157 #[.val (.ref o), .val (.ref ta), .val (.int mx), .val (.int len), .val (.int (cI g len N.toNatClampNeg)), .val (.int N), .val (.int N), .val (.int N), s8_] [(.ref o), (.int N)])) rfl rfl (hb hby dc21_157)
  refine Go.st st16 ?_
  have ne_en_ob4 : en ≠ ob4 := Nat.ne_of_lt (Nat.lt_of_lt_of_le EA.1.lt (Nat.le_of_eq g4.symm))
  have f17 := (((EA.1.ext E4).other W8 (Nat.ne_of_lt (Nat.lt_of_lt_of_le EA.2.1 hBb))).keep K10 (ninS ne_en_ob4 nin0))
  have ov18 := f17
  obtain ⟨cl18, Ar18, q18, S18, M18, H18, G18⟩ := ov18
  refine Go.st (X16.arraylength hx (by rw [e16]; exact Ar18.1) (State.isArrayOf_alike hZ.alike Ar18.2.1) (g := (mkF mi 160 #[.val (.ref o), .val (.ref ta), .val (.int mx), .val (.int len), .val (.int (cI g len N.toNatClampNeg)), .val (.int N), .val (.int N), .val (.int N), s8_] [(.ref en), (.int N)])) rfl rfl (hb hby dc21_160)) ?_
  rw [len_of S18 M18]
  refine g_icmpYes X16 hx hby dc21_161 (flt Int32.lt_irrefl).2.1 (pc0 := 161) (pc' := 196) rfl (by decide) (by decide) ?_
  refine g_iinc X16 hx hby dc21_196 rfl rfl (l' := #[.val (.ref o), .val (.ref ta), .val (.int mx), .val (.int (len + (1 : Int32))), .val (.int (cI g len N.toNatClampNeg)), .val (.int N), .val (.int N), .val (.int N), s8_]) rfl ?_
  refine g_goto X16 hx hby dc21_199 (pc0 := 199) (pc' := 79) rfl (by decide) (by decide) ?_
  show Go _ _ _ (T16.setTop (mkF mi 79 #[.val (.ref o), .val (.ref ta), .val (.int mx), .val (.int (len + (1 : Int32))), .val (.int (cI g len N.toNatClampNeg)), .val (.int N), .val (.int N), .val (.int N), s8_] [])) _
  have f19 := (V8.keep K10 (ninS ne_bl_ob4 nin0))
  exact K _ _ _ ob4 k4 s8_ h8_ X16 e16 N10 KC14 sz_ob4 f19 RQ10
theorem own_mx1 {mx : Int32} (h0 : 0 ≤ mx.toInt) (h4 : mx.toInt ≤ 4) : ¬ (mx + (1 : Int32)) < 0 ∧ (mx + (1 : Int32)).toNatClampNeg ≤ 5 := by
  have e := c_iadd mx 1
  have l1 : (1 : Int32).toInt = 1 := rfl
  have b1 := Int32.le_toInt (mx + 1)
  have b2 := Int32.toInt_lt (mx + 1)
  refine ⟨by rw [Int32.lt_iff_toInt_lt, own_z0]; omega, ?_⟩
  simp only [Int32.toNatClampNeg]; omega
theorem own_ltmx {mx t : Int32} (h0 : 0 ≤ mx.toInt) (h4 : mx.toInt ≤ 4) (q : t.toInt ≤ mx.toInt) : t < (mx + (1 : Int32)) := by
  have e := c_iadd mx 1
  have l1 : (1 : Int32).toInt = 1 := rfl
  have b1 := Int32.le_toInt (mx + 1)
  have b2 := Int32.toInt_lt (mx + 1)
  rw [Int32.lt_iff_toInt_lt]; omega
theorem own_upmx {mx t z : Int32} (h0 : 0 ≤ mx.toInt) (h4 : mx.toInt ≤ 4) (q : t < (mx + (1 : Int32))) (r : mx < z) : t < z := by
  have e := c_iadd mx 1
  have l1 : (1 : Int32).toInt = 1 := rfl
  have b1 := Int32.le_toInt (mx + 1)
  have b2 := Int32.toInt_lt (mx + 1)
  rw [Int32.lt_iff_toInt_lt] at *; omega
theorem own_nlt' {a b : Int32} (h : ¬ a < b) : b.toInt ≤ a.toInt := by rw [Int32.lt_iff_toInt_lt] at h; omega
theorem own_mxneg {mx : Int32} (h0 : 0 ≤ mx.toInt) : ¬ (mx < (0 : Int32)) := by rw [Int32.lt_iff_toInt_lt, own_z0]; omega
theorem own_mx5 {mx : Int32} (h4 : mx.toInt ≤ 4) : mx < (5 : Int32) := by
  have l1 : (5 : Int32).toInt = 5 := rfl
  rw [Int32.lt_iff_toInt_lt]; omega
theorem own_t1 {t : Int32} (h0 : ¬ t < 0) (h : t < (1 : Int32)) : t = 0 := by
  have l1 : (1 : Int32).toInt = 1 := rfl
  have k0 : (0 : Int32).toInt = 0 := rfl
  rw [Int32.lt_iff_toInt_lt] at h0 h; rw [own_z0] at h0
  simp only [← Int32.toInt_inj]; omega
theorem own_t2 {t : Int32} (h0 : ¬ t < 0) (h : t < (2 : Int32)) : t = 0 ∨ t = 1 := by
  have l1 : (2 : Int32).toInt = 2 := rfl
  have k0 : (0 : Int32).toInt = 0 := rfl
  have k1 : (1 : Int32).toInt = 1 := rfl
  rw [Int32.lt_iff_toInt_lt] at h0 h; rw [own_z0] at h0
  simp only [← Int32.toInt_inj]; omega
theorem own_t3 {t : Int32} (h0 : ¬ t < 0) (h : t < (3 : Int32)) : t = 0 ∨ t = 1 ∨ t = 2 := by
  have l1 : (3 : Int32).toInt = 3 := rfl
  have k0 : (0 : Int32).toInt = 0 := rfl
  have k1 : (1 : Int32).toInt = 1 := rfl
  have k2 : (2 : Int32).toInt = 2 := rfl
  rw [Int32.lt_iff_toInt_lt] at h0 h; rw [own_z0] at h0
  simp only [← Int32.toInt_inj]; omega
theorem own_t4 {t : Int32} (h0 : ¬ t < 0) (h : t < (4 : Int32)) : t = 0 ∨ t = 1 ∨ t = 2 ∨ t = 3 := by
  have l1 : (4 : Int32).toInt = 4 := rfl
  have k0 : (0 : Int32).toInt = 0 := rfl
  have k1 : (1 : Int32).toInt = 1 := rfl
  have k2 : (2 : Int32).toInt = 2 := rfl
  have k3 : (3 : Int32).toInt = 3 := rfl
  rw [Int32.lt_iff_toInt_lt] at h0 h; rw [own_z0] at h0
  simp only [← Int32.toInt_inj]; omega
theorem own_t5 {t : Int32} (h0 : ¬ t < 0) (h : t < (5 : Int32)) : t = 0 ∨ t = 1 ∨ t = 2 ∨ t = 3 ∨ t = 4 := by
  have l1 : (5 : Int32).toInt = 5 := rfl
  have k0 : (0 : Int32).toInt = 0 := rfl
  have k1 : (1 : Int32).toInt = 1 := rfl
  have k2 : (2 : Int32).toInt = 2 := rfl
  have k3 : (3 : Int32).toInt = 3 := rfl
  have k4 : (4 : Int32).toInt = 4 := rfl
  rw [Int32.lt_iff_toInt_lt] at h0 h; rw [own_z0] at h0
  simp only [← Int32.toInt_inj]; omega
theorem dc21_67 : decode prog_163_method_1_code 67 = .ok (.aload_n 0, 1) := by decide +kernel
theorem dc21_68 : decode prog_163_method_1_code 68 = .ok (.iload_n 2, 1) := by decide +kernel
theorem dc21_69 : decode prog_163_method_1_code 69 = .ok (.iconst 1, 1) := by decide +kernel
theorem dc21_70 : decode prog_163_method_1_code 70 = .ok (.iadd, 1) := by decide +kernel
theorem dc21_71 : decode prog_163_method_1_code 71 = .ok (.anewarray 42, 3) := by decide +kernel
theorem dc21_74 : decode prog_163_method_1_code 74 = .ok (.putfield 44, 3) := by decide +kernel
theorem dc21_77 : decode prog_163_method_1_code 77 = .ok (.iconst 0, 1) := by decide +kernel
theorem dc21_78 : decode prog_163_method_1_code 78 = .ok (.istore_n 3, 1) := by decide +kernel
theorem dc21_79 : decode prog_163_method_1_code 79 = .ok (.iload_n 3, 1) := by decide +kernel
theorem dc21_80 : decode prog_163_method_1_code 80 = .ok (.iload_n 2, 1) := by decide +kernel
theorem dc21_81 : decode prog_163_method_1_code 81 = .ok (.if_icmp .gt 121, 3) := by decide +kernel
set_option maxRecDepth 65536 in
set_option maxHeartbeats 40000000 in
theorem own_rest (l : Launch) (Z : State) (a0 : Array Value) (hw : ∀ d ∈ tables_1, d.before a0 Z = true) {pg : Program} {ev : Env} {si : State} {mi : MethodId} {args : Array Value} {below : List Frame} {meth : Method} {ci : Code} {R : Room} {s₁ : State} {locs : List Loc} {cells slots : Nat} (X0 : Stand pg l ev R si mi args below meth ci s₁ locs cells slots) (hx : pg.tables.exec = Jvm.exec) (hby : ci.code = prog_163_method_1_code) (hml : ci.maxLocals = 9) (hZ : Z.Warmed39 si.vm) (hown : si.vm.findClass "com/example/crossbook/crossbook/venue/JsonFields$Texts" = some mi.cls) {P : State → Outcome → Prop} (o : Addr) (ta : Addr) (mx : Int32) (N : Int32) (en : Addr) (ken : ClassId) (hse : List (Int32 × Value)) (g : Nat → List Int32) (B : Nat) (h0 : Heap) (n0 : Nat) (Z0 : n0 ≤ h0.size) (e0 : s₁.heap = h0) (N0 : Fr n0 locs) (E0 : Exa Z h0 o "com/example/crossbook/crossbook/venue/JsonFields$Texts") (F1 : Fld Z h0 o "com/example/crossbook/crossbook/venue/JsonFields$Texts" "encoded" "[[B" (.ref en)) (F2 : Fld Z h0 o "com/example/crossbook/crossbook/venue/JsonFields$Texts" "byLength" "[[I" .null) (EA : EncA Z h0 B o en ken N hse g N.toNatClampNeg) (hN : ¬ N < 0) (hN3 : N.toNatClampNeg ≤ 3) (hB : B ≤ h0.size) (g_o : n0 ≤ o) (hm0 : 0 ≤ mx.toInt) (hm4 : mx.toInt ≤ 4) (hnm : meth.name = "<init>") (hc : cells + 6 ≤ R.cells) (hs : slots + 20 ≤ R.slots) (K : ∀ (T' : State) (locs' : List Loc) (h' : Heap) (Ls : Array Slot) (bl : Addr) (kbl : ClassId) (hs : List (Int32 × Value)), Stand pg l ev R si mi args below meth ci T' locs' (cells + 6) (slots + 20) → T'.heap = h' → Fr n0 locs' → Keep h0 h' [o] → Fld Z h' o "com/example/crossbook/crossbook/venue/JsonFields$Texts" "encoded" "[[B" (.ref en) → Fld Z h' o "com/example/crossbook/crossbook/venue/JsonFields$Texts" "byLength" "[[I" (.ref bl) → EncA Z h' B o en ken N hse g N.toNatClampNeg → Arh Z h' bl kbl (.array .int) (mx + (1 : Int32)) hs [] .null → (∀ t : Int32, ¬ t < 0 → t < (mx + (1 : Int32)) → ∃ (q : Addr) (kq : ClassId), getH hs [] .null t.toNatClampNeg = .ref q ∧ Arv Z h' q kq .int (cI g t N.toNatClampNeg) (idl g t N.toNatClampNeg) (.int (0 : Int32))) → Go pg.tables ev below (T'.setTop (mkF mi 202 Ls [])) P) :
    Go pg.tables ev below (s₁.setTop (mkF mi 67 #[.val (.ref o), .val (.ref ta), .val (.int mx), .val (.int N), .unset, .unset, .unset, .unset, .unset] [])) P := by
  refine g_aloadN X0 hx hby dc21_67 rfl rfl ?_
  refine g_iloadN X0 hx hby dc21_68 rfl ?_
  refine g_iconst X0 hx hby dc21_69 (v := 1) rfl ?_
  refine g_iadd X0 hx hby dc21_70 rfl ?_
  obtain ⟨T1, h1, k1, X1, e1, E1, A1, EX1, O1, st1⟩ := newRA X0 hx hZ hown (C := "[I") (ty := .int) (by decide) (hw _ (own_m 40 rfl)) (hw _ (own_m 41 rfl)) e0 (g := (mkF mi 71 #[.val (.ref o), .val (.ref ta), .val (.int mx), .val (.int N), .unset, .unset, .unset, .unset, .unset] [(.int (mx + (1 : Int32))), (.ref o)])) rfl (hb hby dc21_71) rfl (own_mx1 hm0 hm4).1 (cap := 5) (own_mx1 hm0 hm4).2 (by decide) (by omega) (by omega) (ad := "[[I") (by decide)
  obtain ⟨ob1, g1⟩ : ∃ z, z = h0.size := ⟨_, rfl⟩
  rw [← g1] at A1 EX1 st1
  have Zs2 : n0 ≤ h1.size := Nat.le_trans Z0 E1.1
  have KC2 : Keep h0 h1 [o] := (Keep.refl h0 [o]).ext E1
  have g_ob1 : n0 ≤ ob1 := Nat.le_trans Z0 (Nat.le_of_eq g1.symm)
  have sz_ob1 : h0.size ≤ ob1 := Nat.le_trans (Keep.refl h0 [o]).1 (Nat.le_of_eq g1.symm)
  have V1 : Arh Z h1 ob1 k1 (.array .int) (mx + (1 : Int32)) [] [] .null := (Arv.new A1 (own_mx1 hm0 hm4).1).arh
  refine Go.st st1 ?_
  have f3 := (F2.ext E1)
  have f4 := (E0.ext E1)
  obtain ⟨T5, h5, X5, e5, W5, st5⟩ := putF X1 hx hZ hown (host := "") (Or.inl (hw _ (own_m 42 rfl))) Via.refl e1 f3 f4 (Or.inr ⟨(hw _ (own_m 43 rfl)), rfl, hnm⟩) (hw _ (own_m 17 rfl)) (ty := (.array (.array .int))) (by decide) rfl rfl (g := (mkF mi 74 #[.val (.ref o), .val (.ref ta), .val (.int mx), .val (.int N), .unset, .unset, .unset, .unset, .unset] [(.ref ob1), (.ref o)])) rfl rfl (hb hby dc21_74)
  have Zs6 : n0 ≤ h5.size := Nat.le_trans Zs2 (Keep.of_wr W5).1
  have KC6 : Keep h0 h5 [o] := KC2.wr W5 (Or.inl (List.mem_of_getElem? (i := 0) rfl))
  have N6 := Fr.snoc X5 N0 g_o
  have F5 : Fld Z h5 o "com/example/crossbook/crossbook/venue/JsonFields$Texts" "byLength" "[[I" (.ref ob1) := f3.same W5
  refine Go.st st5 ?_
  refine g_iconst X5 hx hby dc21_77 (v := 0) rfl ?_
  refine g_istoreN X5 hx hby dc21_78 (l' := #[.val (.ref o), .val (.ref ta), .val (.int mx), .val (.int 0), .unset, .unset, .unset, .unset, .unset]) rfl ?_
  refine g_iloadN X5 hx hby dc21_79 rfl ?_
  refine g_iloadN X5 hx hby dc21_80 rfl ?_
  refine g_icmpNo X5 hx hby dc21_81 (flt (own_mxneg hm0)).2.2.1 ?_
  show Go _ _ _ (T5.setTop (mkF mi 84 #[.val (.ref o), .val (.ref ta), .val (.int mx), .val (.int 0), .unset, .unset, .unset, .unset, .unset] [])) _
  have f8 := (f4.wr W5)
  have f9 := ((F1.ext E1).other W5 (Or.inr (slot_ne (Or.inr (hw _ (own_m 39 rfl))) (Or.inr (hw _ (own_m 43 rfl))) (by decide) (t := (.array (.array .byte))) (t' := (.array (.array .int))) (by decide) (by decide))))
  have ne_o_ob1 : o ≠ ob1 := Nat.ne_of_lt (Nat.lt_of_lt_of_le E0.lt (Nat.le_of_eq g1.symm))
  have f10 := (V1.other W5 (Ne.symm ne_o_ob1))
  refine own_turnU l Z a0 hw X5 hx hby hml hZ hown o ta mx (0 : Int32) N en ob1 ken hse k1 (mx + (1 : Int32)) [] g B h5 n0 Zs6 e5 N6 f9 F5 (EA.keep KC6 (own_one (Or.inr rfl))) f10 O1 hN hN3 (by decide) (own_ltmx hm0 hm4 (own_nlt' (own_mxneg hm0))) g_ob1 (Nat.le_trans hB sz_ob1) (Nat.le_trans hB KC6.1) f8.lt ne_o_ob1 (by omega) (by omega) (fun T7 L7 h7 q7_ kq7 s8_7 h8_7 X7 e7 N7 K7 z_7 VB7 VQ7 => ?_)
  have Zs11 : n0 ≤ h7.size := Nat.le_trans Zs6 K7.1
  have KC11 : Keep h0 h7 [o] := KC6.trans K7 (allS (P := fun x => x ∈ [o] ∨ h0.size ≤ x) (Or.inr sz_ob1) all0)
  show Go _ _ _ (T7.setTop (mkF mi 79 #[.val (.ref o), .val (.ref ta), .val (.int mx), .val (.int 1), .val (.int (cI g (0 : Int32) N.toNatClampNeg)), .val (.int N), .val (.int N), .val (.int N), s8_7] [])) _
  refine g_iloadN X7 hx hby dc21_79 rfl ?_
  refine g_iloadN X7 hx hby dc21_80 rfl ?_
  by_cases hc81_1 : mx < (1 : Int32)
  · refine g_icmpYes X7 hx hby dc21_81 (tlt hc81_1).2.2.1 (pc0 := 81) (pc' := 202) rfl (by decide) (by decide) ?_
    show Go _ _ _ (T7.setTop (mkF mi 202 #[.val (.ref o), .val (.ref ta), .val (.int mx), .val (.int 1), .val (.int (cI g (0 : Int32) N.toNatClampNeg)), .val (.int N), .val (.int N), .val (.int N), s8_7] [])) _
    have f12 := (f9.keep K7 (ninS ne_o_ob1 nin0))
    have f13 := (F5.keep K7 (ninS ne_o_ob1 nin0))
    refine K _ _ _ _ ob1 k1 (((0 : Int32), (.ref q7_)) :: []) (X7.more (by omega) (by omega)) e7 N7 KC11 f12 f13 (EA.keep KC11 (own_one (Or.inr rfl))) VB7 (fun t ht0 htn => ?_)
    rcases own_t1 ht0 (own_upmx hm0 hm4 htn hc81_1) with rfl
    · exact ⟨q7_, kq7, (getH_hit (by decide) rfl), VQ7⟩
  · refine g_icmpNo X7 hx hby dc21_81 (flt hc81_1).2.2.1 ?_
    show Go _ _ _ (T7.setTop (mkF mi 84 #[.val (.ref o), .val (.ref ta), .val (.int mx), .val (.int 1), .val (.int (cI g (0 : Int32) N.toNatClampNeg)), .val (.int N), .val (.int N), .val (.int N), s8_7] [])) _
    have f15 := (f8.keep K7)
    have f16 := (f9.keep K7 (ninS ne_o_ob1 nin0))
    have f17 := (F5.keep K7 (ninS ne_o_ob1 nin0))
    refine own_turnR l Z a0 hw X7 hx hby hml hZ hown o ta mx (1 : Int32) N en ob1 ken hse k1 (mx + (1 : Int32)) (((0 : Int32), (.ref q7_)) :: []) g B (cI g (0 : Int32) N.toNatClampNeg) s8_7 h7 n0 Zs11 e7 N7 h8_7 f16 f17 (EA.keep KC11 (own_one (Or.inr rfl))) VB7 O1 hN hN3 (by decide) (own_ltmx hm0 hm4 (own_nlt' hc81_1)) g_ob1 (Nat.le_trans hB sz_ob1) (Nat.le_trans hB KC11.1) f15.lt ne_o_ob1 (by omega) (by omega) (fun T14 L14 h14 q14_ kq14 s8_14 h8_14 X14 e14 N14 K14 z_14 VB14 VQ14 => ?_)
    have Zs18 : n0 ≤ h14.size := Nat.le_trans Zs11 K14.1
    have KC18 : Keep h0 h14 [o] := KC11.trans K14 (allS (P := fun x => x ∈ [o] ∨ h0.size ≤ x) (Or.inr sz_ob1) all0)
    show Go _ _ _ (T14.setTop (mkF mi 79 #[.val (.ref o), .val (.ref ta), .val (.int mx), .val (.int 2), .val (.int (cI g (1 : Int32) N.toNatClampNeg)), .val (.int N), .val (.int N), .val (.int N), s8_14] [])) _
    refine g_iloadN X14 hx hby dc21_79 rfl ?_
    refine g_iloadN X14 hx hby dc21_80 rfl ?_
    by_cases hc81_2 : mx < (2 : Int32)
    · refine g_icmpYes X14 hx hby dc21_81 (tlt hc81_2).2.2.1 (pc0 := 81) (pc' := 202) rfl (by decide) (by decide) ?_
      show Go _ _ _ (T14.setTop (mkF mi 202 #[.val (.ref o), .val (.ref ta), .val (.int mx), .val (.int 2), .val (.int (cI g (1 : Int32) N.toNatClampNeg)), .val (.int N), .val (.int N), .val (.int N), s8_14] [])) _
      have f19 := (f16.keep K14 (ninS ne_o_ob1 nin0))
      have f20 := (f17.keep K14 (ninS ne_o_ob1 nin0))
      refine K _ _ _ _ ob1 k1 (((1 : Int32), (.ref q14_)) :: (((0 : Int32), (.ref q7_)) :: [])) (X14.more (by omega) (by omega)) e14 N14 KC18 f19 f20 (EA.keep KC18 (own_one (Or.inr rfl))) VB14 (fun t ht0 htn => ?_)
      have ne_ob1_q7_ : ob1 ≠ q7_ := Nat.ne_of_lt (Nat.lt_of_lt_of_le (V1.other W5 (Ne.symm ne_o_ob1)).lt z_7)
      have f21 := (VQ7.keep K14 (ninS (Ne.symm ne_ob1_q7_) nin0))
      rcases own_t2 ht0 (own_upmx hm0 hm4 htn hc81_2) with rfl | rfl
      · exact ⟨q7_, kq7, (getH_miss (by decide) (by decide) (getH_hit (by decide) rfl)), f21⟩
      · exact ⟨q14_, kq14, (getH_hit (by decide) rfl), VQ14⟩
    · refine g_icmpNo X14 hx hby dc21_81 (flt hc81_2).2.2.1 ?_
      show Go _ _ _ (T14.setTop (mkF mi 84 #[.val (.ref o), .val (.ref ta), .val (.int mx), .val (.int 2), .val (.int (cI g (1 : Int32) N.toNatClampNeg)), .val (.int N), .val (.int N), .val (.int N), s8_14] [])) _
      have f23 := (f15.keep K14)
      have f24 := (f16.keep K14 (ninS ne_o_ob1 nin0))
      have f25 := (f17.keep K14 (ninS ne_o_ob1 nin0))
      refine own_turnR l Z a0 hw X14 hx hby hml hZ hown o ta mx (2 : Int32) N en ob1 ken hse k1 (mx + (1 : Int32)) (((1 : Int32), (.ref q14_)) :: (((0 : Int32), (.ref q7_)) :: [])) g B (cI g (1 : Int32) N.toNatClampNeg) s8_14 h14 n0 Zs18 e14 N14 h8_14 f24 f25 (EA.keep KC18 (own_one (Or.inr rfl))) VB14 O1 hN hN3 (by decide) (own_ltmx hm0 hm4 (own_nlt' hc81_2)) g_ob1 (Nat.le_trans hB sz_ob1) (Nat.le_trans hB KC18.1) f23.lt ne_o_ob1 (by omega) (by omega) (fun T22 L22 h22 q22_ kq22 s8_22 h8_22 X22 e22 N22 K22 z_22 VB22 VQ22 => ?_)
      have Zs26 : n0 ≤ h22.size := Nat.le_trans Zs18 K22.1
      have KC26 : Keep h0 h22 [o] := KC18.trans K22 (allS (P := fun x => x ∈ [o] ∨ h0.size ≤ x) (Or.inr sz_ob1) all0)
      show Go _ _ _ (T22.setTop (mkF mi 79 #[.val (.ref o), .val (.ref ta), .val (.int mx), .val (.int 3), .val (.int (cI g (2 : Int32) N.toNatClampNeg)), .val (.int N), .val (.int N), .val (.int N), s8_22] [])) _
      refine g_iloadN X22 hx hby dc21_79 rfl ?_
      refine g_iloadN X22 hx hby dc21_80 rfl ?_
      by_cases hc81_3 : mx < (3 : Int32)
      · refine g_icmpYes X22 hx hby dc21_81 (tlt hc81_3).2.2.1 (pc0 := 81) (pc' := 202) rfl (by decide) (by decide) ?_
        show Go _ _ _ (T22.setTop (mkF mi 202 #[.val (.ref o), .val (.ref ta), .val (.int mx), .val (.int 3), .val (.int (cI g (2 : Int32) N.toNatClampNeg)), .val (.int N), .val (.int N), .val (.int N), s8_22] [])) _
        have f27 := (f24.keep K22 (ninS ne_o_ob1 nin0))
        have f28 := (f25.keep K22 (ninS ne_o_ob1 nin0))
        refine K _ _ _ _ ob1 k1 (((2 : Int32), (.ref q22_)) :: (((1 : Int32), (.ref q14_)) :: (((0 : Int32), (.ref q7_)) :: []))) (X22.more (by omega) (by omega)) e22 N22 KC26 f27 f28 (EA.keep KC26 (own_one (Or.inr rfl))) VB22 (fun t ht0 htn => ?_)
        have ne_ob1_q7_ : ob1 ≠ q7_ := Nat.ne_of_lt (Nat.lt_of_lt_of_le (V1.other W5 (Ne.symm ne_o_ob1)).lt z_7)
        have f29 := ((VQ7.keep K14 (ninS (Ne.symm ne_ob1_q7_) nin0)).keep K22 (ninS (Ne.symm ne_ob1_q7_) nin0))
        have ne_ob1_q14_ : ob1 ≠ q14_ := Nat.ne_of_lt (Nat.lt_of_lt_of_le VB7.lt z_14)
        have f30 := (VQ14.keep K22 (ninS (Ne.symm ne_ob1_q14_) nin0))
        rcases own_t3 ht0 (own_upmx hm0 hm4 htn hc81_3) with rfl | rfl | rfl
        · exact ⟨q7_, kq7, (getH_miss (by decide) (by decide) (getH_miss (by decide) (by decide) (getH_hit (by decide) rfl))), f29⟩
        · exact ⟨q14_, kq14, (getH_miss (by decide) (by decide) (getH_hit (by decide) rfl)), f30⟩
        · exact ⟨q22_, kq22, (getH_hit (by decide) rfl), VQ22⟩
      · refine g_icmpNo X22 hx hby dc21_81 (flt hc81_3).2.2.1 ?_
        show Go _ _ _ (T22.setTop (mkF mi 84 #[.val (.ref o), .val (.ref ta), .val (.int mx), .val (.int 3), .val (.int (cI g (2 : Int32) N.toNatClampNeg)), .val (.int N), .val (.int N), .val (.int N), s8_22] [])) _
        have f32 := (f23.keep K22)
        have f33 := (f24.keep K22 (ninS ne_o_ob1 nin0))
        have f34 := (f25.keep K22 (ninS ne_o_ob1 nin0))
        refine own_turnR l Z a0 hw X22 hx hby hml hZ hown o ta mx (3 : Int32) N en ob1 ken hse k1 (mx + (1 : Int32)) (((2 : Int32), (.ref q22_)) :: (((1 : Int32), (.ref q14_)) :: (((0 : Int32), (.ref q7_)) :: []))) g B (cI g (2 : Int32) N.toNatClampNeg) s8_22 h22 n0 Zs26 e22 N22 h8_22 f33 f34 (EA.keep KC26 (own_one (Or.inr rfl))) VB22 O1 hN hN3 (by decide) (own_ltmx hm0 hm4 (own_nlt' hc81_3)) g_ob1 (Nat.le_trans hB sz_ob1) (Nat.le_trans hB KC26.1) f32.lt ne_o_ob1 (by omega) (by omega) (fun T31 L31 h31 q31_ kq31 s8_31 h8_31 X31 e31 N31 K31 z_31 VB31 VQ31 => ?_)
        have Zs35 : n0 ≤ h31.size := Nat.le_trans Zs26 K31.1
        have KC35 : Keep h0 h31 [o] := KC26.trans K31 (allS (P := fun x => x ∈ [o] ∨ h0.size ≤ x) (Or.inr sz_ob1) all0)
        show Go _ _ _ (T31.setTop (mkF mi 79 #[.val (.ref o), .val (.ref ta), .val (.int mx), .val (.int 4), .val (.int (cI g (3 : Int32) N.toNatClampNeg)), .val (.int N), .val (.int N), .val (.int N), s8_31] [])) _
        refine g_iloadN X31 hx hby dc21_79 rfl ?_
        refine g_iloadN X31 hx hby dc21_80 rfl ?_
        by_cases hc81_4 : mx < (4 : Int32)
        · refine g_icmpYes X31 hx hby dc21_81 (tlt hc81_4).2.2.1 (pc0 := 81) (pc' := 202) rfl (by decide) (by decide) ?_
          show Go _ _ _ (T31.setTop (mkF mi 202 #[.val (.ref o), .val (.ref ta), .val (.int mx), .val (.int 4), .val (.int (cI g (3 : Int32) N.toNatClampNeg)), .val (.int N), .val (.int N), .val (.int N), s8_31] [])) _
          have f36 := (f33.keep K31 (ninS ne_o_ob1 nin0))
          have f37 := (f34.keep K31 (ninS ne_o_ob1 nin0))
          refine K _ _ _ _ ob1 k1 (((3 : Int32), (.ref q31_)) :: (((2 : Int32), (.ref q22_)) :: (((1 : Int32), (.ref q14_)) :: (((0 : Int32), (.ref q7_)) :: [])))) (X31.more (by omega) (by omega)) e31 N31 KC35 f36 f37 (EA.keep KC35 (own_one (Or.inr rfl))) VB31 (fun t ht0 htn => ?_)
          have ne_ob1_q7_ : ob1 ≠ q7_ := Nat.ne_of_lt (Nat.lt_of_lt_of_le (V1.other W5 (Ne.symm ne_o_ob1)).lt z_7)
          have f38 := (((VQ7.keep K14 (ninS (Ne.symm ne_ob1_q7_) nin0)).keep K22 (ninS (Ne.symm ne_ob1_q7_) nin0)).keep K31 (ninS (Ne.symm ne_ob1_q7_) nin0))
          have ne_ob1_q14_ : ob1 ≠ q14_ := Nat.ne_of_lt (Nat.lt_of_lt_of_le VB7.lt z_14)
          have f39 := ((VQ14.keep K22 (ninS (Ne.symm ne_ob1_q14_) nin0)).keep K31 (ninS (Ne.symm ne_ob1_q14_) nin0))
          have ne_ob1_q22_ : ob1 ≠ q22_ := Nat.ne_of_lt (Nat.lt_of_lt_of_le VB14.lt z_22)
          have f40 := (VQ22.keep K31 (ninS (Ne.symm ne_ob1_q22_) nin0))
          rcases own_t4 ht0 (own_upmx hm0 hm4 htn hc81_4) with rfl | rfl | rfl | rfl
          · exact ⟨q7_, kq7, (getH_miss (by decide) (by decide) (getH_miss (by decide) (by decide) (getH_miss (by decide) (by decide) (getH_hit (by decide) rfl)))), f38⟩
          · exact ⟨q14_, kq14, (getH_miss (by decide) (by decide) (getH_miss (by decide) (by decide) (getH_hit (by decide) rfl))), f39⟩
          · exact ⟨q22_, kq22, (getH_miss (by decide) (by decide) (getH_hit (by decide) rfl)), f40⟩
          · exact ⟨q31_, kq31, (getH_hit (by decide) rfl), VQ31⟩
        · refine g_icmpNo X31 hx hby dc21_81 (flt hc81_4).2.2.1 ?_
          show Go _ _ _ (T31.setTop (mkF mi 84 #[.val (.ref o), .val (.ref ta), .val (.int mx), .val (.int 4), .val (.int (cI g (3 : Int32) N.toNatClampNeg)), .val (.int N), .val (.int N), .val (.int N), s8_31] [])) _
          have f42 := (f32.keep K31)
          have f43 := (f33.keep K31 (ninS ne_o_ob1 nin0))
          have f44 := (f34.keep K31 (ninS ne_o_ob1 nin0))
          refine own_turnR l Z a0 hw X31 hx hby hml hZ hown o ta mx (4 : Int32) N en ob1 ken hse k1 (mx + (1 : Int32)) (((3 : Int32), (.ref q31_)) :: (((2 : Int32), (.ref q22_)) :: (((1 : Int32), (.ref q14_)) :: (((0 : Int32), (.ref q7_)) :: [])))) g B (cI g (3 : Int32) N.toNatClampNeg) s8_31 h31 n0 Zs35 e31 N31 h8_31 f43 f44 (EA.keep KC35 (own_one (Or.inr rfl))) VB31 O1 hN hN3 (by decide) (own_ltmx hm0 hm4 (own_nlt' hc81_4)) g_ob1 (Nat.le_trans hB sz_ob1) (Nat.le_trans hB KC35.1) f42.lt ne_o_ob1 (by omega) (by omega) (fun T41 L41 h41 q41_ kq41 s8_41 h8_41 X41 e41 N41 K41 z_41 VB41 VQ41 => ?_)
          have Zs45 : n0 ≤ h41.size := Nat.le_trans Zs35 K41.1
          have KC45 : Keep h0 h41 [o] := KC35.trans K41 (allS (P := fun x => x ∈ [o] ∨ h0.size ≤ x) (Or.inr sz_ob1) all0)
          show Go _ _ _ (T41.setTop (mkF mi 79 #[.val (.ref o), .val (.ref ta), .val (.int mx), .val (.int 5), .val (.int (cI g (4 : Int32) N.toNatClampNeg)), .val (.int N), .val (.int N), .val (.int N), s8_41] [])) _
          refine g_iloadN X41 hx hby dc21_79 rfl ?_
          refine g_iloadN X41 hx hby dc21_80 rfl ?_
          refine g_icmpYes X41 hx hby dc21_81 (tlt (own_mx5 hm4)).2.2.1 (pc0 := 81) (pc' := 202) rfl (by decide) (by decide) ?_
          show Go _ _ _ (T41.setTop (mkF mi 202 #[.val (.ref o), .val (.ref ta), .val (.int mx), .val (.int 5), .val (.int (cI g (4 : Int32) N.toNatClampNeg)), .val (.int N), .val (.int N), .val (.int N), s8_41] [])) _
          have f46 := (f43.keep K41 (ninS ne_o_ob1 nin0))
          have f47 := (f44.keep K41 (ninS ne_o_ob1 nin0))
          refine K _ _ _ _ ob1 k1 (((4 : Int32), (.ref q41_)) :: (((3 : Int32), (.ref q31_)) :: (((2 : Int32), (.ref q22_)) :: (((1 : Int32), (.ref q14_)) :: (((0 : Int32), (.ref q7_)) :: []))))) (X41.more (by omega) (by omega)) e41 N41 KC45 f46 f47 (EA.keep KC45 (own_one (Or.inr rfl))) VB41 (fun t ht0 htn => ?_)
          have ne_ob1_q7_ : ob1 ≠ q7_ := Nat.ne_of_lt (Nat.lt_of_lt_of_le (V1.other W5 (Ne.symm ne_o_ob1)).lt z_7)
          have f48 := ((((VQ7.keep K14 (ninS (Ne.symm ne_ob1_q7_) nin0)).keep K22 (ninS (Ne.symm ne_ob1_q7_) nin0)).keep K31 (ninS (Ne.symm ne_ob1_q7_) nin0)).keep K41 (ninS (Ne.symm ne_ob1_q7_) nin0))
          have ne_ob1_q14_ : ob1 ≠ q14_ := Nat.ne_of_lt (Nat.lt_of_lt_of_le VB7.lt z_14)
          have f49 := (((VQ14.keep K22 (ninS (Ne.symm ne_ob1_q14_) nin0)).keep K31 (ninS (Ne.symm ne_ob1_q14_) nin0)).keep K41 (ninS (Ne.symm ne_ob1_q14_) nin0))
          have ne_ob1_q22_ : ob1 ≠ q22_ := Nat.ne_of_lt (Nat.lt_of_lt_of_le VB14.lt z_22)
          have f50 := ((VQ22.keep K31 (ninS (Ne.symm ne_ob1_q22_) nin0)).keep K41 (ninS (Ne.symm ne_ob1_q22_) nin0))
          have ne_ob1_q31_ : ob1 ≠ q31_ := Nat.ne_of_lt (Nat.lt_of_lt_of_le VB22.lt z_31)
          have f51 := (VQ31.keep K41 (ninS (Ne.symm ne_ob1_q31_) nin0))
          rcases own_t5 ht0 (own_upmx hm0 hm4 htn (own_mx5 hm4)) with rfl | rfl | rfl | rfl | rfl
          · exact ⟨q7_, kq7, (getH_miss (by decide) (by decide) (getH_miss (by decide) (by decide) (getH_miss (by decide) (by decide) (getH_miss (by decide) (by decide) (getH_hit (by decide) rfl))))), f48⟩
          · exact ⟨q14_, kq14, (getH_miss (by decide) (by decide) (getH_miss (by decide) (by decide) (getH_miss (by decide) (by decide) (getH_hit (by decide) rfl)))), f49⟩
          · exact ⟨q22_, kq22, (getH_miss (by decide) (by decide) (getH_miss (by decide) (by decide) (getH_hit (by decide) rfl))), f50⟩
          · exact ⟨q31_, kq31, (getH_miss (by decide) (by decide) (getH_hit (by decide) rfl)), f51⟩
          · exact ⟨q41_, kq41, (getH_hit (by decide) rfl), VQ41⟩
def g3 (a b c : List Int32) : Nat → List Int32
  | 0 => a
  | 1 => b
  | _ => c
theorem own_c3 {tb : Tables} {e : Env} {below : List Frame} {T : State} {mi : MethodId} {P : State → Outcome → Prop} {a b c d1 d2 d3 d4 d5 : Slot} {x N : Int32} (h : x = N) (k : Go tb e below (T.setTop (mkF mi 67 #[a, b, c, .val (.int N), d1, d2, d3, d4, d5] [])) P) : Go tb e below (T.setTop (mkF mi 67 #[a, b, c, .val (.int x), d1, d2, d3, d4, d5] [])) P := h ▸ k
theorem own_gh {hs : List (Int32 × Value)} {d v : Value} {i : Nat} (j : Int32) (hj : j.toNatClampNeg = i) (e : getH hs [] d j.toNatClampNeg = v) : getH hs [] d i = v := hj ▸ e
theorem own_te {t j : Int32} {k : Nat} (hj : j.toInt = k) (h1 : ¬ j < t) (h2 : (k : Int) ≤ t.toInt) : j = t := by
  rw [Int32.lt_iff_toInt_lt] at h1
  apply Int32.toInt_inj.mp; omega
theorem own_tl {t j : Int32} {k : Nat} (hj : j.toInt = k) (q : j < t) : ((k + 1 : Nat) : Int) ≤ t.toInt := by
  rw [Int32.lt_iff_toInt_lt] at q; omega
theorem own_n3 {N : Int32} (h : N.toNatClampNeg ≤ 3) : ¬ ((3 : Int32) < N) := by
  have l3 : (3 : Int32).toInt = 3 := rfl
  simp only [Int32.toNatClampNeg] at h
  rw [Int32.lt_iff_toInt_lt]; omega
theorem own_n0 {N : Int32} (h : ¬ N < 0) : ((0 : Nat) : Int) ≤ N.toInt := by rw [own_nn h]; omega
theorem dc21_0 : decode prog_163_method_1_code 0 = .ok (.aload_n 0, 1) := by decide +kernel
theorem dc21_1 : decode prog_163_method_1_code 1 = .ok (.invokespecial 1, 3) := by decide +kernel
theorem dc21_4 : decode prog_163_method_1_code 4 = .ok (.aload_n 0, 1) := by decide +kernel
theorem dc21_5 : decode prog_163_method_1_code 5 = .ok (.aload_n 1, 1) := by decide +kernel
theorem dc21_6 : decode prog_163_method_1_code 6 = .ok (.invokevirtual 7, 3) := by decide +kernel
theorem dc21_9 : decode prog_163_method_1_code 9 = .ok (.checkcast 8, 3) := by decide +kernel
theorem dc21_12 : decode prog_163_method_1_code 12 = .ok (.putfield 13, 3) := by decide +kernel
theorem dc21_15 : decode prog_163_method_1_code 15 = .ok (.aload_n 0, 1) := by decide +kernel
theorem dc21_16 : decode prog_163_method_1_code 16 = .ok (.aload_n 1, 1) := by decide +kernel
theorem dc21_17 : decode prog_163_method_1_code 17 = .ok (.arraylength, 1) := by decide +kernel
theorem dc21_18 : decode prog_163_method_1_code 18 = .ok (.anewarray 18, 3) := by decide +kernel
theorem dc21_21 : decode prog_163_method_1_code 21 = .ok (.putfield 20, 3) := by decide +kernel
theorem dc21_24 : decode prog_163_method_1_code 24 = .ok (.iconst 0, 1) := by decide +kernel
theorem dc21_25 : decode prog_163_method_1_code 25 = .ok (.istore_n 2, 1) := by decide +kernel
theorem dc21_26 : decode prog_163_method_1_code 26 = .ok (.iconst 0, 1) := by decide +kernel
theorem dc21_27 : decode prog_163_method_1_code 27 = .ok (.istore_n 3, 1) := by decide +kernel
theorem dc21_28 : decode prog_163_method_1_code 28 = .ok (.iload_n 3, 1) := by decide +kernel
theorem dc21_29 : decode prog_163_method_1_code 29 = .ok (.aload_n 1, 1) := by decide +kernel
theorem dc21_30 : decode prog_163_method_1_code 30 = .ok (.arraylength, 1) := by decide +kernel
theorem dc21_31 : decode prog_163_method_1_code 31 = .ok (.if_icmp .ge 36, 3) := by decide +kernel
theorem dc21_34 : decode prog_163_method_1_code 34 = .ok (.aload_n 0, 1) := by decide +kernel
theorem dc21_35 : decode prog_163_method_1_code 35 = .ok (.getfield 20, 3) := by decide +kernel
theorem dc21_38 : decode prog_163_method_1_code 38 = .ok (.iload_n 3, 1) := by decide +kernel
theorem dc21_39 : decode prog_163_method_1_code 39 = .ok (.aload_n 1, 1) := by decide +kernel
theorem dc21_40 : decode prog_163_method_1_code 40 = .ok (.iload_n 3, 1) := by decide +kernel
theorem dc21_41 : decode prog_163_method_1_code 41 = .ok (.aaload, 1) := by decide +kernel
theorem dc21_42 : decode prog_163_method_1_code 42 = .ok (.getstatic 24, 3) := by decide +kernel
theorem dc21_45 : decode prog_163_method_1_code 45 = .ok (.invokevirtual 30, 3) := by decide +kernel
theorem pd_18 : parseMethodDescriptor "(Ljava/nio/charset/Charset;)[B" = some ⟨[(.object "java/nio/charset/Charset")], some (.array .byte)⟩ := by decide +kernel
theorem dc21_48 : decode prog_163_method_1_code 48 = .ok (.aastore, 1) := by decide +kernel
theorem dc21_49 : decode prog_163_method_1_code 49 = .ok (.iload_n 2, 1) := by decide +kernel
theorem dc21_50 : decode prog_163_method_1_code 50 = .ok (.aload_n 0, 1) := by decide +kernel
theorem dc21_51 : decode prog_163_method_1_code 51 = .ok (.getfield 20, 3) := by decide +kernel
theorem dc21_54 : decode prog_163_method_1_code 54 = .ok (.iload_n 3, 1) := by decide +kernel
theorem dc21_55 : decode prog_163_method_1_code 55 = .ok (.aaload, 1) := by decide +kernel
theorem dc21_56 : decode prog_163_method_1_code 56 = .ok (.arraylength, 1) := by decide +kernel
theorem dc21_57 : decode prog_163_method_1_code 57 = .ok (.invokestatic 36, 3) := by decide +kernel
theorem dc21_60 : decode prog_163_method_1_code 60 = .ok (.istore_n 2, 1) := by decide +kernel
theorem dc21_61 : decode prog_163_method_1_code 61 = .ok (.iinc 3 1, 3) := by decide +kernel
theorem dc21_64 : decode prog_163_method_1_code 64 = .ok (.goto (-36), 3) := by decide +kernel
theorem dc21_202 : decode prog_163_method_1_code 202 = .ok (.return_, 1) := by decide +kernel
theorem pn_6 : plainName "com/example/crossbook/crossbook/venue/JsonFields$Texts" = true := by first | (simp [plainName, overriddenIn]; done) | decide +kernel
theorem ef_rmTI (mi : MethodId) (o : Addr) (ta : Addr) (kt : ClassId) (N : Int32) (tv : List Value) (so0 : Addr) (sb0 : Addr) (sk0 : ClassId) (sl0 : Int32) (su0 : Int32) (sv0 : Int32) (so1 : Addr) (sb1 : Addr) (sk1 : ClassId) (sl1 : Int32) (su1 : Int32) (sv1 : Int32) (so2 : Addr) (sb2 : Addr) (sk2 : ClassId) (sl2 : Int32) (su2 : Int32) (sv2 : Int32) (cz : Int32) (cs : Addr) : entryFrame mi #[(.ref o), (.ref ta)] 9 = mkF mi 0 #[.val (.ref o), .val (.ref ta), .unset, .unset, .unset, .unset, .unset, .unset, .unset] [] := by first | (simp [entryFrame, mkF, argsToLocals, Value.category]; done) | rfl
def Q_rmTI (Z : State) (o : Addr) (ta : Addr) (kt : ClassId) (N : Int32) (tv : List Value) (so0 : Addr) (sb0 : Addr) (sk0 : ClassId) (sl0 : Int32) (su0 : Int32) (sv0 : Int32) (so1 : Addr) (sb1 : Addr) (sk1 : ClassId) (sl1 : Int32) (su1 : Int32) (sv1 : Int32) (so2 : Addr) (sb2 : Addr) (sk2 : ClassId) (sl2 : Int32) (su2 : Int32) (sv2 : Int32) (cz : Int32) (cs : Addr) (h0 : Heap) (n0 : Nat) (vv_ : Option Value) (hh_ : Heap) (LL_ : List Loc) : Prop := vv_ = none ∧ Fr n0 LL_ ∧ Keep h0 hh_ [o] ∧ Exa Z hh_ o "com/example/crossbook/crossbook/venue/JsonFields$Texts" ∧ ∃ (en bl : Addr) (ken kbl : ClassId) (nb : Int32) (hse hs : List (Int32 × Value)) (B : Nat), Fld Z hh_ o "com/example/crossbook/crossbook/venue/JsonFields$Texts" "encoded" "[[B" (.ref en) ∧ Fld Z hh_ o "com/example/crossbook/crossbook/venue/JsonFields$Texts" "byLength" "[[I" (.ref bl) ∧ EncA Z hh_ B o en ken N hse (g3 (eL sl0 su0 sv0) (eL sl1 su1 sv1) (eL sl2 su2 sv2)) N.toNatClampNeg ∧ Arh Z hh_ bl kbl (.array .int) nb hs [] .null ∧ (∀ i, i < N.toNatClampNeg → nL (g3 (eL sl0 su0 sv0) (eL sl1 su1 sv1) (eL sl2 su2 sv2)) i < nb) ∧ ∀ t : Int32, ¬ t < 0 → t < nb → ∃ (q : Addr) (kq : ClassId), getH hs [] .null t.toNatClampNeg = .ref q ∧ Arv Z hh_ q kq .int (cI (g3 (eL sl0 su0 sv0) (eL sl1 su1 sv1) (eL sl2 su2 sv2)) t N.toNatClampNeg) (idl (g3 (eL sl0 su0 sv0) (eL sl1 su1 sv1) (eL sl2 su2 sv2)) t N.toNatClampNeg) (.int (0 : Int32))
set_option maxRecDepth 65536 in
set_option maxHeartbeats 40000000 in
theorem rmTI (l : Launch) (Z : State) (a0 : Array Value) (hw : ∀ d ∈ tables_1, d.before a0 Z = true) (ws : List Jvm.Cond) (o : Addr) (ta : Addr) (kt : ClassId) (N : Int32) (tv : List Value) (so0 : Addr) (sb0 : Addr) (sk0 : ClassId) (sl0 : Int32) (su0 : Int32) (sv0 : Int32) (so1 : Addr) (sb1 : Addr) (sk1 : ClassId) (sl1 : Int32) (su1 : Int32) (sv1 : Int32) (so2 : Addr) (sb2 : Addr) (sk2 : ClassId) (sl2 : Int32) (su2 : Int32) (sv2 : Int32) (cz : Int32) (cs : Addr) (h0 : Heap) (n0 : Nat) (Z0 : n0 ≤ h0.size) (E0 : Exa Z h0 o "com/example/crossbook/crossbook/venue/JsonFields$Texts") (F1 : Fld Z h0 o "com/example/crossbook/crossbook/venue/JsonFields$Texts" "texts" "[Ljava/lang/String;" .null) (F2 : Fld Z h0 o "com/example/crossbook/crossbook/venue/JsonFields$Texts" "encoded" "[[B" .null) (F3 : Fld Z h0 o "com/example/crossbook/crossbook/venue/JsonFields$Texts" "byLength" "[[I" .null) (g_o : n0 ≤ o) (TA : Arv Z h0 ta kt (.object "java/lang/String") N tv .null) (ET : Exa Z h0 ta "[Ljava/lang/String;") (n_ta : ta ≠ o) (hN : ¬ N < 0) (hN3 : N.toNatClampNeg ≤ 3) (E_0 : Exa Z h0 so0 "java/lang/String") (FC_0 : Fld Z h0 so0 "java/lang/String" "coder" "B" (.int (0 : Int32))) (FV_0 : Fld Z h0 so0 "java/lang/String" "value" "[B" (.ref sb0)) (AV_0 : Arv Z h0 sb0 sk0 .byte sl0 (bts sl0 su0 sv0) (.int (0 : Int32))) (EB_0 : Exa Z h0 sb0 "[B") (hl_0 : sl0 = 0 ∨ sl0 = 1 ∨ sl0 = 2) (hu_0 : su0.toInt8.toInt32 = su0) (hv_0 : sv0.toInt8.toInt32 = sv0) (n_s0 : so0 ≠ o) (n_b0 : sb0 ≠ o) (hg_0 : (0 : Int32) < N → tv.getD (0 : Int32).toNatClampNeg .null = .ref so0) (E_1 : Exa Z h0 so1 "java/lang/String") (FC_1 : Fld Z h0 so1 "java/lang/String" "coder" "B" (.int (0 : Int32))) (FV_1 : Fld Z h0 so1 "java/lang/String" "value" "[B" (.ref sb1)) (AV_1 : Arv Z h0 sb1 sk1 .byte sl1 (bts sl1 su1 sv1) (.int (0 : Int32))) (EB_1 : Exa Z h0 sb1 "[B") (hl_1 : sl1 = 0 ∨ sl1 = 1 ∨ sl1 = 2) (hu_1 : su1.toInt8.toInt32 = su1) (hv_1 : sv1.toInt8.toInt32 = sv1) (n_s1 : so1 ≠ o) (n_b1 : sb1 ≠ o) (hg_1 : (1 : Int32) < N → tv.getD (1 : Int32).toNatClampNeg .null = .ref so1) (E_2 : Exa Z h0 so2 "java/lang/String") (FC_2 : Fld Z h0 so2 "java/lang/String" "coder" "B" (.int (0 : Int32))) (FV_2 : Fld Z h0 so2 "java/lang/String" "value" "[B" (.ref sb2)) (AV_2 : Arv Z h0 sb2 sk2 .byte sl2 (bts sl2 su2 sv2) (.int (0 : Int32))) (EB_2 : Exa Z h0 sb2 "[B") (hl_2 : sl2 = 0 ∨ sl2 = 1 ∨ sl2 = 2) (hu_2 : su2.toInt8.toInt32 = su2) (hv_2 : sv2.toInt8.toInt32 = sv2) (n_s2 : so2 ≠ o) (n_b2 : sb2 ≠ o) (hg_2 : (2 : Int32) < N → tv.getD (2 : Int32).toNatClampNeg .null = .ref so2) (SC : Sta Z h0 "java/lang/String" "COMPACT_STRINGS" "Z" (.int cz)) (hcz : ¬ (cz = (0 : Int32))) (S1 : Sta Z h0 "java/nio/charset/StandardCharsets" "UTF_8" "Ljava/nio/charset/Charset;" (.ref cs)) (S2 : Sta Z h0 "sun/nio/cs/UTF_8" "INSTANCE" "Lsun/nio/cs/UTF_8;" (.ref cs)) :
    MetFree l (⟨"com/example/crossbook/crossbook/venue/JsonFields$Texts", "<init>", "([Ljava/lang/String;)V"⟩ : MethodName) (head1 (Jvm.Cond.code (⟨"com/example/crossbook/crossbook/venue/JsonFields$Texts", "<init>", "([Ljava/lang/String;)V"⟩ : MethodName) prog_163_method_1_code 9 none :: ws) ({ frames := 5, cells := 14, slots := 47, locals := 81 } : Room)) (fun aa_ U => aa_ = #[(.ref o), (.ref ta)] ∧ Z.Warmed39 U.vm ∧ U.heap = h0) (fun _ _ _ _ _ => True) (fun _ U oo_ UV_ => ∃ vv_ LL_, oo_ = .returned vv_ ∧ Q_rmTI Z o ta kt N tv so0 sb0 sk0 sl0 su0 sv0 so1 sb1 sk1 sl1 su1 sv1 so2 sb2 sk2 sl2 su2 sv2 cz cs h0 n0 vv_ UV_.heap LL_ ∧ FrameEnd U oo_ UV_ LL_ ({ frames := 5, cells := 14, slots := 47, locals := 81 } : Room).cells ({ frames := 5, cells := 14, slots := 47, locals := 81 } : Room).slots) := by
  refine MetFree.of_bodySF (plainFor_of_name pn_6) hisR ?_
  intro pg ev si mi args below meth ci s₁ Bd hml0 hP0 hK
  obtain ⟨rfl, hZ, hh⟩ := hP0
  have hx := Bd.exec
  have hby := Bd.bytes
  have hml : ci.maxLocals = 9 := hml0
  have hown : si.vm.findClass "com/example/crossbook/crossbook/venue/JsonFields$Texts" = some mi.cls := findClass_of_methodNamed Bd.named
  have hnm := (name_of_methodNamed Bd.named Bd.method).1
  have X0 : Stand pg l ev ({ frames := 5, cells := 14, slots := 47, locals := 81 } : Room) si mi #[(.ref o), (.ref ta)] below meth ci s₁ [] 0 0 := Stand.of_body Bd
  have e0 : s₁.heap = h0 := by rw [← hh, Bd.state]; rfl
  have N0 := Fr.nil n0
  refine Go.start (fun P hP => ?_)
  refine Go.st (fun t_ k_ => castTop (ef_rmTI mi o ta kt N tv so0 sb0 sk0 sl0 su0 sv0 so1 sb1 sk1 sl1 su1 sv1 so2 sb2 sk2 sl2 su2 sv2 cz cs) k_) (A := s₁.setTop (mkF mi 0 #[.val (.ref o), .val (.ref ta), .unset, .unset, .unset, .unset, .unset, .unset, .unset] [])) ?_
  show Go _ _ _ (s₁.setTop (mkF mi 0 #[.val (.ref o), .val (.ref ta), .unset, .unset, .unset, .unset, .unset, .unset, .unset] [])) _
  refine g_aloadN X0 hx hby dc21_0 rfl rfl ?_
  obtain ⟨T1, X1, e1, st1⟩ := initO X0 hx hZ hown (hw _ (own_m 22 rfl)) (hw _ (own_m 23 rfl)) (hw _ (own_m 24 rfl)) e0 (g := (mkF mi 1 #[.val (.ref o), .val (.ref ta), .unset, .unset, .unset, .unset, .unset, .unset, .unset] [(.ref o)])) rfl (by rw [hml]; rfl) rfl (hb hby dc21_1) (by decide) (W := 0) (by show 2 * 0 + _ ≤ _; exact Nat.le_of_eq rfl) (by decide)
  refine Go.st st1 ?_
  refine g_aloadN X1 hx hby dc21_4 rfl rfl ?_
  refine g_aloadN X1 hx hby dc21_5 rfl rfl ?_
  show Go _ _ _ (T1.setTop (mkF mi 6 #[.val (.ref o), .val (.ref ta), .unset, .unset, .unset, .unset, .unset, .unset, .unset] [(.ref ta), (.ref o)])) _
  obtain ⟨T2, h2, X2, e2, E2, A2, EX2, st2⟩ := cloneH X1 hx hZ hown (hw _ (own_m 25 rfl)) (hw _ (own_m 26 rfl)) (hw _ (own_m 30 rfl)) (hw _ (own_m 28 rfl)) (hw _ (own_m 29 rfl)) (hw _ (own_m 31 rfl)) e1 TA.arh ET (g := (mkF mi 6 #[.val (.ref o), .val (.ref ta), .unset, .unset, .unset, .unset, .unset, .unset, .unset] [(.ref ta), (.ref o)])) rfl (by rw [hml]; rfl) rfl (hb hby dc21_6) (by decide) (W := 1) (by show 2 * 0 + _ ≤ _; exact Nat.le_of_eq rfl) (by decide) (cap := 3) hN3 (by decide) (by decide)
  obtain ⟨ob2, g2⟩ : ∃ z, z = h0.size := ⟨_, rfl⟩
  rw [← g2] at A2 EX2 st2
  have Zs3 : n0 ≤ h2.size := Nat.le_trans Z0 E2.1
  have KC3 : Keep h0 h2 [o] := (Keep.refl h0 [o]).ext E2
  have g_ob2 : n0 ≤ ob2 := Nat.le_trans Z0 (Nat.le_of_eq g2.symm)
  have sz_ob2 : h0.size ≤ ob2 := Nat.le_trans (Keep.refl h0 [o]).1 (Nat.le_of_eq g2.symm)
  refine Go.st st2 ?_
  show Go _ _ _ (T2.setTop (mkF mi 9 #[.val (.ref o), .val (.ref ta), .unset, .unset, .unset, .unset, .unset, .unset, .unset] [(.ref ob2), (.ref o)])) _
  obtain ⟨T4, X4, e4, st4⟩ := castY X2 hx hZ hown (hw _ (own_m 32 rfl)) e2 (Ins.self EX2) (g := (mkF mi 9 #[.val (.ref o), .val (.ref ta), .unset, .unset, .unset, .unset, .unset, .unset, .unset] [(.ref ob2), (.ref o)])) rfl rfl (hb hby dc21_9)
  refine Go.st st4 ?_
  have f5 := (F1.ext E2)
  have f6 := (E0.ext E2)
  obtain ⟨T7, h7, X7, e7, W7, st7⟩ := putF X4 hx hZ hown (host := "") (Or.inl (hw _ (own_m 34 rfl))) Via.refl e4 f5 f6 (Or.inr ⟨(hw _ (own_m 35 rfl)), rfl, hnm⟩) (hw _ (own_m 17 rfl)) (ty := (.array (.object "java/lang/String"))) (by decide) rfl rfl (g := (mkF mi 12 #[.val (.ref o), .val (.ref ta), .unset, .unset, .unset, .unset, .unset, .unset, .unset] [(.ref ob2), (.ref o)])) rfl rfl (hb hby dc21_12)
  have Zs8 : n0 ≤ h7.size := Nat.le_trans Zs3 (Keep.of_wr W7).1
  have KC8 : Keep h0 h7 [o] := KC3.wr W7 (Or.inl (List.mem_of_getElem? (i := 0) rfl))
  have N8 := Fr.snoc X7 N0 g_o
  have F7 : Fld Z h7 o "com/example/crossbook/crossbook/venue/JsonFields$Texts" "texts" "[Ljava/lang/String;" (.ref ob2) := f5.same W7
  refine Go.st st7 ?_
  refine g_aloadN X7 hx hby dc21_15 rfl rfl ?_
  refine g_aloadN X7 hx hby dc21_16 rfl rfl ?_
  have f9 := ((TA.ext E2).other W7 n_ta)
  have ov10 := f9
  obtain ⟨cl10, Ar10, q10, S10, M10, H10, G10⟩ := ov10
  refine Go.st (X7.arraylength hx (by rw [e7]; exact Ar10.1) (State.isArrayOf_alike hZ.alike Ar10.2.1) (g := (mkF mi 17 #[.val (.ref o), .val (.ref ta), .unset, .unset, .unset, .unset, .unset, .unset, .unset] [(.ref ta), (.ref o)])) rfl rfl (hb hby dc21_17)) ?_
  rw [len_of S10 M10]
  obtain ⟨T11, h11, k11, X11, e11, E11, A11, EX11, O11, st11⟩ := newRA X7 hx hZ hown (C := "[B") (ty := .byte) (by decide) (hw _ (own_m 36 rfl)) (hw _ (own_m 37 rfl)) e7 (g := (mkF mi 18 #[.val (.ref o), .val (.ref ta), .unset, .unset, .unset, .unset, .unset, .unset, .unset] [(.int N), (.ref o)])) rfl (hb hby dc21_18) rfl hN (cap := 3) hN3 (by decide) (by decide) (by decide) (ad := "[[B") (by decide)
  obtain ⟨ob11, g11⟩ : ∃ z, z = h7.size := ⟨_, rfl⟩
  rw [← g11] at A11 EX11 st11
  have Zs12 : n0 ≤ h11.size := Nat.le_trans Zs8 E11.1
  have KC12 : Keep h0 h11 [o] := KC8.ext E11
  have g_ob11 : n0 ≤ ob11 := Nat.le_trans Zs8 (Nat.le_of_eq g11.symm)
  have sz_ob11 : h0.size ≤ ob11 := Nat.le_trans KC8.1 (Nat.le_of_eq g11.symm)
  have V11 : Arh Z h11 ob11 k11 (.array .byte) N [] [] .null := (Arv.new A11 hN).arh
  refine Go.st st11 ?_
  have f13 := (((F2.ext E2).other W7 (Or.inr (slot_ne (Or.inr (hw _ (own_m 39 rfl))) (Or.inr (hw _ (own_m 35 rfl))) (by decide) (t := (.array (.array .byte))) (t' := (.array (.object "java/lang/String"))) (by decide) (by decide)))).ext E11)
  have f14 := ((f6.wr W7).ext E11)
  obtain ⟨T15, h15, X15, e15, W15, st15⟩ := putF X11 hx hZ hown (host := "") (Or.inl (hw _ (own_m 38 rfl))) Via.refl e11 f13 f14 (Or.inr ⟨(hw _ (own_m 39 rfl)), rfl, hnm⟩) (hw _ (own_m 17 rfl)) (ty := (.array (.array .byte))) (by decide) rfl rfl (g := (mkF mi 21 #[.val (.ref o), .val (.ref ta), .unset, .unset, .unset, .unset, .unset, .unset, .unset] [(.ref ob11), (.ref o)])) rfl rfl (hb hby dc21_21)
  have Zs16 : n0 ≤ h15.size := Nat.le_trans Zs12 (Keep.of_wr W15).1
  have KC16 : Keep h0 h15 [o] := KC12.wr W15 (Or.inl (List.mem_of_getElem? (i := 0) rfl))
  have N16 := Fr.snoc X15 N8 g_o
  have F15 : Fld Z h15 o "com/example/crossbook/crossbook/venue/JsonFields$Texts" "encoded" "[[B" (.ref ob11) := f13.same W15
  refine Go.st st15 ?_
  refine g_iconst X15 hx hby dc21_24 (v := 0) rfl ?_
  refine g_istoreN X15 hx hby dc21_25 (l' := #[.val (.ref o), .val (.ref ta), .val (.int 0), .unset, .unset, .unset, .unset, .unset, .unset]) rfl ?_
  refine g_iconst X15 hx hby dc21_26 (v := 0) rfl ?_
  refine g_istoreN X15 hx hby dc21_27 (l' := #[.val (.ref o), .val (.ref ta), .val (.int 0), .val (.int 0), .unset, .unset, .unset, .unset, .unset]) rfl ?_
  refine g_iloadN X15 hx hby dc21_28 rfl ?_
  refine g_aloadN X15 hx hby dc21_29 rfl rfl ?_
  have f17 := ((f9.ext E11).other W15 n_ta)
  have ov18 := f17
  obtain ⟨cl18, Ar18, q18, S18, M18, H18, G18⟩ := ov18
  refine Go.st (X15.arraylength hx (by rw [e15]; exact Ar18.1) (State.isArrayOf_alike hZ.alike Ar18.2.1) (g := (mkF mi 30 #[.val (.ref o), .val (.ref ta), .val (.int 0), .val (.int 0), .unset, .unset, .unset, .unset, .unset] [(.ref ta), (.int 0)])) rfl rfl (hb hby dc21_30)) ?_
  rw [len_of S18 M18]
  by_cases hc31_1 : (0 : Int32) < N
  · refine g_icmpNo X15 hx hby dc21_31 (tlt hc31_1).2.1 ?_
    refine g_aloadN X15 hx hby dc21_34 rfl rfl ?_
    obtain ⟨T19, X19, e19, st19⟩ := getF X15 hx hZ hown (host := "") (Or.inl (hw _ (own_m 38 rfl))) Via.refl e15 F15 (g := (mkF mi 35 #[.val (.ref o), .val (.ref ta), .val (.int 0), .val (.int 0), .unset, .unset, .unset, .unset, .unset] [(.ref o)])) rfl rfl (hb hby dc21_35)
    refine Go.st st19 ?_
    refine g_iloadN X19 hx hby dc21_38 rfl ?_
    refine g_aloadN X19 hx hby dc21_39 rfl rfl ?_
    refine g_iloadN X19 hx hby dc21_40 rfl ?_
    have ov20 := f17
    obtain ⟨cl20, Ar20, q20, S20, M20, H20, G20⟩ := ov20
    have hin20 : ¬ ((0 : Int32) < 0 ∨ cl20.slots.size ≤ ((0 : Int32)).toNatClampNeg) := inb_of S20 ⟨by decide, hc31_1⟩
    have hat20 : cl20.slots[((0 : Int32)).toNatClampNeg]? = some (.ref so0) := Has.at H20 hin20 (hg_0 hc31_1)
    refine Go.st (X19.aaload hx (j := (0 : Int32)) (v := (.ref so0)) (by rw [e19]; exact Ar20.1) (State.isArrayOf_alike hZ.alike Ar20.2.1) rfl Ar20.2.2 hin20 hat20 (g := (mkF mi 41 #[.val (.ref o), .val (.ref ta), .val (.int 0), .val (.int 0), .unset, .unset, .unset, .unset, .unset] [(.int 0), (.ref ta), (.int 0), (.ref ob11)])) rfl rfl (hb hby dc21_41)) ?_
    have f21 := ((((S1.ext E2).wr W7).ext E11).wr W15)
    obtain ⟨T22, X22, e22, st22⟩ := getS2 X19 hx hZ hown (host := "") (Or.inl (hw _ (own_m 52 rfl))) Via.refl e19 f21 (g := (mkF mi 42 #[.val (.ref o), .val (.ref ta), .val (.int 0), .val (.int 0), .unset, .unset, .unset, .unset, .unset] [(.ref so0), (.int 0), (.ref ob11)])) rfl (hb hby dc21_42)
    refine Go.st st22 ?_
    have f24 := ((((E_0.ext E2).wr W7).ext E11).wr W15)
    have f25 := ((((FC_0.ext E2).other W7 (Or.inl n_s0)).ext E11).other W15 (Or.inl n_s0))
    have f26 := ((((FV_0.ext E2).other W7 (Or.inl n_s0)).ext E11).other W15 (Or.inl n_s0))
    have f27 := ((((AV_0.ext E2).other W7 n_b0).ext E11).other W15 n_b0)
    have f28 := ((((EB_0.ext E2).wr W7).ext E11).wr W15)
    have f29 := ((((S2.ext E2).wr W7).ext E11).wr W15)
    have f30 := ((((SC.ext E2).wr W7).ext E11).wr W15)
    obtain ⟨cq23, kq23, q23a, q23b, q23c⟩ := isOf hZ e22 f24
    obtain ⟨_, _, ⟨T23, L23, k23, n23⟩, -, X23, ⟨Lc23, hQ23, l23, y23, z23⟩, st23⟩ := X22.virtualBack hx (y := (⟨"java/lang/String", "getBytes", "(Ljava/nio/charset/Charset;)[B"⟩ : MethodName)) (z := (⟨"java/lang/String", "getBytes", "(Ljava/nio/charset/Charset;)[B"⟩ : MethodName)) hown (mvT hZ (hw _ (own_m 54 rfl))) (mvT hZ (hw _ (own_m 55 rfl))) (notFace_of_selects (args := #[]) (mvT hZ (hw _ (own_m 57 rfl)))) (mvT hZ (hw _ (own_m 57 rfl))) (mvT hZ (hw _ (own_m 56 rfl))) (by decide) (backOf (W := 2) (rmGB l Z a0 hw [] so0 cs sb0 sk0 sl0 su0 sv0 cz h15 n0 Zs16 f24 f25 f26 f27 f28 hl_0 hu_0 hv_0 f29 f30 hcz) hZ (hw _ (own_m 58 rfl)) (hw _ (own_m 6 rfl)) (by decide) (by decide)) q23a q23c (g := (mkF mi 45 #[.val (.ref o), .val (.ref ta), .val (.int 0), .val (.int 0), .unset, .unset, .unset, .unset, .unset] [(.ref cs), (.ref so0), (.int 0), (.ref ob11)])) rfl (by rw [hml]; rfl) (Steps.refl _) (argsL := [(.ref cs)]) (rest := [(.int 0), (.ref ob11)]) (lenOf pd_18 rfl) rfl (by show 2 * 0 + _ ≤ _; exact Nat.le_of_eq rfl) (hb hby dc21_45) (fun _ _ => ⟨rfl, e22, (by decide : 2 + 2 ≤ _), (by decide : 6 + 7 ≤ _)⟩)
    dsimp only [Pt.U, Pt.locs, Pt.cells, Pt.slots] at X23 l23 y23 z23 st23 hQ23
    subst l23 y23 z23
    have X23 := own_cs X23 (cells' := 4) (slots' := 13) rfl rfl
    obtain ⟨h23, e23⟩ : ∃ z, T23.heap = z := ⟨_, rfl⟩
    rw [e23] at hQ23
    obtain ⟨r23, kr23, rfl, N23q, K23, z_r23, g_r23, V_r23, E_r23⟩ := hQ23
    have N23 := Fr.app N16 N23q
    have Zs31 : n0 ≤ h23.size := Nat.le_trans Zs16 K23.1
    have KC31 : Keep h0 h23 [o] := KC16.trans K23 all0
    have sz_r23 : h0.size ≤ r23 := Nat.le_trans KC16.1 z_r23
    refine Go.tr st23 ?_
    have ne_o_ob11 : o ≠ ob11 := Nat.ne_of_lt (Nat.lt_of_lt_of_le (f6.wr W7).lt (Nat.le_of_eq g11.symm))
    have f32 := ((V11.other W15 (Ne.symm ne_o_ob11)).keep K23 nin0)
    have ov33 := f32
    obtain ⟨cl33, Ar33, q33, S33, M33, H33, G33⟩ := ov33
    have hin33 : ¬ ((0 : Int32) < 0 ∨ cl33.slots.size ≤ ((0 : Int32)).toNatClampNeg) := inb_of S33 ⟨by decide, hc31_1⟩
    obtain ⟨T34, h34, X34, e34, W34, st34⟩ := stR X23 hx hZ e23 Ar33 (j := (0 : Int32)) hin33 rfl (Sto.ofVA Ar33 q33 O11 (Ins.self E_r23)) (g := (mkF mi 48 #[.val (.ref o), .val (.ref ta), .val (.int 0), .val (.int 0), .unset, .unset, .unset, .unset, .unset] [(.ref r23), (.int 0), (.ref ob11)])) rfl rfl (hb hby dc21_48)
    have Zs35 : n0 ≤ h34.size := Nat.le_trans Zs31 (Keep.of_wr W34).1
    have KC35 : Keep h0 h34 [o] := KC31.wr W34 (Or.inr sz_ob11)
    have N35 := Fr.snoc X34 N23 g_ob11
    have V34 : Arh Z h34 ob11 k11 (.array .byte) N (((0 : Int32), (.ref r23)) :: []) [] .null := Arh.push Ar33 q33 S33 M33 H33 G33 rfl W34 hin33
    refine Go.st st34 ?_
    refine g_iloadN X34 hx hby dc21_49 rfl ?_
    refine g_aloadN X34 hx hby dc21_50 rfl rfl ?_
    have f36 := ((F15.keep K23 nin0).other W34 (Or.inl ne_o_ob11))
    obtain ⟨T37, X37, e37, st37⟩ := getF X34 hx hZ hown (host := "") (Or.inl (hw _ (own_m 38 rfl))) Via.refl e34 f36 (g := (mkF mi 51 #[.val (.ref o), .val (.ref ta), .val (.int 0), .val (.int 0), .unset, .unset, .unset, .unset, .unset] [(.ref o), (.int 0)])) rfl rfl (hb hby dc21_51)
    refine Go.st st37 ?_
    refine g_iloadN X37 hx hby dc21_54 rfl ?_
    have ov38 := V34
    obtain ⟨cl38, Ar38, q38, S38, M38, H38, G38⟩ := ov38
    have hin38 : ¬ ((0 : Int32) < 0 ∨ cl38.slots.size ≤ ((0 : Int32)).toNatClampNeg) := inb_of S38 ⟨by decide, hc31_1⟩
    have hat38 : cl38.slots[((0 : Int32)).toNatClampNeg]? = some (.ref r23) := atH H38 hin38 (getH_hit (by decide) rfl)
    refine Go.st (X37.aaload hx (j := (0 : Int32)) (v := (.ref r23)) (by rw [e37]; exact Ar38.1) (State.isArrayOf_alike hZ.alike Ar38.2.1) rfl Ar38.2.2 hin38 hat38 (g := (mkF mi 55 #[.val (.ref o), .val (.ref ta), .val (.int 0), .val (.int 0), .unset, .unset, .unset, .unset, .unset] [(.int 0), (.ref ob11), (.int 0)])) rfl rfl (hb hby dc21_55)) ?_
    have ne_ob11_r23 : ob11 ≠ r23 := Nat.ne_of_lt (Nat.lt_of_lt_of_le (V11.other W15 (Ne.symm ne_o_ob11)).lt z_r23)
    have f39 := (V_r23.other W34 (Ne.symm ne_ob11_r23))
    have ov40 := f39
    obtain ⟨cl40, Ar40, q40, S40, M40, H40, G40⟩ := ov40
    refine Go.st (X37.arraylength hx (by rw [e37]; exact Ar40.1) (State.isArrayOf_alike hZ.alike Ar40.2.1) (g := (mkF mi 56 #[.val (.ref o), .val (.ref ta), .val (.int 0), .val (.int 0), .unset, .unset, .unset, .unset, .unset] [(.ref r23), (.int 0)])) rfl rfl (hb hby dc21_56)) ?_
    rw [len_of S40 M40]
    obtain ⟨_, _, ⟨T41, L41, k41, n41⟩, -, X41, ⟨Lc41, hQ41, l41, y41, z41⟩, st41⟩ := Jvm.LawKit.callS X37 hx (y := (⟨"java/lang/Math", "max", "(II)I"⟩ : MethodName)) hown (mvT hZ (hw _ (own_m 88 rfl))) (mvT hZ (hw _ (own_m 89 rfl))) (mvT hZ (hw _ (own_m 90 rfl))) (mvT hZ (hw _ (own_m 91 rfl))) (by decide) (backOf (W := 0) (rmMax l Z a0 hw [] (0 : Int32) (eN sl0 su0 sv0) h34 n0 Zs35) hZ (hw _ (own_m 91 rfl)) (hw _ (own_m 90 rfl)) (by decide) (by decide)) (g := (mkF mi 57 #[.val (.ref o), .val (.ref ta), .val (.int 0), .val (.int 0), .unset, .unset, .unset, .unset, .unset] [(.int (eN sl0 su0 sv0)), (.int 0)])) rfl (by rw [hml]; rfl) (argsL := [(.int 0), (.int (eN sl0 su0 sv0))]) (rest := []) (lenOf pd_11 rfl) rfl (by show 2 * 0 + _ ≤ _; exact Nat.le_of_eq rfl) (hb hby dc21_57) (fun _ _ => ⟨rfl, e37, (by decide : 4 + 0 ≤ _), (by decide : 13 + 0 ≤ _)⟩)
    dsimp only [Pt.U, Pt.locs, Pt.cells, Pt.slots] at X41 l41 y41 z41 st41 hQ41
    subst l41 y41 z41
    have X41 := own_cs X41 (cells' := 4) (slots' := 13) rfl rfl
    obtain ⟨rfl, N41q, e41⟩ := hQ41
    have N41 := Fr.app N35 N41q
    refine Go.st st41 ?_
    show Go _ _ _ (T41.setTop (mkF mi 60 #[.val (.ref o), .val (.ref ta), .val (.int 0), .val (.int 0), .unset, .unset, .unset, .unset, .unset] [(.int (fMax (0 : Int32) (eN sl0 su0 sv0)))])) _
    refine g_istoreN X41 hx hby dc21_60 (l' := #[.val (.ref o), .val (.ref ta), .val (.int (fMax (0 : Int32) (eN sl0 su0 sv0))), .val (.int 0), .unset, .unset, .unset, .unset, .unset]) rfl ?_
    refine g_iinc X41 hx hby dc21_61 rfl (x' := 1) rfl (l' := #[.val (.ref o), .val (.ref ta), .val (.int (fMax (0 : Int32) (eN sl0 su0 sv0))), .val (.int 1), .unset, .unset, .unset, .unset, .unset]) rfl ?_
    refine g_goto X41 hx hby dc21_64 (pc0 := 64) (pc' := 28) rfl (by decide) (by decide) ?_
    refine g_iloadN X41 hx hby dc21_28 rfl ?_
    refine g_aloadN X41 hx hby dc21_29 rfl rfl ?_
    have ne_ta_ob11 : ta ≠ ob11 := Nat.ne_of_lt (Nat.lt_of_lt_of_le ((ET.ext E2).wr W7).lt (Nat.le_of_eq g11.symm))
    have f42 := ((f17.keep K23 nin0).other W34 ne_ta_ob11)
    have ov43 := f42
    obtain ⟨cl43, Ar43, q43, S43, M43, H43, G43⟩ := ov43
    refine Go.st (X41.arraylength hx (by rw [e41]; exact Ar43.1) (State.isArrayOf_alike hZ.alike Ar43.2.1) (g := (mkF mi 30 #[.val (.ref o), .val (.ref ta), .val (.int (fMax (0 : Int32) (eN sl0 su0 sv0))), .val (.int 1), .unset, .unset, .unset, .unset, .unset] [(.ref ta), (.int 1)])) rfl rfl (hb hby dc21_30)) ?_
    rw [len_of S43 M43]
    by_cases hc31_2 : (1 : Int32) < N
    · refine g_icmpNo X41 hx hby dc21_31 (tlt hc31_2).2.1 ?_
      refine g_aloadN X41 hx hby dc21_34 rfl rfl ?_
      obtain ⟨T44, X44, e44, st44⟩ := getF X41 hx hZ hown (host := "") (Or.inl (hw _ (own_m 38 rfl))) Via.refl e41 f36 (g := (mkF mi 35 #[.val (.ref o), .val (.ref ta), .val (.int (fMax (0 : Int32) (eN sl0 su0 sv0))), .val (.int 1), .unset, .unset, .unset, .unset, .unset] [(.ref o)])) rfl rfl (hb hby dc21_35)
      refine Go.st st44 ?_
      refine g_iloadN X44 hx hby dc21_38 rfl ?_
      refine g_aloadN X44 hx hby dc21_39 rfl rfl ?_
      refine g_iloadN X44 hx hby dc21_40 rfl ?_
      have ov45 := f42
      obtain ⟨cl45, Ar45, q45, S45, M45, H45, G45⟩ := ov45
      have hin45 : ¬ ((1 : Int32) < 0 ∨ cl45.slots.size ≤ ((1 : Int32)).toNatClampNeg) := inb_of S45 ⟨by decide, hc31_2⟩
      have hat45 : cl45.slots[((1 : Int32)).toNatClampNeg]? = some (.ref so1) := Has.at H45 hin45 (hg_1 hc31_2)
      refine Go.st (X44.aaload hx (j := (1 : Int32)) (v := (.ref so1)) (by rw [e44]; exact Ar45.1) (State.isArrayOf_alike hZ.alike Ar45.2.1) rfl Ar45.2.2 hin45 hat45 (g := (mkF mi 41 #[.val (.ref o), .val (.ref ta), .val (.int (fMax (0 : Int32) (eN sl0 su0 sv0))), .val (.int 1), .unset, .unset, .unset, .unset, .unset] [(.int 1), (.ref ta), (.int 1), (.ref ob11)])) rfl rfl (hb hby dc21_41)) ?_
      have f46 := ((own_sta_keep f21 K23 ns0).wr W34)
      obtain ⟨T47, X47, e47, st47⟩ := getS2 X44 hx hZ hown (host := "") (Or.inl (hw _ (own_m 52 rfl))) Via.refl e44 f46 (g := (mkF mi 42 #[.val (.ref o), .val (.ref ta), .val (.int (fMax (0 : Int32) (eN sl0 su0 sv0))), .val (.int 1), .unset, .unset, .unset, .unset, .unset] [(.ref so1), (.int 1), (.ref ob11)])) rfl (hb hby dc21_42)
      refine Go.st st47 ?_
      have f49 := ((((((E_1.ext E2).wr W7).ext E11).wr W15).keep K23).wr W34)
      have ne_so1_ob11 : so1 ≠ ob11 := Nat.ne_of_lt (Nat.lt_of_lt_of_le ((E_1.ext E2).wr W7).lt (Nat.le_of_eq g11.symm))
      have f50 := ((((((FC_1.ext E2).other W7 (Or.inl n_s1)).ext E11).other W15 (Or.inl n_s1)).keep K23 nin0).other W34 (Or.inl ne_so1_ob11))
      have f51 := ((((((FV_1.ext E2).other W7 (Or.inl n_s1)).ext E11).other W15 (Or.inl n_s1)).keep K23 nin0).other W34 (Or.inl ne_so1_ob11))
      have ne_sb1_ob11 : sb1 ≠ ob11 := Nat.ne_of_lt (Nat.lt_of_lt_of_le ((EB_1.ext E2).wr W7).lt (Nat.le_of_eq g11.symm))
      have f52 := ((((((AV_1.ext E2).other W7 n_b1).ext E11).other W15 n_b1).keep K23 nin0).other W34 ne_sb1_ob11)
      have f53 := ((((((EB_1.ext E2).wr W7).ext E11).wr W15).keep K23).wr W34)
      have f54 := ((own_sta_keep f29 K23 ns0).wr W34)
      have f55 := ((own_sta_keep f30 K23 ns0).wr W34)
      obtain ⟨cq48, kq48, q48a, q48b, q48c⟩ := isOf hZ e47 f49
      obtain ⟨_, _, ⟨T48, L48, k48, n48⟩, -, X48, ⟨Lc48, hQ48, l48, y48, z48⟩, st48⟩ := X47.virtualBack hx (y := (⟨"java/lang/String", "getBytes", "(Ljava/nio/charset/Charset;)[B"⟩ : MethodName)) (z := (⟨"java/lang/String", "getBytes", "(Ljava/nio/charset/Charset;)[B"⟩ : MethodName)) hown (mvT hZ (hw _ (own_m 54 rfl))) (mvT hZ (hw _ (own_m 55 rfl))) (notFace_of_selects (args := #[]) (mvT hZ (hw _ (own_m 57 rfl)))) (mvT hZ (hw _ (own_m 57 rfl))) (mvT hZ (hw _ (own_m 56 rfl))) (by decide) (backOf (W := 2) (rmGB l Z a0 hw [] so1 cs sb1 sk1 sl1 su1 sv1 cz h34 n0 Zs35 f49 f50 f51 f52 f53 hl_1 hu_1 hv_1 f54 f55 hcz) hZ (hw _ (own_m 58 rfl)) (hw _ (own_m 6 rfl)) (by decide) (by decide)) q48a q48c (g := (mkF mi 45 #[.val (.ref o), .val (.ref ta), .val (.int (fMax (0 : Int32) (eN sl0 su0 sv0))), .val (.int 1), .unset, .unset, .unset, .unset, .unset] [(.ref cs), (.ref so1), (.int 1), (.ref ob11)])) rfl (by rw [hml]; rfl) (Steps.refl _) (argsL := [(.ref cs)]) (rest := [(.int 1), (.ref ob11)]) (lenOf pd_18 rfl) rfl (by show 2 * 0 + _ ≤ _; exact Nat.le_of_eq rfl) (hb hby dc21_45) (fun _ _ => ⟨rfl, e47, (by decide : 4 + 2 ≤ _), (by decide : 13 + 7 ≤ _)⟩)
      dsimp only [Pt.U, Pt.locs, Pt.cells, Pt.slots] at X48 l48 y48 z48 st48 hQ48
      subst l48 y48 z48
      have X48 := own_cs X48 (cells' := 6) (slots' := 20) rfl rfl
      obtain ⟨h48, e48⟩ : ∃ z, T48.heap = z := ⟨_, rfl⟩
      rw [e48] at hQ48
      obtain ⟨r48, kr48, rfl, N48q, K48, z_r48, g_r48, V_r48, E_r48⟩ := hQ48
      have N48 := Fr.app N41 N48q
      have Zs56 : n0 ≤ h48.size := Nat.le_trans Zs35 K48.1
      have KC56 : Keep h0 h48 [o] := KC35.trans K48 all0
      have sz_r48 : h0.size ≤ r48 := Nat.le_trans KC35.1 z_r48
      refine Go.tr st48 ?_
      have f57 := (V34.keep K48 nin0)
      have ov58 := f57
      obtain ⟨cl58, Ar58, q58, S58, M58, H58, G58⟩ := ov58
      have hin58 : ¬ ((1 : Int32) < 0 ∨ cl58.slots.size ≤ ((1 : Int32)).toNatClampNeg) := inb_of S58 ⟨by decide, hc31_2⟩
      obtain ⟨T59, h59, X59, e59, W59, st59⟩ := stR X48 hx hZ e48 Ar58 (j := (1 : Int32)) hin58 rfl (Sto.ofVA Ar58 q58 O11 (Ins.self E_r48)) (g := (mkF mi 48 #[.val (.ref o), .val (.ref ta), .val (.int (fMax (0 : Int32) (eN sl0 su0 sv0))), .val (.int 1), .unset, .unset, .unset, .unset, .unset] [(.ref r48), (.int 1), (.ref ob11)])) rfl rfl (hb hby dc21_48)
      have Zs60 : n0 ≤ h59.size := Nat.le_trans Zs56 (Keep.of_wr W59).1
      have KC60 : Keep h0 h59 [o] := KC56.wr W59 (Or.inr sz_ob11)
      have N60 := Fr.snoc X59 N48 g_ob11
      have V59 : Arh Z h59 ob11 k11 (.array .byte) N (((1 : Int32), (.ref r48)) :: (((0 : Int32), (.ref r23)) :: [])) [] .null := Arh.push Ar58 q58 S58 M58 H58 G58 rfl W59 hin58
      refine Go.st st59 ?_
      refine g_iloadN X59 hx hby dc21_49 rfl ?_
      refine g_aloadN X59 hx hby dc21_50 rfl rfl ?_
      have f61 := ((f36.keep K48 nin0).other W59 (Or.inl ne_o_ob11))
      obtain ⟨T62, X62, e62, st62⟩ := getF X59 hx hZ hown (host := "") (Or.inl (hw _ (own_m 38 rfl))) Via.refl e59 f61 (g := (mkF mi 51 #[.val (.ref o), .val (.ref ta), .val (.int (fMax (0 : Int32) (eN sl0 su0 sv0))), .val (.int 1), .unset, .unset, .unset, .unset, .unset] [(.ref o), (.int (fMax (0 : Int32) (eN sl0 su0 sv0)))])) rfl rfl (hb hby dc21_51)
      refine Go.st st62 ?_
      refine g_iloadN X62 hx hby dc21_54 rfl ?_
      have ov63 := V59
      obtain ⟨cl63, Ar63, q63, S63, M63, H63, G63⟩ := ov63
      have hin63 : ¬ ((1 : Int32) < 0 ∨ cl63.slots.size ≤ ((1 : Int32)).toNatClampNeg) := inb_of S63 ⟨by decide, hc31_2⟩
      have hat63 : cl63.slots[((1 : Int32)).toNatClampNeg]? = some (.ref r48) := atH H63 hin63 (getH_hit (by decide) rfl)
      refine Go.st (X62.aaload hx (j := (1 : Int32)) (v := (.ref r48)) (by rw [e62]; exact Ar63.1) (State.isArrayOf_alike hZ.alike Ar63.2.1) rfl Ar63.2.2 hin63 hat63 (g := (mkF mi 55 #[.val (.ref o), .val (.ref ta), .val (.int (fMax (0 : Int32) (eN sl0 su0 sv0))), .val (.int 1), .unset, .unset, .unset, .unset, .unset] [(.int 1), (.ref ob11), (.int (fMax (0 : Int32) (eN sl0 su0 sv0)))])) rfl rfl (hb hby dc21_55)) ?_
      have ne_ob11_r48 : ob11 ≠ r48 := Nat.ne_of_lt (Nat.lt_of_lt_of_le V34.lt z_r48)
      have f64 := (V_r48.other W59 (Ne.symm ne_ob11_r48))
      have ov65 := f64
      obtain ⟨cl65, Ar65, q65, S65, M65, H65, G65⟩ := ov65
      refine Go.st (X62.arraylength hx (by rw [e62]; exact Ar65.1) (State.isArrayOf_alike hZ.alike Ar65.2.1) (g := (mkF mi 56 #[.val (.ref o), .val (.ref ta), .val (.int (fMax (0 : Int32) (eN sl0 su0 sv0))), .val (.int 1), .unset, .unset, .unset, .unset, .unset] [(.ref r48), (.int (fMax (0 : Int32) (eN sl0 su0 sv0)))])) rfl rfl (hb hby dc21_56)) ?_
      rw [len_of S65 M65]
      obtain ⟨_, _, ⟨T66, L66, k66, n66⟩, -, X66, ⟨Lc66, hQ66, l66, y66, z66⟩, st66⟩ := Jvm.LawKit.callS X62 hx (y := (⟨"java/lang/Math", "max", "(II)I"⟩ : MethodName)) hown (mvT hZ (hw _ (own_m 88 rfl))) (mvT hZ (hw _ (own_m 89 rfl))) (mvT hZ (hw _ (own_m 90 rfl))) (mvT hZ (hw _ (own_m 91 rfl))) (by decide) (backOf (W := 0) (rmMax l Z a0 hw [] (fMax (0 : Int32) (eN sl0 su0 sv0)) (eN sl1 su1 sv1) h59 n0 Zs60) hZ (hw _ (own_m 91 rfl)) (hw _ (own_m 90 rfl)) (by decide) (by decide)) (g := (mkF mi 57 #[.val (.ref o), .val (.ref ta), .val (.int (fMax (0 : Int32) (eN sl0 su0 sv0))), .val (.int 1), .unset, .unset, .unset, .unset, .unset] [(.int (eN sl1 su1 sv1)), (.int (fMax (0 : Int32) (eN sl0 su0 sv0)))])) rfl (by rw [hml]; rfl) (argsL := [(.int (fMax (0 : Int32) (eN sl0 su0 sv0))), (.int (eN sl1 su1 sv1))]) (rest := []) (lenOf pd_11 rfl) rfl (by show 2 * 0 + _ ≤ _; exact Nat.le_of_eq rfl) (hb hby dc21_57) (fun _ _ => ⟨rfl, e62, (by decide : 6 + 0 ≤ _), (by decide : 20 + 0 ≤ _)⟩)
      dsimp only [Pt.U, Pt.locs, Pt.cells, Pt.slots] at X66 l66 y66 z66 st66 hQ66
      subst l66 y66 z66
      have X66 := own_cs X66 (cells' := 6) (slots' := 20) rfl rfl
      obtain ⟨rfl, N66q, e66⟩ := hQ66
      have N66 := Fr.app N60 N66q
      refine Go.st st66 ?_
      refine g_istoreN X66 hx hby dc21_60 (l' := #[.val (.ref o), .val (.ref ta), .val (.int (fMax (fMax (0 : Int32) (eN sl0 su0 sv0)) (eN sl1 su1 sv1))), .val (.int 1), .unset, .unset, .unset, .unset, .unset]) rfl ?_
      refine g_iinc X66 hx hby dc21_61 rfl (x' := 2) rfl (l' := #[.val (.ref o), .val (.ref ta), .val (.int (fMax (fMax (0 : Int32) (eN sl0 su0 sv0)) (eN sl1 su1 sv1))), .val (.int 2), .unset, .unset, .unset, .unset, .unset]) rfl ?_
      refine g_goto X66 hx hby dc21_64 (pc0 := 64) (pc' := 28) rfl (by decide) (by decide) ?_
      refine g_iloadN X66 hx hby dc21_28 rfl ?_
      refine g_aloadN X66 hx hby dc21_29 rfl rfl ?_
      have f67 := ((f42.keep K48 nin0).other W59 ne_ta_ob11)
      have ov68 := f67
      obtain ⟨cl68, Ar68, q68, S68, M68, H68, G68⟩ := ov68
      refine Go.st (X66.arraylength hx (by rw [e66]; exact Ar68.1) (State.isArrayOf_alike hZ.alike Ar68.2.1) (g := (mkF mi 30 #[.val (.ref o), .val (.ref ta), .val (.int (fMax (fMax (0 : Int32) (eN sl0 su0 sv0)) (eN sl1 su1 sv1))), .val (.int 2), .unset, .unset, .unset, .unset, .unset] [(.ref ta), (.int 2)])) rfl rfl (hb hby dc21_30)) ?_
      rw [len_of S68 M68]
      by_cases hc31_3 : (2 : Int32) < N
      · refine g_icmpNo X66 hx hby dc21_31 (tlt hc31_3).2.1 ?_
        refine g_aloadN X66 hx hby dc21_34 rfl rfl ?_
        show Go _ _ _ (T66.setTop (mkF mi 35 #[.val (.ref o), .val (.ref ta), .val (.int (fMax (fMax (0 : Int32) (eN sl0 su0 sv0)) (eN sl1 su1 sv1))), .val (.int 2), .unset, .unset, .unset, .unset, .unset] [(.ref o)])) _
        obtain ⟨T69, X69, e69, st69⟩ := getF X66 hx hZ hown (host := "") (Or.inl (hw _ (own_m 38 rfl))) Via.refl e66 f61 (g := (mkF mi 35 #[.val (.ref o), .val (.ref ta), .val (.int (fMax (fMax (0 : Int32) (eN sl0 su0 sv0)) (eN sl1 su1 sv1))), .val (.int 2), .unset, .unset, .unset, .unset, .unset] [(.ref o)])) rfl rfl (hb hby dc21_35)
        refine Go.st st69 ?_
        refine g_iloadN X69 hx hby dc21_38 rfl ?_
        refine g_aloadN X69 hx hby dc21_39 rfl rfl ?_
        refine g_iloadN X69 hx hby dc21_40 rfl ?_
        have ov70 := f67
        obtain ⟨cl70, Ar70, q70, S70, M70, H70, G70⟩ := ov70
        have hin70 : ¬ ((2 : Int32) < 0 ∨ cl70.slots.size ≤ ((2 : Int32)).toNatClampNeg) := inb_of S70 ⟨by decide, hc31_3⟩
        have hat70 : cl70.slots[((2 : Int32)).toNatClampNeg]? = some (.ref so2) := Has.at H70 hin70 (hg_2 hc31_3)
        refine Go.st (X69.aaload hx (j := (2 : Int32)) (v := (.ref so2)) (by rw [e69]; exact Ar70.1) (State.isArrayOf_alike hZ.alike Ar70.2.1) rfl Ar70.2.2 hin70 hat70 (g := (mkF mi 41 #[.val (.ref o), .val (.ref ta), .val (.int (fMax (fMax (0 : Int32) (eN sl0 su0 sv0)) (eN sl1 su1 sv1))), .val (.int 2), .unset, .unset, .unset, .unset, .unset] [(.int 2), (.ref ta), (.int 2), (.ref ob11)])) rfl rfl (hb hby dc21_41)) ?_
        have f71 := ((own_sta_keep f46 K48 ns0).wr W59)
        obtain ⟨T72, X72, e72, st72⟩ := getS2 X69 hx hZ hown (host := "") (Or.inl (hw _ (own_m 52 rfl))) Via.refl e69 f71 (g := (mkF mi 42 #[.val (.ref o), .val (.ref ta), .val (.int (fMax (fMax (0 : Int32) (eN sl0 su0 sv0)) (eN sl1 su1 sv1))), .val (.int 2), .unset, .unset, .unset, .unset, .unset] [(.ref so2), (.int 2), (.ref ob11)])) rfl (hb hby dc21_42)
        refine Go.st st72 ?_
        have f74 := ((((((((E_2.ext E2).wr W7).ext E11).wr W15).keep K23).wr W34).keep K48).wr W59)
        have ne_so2_ob11 : so2 ≠ ob11 := Nat.ne_of_lt (Nat.lt_of_lt_of_le ((E_2.ext E2).wr W7).lt (Nat.le_of_eq g11.symm))
        have f75 := ((((((((FC_2.ext E2).other W7 (Or.inl n_s2)).ext E11).other W15 (Or.inl n_s2)).keep K23 nin0).other W34 (Or.inl ne_so2_ob11)).keep K48 nin0).other W59 (Or.inl ne_so2_ob11))
        have f76 := ((((((((FV_2.ext E2).other W7 (Or.inl n_s2)).ext E11).other W15 (Or.inl n_s2)).keep K23 nin0).other W34 (Or.inl ne_so2_ob11)).keep K48 nin0).other W59 (Or.inl ne_so2_ob11))
        have ne_sb2_ob11 : sb2 ≠ ob11 := Nat.ne_of_lt (Nat.lt_of_lt_of_le ((EB_2.ext E2).wr W7).lt (Nat.le_of_eq g11.symm))
        have f77 := ((((((((AV_2.ext E2).other W7 n_b2).ext E11).other W15 n_b2).keep K23 nin0).other W34 ne_sb2_ob11).keep K48 nin0).other W59 ne_sb2_ob11)
        have f78 := ((((((((EB_2.ext E2).wr W7).ext E11).wr W15).keep K23).wr W34).keep K48).wr W59)
        have f79 := ((own_sta_keep f54 K48 ns0).wr W59)
        have f80 := ((own_sta_keep f55 K48 ns0).wr W59)
        obtain ⟨cq73, kq73, q73a, q73b, q73c⟩ := isOf hZ e72 f74
        obtain ⟨_, _, ⟨T73, L73, k73, n73⟩, -, X73, ⟨Lc73, hQ73, l73, y73, z73⟩, st73⟩ := X72.virtualBack hx (y := (⟨"java/lang/String", "getBytes", "(Ljava/nio/charset/Charset;)[B"⟩ : MethodName)) (z := (⟨"java/lang/String", "getBytes", "(Ljava/nio/charset/Charset;)[B"⟩ : MethodName)) hown (mvT hZ (hw _ (own_m 54 rfl))) (mvT hZ (hw _ (own_m 55 rfl))) (notFace_of_selects (args := #[]) (mvT hZ (hw _ (own_m 57 rfl)))) (mvT hZ (hw _ (own_m 57 rfl))) (mvT hZ (hw _ (own_m 56 rfl))) (by decide) (backOf (W := 2) (rmGB l Z a0 hw [] so2 cs sb2 sk2 sl2 su2 sv2 cz h59 n0 Zs60 f74 f75 f76 f77 f78 hl_2 hu_2 hv_2 f79 f80 hcz) hZ (hw _ (own_m 58 rfl)) (hw _ (own_m 6 rfl)) (by decide) (by decide)) q73a q73c (g := (mkF mi 45 #[.val (.ref o), .val (.ref ta), .val (.int (fMax (fMax (0 : Int32) (eN sl0 su0 sv0)) (eN sl1 su1 sv1))), .val (.int 2), .unset, .unset, .unset, .unset, .unset] [(.ref cs), (.ref so2), (.int 2), (.ref ob11)])) rfl (by rw [hml]; rfl) (Steps.refl _) (argsL := [(.ref cs)]) (rest := [(.int 2), (.ref ob11)]) (lenOf pd_18 rfl) rfl (by show 2 * 0 + _ ≤ _; exact Nat.le_of_eq rfl) (hb hby dc21_45) (fun _ _ => ⟨rfl, e72, (by decide : 6 + 2 ≤ _), (by decide : 20 + 7 ≤ _)⟩)
        dsimp only [Pt.U, Pt.locs, Pt.cells, Pt.slots] at X73 l73 y73 z73 st73 hQ73
        subst l73 y73 z73
        have X73 := own_cs X73 (cells' := 8) (slots' := 27) rfl rfl
        obtain ⟨h73, e73⟩ : ∃ z, T73.heap = z := ⟨_, rfl⟩
        rw [e73] at hQ73
        obtain ⟨r73, kr73, rfl, N73q, K73, z_r73, g_r73, V_r73, E_r73⟩ := hQ73
        have N73 := Fr.app N66 N73q
        have Zs81 : n0 ≤ h73.size := Nat.le_trans Zs60 K73.1
        have KC81 : Keep h0 h73 [o] := KC60.trans K73 all0
        have sz_r73 : h0.size ≤ r73 := Nat.le_trans KC60.1 z_r73
        refine Go.tr st73 ?_
        have f82 := (V59.keep K73 nin0)
        have ov83 := f82
        obtain ⟨cl83, Ar83, q83, S83, M83, H83, G83⟩ := ov83
        have hin83 : ¬ ((2 : Int32) < 0 ∨ cl83.slots.size ≤ ((2 : Int32)).toNatClampNeg) := inb_of S83 ⟨by decide, hc31_3⟩
        obtain ⟨T84, h84, X84, e84, W84, st84⟩ := stR X73 hx hZ e73 Ar83 (j := (2 : Int32)) hin83 rfl (Sto.ofVA Ar83 q83 O11 (Ins.self E_r73)) (g := (mkF mi 48 #[.val (.ref o), .val (.ref ta), .val (.int (fMax (fMax (0 : Int32) (eN sl0 su0 sv0)) (eN sl1 su1 sv1))), .val (.int 2), .unset, .unset, .unset, .unset, .unset] [(.ref r73), (.int 2), (.ref ob11)])) rfl rfl (hb hby dc21_48)
        have Zs85 : n0 ≤ h84.size := Nat.le_trans Zs81 (Keep.of_wr W84).1
        have KC85 : Keep h0 h84 [o] := KC81.wr W84 (Or.inr sz_ob11)
        have N85 := Fr.snoc X84 N73 g_ob11
        have V84 : Arh Z h84 ob11 k11 (.array .byte) N (((2 : Int32), (.ref r73)) :: (((1 : Int32), (.ref r48)) :: (((0 : Int32), (.ref r23)) :: []))) [] .null := Arh.push Ar83 q83 S83 M83 H83 G83 rfl W84 hin83
        refine Go.st st84 ?_
        refine g_iloadN X84 hx hby dc21_49 rfl ?_
        refine g_aloadN X84 hx hby dc21_50 rfl rfl ?_
        have f86 := ((f61.keep K73 nin0).other W84 (Or.inl ne_o_ob11))
        obtain ⟨T87, X87, e87, st87⟩ := getF X84 hx hZ hown (host := "") (Or.inl (hw _ (own_m 38 rfl))) Via.refl e84 f86 (g := (mkF mi 51 #[.val (.ref o), .val (.ref ta), .val (.int (fMax (fMax (0 : Int32) (eN sl0 su0 sv0)) (eN sl1 su1 sv1))), .val (.int 2), .unset, .unset, .unset, .unset, .unset] [(.ref o), (.int (fMax (fMax (0 : Int32) (eN sl0 su0 sv0)) (eN sl1 su1 sv1)))])) rfl rfl (hb hby dc21_51)
        refine Go.st st87 ?_
        refine g_iloadN X87 hx hby dc21_54 rfl ?_
        have ov88 := V84
        obtain ⟨cl88, Ar88, q88, S88, M88, H88, G88⟩ := ov88
        have hin88 : ¬ ((2 : Int32) < 0 ∨ cl88.slots.size ≤ ((2 : Int32)).toNatClampNeg) := inb_of S88 ⟨by decide, hc31_3⟩
        have hat88 : cl88.slots[((2 : Int32)).toNatClampNeg]? = some (.ref r73) := atH H88 hin88 (getH_hit (by decide) rfl)
        refine Go.st (X87.aaload hx (j := (2 : Int32)) (v := (.ref r73)) (by rw [e87]; exact Ar88.1) (State.isArrayOf_alike hZ.alike Ar88.2.1) rfl Ar88.2.2 hin88 hat88 (g := (mkF mi 55 #[.val (.ref o), .val (.ref ta), .val (.int (fMax (fMax (0 : Int32) (eN sl0 su0 sv0)) (eN sl1 su1 sv1))), .val (.int 2), .unset, .unset, .unset, .unset, .unset] [(.int 2), (.ref ob11), (.int (fMax (fMax (0 : Int32) (eN sl0 su0 sv0)) (eN sl1 su1 sv1)))])) rfl rfl (hb hby dc21_55)) ?_
        have ne_ob11_r73 : ob11 ≠ r73 := Nat.ne_of_lt (Nat.lt_of_lt_of_le V59.lt z_r73)
        have f89 := (V_r73.other W84 (Ne.symm ne_ob11_r73))
        have ov90 := f89
        obtain ⟨cl90, Ar90, q90, S90, M90, H90, G90⟩ := ov90
        refine Go.st (X87.arraylength hx (by rw [e87]; exact Ar90.1) (State.isArrayOf_alike hZ.alike Ar90.2.1) (g := (mkF mi 56 #[.val (.ref o), .val (.ref ta), .val (.int (fMax (fMax (0 : Int32) (eN sl0 su0 sv0)) (eN sl1 su1 sv1))), .val (.int 2), .unset, .unset, .unset, .unset, .unset] [(.ref r73), (.int (fMax (fMax (0 : Int32) (eN sl0 su0 sv0)) (eN sl1 su1 sv1)))])) rfl rfl (hb hby dc21_56)) ?_
        rw [len_of S90 M90]
        obtain ⟨_, _, ⟨T91, L91, k91, n91⟩, -, X91, ⟨Lc91, hQ91, l91, y91, z91⟩, st91⟩ := Jvm.LawKit.callS X87 hx (y := (⟨"java/lang/Math", "max", "(II)I"⟩ : MethodName)) hown (mvT hZ (hw _ (own_m 88 rfl))) (mvT hZ (hw _ (own_m 89 rfl))) (mvT hZ (hw _ (own_m 90 rfl))) (mvT hZ (hw _ (own_m 91 rfl))) (by decide) (backOf (W := 0) (rmMax l Z a0 hw [] (fMax (fMax (0 : Int32) (eN sl0 su0 sv0)) (eN sl1 su1 sv1)) (eN sl2 su2 sv2) h84 n0 Zs85) hZ (hw _ (own_m 91 rfl)) (hw _ (own_m 90 rfl)) (by decide) (by decide)) (g := (mkF mi 57 #[.val (.ref o), .val (.ref ta), .val (.int (fMax (fMax (0 : Int32) (eN sl0 su0 sv0)) (eN sl1 su1 sv1))), .val (.int 2), .unset, .unset, .unset, .unset, .unset] [(.int (eN sl2 su2 sv2)), (.int (fMax (fMax (0 : Int32) (eN sl0 su0 sv0)) (eN sl1 su1 sv1)))])) rfl (by rw [hml]; rfl) (argsL := [(.int (fMax (fMax (0 : Int32) (eN sl0 su0 sv0)) (eN sl1 su1 sv1))), (.int (eN sl2 su2 sv2))]) (rest := []) (lenOf pd_11 rfl) rfl (by show 2 * 0 + _ ≤ _; exact Nat.le_of_eq rfl) (hb hby dc21_57) (fun _ _ => ⟨rfl, e87, (by decide : 8 + 0 ≤ _), (by decide : 27 + 0 ≤ _)⟩)
        dsimp only [Pt.U, Pt.locs, Pt.cells, Pt.slots] at X91 l91 y91 z91 st91 hQ91
        subst l91 y91 z91
        have X91 := own_cs X91 (cells' := 8) (slots' := 27) rfl rfl
        obtain ⟨rfl, N91q, e91⟩ := hQ91
        have N91 := Fr.app N85 N91q
        refine Go.st st91 ?_
        refine g_istoreN X91 hx hby dc21_60 (l' := #[.val (.ref o), .val (.ref ta), .val (.int (fMax (fMax (fMax (0 : Int32) (eN sl0 su0 sv0)) (eN sl1 su1 sv1)) (eN sl2 su2 sv2))), .val (.int 2), .unset, .unset, .unset, .unset, .unset]) rfl ?_
        refine g_iinc X91 hx hby dc21_61 rfl (x' := 3) rfl (l' := #[.val (.ref o), .val (.ref ta), .val (.int (fMax (fMax (fMax (0 : Int32) (eN sl0 su0 sv0)) (eN sl1 su1 sv1)) (eN sl2 su2 sv2))), .val (.int 3), .unset, .unset, .unset, .unset, .unset]) rfl ?_
        refine g_goto X91 hx hby dc21_64 (pc0 := 64) (pc' := 28) rfl (by decide) (by decide) ?_
        refine g_iloadN X91 hx hby dc21_28 rfl ?_
        refine g_aloadN X91 hx hby dc21_29 rfl rfl ?_
        have f92 := ((f67.keep K73 nin0).other W84 ne_ta_ob11)
        have ov93 := f92
        obtain ⟨cl93, Ar93, q93, S93, M93, H93, G93⟩ := ov93
        refine Go.st (X91.arraylength hx (by rw [e91]; exact Ar93.1) (State.isArrayOf_alike hZ.alike Ar93.2.1) (g := (mkF mi 30 #[.val (.ref o), .val (.ref ta), .val (.int (fMax (fMax (fMax (0 : Int32) (eN sl0 su0 sv0)) (eN sl1 su1 sv1)) (eN sl2 su2 sv2))), .val (.int 3), .unset, .unset, .unset, .unset, .unset] [(.ref ta), (.int 3)])) rfl rfl (hb hby dc21_30)) ?_
        rw [len_of S93 M93]
        refine g_icmpYes X91 hx hby dc21_31 (flt (own_n3 hN3)).2.1 (pc0 := 31) (pc' := 67) rfl (by decide) (by decide) ?_
        show Go _ _ _ (T91.setTop (mkF mi 67 #[.val (.ref o), .val (.ref ta), .val (.int (fMax (fMax (fMax (0 : Int32) (eN sl0 su0 sv0)) (eN sl1 su1 sv1)) (eN sl2 su2 sv2))), .val (.int 3), .unset, .unset, .unset, .unset, .unset] [])) _
        have f94 := ((((f39.keep K48 nin0).other W59 (Ne.symm ne_ob11_r23)).keep K73 nin0).other W84 (Ne.symm ne_ob11_r23))
        have f95 := ((f64.keep K73 nin0).other W84 (Ne.symm ne_ob11_r48))
        have hNk : (3 : Int32) = N := own_te (by decide +kernel : (3 : Int32).toInt = ((3 : Nat) : Int)) (own_n3 hN3) (own_tl (by decide +kernel : (2 : Int32).toInt = ((2 : Nat) : Int)) hc31_3)
        have hNn : N.toNatClampNeg = 3 := hNk ▸ (by decide +kernel : (3 : Int32).toNatClampNeg = 3)
        have hb0 := own_eLl (u := su0) (v := sv0) hl_0
        have hc0 : (eN sl0 su0 sv0).toInt = _ := own_ofN (n := (eL sl0 su0 sv0).length) (by omega)
        have hq0 := own_maxI (0 : Int32) (eN sl0 su0 sv0)
        have hb1 := own_eLl (u := su1) (v := sv1) hl_1
        have hc1 : (eN sl1 su1 sv1).toInt = _ := own_ofN (n := (eL sl1 su1 sv1).length) (by omega)
        have hq1 := own_maxI (fMax (0 : Int32) (eN sl0 su0 sv0)) (eN sl1 su1 sv1)
        have hb2 := own_eLl (u := su2) (v := sv2) hl_2
        have hc2 : (eN sl2 su2 sv2).toInt = _ := own_ofN (n := (eL sl2 su2 sv2).length) (by omega)
        have hq2 := own_maxI (fMax (fMax (0 : Int32) (eN sl0 su0 sv0)) (eN sl1 su1 sv1)) (eN sl2 su2 sv2)
        have hz0 := own_z0
        have hm0 : 0 ≤ ((fMax (fMax (fMax (0 : Int32) (eN sl0 su0 sv0)) (eN sl1 su1 sv1)) (eN sl2 su2 sv2)) : Int32).toInt := by omega
        have hm4 : ((fMax (fMax (fMax (0 : Int32) (eN sl0 su0 sv0)) (eN sl1 su1 sv1)) (eN sl2 su2 sv2)) : Int32).toInt ≤ 4 := by omega
        have hm_0 : (eN sl0 su0 sv0).toInt ≤ (fMax (fMax (fMax (0 : Int32) (eN sl0 su0 sv0)) (eN sl1 su1 sv1)) (eN sl2 su2 sv2)).toInt := by omega
        have hm_1 : (eN sl1 su1 sv1).toInt ≤ (fMax (fMax (fMax (0 : Int32) (eN sl0 su0 sv0)) (eN sl1 su1 sv1)) (eN sl2 su2 sv2)).toInt := by omega
        have hm_2 : (eN sl2 su2 sv2).toInt ≤ (fMax (fMax (fMax (0 : Int32) (eN sl0 su0 sv0)) (eN sl1 su1 sv1)) (eN sl2 su2 sv2)).toInt := by omega
        have hEA : EncA Z h84 h84.size o ob11 k11 N (((2 : Int32), (.ref r73)) :: (((1 : Int32), (.ref r48)) :: (((0 : Int32), (.ref r23)) :: []))) (g3 (eL sl0 su0 sv0) (eL sl1 su1 sv1) (eL sl2 su2 sv2)) N.toNatClampNeg := by
          have ne_o_r23 : o ≠ r23 := Nat.ne_of_lt (Nat.lt_of_lt_of_le (f14.wr W15).lt z_r23)
          have ne_o_r48 : o ≠ r48 := Nat.ne_of_lt (Nat.lt_of_lt_of_le (((f14.wr W15).keep K23).wr W34).lt z_r48)
          have ne_o_r73 : o ≠ r73 := Nat.ne_of_lt (Nat.lt_of_lt_of_le (((((f14.wr W15).keep K23).wr W34).keep K48).wr W59).lt z_r73)
          refine ⟨V84, V84.lt, (Ne.symm ne_o_ob11), fun i hi => ?_⟩
          rw [hNn] at hi
          match i, hi with
          | 0, _ => exact ⟨r23, kr23, own_gh (0 : Int32) (by decide +kernel) (getH_miss (by decide) (by decide) (getH_miss (by decide) (by decide) (getH_hit (by decide) rfl))), f94.lt, (Ne.symm ne_o_r23), f94⟩
          | 1, _ => exact ⟨r48, kr48, own_gh (1 : Int32) (by decide +kernel) (getH_miss (by decide) (by decide) (getH_hit (by decide) rfl)), f95.lt, (Ne.symm ne_o_r48), f95⟩
          | 2, _ => exact ⟨r73, kr73, own_gh (2 : Int32) (by decide +kernel) (getH_hit (by decide) rfl), f89.lt, (Ne.symm ne_o_r73), f89⟩
        have hlt : ∀ i, i < N.toNatClampNeg → nL (g3 (eL sl0 su0 sv0) (eL sl1 su1 sv1) (eL sl2 su2 sv2)) i < ((fMax (fMax (fMax (0 : Int32) (eN sl0 su0 sv0)) (eN sl1 su1 sv1)) (eN sl2 su2 sv2)) + (1 : Int32)) := by
          intro i hi
          rw [hNn] at hi
          match i, hi with
          | 0, _ => exact own_ltmx hm0 hm4 hm_0
          | 1, _ => exact own_ltmx hm0 hm4 hm_1
          | 2, _ => exact own_ltmx hm0 hm4 hm_2
        refine own_c3 hNk ?_
        have f97 := (((((((f14.wr W15).keep K23).wr W34).keep K48).wr W59).keep K73).wr W84)
        have f98 := ((((((((((F3.ext E2).other W7 (Or.inr (slot_ne (Or.inr (hw _ (own_m 43 rfl))) (Or.inr (hw _ (own_m 35 rfl))) (by decide) (t := (.array (.array .int))) (t' := (.array (.object "java/lang/String"))) (by decide) (by decide)))).ext E11).other W15 (Or.inr (slot_ne (Or.inr (hw _ (own_m 43 rfl))) (Or.inr (hw _ (own_m 39 rfl))) (by decide) (t := (.array (.array .int))) (t' := (.array (.array .byte))) (by decide) (by decide)))).keep K23 nin0).other W34 (Or.inl ne_o_ob11)).keep K48 nin0).other W59 (Or.inl ne_o_ob11)).keep K73 nin0).other W84 (Or.inl ne_o_ob11))
        refine own_rest l Z a0 hw X91 hx hby hml hZ hown o ta (fMax (fMax (fMax (0 : Int32) (eN sl0 su0 sv0)) (eN sl1 su1 sv1)) (eN sl2 su2 sv2)) N ob11 k11 (((2 : Int32), (.ref r73)) :: (((1 : Int32), (.ref r48)) :: (((0 : Int32), (.ref r23)) :: []))) (g3 (eL sl0 su0 sv0) (eL sl1 su1 sv1) (eL sl2 su2 sv2)) h84.size h84 n0 Zs85 e91 N91 f97 f86 f98 hEA hN hN3 (Nat.le_refl _) g_o hm0 hm4 hnm (by decide) (by decide) (fun T96 L96 h96 Ls bl kbl hs X96 e96 N96 K96 F196 F296 EA96 BL96 HA96 => ?_)
        have X96 := own_cs X96 (cells' := 14) (slots' := 47) rfl rfl
        have Zs99 : n0 ≤ h96.size := Nat.le_trans Zs85 K96.1
        have KC99 : Keep h0 h96 [o] := KC85.trans K96 (allS (P := fun x => x ∈ [o] ∨ h0.size ≤ x) (Or.inl (List.mem_of_getElem? (i := 0) rfl)) all0)
        show Go _ _ _ (T96.setTop (mkF mi 202 Ls [])) _
        obtain ⟨fs, hr, hrun, hended, hW, hsame⟩ := X96.leave (v := none) (fun _ => rfl) (BodyLoose.notSynchronized Bd)
        have f100 := (f97.keep K96)
        refine ⟨_, _, ?_, hP _ _ ⟨hrun, hended, _, _, rfl, ?_, ⟨_, rfl⟩, hW, hsame.mono (by decide) (by decide)⟩⟩
        · exact X96.returnOut hx Bd.returns (hb hby dc21_202) hr
        · show Q_rmTI Z o ta kt N tv so0 sb0 sk0 sl0 su0 sv0 so1 sb1 sk1 sl1 su1 sv1 so2 sb2 sk2 sl2 su2 sv2 cz cs h0 n0 (none : Option Value) T96.heap _
          unfold Q_rmTI
          rw [e96]
          exact ⟨rfl, N96, KC99, f100, ob11, bl, k11, kbl, ((fMax (fMax (fMax (0 : Int32) (eN sl0 su0 sv0)) (eN sl1 su1 sv1)) (eN sl2 su2 sv2)) + (1 : Int32)), (((2 : Int32), (.ref r73)) :: (((1 : Int32), (.ref r48)) :: (((0 : Int32), (.ref r23)) :: []))), hs, _, F196, F296, EA96, BL96, hlt, HA96⟩
      · refine g_icmpYes X66 hx hby dc21_31 (flt hc31_3).2.1 (pc0 := 31) (pc' := 67) rfl (by decide) (by decide) ?_
        show Go _ _ _ (T66.setTop (mkF mi 67 #[.val (.ref o), .val (.ref ta), .val (.int (fMax (fMax (0 : Int32) (eN sl0 su0 sv0)) (eN sl1 su1 sv1))), .val (.int 2), .unset, .unset, .unset, .unset, .unset] [])) _
        have f101 := ((f39.keep K48 nin0).other W59 (Ne.symm ne_ob11_r23))
        have hNk : (2 : Int32) = N := own_te (by decide +kernel : (2 : Int32).toInt = ((2 : Nat) : Int)) hc31_3 (own_tl (by decide +kernel : (1 : Int32).toInt = ((1 : Nat) : Int)) hc31_2)
        have hNn : N.toNatClampNeg = 2 := hNk ▸ (by decide +kernel : (2 : Int32).toNatClampNeg = 2)
        have hb0 := own_eLl (u := su0) (v := sv0) hl_0
        have hc0 : (eN sl0 su0 sv0).toInt = _ := own_ofN (n := (eL sl0 su0 sv0).length) (by omega)
        have hq0 := own_maxI (0 : Int32) (eN sl0 su0 sv0)
        have hb1 := own_eLl (u := su1) (v := sv1) hl_1
        have hc1 : (eN sl1 su1 sv1).toInt = _ := own_ofN (n := (eL sl1 su1 sv1).length) (by omega)
        have hq1 := own_maxI (fMax (0 : Int32) (eN sl0 su0 sv0)) (eN sl1 su1 sv1)
        have hz0 := own_z0
        have hm0 : 0 ≤ ((fMax (fMax (0 : Int32) (eN sl0 su0 sv0)) (eN sl1 su1 sv1)) : Int32).toInt := by omega
        have hm4 : ((fMax (fMax (0 : Int32) (eN sl0 su0 sv0)) (eN sl1 su1 sv1)) : Int32).toInt ≤ 4 := by omega
        have hm_0 : (eN sl0 su0 sv0).toInt ≤ (fMax (fMax (0 : Int32) (eN sl0 su0 sv0)) (eN sl1 su1 sv1)).toInt := by omega
        have hm_1 : (eN sl1 su1 sv1).toInt ≤ (fMax (fMax (0 : Int32) (eN sl0 su0 sv0)) (eN sl1 su1 sv1)).toInt := by omega
        have hEA : EncA Z h59 h59.size o ob11 k11 N (((1 : Int32), (.ref r48)) :: (((0 : Int32), (.ref r23)) :: [])) (g3 (eL sl0 su0 sv0) (eL sl1 su1 sv1) (eL sl2 su2 sv2)) N.toNatClampNeg := by
          have ne_o_r23 : o ≠ r23 := Nat.ne_of_lt (Nat.lt_of_lt_of_le (f14.wr W15).lt z_r23)
          have ne_o_r48 : o ≠ r48 := Nat.ne_of_lt (Nat.lt_of_lt_of_le (((f14.wr W15).keep K23).wr W34).lt z_r48)
          refine ⟨V59, V59.lt, (Ne.symm ne_o_ob11), fun i hi => ?_⟩
          rw [hNn] at hi
          match i, hi with
          | 0, _ => exact ⟨r23, kr23, own_gh (0 : Int32) (by decide +kernel) (getH_miss (by decide) (by decide) (getH_hit (by decide) rfl)), f101.lt, (Ne.symm ne_o_r23), f101⟩
          | 1, _ => exact ⟨r48, kr48, own_gh (1 : Int32) (by decide +kernel) (getH_hit (by decide) rfl), f64.lt, (Ne.symm ne_o_r48), f64⟩
        have hlt : ∀ i, i < N.toNatClampNeg → nL (g3 (eL sl0 su0 sv0) (eL sl1 su1 sv1) (eL sl2 su2 sv2)) i < ((fMax (fMax (0 : Int32) (eN sl0 su0 sv0)) (eN sl1 su1 sv1)) + (1 : Int32)) := by
          intro i hi
          rw [hNn] at hi
          match i, hi with
          | 0, _ => exact own_ltmx hm0 hm4 hm_0
          | 1, _ => exact own_ltmx hm0 hm4 hm_1
        refine own_c3 hNk ?_
        have f103 := (((((f14.wr W15).keep K23).wr W34).keep K48).wr W59)
        have f104 := ((((((((F3.ext E2).other W7 (Or.inr (slot_ne (Or.inr (hw _ (own_m 43 rfl))) (Or.inr (hw _ (own_m 35 rfl))) (by decide) (t := (.array (.array .int))) (t' := (.array (.object "java/lang/String"))) (by decide) (by decide)))).ext E11).other W15 (Or.inr (slot_ne (Or.inr (hw _ (own_m 43 rfl))) (Or.inr (hw _ (own_m 39 rfl))) (by decide) (t := (.array (.array .int))) (t' := (.array (.array .byte))) (by decide) (by decide)))).keep K23 nin0).other W34 (Or.inl ne_o_ob11)).keep K48 nin0).other W59 (Or.inl ne_o_ob11))
        refine own_rest l Z a0 hw X66 hx hby hml hZ hown o ta (fMax (fMax (0 : Int32) (eN sl0 su0 sv0)) (eN sl1 su1 sv1)) N ob11 k11 (((1 : Int32), (.ref r48)) :: (((0 : Int32), (.ref r23)) :: [])) (g3 (eL sl0 su0 sv0) (eL sl1 su1 sv1) (eL sl2 su2 sv2)) h59.size h59 n0 Zs60 e66 N66 f103 f61 f104 hEA hN hN3 (Nat.le_refl _) g_o hm0 hm4 hnm (by decide) (by decide) (fun T102 L102 h102 Ls bl kbl hs X102 e102 N102 K102 F1102 F2102 EA102 BL102 HA102 => ?_)
        have X102 := own_cs X102 (cells' := 12) (slots' := 40) rfl rfl
        have Zs105 : n0 ≤ h102.size := Nat.le_trans Zs60 K102.1
        have KC105 : Keep h0 h102 [o] := KC60.trans K102 (allS (P := fun x => x ∈ [o] ∨ h0.size ≤ x) (Or.inl (List.mem_of_getElem? (i := 0) rfl)) all0)
        show Go _ _ _ (T102.setTop (mkF mi 202 Ls [])) _
        obtain ⟨fs, hr, hrun, hended, hW, hsame⟩ := X102.leave (v := none) (fun _ => rfl) (BodyLoose.notSynchronized Bd)
        have f106 := (f103.keep K102)
        refine ⟨_, _, ?_, hP _ _ ⟨hrun, hended, _, _, rfl, ?_, ⟨_, rfl⟩, hW, hsame.mono (by decide) (by decide)⟩⟩
        · exact X102.returnOut hx Bd.returns (hb hby dc21_202) hr
        · show Q_rmTI Z o ta kt N tv so0 sb0 sk0 sl0 su0 sv0 so1 sb1 sk1 sl1 su1 sv1 so2 sb2 sk2 sl2 su2 sv2 cz cs h0 n0 (none : Option Value) T102.heap _
          unfold Q_rmTI
          rw [e102]
          exact ⟨rfl, N102, KC105, f106, ob11, bl, k11, kbl, ((fMax (fMax (0 : Int32) (eN sl0 su0 sv0)) (eN sl1 su1 sv1)) + (1 : Int32)), (((1 : Int32), (.ref r48)) :: (((0 : Int32), (.ref r23)) :: [])), hs, _, F1102, F2102, EA102, BL102, hlt, HA102⟩
    · refine g_icmpYes X41 hx hby dc21_31 (flt hc31_2).2.1 (pc0 := 31) (pc' := 67) rfl (by decide) (by decide) ?_
      show Go _ _ _ (T41.setTop (mkF mi 67 #[.val (.ref o), .val (.ref ta), .val (.int (fMax (0 : Int32) (eN sl0 su0 sv0))), .val (.int 1), .unset, .unset, .unset, .unset, .unset] [])) _
      have hNk : (1 : Int32) = N := own_te (by decide +kernel : (1 : Int32).toInt = ((1 : Nat) : Int)) hc31_2 (own_tl (by decide +kernel : (0 : Int32).toInt = ((0 : Nat) : Int)) hc31_1)
      have hNn : N.toNatClampNeg = 1 := hNk ▸ (by decide +kernel : (1 : Int32).toNatClampNeg = 1)
      have hb0 := own_eLl (u := su0) (v := sv0) hl_0
      have hc0 : (eN sl0 su0 sv0).toInt = _ := own_ofN (n := (eL sl0 su0 sv0).length) (by omega)
      have hq0 := own_maxI (0 : Int32) (eN sl0 su0 sv0)
      have hz0 := own_z0
      have hm0 : 0 ≤ ((fMax (0 : Int32) (eN sl0 su0 sv0)) : Int32).toInt := by omega
      have hm4 : ((fMax (0 : Int32) (eN sl0 su0 sv0)) : Int32).toInt ≤ 4 := by omega
      have hm_0 : (eN sl0 su0 sv0).toInt ≤ (fMax (0 : Int32) (eN sl0 su0 sv0)).toInt := by omega
      have hEA : EncA Z h34 h34.size o ob11 k11 N (((0 : Int32), (.ref r23)) :: []) (g3 (eL sl0 su0 sv0) (eL sl1 su1 sv1) (eL sl2 su2 sv2)) N.toNatClampNeg := by
        have ne_o_r23 : o ≠ r23 := Nat.ne_of_lt (Nat.lt_of_lt_of_le (f14.wr W15).lt z_r23)
        refine ⟨V34, V34.lt, (Ne.symm ne_o_ob11), fun i hi => ?_⟩
        rw [hNn] at hi
        match i, hi with
        | 0, _ => exact ⟨r23, kr23, own_gh (0 : Int32) (by decide +kernel) (getH_hit (by decide) rfl), f39.lt, (Ne.symm ne_o_r23), f39⟩
      have hlt : ∀ i, i < N.toNatClampNeg → nL (g3 (eL sl0 su0 sv0) (eL sl1 su1 sv1) (eL sl2 su2 sv2)) i < ((fMax (0 : Int32) (eN sl0 su0 sv0)) + (1 : Int32)) := by
        intro i hi
        rw [hNn] at hi
        match i, hi with
        | 0, _ => exact own_ltmx hm0 hm4 hm_0
      refine own_c3 hNk ?_
      have f108 := (((f14.wr W15).keep K23).wr W34)
      have f109 := ((((((F3.ext E2).other W7 (Or.inr (slot_ne (Or.inr (hw _ (own_m 43 rfl))) (Or.inr (hw _ (own_m 35 rfl))) (by decide) (t := (.array (.array .int))) (t' := (.array (.object "java/lang/String"))) (by decide) (by decide)))).ext E11).other W15 (Or.inr (slot_ne (Or.inr (hw _ (own_m 43 rfl))) (Or.inr (hw _ (own_m 39 rfl))) (by decide) (t := (.array (.array .int))) (t' := (.array (.array .byte))) (by decide) (by decide)))).keep K23 nin0).other W34 (Or.inl ne_o_ob11))
      refine own_rest l Z a0 hw X41 hx hby hml hZ hown o ta (fMax (0 : Int32) (eN sl0 su0 sv0)) N ob11 k11 (((0 : Int32), (.ref r23)) :: []) (g3 (eL sl0 su0 sv0) (eL sl1 su1 sv1) (eL sl2 su2 sv2)) h34.size h34 n0 Zs35 e41 N41 f108 f36 f109 hEA hN hN3 (Nat.le_refl _) g_o hm0 hm4 hnm (by decide) (by decide) (fun T107 L107 h107 Ls bl kbl hs X107 e107 N107 K107 F1107 F2107 EA107 BL107 HA107 => ?_)
      have X107 := own_cs X107 (cells' := 10) (slots' := 33) rfl rfl
      have Zs110 : n0 ≤ h107.size := Nat.le_trans Zs35 K107.1
      have KC110 : Keep h0 h107 [o] := KC35.trans K107 (allS (P := fun x => x ∈ [o] ∨ h0.size ≤ x) (Or.inl (List.mem_of_getElem? (i := 0) rfl)) all0)
      show Go _ _ _ (T107.setTop (mkF mi 202 Ls [])) _
      obtain ⟨fs, hr, hrun, hended, hW, hsame⟩ := X107.leave (v := none) (fun _ => rfl) (BodyLoose.notSynchronized Bd)
      have f111 := (f108.keep K107)
      refine ⟨_, _, ?_, hP _ _ ⟨hrun, hended, _, _, rfl, ?_, ⟨_, rfl⟩, hW, hsame.mono (by decide) (by decide)⟩⟩
      · exact X107.returnOut hx Bd.returns (hb hby dc21_202) hr
      · show Q_rmTI Z o ta kt N tv so0 sb0 sk0 sl0 su0 sv0 so1 sb1 sk1 sl1 su1 sv1 so2 sb2 sk2 sl2 su2 sv2 cz cs h0 n0 (none : Option Value) T107.heap _
        unfold Q_rmTI
        rw [e107]
        exact ⟨rfl, N107, KC110, f111, ob11, bl, k11, kbl, ((fMax (0 : Int32) (eN sl0 su0 sv0)) + (1 : Int32)), (((0 : Int32), (.ref r23)) :: []), hs, _, F1107, F2107, EA107, BL107, hlt, HA107⟩
  · refine g_icmpYes X15 hx hby dc21_31 (flt hc31_1).2.1 (pc0 := 31) (pc' := 67) rfl (by decide) (by decide) ?_
    show Go _ _ _ (T15.setTop (mkF mi 67 #[.val (.ref o), .val (.ref ta), .val (.int 0), .val (.int 0), .unset, .unset, .unset, .unset, .unset] [])) _
    have ne_o_ob11 : o ≠ ob11 := Nat.ne_of_lt (Nat.lt_of_lt_of_le (f6.wr W7).lt (Nat.le_of_eq g11.symm))
    have f112 := (V11.other W15 (Ne.symm ne_o_ob11))
    have hNk : (0 : Int32) = N := own_te (by decide +kernel : (0 : Int32).toInt = ((0 : Nat) : Int)) hc31_1 (own_n0 hN)
    have hNn : N.toNatClampNeg = 0 := hNk ▸ (by decide +kernel : (0 : Int32).toNatClampNeg = 0)
    have hz0 := own_z0
    have hm0 : 0 ≤ ((0 : Int32) : Int32).toInt := by omega
    have hm4 : ((0 : Int32) : Int32).toInt ≤ 4 := by omega
    have hEA : EncA Z h15 h15.size o ob11 k11 N [] (g3 (eL sl0 su0 sv0) (eL sl1 su1 sv1) (eL sl2 su2 sv2)) N.toNatClampNeg := by
      refine ⟨f112, f112.lt, (Ne.symm ne_o_ob11), fun i hi => ?_⟩
      rw [hNn] at hi
      exact absurd hi (Nat.not_lt_zero _)
    have hlt : ∀ i, i < N.toNatClampNeg → nL (g3 (eL sl0 su0 sv0) (eL sl1 su1 sv1) (eL sl2 su2 sv2)) i < ((0 : Int32) + (1 : Int32)) := by
      intro i hi
      rw [hNn] at hi
      exact absurd hi (Nat.not_lt_zero _)
    refine own_c3 hNk ?_
    have f114 := (f14.wr W15)
    have f115 := ((((F3.ext E2).other W7 (Or.inr (slot_ne (Or.inr (hw _ (own_m 43 rfl))) (Or.inr (hw _ (own_m 35 rfl))) (by decide) (t := (.array (.array .int))) (t' := (.array (.object "java/lang/String"))) (by decide) (by decide)))).ext E11).other W15 (Or.inr (slot_ne (Or.inr (hw _ (own_m 43 rfl))) (Or.inr (hw _ (own_m 39 rfl))) (by decide) (t := (.array (.array .int))) (t' := (.array (.array .byte))) (by decide) (by decide))))
    refine own_rest l Z a0 hw X15 hx hby hml hZ hown o ta (0 : Int32) N ob11 k11 [] (g3 (eL sl0 su0 sv0) (eL sl1 su1 sv1) (eL sl2 su2 sv2)) h15.size h15 n0 Zs16 e15 N16 f114 F15 f115 hEA hN hN3 (Nat.le_refl _) g_o hm0 hm4 hnm (by decide) (by decide) (fun T113 L113 h113 Ls bl kbl hs X113 e113 N113 K113 F1113 F2113 EA113 BL113 HA113 => ?_)
    have X113 := own_cs X113 (cells' := 8) (slots' := 26) rfl rfl
    have Zs116 : n0 ≤ h113.size := Nat.le_trans Zs16 K113.1
    have KC116 : Keep h0 h113 [o] := KC16.trans K113 (allS (P := fun x => x ∈ [o] ∨ h0.size ≤ x) (Or.inl (List.mem_of_getElem? (i := 0) rfl)) all0)
    show Go _ _ _ (T113.setTop (mkF mi 202 Ls [])) _
    obtain ⟨fs, hr, hrun, hended, hW, hsame⟩ := X113.leave (v := none) (fun _ => rfl) (BodyLoose.notSynchronized Bd)
    have f117 := (f114.keep K113)
    refine ⟨_, _, ?_, hP _ _ ⟨hrun, hended, _, _, rfl, ?_, ⟨_, rfl⟩, hW, hsame.mono (by decide) (by decide)⟩⟩
    · exact X113.returnOut hx Bd.returns (hb hby dc21_202) hr
    · show Q_rmTI Z o ta kt N tv so0 sb0 sk0 sl0 su0 sv0 so1 sb1 sk1 sl1 su1 sv1 so2 sb2 sk2 sl2 su2 sv2 cz cs h0 n0 (none : Option Value) T113.heap _
      unfold Q_rmTI
      rw [e113]
      exact ⟨rfl, N113, KC116, f117, ob11, bl, k11, kbl, ((0 : Int32) + (1 : Int32)), [], hs, _, F1113, F2113, EA113, BL113, hlt, HA113⟩
def Mt (E bs : List Int32) (f : Nat) : Bool := (List.range E.length).all fun j => E.getD j 0 == bs.getD (f + j) 0
theorem own_mt {E bs : List Int32} {f : Nat} : Mt E bs f = true ↔ ∀ j, j < E.length → E.getD j 0 = bs.getD (f + j) 0 := by
  simp only [Mt, List.all_eq_true, List.mem_range, beq_iff_eq]
theorem own_gm (E : List Int32) (k : Nat) : (E.map Value.int).getD k (.int (0 : Int32)) = .int (E.getD k 0) := by
  rw [List.getD_eq_getElem?_getD, List.getElem?_map, List.getD_eq_getElem?_getD]
  cases E[k]? <;> rfl
theorem own_fj {fr j : Int32} {k : Nat} (hf : 0 ≤ fr.toInt) (hj : j.toInt = k) (hb : fr.toInt + k ≤ 100) : (fr + j).toNatClampNeg = fr.toNatClampNeg + k ∧ (fr + j).toInt = fr.toInt + k := by
  have e := c_iadd fr j
  have b1 := Int32.le_toInt (fr + j)
  have b2 := Int32.toInt_lt (fr + j)
  have q : (fr + j).toInt = fr.toInt + k := by omega
  refine ⟨?_, q⟩
  simp only [Int32.toNatClampNeg]; omega
theorem own_in5 {fr t j : Int32} {k : Nat} (hf : 0 ≤ fr.toInt) (hft : fr.toInt + t.toInt ≤ 5) (hj : j.toInt = k) (q : j < t) : ¬ (fr + j) < 0 ∧ (fr + j) < (5 : Int32) := by
  rw [Int32.lt_iff_toInt_lt] at q
  have e := (own_fj hf hj (by omega)).2
  have l5 : (5 : Int32).toInt = 5 := rfl
  simp only [Int32.lt_iff_toInt_lt, own_z0]; omega
theorem own_b5 (a b c d e : Int32) {fr t j : Int32} {k : Nat} (hf : 0 ≤ fr.toInt) (hft : fr.toInt + t.toInt ≤ 5) (hj : j.toInt = k) (q : j < t) : ([(.int a), (.int b), (.int c), (.int d), (.int e)] : List Value).getD (fr + j).toNatClampNeg (.int (0 : Int32)) = .int (([a, b, c, d, e] : List Int32).getD (fr.toNatClampNeg + k) 0) := by
  rw [Int32.lt_iff_toInt_lt] at q
  rw [(own_fj hf hj (by omega)).1]; exact own_gm [a, b, c, d, e] _
theorem own_tn {t j : Int32} (q : j < t) : ¬ j = t := fun e => by subst e; exact Int32.lt_irrefl q
theorem own_t4' {t : Int32} (h : t.toInt ≤ 4) : ¬ ((4 : Int32) < t) := by
  have l4 : (4 : Int32).toInt = 4 := rfl
  rw [Int32.lt_iff_toInt_lt]; omega
theorem own_jl {E : List Int32} {t j : Int32} {k : Nat} (hj : j.toInt = k) (hE : t.toInt = E.length) (q : j < t) : k < E.length := by
  rw [Int32.lt_iff_toInt_lt] at q; omega
theorem own_El {E : List Int32} {t j : Int32} {k : Nat} (hj : j.toInt = k) (hE : t.toInt = E.length) (h1 : ¬ j < t) (h2 : (k : Int) ≤ t.toInt) : E.length = k := by
  have e := congrArg Int32.toInt (own_te hj h1 h2); omega
theorem own_p0 {t : Int32} {n : Nat} (h : t.toInt = n) : ((0 : Nat) : Int) ≤ t.toInt := by omega
theorem dc22_64 : decode prog_163_method_2_code 64 = .ok (.iload 11, 2) := by decide +kernel
theorem dc22_66 : decode prog_163_method_2_code 66 = .ok (.iload 4, 2) := by decide +kernel
theorem dc22_68 : decode prog_163_method_2_code 68 = .ok (.if_icmp .ge 23, 3) := by decide +kernel
theorem dc22_71 : decode prog_163_method_2_code 71 = .ok (.aload 10, 2) := by decide +kernel
theorem dc22_73 : decode prog_163_method_2_code 73 = .ok (.iload 11, 2) := by decide +kernel
theorem dc22_75 : decode prog_163_method_2_code 75 = .ok (.baload, 1) := by decide +kernel
theorem dc22_76 : decode prog_163_method_2_code 76 = .ok (.aload_n 1, 1) := by decide +kernel
theorem dc22_77 : decode prog_163_method_2_code 77 = .ok (.iload_n 2, 1) := by decide +kernel
theorem dc22_78 : decode prog_163_method_2_code 78 = .ok (.iload 11, 2) := by decide +kernel
theorem dc22_80 : decode prog_163_method_2_code 80 = .ok (.iadd, 1) := by decide +kernel
theorem dc22_81 : decode prog_163_method_2_code 81 = .ok (.baload, 1) := by decide +kernel
theorem dc22_82 : decode prog_163_method_2_code 82 = .ok (.if_icmp .ne 9, 3) := by decide +kernel
theorem dc22_85 : decode prog_163_method_2_code 85 = .ok (.iinc 11 1, 3) := by decide +kernel
theorem dc22_88 : decode prog_163_method_2_code 88 = .ok (.goto (-24), 3) := by decide +kernel
theorem dc22_91 : decode prog_163_method_2_code 91 = .ok (.iload 11, 2) := by decide +kernel
theorem dc22_93 : decode prog_163_method_2_code 93 = .ok (.iload 4, 2) := by decide +kernel
theorem dc22_95 : decode prog_163_method_2_code 95 = .ok (.if_icmp .ne 6, 3) := by decide +kernel
set_option maxRecDepth 65536 in
set_option maxHeartbeats 40000000 in
theorem own_cmp (l : Launch) (Z : State) (a0 : Array Value) (hw : ∀ d ∈ tables_1, d.before a0 Z = true) {pg : Program} {ev : Env} {si : State} {mi : MethodId} {args : Array Value} {below : List Frame} {meth : Method} {ci : Code} {R : Room} {s₁ : State} {locs : List Loc} {cells slots : Nat} (X0 : Stand pg l ev R si mi args below meth ci s₁ locs cells slots) (hx : pg.tables.exec = Jvm.exec) (hby : ci.code = prog_163_method_2_code) (hml : ci.maxLocals = 12) (hZ : Z.Warmed39 si.vm) (hown : si.vm.findClass "com/example/crossbook/crossbook/venue/JsonFields$Texts" = some mi.cls) {P : State → Outcome → Prop} (o : Addr) (by_ : Addr) (fr : Int32) (tt : Int32) (t : Int32) (qx : Addr) (x7 : Int32) (x8 : Int32) (x9 : Int32) (r : Addr) (kr : ClassId) (ky : ClassId) (E : List Int32) (y0_ : Int32) (y1_ : Int32) (y2_ : Int32) (y3_ : Int32) (y4_ : Int32) (h0 : Heap) (n0 : Nat) (Z0 : n0 ≤ h0.size) (e0 : s₁.heap = h0) (N0 : Fr n0 locs) (R0 : Arv Z h0 r kr .byte t (E.map Value.int) (.int (0 : Int32))) (Y0 : Arv Z h0 by_ ky .byte (5 : Int32) [(.int y0_), (.int y1_), (.int y2_), (.int y3_), (.int y4_)] (.int (0 : Int32))) (hE : t.toInt = E.length) (ht4 : t.toInt ≤ 4) (hf0 : 0 ≤ fr.toInt) (hft : fr.toInt + t.toInt ≤ 5) (K1 : Mt E [y0_, y1_, y2_, y3_, y4_] fr.toNatClampNeg = true → ∀ z : Int32, Go pg.tables ev below (s₁.setTop (mkF mi 98 #[.val (.ref o), .val (.ref by_), .val (.int fr), .val (.int tt), .val (.int t), .val (.ref qx), .val (.ref qx), .val (.int x7), .val (.int x8), .val (.int x9), .val (.ref r), .val (.int z)] [])) P) (K2 : ¬ Mt E [y0_, y1_, y2_, y3_, y4_] fr.toNatClampNeg = true → ∀ z : Int32, Go pg.tables ev below (s₁.setTop (mkF mi 101 #[.val (.ref o), .val (.ref by_), .val (.int fr), .val (.int tt), .val (.int t), .val (.ref qx), .val (.ref qx), .val (.int x7), .val (.int x8), .val (.int x9), .val (.ref r), .val (.int z)] [])) P) :
    Go pg.tables ev below (s₁.setTop (mkF mi 64 #[.val (.ref o), .val (.ref by_), .val (.int fr), .val (.int tt), .val (.int t), .val (.ref qx), .val (.ref qx), .val (.int x7), .val (.int x8), .val (.int x9), .val (.ref r), .val (.int 0)] [])) P := by
  refine g_iload X0 hx hby dc22_64 rfl ?_
  refine g_iload X0 hx hby dc22_66 rfl ?_
  by_cases hc68_1 : (0 : Int32) < t
  · refine g_icmpNo X0 hx hby dc22_68 (tlt hc68_1).2.1 ?_
    refine g_aload X0 hx hby dc22_71 rfl rfl ?_
    refine g_iload X0 hx hby dc22_73 rfl ?_
    have ov1 := R0
    obtain ⟨cl1, Ar1, q1, S1, M1, H1, G1⟩ := ov1
    have hin1 : ¬ ((0 : Int32) < 0 ∨ cl1.slots.size ≤ ((0 : Int32)).toNatClampNeg) := inb_of S1 ⟨by decide, hc68_1⟩
    have hat1 : cl1.slots[((0 : Int32)).toNatClampNeg]? = some (.int (E.getD 0 0)) := Has.at H1 hin1 ((congrArg (fun k_ => (E.map Value.int).getD k_ (.int (0 : Int32))) (by decide +kernel : (0 : Int32).toNatClampNeg = 0)).trans (own_gm E 0))
    refine Go.st (X0.baloadBytes hx (j := (0 : Int32)) (v := (.int (E.getD 0 0))) (by rw [e0]; exact Ar1.1) (State.isArrayOf_alike hZ.alike Ar1.2.1) Ar1.2.2 hin1 hat1 (g := (mkF mi 75 #[.val (.ref o), .val (.ref by_), .val (.int fr), .val (.int tt), .val (.int t), .val (.ref qx), .val (.ref qx), .val (.int x7), .val (.int x8), .val (.int x9), .val (.ref r), .val (.int 0)] [(.int 0), (.ref r)])) rfl rfl (hb hby dc22_75)) ?_
    refine g_aloadN X0 hx hby dc22_76 rfl rfl ?_
    refine g_iloadN X0 hx hby dc22_77 rfl ?_
    refine g_iload X0 hx hby dc22_78 rfl ?_
    refine g_iadd X0 hx hby dc22_80 rfl ?_
    have ov2 := Y0
    obtain ⟨cl2, Ar2, q2, S2, M2, H2, G2⟩ := ov2
    have hin2 : ¬ ((fr + (0 : Int32)) < 0 ∨ cl2.slots.size ≤ ((fr + (0 : Int32))).toNatClampNeg) := inb_of S2 (own_in5 hf0 hft (by decide +kernel : (0 : Int32).toInt = ((0 : Nat) : Int)) hc68_1)
    have hat2 : cl2.slots[((fr + (0 : Int32))).toNatClampNeg]? = some (.int ([y0_, y1_, y2_, y3_, y4_].getD (fr.toNatClampNeg + 0) 0)) := Has.at H2 hin2 (own_b5 _ _ _ _ _ hf0 hft (by decide +kernel : (0 : Int32).toInt = ((0 : Nat) : Int)) hc68_1)
    refine Go.st (X0.baloadBytes hx (j := (fr + (0 : Int32))) (v := (.int ([y0_, y1_, y2_, y3_, y4_].getD (fr.toNatClampNeg + 0) 0))) (by rw [e0]; exact Ar2.1) (State.isArrayOf_alike hZ.alike Ar2.2.1) Ar2.2.2 hin2 hat2 (g := (mkF mi 81 #[.val (.ref o), .val (.ref by_), .val (.int fr), .val (.int tt), .val (.int t), .val (.ref qx), .val (.ref qx), .val (.int x7), .val (.int x8), .val (.int x9), .val (.ref r), .val (.int 0)] [(.int (fr + (0 : Int32))), (.ref by_), (.int (E.getD 0 0))])) rfl rfl (hb hby dc22_81)) ?_
    by_cases hc82_2 : (E.getD 0 0) = ([y0_, y1_, y2_, y3_, y4_].getD (fr.toNatClampNeg + 0) 0)
    · refine g_icmpNo X0 hx hby dc22_82 (teq hc82_2).2 ?_
      refine g_iinc X0 hx hby dc22_85 rfl (x' := 1) rfl (l' := #[.val (.ref o), .val (.ref by_), .val (.int fr), .val (.int tt), .val (.int t), .val (.ref qx), .val (.ref qx), .val (.int x7), .val (.int x8), .val (.int x9), .val (.ref r), .val (.int 1)]) rfl ?_
      refine g_goto X0 hx hby dc22_88 (pc0 := 88) (pc' := 64) rfl (by decide) (by decide) ?_
      refine g_iload X0 hx hby dc22_64 rfl ?_
      refine g_iload X0 hx hby dc22_66 rfl ?_
      by_cases hc68_3 : (1 : Int32) < t
      · refine g_icmpNo X0 hx hby dc22_68 (tlt hc68_3).2.1 ?_
        refine g_aload X0 hx hby dc22_71 rfl rfl ?_
        refine g_iload X0 hx hby dc22_73 rfl ?_
        have ov3 := R0
        obtain ⟨cl3, Ar3, q3, S3, M3, H3, G3⟩ := ov3
        have hin3 : ¬ ((1 : Int32) < 0 ∨ cl3.slots.size ≤ ((1 : Int32)).toNatClampNeg) := inb_of S3 ⟨by decide, hc68_3⟩
        have hat3 : cl3.slots[((1 : Int32)).toNatClampNeg]? = some (.int (E.getD 1 0)) := Has.at H3 hin3 ((congrArg (fun k_ => (E.map Value.int).getD k_ (.int (0 : Int32))) (by decide +kernel : (1 : Int32).toNatClampNeg = 1)).trans (own_gm E 1))
        refine Go.st (X0.baloadBytes hx (j := (1 : Int32)) (v := (.int (E.getD 1 0))) (by rw [e0]; exact Ar3.1) (State.isArrayOf_alike hZ.alike Ar3.2.1) Ar3.2.2 hin3 hat3 (g := (mkF mi 75 #[.val (.ref o), .val (.ref by_), .val (.int fr), .val (.int tt), .val (.int t), .val (.ref qx), .val (.ref qx), .val (.int x7), .val (.int x8), .val (.int x9), .val (.ref r), .val (.int 1)] [(.int 1), (.ref r)])) rfl rfl (hb hby dc22_75)) ?_
        refine g_aloadN X0 hx hby dc22_76 rfl rfl ?_
        refine g_iloadN X0 hx hby dc22_77 rfl ?_
        refine g_iload X0 hx hby dc22_78 rfl ?_
        refine g_iadd X0 hx hby dc22_80 rfl ?_
        have ov4 := Y0
        obtain ⟨cl4, Ar4, q4, S4, M4, H4, G4⟩ := ov4
        have hin4 : ¬ ((fr + (1 : Int32)) < 0 ∨ cl4.slots.size ≤ ((fr + (1 : Int32))).toNatClampNeg) := inb_of S4 (own_in5 hf0 hft (by decide +kernel : (1 : Int32).toInt = ((1 : Nat) : Int)) hc68_3)
        have hat4 : cl4.slots[((fr + (1 : Int32))).toNatClampNeg]? = some (.int ([y0_, y1_, y2_, y3_, y4_].getD (fr.toNatClampNeg + 1) 0)) := Has.at H4 hin4 (own_b5 _ _ _ _ _ hf0 hft (by decide +kernel : (1 : Int32).toInt = ((1 : Nat) : Int)) hc68_3)
        refine Go.st (X0.baloadBytes hx (j := (fr + (1 : Int32))) (v := (.int ([y0_, y1_, y2_, y3_, y4_].getD (fr.toNatClampNeg + 1) 0))) (by rw [e0]; exact Ar4.1) (State.isArrayOf_alike hZ.alike Ar4.2.1) Ar4.2.2 hin4 hat4 (g := (mkF mi 81 #[.val (.ref o), .val (.ref by_), .val (.int fr), .val (.int tt), .val (.int t), .val (.ref qx), .val (.ref qx), .val (.int x7), .val (.int x8), .val (.int x9), .val (.ref r), .val (.int 1)] [(.int (fr + (1 : Int32))), (.ref by_), (.int (E.getD 1 0))])) rfl rfl (hb hby dc22_81)) ?_
        by_cases hc82_4 : (E.getD 1 0) = ([y0_, y1_, y2_, y3_, y4_].getD (fr.toNatClampNeg + 1) 0)
        · refine g_icmpNo X0 hx hby dc22_82 (teq hc82_4).2 ?_
          refine g_iinc X0 hx hby dc22_85 rfl (x' := 2) rfl (l' := #[.val (.ref o), .val (.ref by_), .val (.int fr), .val (.int tt), .val (.int t), .val (.ref qx), .val (.ref qx), .val (.int x7), .val (.int x8), .val (.int x9), .val (.ref r), .val (.int 2)]) rfl ?_
          refine g_goto X0 hx hby dc22_88 (pc0 := 88) (pc' := 64) rfl (by decide) (by decide) ?_
          refine g_iload X0 hx hby dc22_64 rfl ?_
          refine g_iload X0 hx hby dc22_66 rfl ?_
          by_cases hc68_5 : (2 : Int32) < t
          · refine g_icmpNo X0 hx hby dc22_68 (tlt hc68_5).2.1 ?_
            show Go _ _ _ (s₁.setTop (mkF mi 71 #[.val (.ref o), .val (.ref by_), .val (.int fr), .val (.int tt), .val (.int t), .val (.ref qx), .val (.ref qx), .val (.int x7), .val (.int x8), .val (.int x9), .val (.ref r), .val (.int 2)] [])) _
            refine g_aload X0 hx hby dc22_71 rfl rfl ?_
            refine g_iload X0 hx hby dc22_73 rfl ?_
            have ov5 := R0
            obtain ⟨cl5, Ar5, q5, S5, M5, H5, G5⟩ := ov5
            have hin5 : ¬ ((2 : Int32) < 0 ∨ cl5.slots.size ≤ ((2 : Int32)).toNatClampNeg) := inb_of S5 ⟨by decide, hc68_5⟩
            have hat5 : cl5.slots[((2 : Int32)).toNatClampNeg]? = some (.int (E.getD 2 0)) := Has.at H5 hin5 ((congrArg (fun k_ => (E.map Value.int).getD k_ (.int (0 : Int32))) (by decide +kernel : (2 : Int32).toNatClampNeg = 2)).trans (own_gm E 2))
            refine Go.st (X0.baloadBytes hx (j := (2 : Int32)) (v := (.int (E.getD 2 0))) (by rw [e0]; exact Ar5.1) (State.isArrayOf_alike hZ.alike Ar5.2.1) Ar5.2.2 hin5 hat5 (g := (mkF mi 75 #[.val (.ref o), .val (.ref by_), .val (.int fr), .val (.int tt), .val (.int t), .val (.ref qx), .val (.ref qx), .val (.int x7), .val (.int x8), .val (.int x9), .val (.ref r), .val (.int 2)] [(.int 2), (.ref r)])) rfl rfl (hb hby dc22_75)) ?_
            refine g_aloadN X0 hx hby dc22_76 rfl rfl ?_
            refine g_iloadN X0 hx hby dc22_77 rfl ?_
            refine g_iload X0 hx hby dc22_78 rfl ?_
            refine g_iadd X0 hx hby dc22_80 rfl ?_
            have ov6 := Y0
            obtain ⟨cl6, Ar6, q6, S6, M6, H6, G6⟩ := ov6
            have hin6 : ¬ ((fr + (2 : Int32)) < 0 ∨ cl6.slots.size ≤ ((fr + (2 : Int32))).toNatClampNeg) := inb_of S6 (own_in5 hf0 hft (by decide +kernel : (2 : Int32).toInt = ((2 : Nat) : Int)) hc68_5)
            have hat6 : cl6.slots[((fr + (2 : Int32))).toNatClampNeg]? = some (.int ([y0_, y1_, y2_, y3_, y4_].getD (fr.toNatClampNeg + 2) 0)) := Has.at H6 hin6 (own_b5 _ _ _ _ _ hf0 hft (by decide +kernel : (2 : Int32).toInt = ((2 : Nat) : Int)) hc68_5)
            refine Go.st (X0.baloadBytes hx (j := (fr + (2 : Int32))) (v := (.int ([y0_, y1_, y2_, y3_, y4_].getD (fr.toNatClampNeg + 2) 0))) (by rw [e0]; exact Ar6.1) (State.isArrayOf_alike hZ.alike Ar6.2.1) Ar6.2.2 hin6 hat6 (g := (mkF mi 81 #[.val (.ref o), .val (.ref by_), .val (.int fr), .val (.int tt), .val (.int t), .val (.ref qx), .val (.ref qx), .val (.int x7), .val (.int x8), .val (.int x9), .val (.ref r), .val (.int 2)] [(.int (fr + (2 : Int32))), (.ref by_), (.int (E.getD 2 0))])) rfl rfl (hb hby dc22_81)) ?_
            by_cases hc82_6 : (E.getD 2 0) = ([y0_, y1_, y2_, y3_, y4_].getD (fr.toNatClampNeg + 2) 0)
            · refine g_icmpNo X0 hx hby dc22_82 (teq hc82_6).2 ?_
              refine g_iinc X0 hx hby dc22_85 rfl (x' := 3) rfl (l' := #[.val (.ref o), .val (.ref by_), .val (.int fr), .val (.int tt), .val (.int t), .val (.ref qx), .val (.ref qx), .val (.int x7), .val (.int x8), .val (.int x9), .val (.ref r), .val (.int 3)]) rfl ?_
              refine g_goto X0 hx hby dc22_88 (pc0 := 88) (pc' := 64) rfl (by decide) (by decide) ?_
              refine g_iload X0 hx hby dc22_64 rfl ?_
              refine g_iload X0 hx hby dc22_66 rfl ?_
              by_cases hc68_7 : (3 : Int32) < t
              · refine g_icmpNo X0 hx hby dc22_68 (tlt hc68_7).2.1 ?_
                refine g_aload X0 hx hby dc22_71 rfl rfl ?_
                refine g_iload X0 hx hby dc22_73 rfl ?_
                have ov7 := R0
                obtain ⟨cl7, Ar7, q7, S7, M7, H7, G7⟩ := ov7
                have hin7 : ¬ ((3 : Int32) < 0 ∨ cl7.slots.size ≤ ((3 : Int32)).toNatClampNeg) := inb_of S7 ⟨by decide, hc68_7⟩
                have hat7 : cl7.slots[((3 : Int32)).toNatClampNeg]? = some (.int (E.getD 3 0)) := Has.at H7 hin7 ((congrArg (fun k_ => (E.map Value.int).getD k_ (.int (0 : Int32))) (by decide +kernel : (3 : Int32).toNatClampNeg = 3)).trans (own_gm E 3))
                refine Go.st (X0.baloadBytes hx (j := (3 : Int32)) (v := (.int (E.getD 3 0))) (by rw [e0]; exact Ar7.1) (State.isArrayOf_alike hZ.alike Ar7.2.1) Ar7.2.2 hin7 hat7 (g := (mkF mi 75 #[.val (.ref o), .val (.ref by_), .val (.int fr), .val (.int tt), .val (.int t), .val (.ref qx), .val (.ref qx), .val (.int x7), .val (.int x8), .val (.int x9), .val (.ref r), .val (.int 3)] [(.int 3), (.ref r)])) rfl rfl (hb hby dc22_75)) ?_
                refine g_aloadN X0 hx hby dc22_76 rfl rfl ?_
                refine g_iloadN X0 hx hby dc22_77 rfl ?_
                refine g_iload X0 hx hby dc22_78 rfl ?_
                refine g_iadd X0 hx hby dc22_80 rfl ?_
                have ov8 := Y0
                obtain ⟨cl8, Ar8, q8, S8, M8, H8, G8⟩ := ov8
                have hin8 : ¬ ((fr + (3 : Int32)) < 0 ∨ cl8.slots.size ≤ ((fr + (3 : Int32))).toNatClampNeg) := inb_of S8 (own_in5 hf0 hft (by decide +kernel : (3 : Int32).toInt = ((3 : Nat) : Int)) hc68_7)
                have hat8 : cl8.slots[((fr + (3 : Int32))).toNatClampNeg]? = some (.int ([y0_, y1_, y2_, y3_, y4_].getD (fr.toNatClampNeg + 3) 0)) := Has.at H8 hin8 (own_b5 _ _ _ _ _ hf0 hft (by decide +kernel : (3 : Int32).toInt = ((3 : Nat) : Int)) hc68_7)
                refine Go.st (X0.baloadBytes hx (j := (fr + (3 : Int32))) (v := (.int ([y0_, y1_, y2_, y3_, y4_].getD (fr.toNatClampNeg + 3) 0))) (by rw [e0]; exact Ar8.1) (State.isArrayOf_alike hZ.alike Ar8.2.1) Ar8.2.2 hin8 hat8 (g := (mkF mi 81 #[.val (.ref o), .val (.ref by_), .val (.int fr), .val (.int tt), .val (.int t), .val (.ref qx), .val (.ref qx), .val (.int x7), .val (.int x8), .val (.int x9), .val (.ref r), .val (.int 3)] [(.int (fr + (3 : Int32))), (.ref by_), (.int (E.getD 3 0))])) rfl rfl (hb hby dc22_81)) ?_
                by_cases hc82_8 : (E.getD 3 0) = ([y0_, y1_, y2_, y3_, y4_].getD (fr.toNatClampNeg + 3) 0)
                · refine g_icmpNo X0 hx hby dc22_82 (teq hc82_8).2 ?_
                  refine g_iinc X0 hx hby dc22_85 rfl (x' := 4) rfl (l' := #[.val (.ref o), .val (.ref by_), .val (.int fr), .val (.int tt), .val (.int t), .val (.ref qx), .val (.ref qx), .val (.int x7), .val (.int x8), .val (.int x9), .val (.ref r), .val (.int 4)]) rfl ?_
                  refine g_goto X0 hx hby dc22_88 (pc0 := 88) (pc' := 64) rfl (by decide) (by decide) ?_
                  refine g_iload X0 hx hby dc22_64 rfl ?_
                  refine g_iload X0 hx hby dc22_66 rfl ?_
                  refine g_icmpYes X0 hx hby dc22_68 (flt (own_t4' ht4)).2.1 (pc0 := 68) (pc' := 91) rfl (by decide) (by decide) ?_
                  refine g_iload X0 hx hby dc22_91 rfl ?_
                  refine g_iload X0 hx hby dc22_93 rfl ?_
                  refine g_icmpNo X0 hx hby dc22_95 (teq (own_te (by decide +kernel : (4 : Int32).toInt = ((4 : Nat) : Int)) (own_t4' ht4) (own_tl (by decide +kernel : (3 : Int32).toInt = ((3 : Nat) : Int)) hc68_7))).2 ?_
                  show Go _ _ _ (s₁.setTop (mkF mi 98 #[.val (.ref o), .val (.ref by_), .val (.int fr), .val (.int tt), .val (.int t), .val (.ref qx), .val (.ref qx), .val (.int x7), .val (.int x8), .val (.int x9), .val (.ref r), .val (.int 4)] [])) _
                  refine K1 (own_mt.mpr ?_) _
                  intro k hk
                  rw [own_El (by decide +kernel : (4 : Int32).toInt = ((4 : Nat) : Int)) hE (own_t4' ht4) (own_tl (by decide +kernel : (3 : Int32).toInt = ((3 : Nat) : Int)) hc68_7)] at hk
                  match k, hk with
                  | 0, _ => exact hc82_2
                  | 1, _ => exact hc82_4
                  | 2, _ => exact hc82_6
                  | 3, _ => exact hc82_8
                · refine g_icmpYes X0 hx hby dc22_82 (feq hc82_8).2 (pc0 := 82) (pc' := 91) rfl (by decide) (by decide) ?_
                  refine g_iload X0 hx hby dc22_91 rfl ?_
                  refine g_iload X0 hx hby dc22_93 rfl ?_
                  refine g_icmpYes X0 hx hby dc22_95 (feq (own_tn hc68_7)).2 (pc0 := 95) (pc' := 101) rfl (by decide) (by decide) ?_
                  show Go _ _ _ (s₁.setTop (mkF mi 101 #[.val (.ref o), .val (.ref by_), .val (.int fr), .val (.int tt), .val (.int t), .val (.ref qx), .val (.ref qx), .val (.int x7), .val (.int x8), .val (.int x9), .val (.ref r), .val (.int 3)] [])) _
                  exact K2 (fun q => hc82_8 (own_mt.mp q 3 (own_jl (by decide +kernel : (3 : Int32).toInt = ((3 : Nat) : Int)) hE hc68_7))) _
              · refine g_icmpYes X0 hx hby dc22_68 (flt hc68_7).2.1 (pc0 := 68) (pc' := 91) rfl (by decide) (by decide) ?_
                refine g_iload X0 hx hby dc22_91 rfl ?_
                refine g_iload X0 hx hby dc22_93 rfl ?_
                refine g_icmpNo X0 hx hby dc22_95 (teq (own_te (by decide +kernel : (3 : Int32).toInt = ((3 : Nat) : Int)) hc68_7 (own_tl (by decide +kernel : (2 : Int32).toInt = ((2 : Nat) : Int)) hc68_5))).2 ?_
                show Go _ _ _ (s₁.setTop (mkF mi 98 #[.val (.ref o), .val (.ref by_), .val (.int fr), .val (.int tt), .val (.int t), .val (.ref qx), .val (.ref qx), .val (.int x7), .val (.int x8), .val (.int x9), .val (.ref r), .val (.int 3)] [])) _
                refine K1 (own_mt.mpr ?_) _
                intro k hk
                rw [own_El (by decide +kernel : (3 : Int32).toInt = ((3 : Nat) : Int)) hE hc68_7 (own_tl (by decide +kernel : (2 : Int32).toInt = ((2 : Nat) : Int)) hc68_5)] at hk
                match k, hk with
                | 0, _ => exact hc82_2
                | 1, _ => exact hc82_4
                | 2, _ => exact hc82_6
            · refine g_icmpYes X0 hx hby dc22_82 (feq hc82_6).2 (pc0 := 82) (pc' := 91) rfl (by decide) (by decide) ?_
              refine g_iload X0 hx hby dc22_91 rfl ?_
              refine g_iload X0 hx hby dc22_93 rfl ?_
              refine g_icmpYes X0 hx hby dc22_95 (feq (own_tn hc68_5)).2 (pc0 := 95) (pc' := 101) rfl (by decide) (by decide) ?_
              show Go _ _ _ (s₁.setTop (mkF mi 101 #[.val (.ref o), .val (.ref by_), .val (.int fr), .val (.int tt), .val (.int t), .val (.ref qx), .val (.ref qx), .val (.int x7), .val (.int x8), .val (.int x9), .val (.ref r), .val (.int 2)] [])) _
              exact K2 (fun q => hc82_6 (own_mt.mp q 2 (own_jl (by decide +kernel : (2 : Int32).toInt = ((2 : Nat) : Int)) hE hc68_5))) _
          · refine g_icmpYes X0 hx hby dc22_68 (flt hc68_5).2.1 (pc0 := 68) (pc' := 91) rfl (by decide) (by decide) ?_
            refine g_iload X0 hx hby dc22_91 rfl ?_
            refine g_iload X0 hx hby dc22_93 rfl ?_
            refine g_icmpNo X0 hx hby dc22_95 (teq (own_te (by decide +kernel : (2 : Int32).toInt = ((2 : Nat) : Int)) hc68_5 (own_tl (by decide +kernel : (1 : Int32).toInt = ((1 : Nat) : Int)) hc68_3))).2 ?_
            show Go _ _ _ (s₁.setTop (mkF mi 98 #[.val (.ref o), .val (.ref by_), .val (.int fr), .val (.int tt), .val (.int t), .val (.ref qx), .val (.ref qx), .val (.int x7), .val (.int x8), .val (.int x9), .val (.ref r), .val (.int 2)] [])) _
            refine K1 (own_mt.mpr ?_) _
            intro k hk
            rw [own_El (by decide +kernel : (2 : Int32).toInt = ((2 : Nat) : Int)) hE hc68_5 (own_tl (by decide +kernel : (1 : Int32).toInt = ((1 : Nat) : Int)) hc68_3)] at hk
            match k, hk with
            | 0, _ => exact hc82_2
            | 1, _ => exact hc82_4
        · refine g_icmpYes X0 hx hby dc22_82 (feq hc82_4).2 (pc0 := 82) (pc' := 91) rfl (by decide) (by decide) ?_
          refine g_iload X0 hx hby dc22_91 rfl ?_
          refine g_iload X0 hx hby dc22_93 rfl ?_
          refine g_icmpYes X0 hx hby dc22_95 (feq (own_tn hc68_3)).2 (pc0 := 95) (pc' := 101) rfl (by decide) (by decide) ?_
          show Go _ _ _ (s₁.setTop (mkF mi 101 #[.val (.ref o), .val (.ref by_), .val (.int fr), .val (.int tt), .val (.int t), .val (.ref qx), .val (.ref qx), .val (.int x7), .val (.int x8), .val (.int x9), .val (.ref r), .val (.int 1)] [])) _
          exact K2 (fun q => hc82_4 (own_mt.mp q 1 (own_jl (by decide +kernel : (1 : Int32).toInt = ((1 : Nat) : Int)) hE hc68_3))) _
      · refine g_icmpYes X0 hx hby dc22_68 (flt hc68_3).2.1 (pc0 := 68) (pc' := 91) rfl (by decide) (by decide) ?_
        refine g_iload X0 hx hby dc22_91 rfl ?_
        refine g_iload X0 hx hby dc22_93 rfl ?_
        refine g_icmpNo X0 hx hby dc22_95 (teq (own_te (by decide +kernel : (1 : Int32).toInt = ((1 : Nat) : Int)) hc68_3 (own_tl (by decide +kernel : (0 : Int32).toInt = ((0 : Nat) : Int)) hc68_1))).2 ?_
        show Go _ _ _ (s₁.setTop (mkF mi 98 #[.val (.ref o), .val (.ref by_), .val (.int fr), .val (.int tt), .val (.int t), .val (.ref qx), .val (.ref qx), .val (.int x7), .val (.int x8), .val (.int x9), .val (.ref r), .val (.int 1)] [])) _
        refine K1 (own_mt.mpr ?_) _
        intro k hk
        rw [own_El (by decide +kernel : (1 : Int32).toInt = ((1 : Nat) : Int)) hE hc68_3 (own_tl (by decide +kernel : (0 : Int32).toInt = ((0 : Nat) : Int)) hc68_1)] at hk
        match k, hk with
        | 0, _ => exact hc82_2
    · refine g_icmpYes X0 hx hby dc22_82 (feq hc82_2).2 (pc0 := 82) (pc' := 91) rfl (by decide) (by decide) ?_
      refine g_iload X0 hx hby dc22_91 rfl ?_
      refine g_iload X0 hx hby dc22_93 rfl ?_
      refine g_icmpYes X0 hx hby dc22_95 (feq (own_tn hc68_1)).2 (pc0 := 95) (pc' := 101) rfl (by decide) (by decide) ?_
      show Go _ _ _ (s₁.setTop (mkF mi 101 #[.val (.ref o), .val (.ref by_), .val (.int fr), .val (.int tt), .val (.int t), .val (.ref qx), .val (.ref qx), .val (.int x7), .val (.int x8), .val (.int x9), .val (.ref r), .val (.int 0)] [])) _
      exact K2 (fun q => hc82_2 (own_mt.mp q 0 (own_jl (by decide +kernel : (0 : Int32).toInt = ((0 : Nat) : Int)) hE hc68_1))) _
  · refine g_icmpYes X0 hx hby dc22_68 (flt hc68_1).2.1 (pc0 := 68) (pc' := 91) rfl (by decide) (by decide) ?_
    refine g_iload X0 hx hby dc22_91 rfl ?_
    refine g_iload X0 hx hby dc22_93 rfl ?_
    refine g_icmpNo X0 hx hby dc22_95 (teq (own_te (by decide +kernel : (0 : Int32).toInt = ((0 : Nat) : Int)) hc68_1 (own_p0 hE))).2 ?_
    show Go _ _ _ (s₁.setTop (mkF mi 98 #[.val (.ref o), .val (.ref by_), .val (.int fr), .val (.int tt), .val (.int t), .val (.ref qx), .val (.ref qx), .val (.int x7), .val (.int x8), .val (.int x9), .val (.ref r), .val (.int 0)] [])) _
    refine K1 (own_mt.mpr ?_) _
    intro k hk
    rw [own_El (by decide +kernel : (0 : Int32).toInt = ((0 : Nat) : Int)) hE hc68_1 (own_p0 hE)] at hk
    exact absurd hk (Nat.not_lt_zero _)
def ixF (g : Nat → List Int32) (bs : List Int32) (f : Nat) : List Value → Int32
  | [] => -1
  | .int i :: r => if Mt (g i.toNatClampNeg) bs f = true then i else ixF g bs f r
  | _ :: r => ixF g bs f r
theorem own_el (g : Nat → List Int32) (t : Int32) : ∀ (n p : Nat), p < (idl g t n).length → ∃ j : Nat, (idl g t n).getD p (.int (0 : Int32)) = .int (Int32.ofNat j) ∧ j < n ∧ nL g j = t
  | 0, p, h => absurd h (Nat.not_lt_zero _)
  | n + 1, p, h => by
    unfold idl at h ⊢
    split at h
    · rename_i q
      rw [if_pos q]
      by_cases hp : p < (idl g t n).length
      · obtain ⟨j, h1, h2, h3⟩ := own_el g t n p hp
        refine ⟨j, ?_, by omega, h3⟩
        rw [List.getD_eq_getElem?_getD, List.getElem?_append_left hp, ← List.getD_eq_getElem?_getD]; exact h1
      · refine ⟨n, ?_, by omega, q⟩
        rw [List.length_append] at h
        have e : p = (idl g t n).length := by simp at h; omega
        rw [List.getD_eq_getElem?_getD, List.getElem?_append_right (by omega), e]; simp
    · rename_i q
      rw [if_neg q]
      obtain ⟨j, h1, h2, h3⟩ := own_el g t n p h
      exact ⟨j, h1, by omega, h3⟩
theorem own_drop {us : List Value} {p : Nat} {v : Value} (h : p < us.length) (e : us.getD p (.int (0 : Int32)) = v) : us.drop p = v :: us.drop (p + 1) := by
  rw [List.drop_eq_getElem_cons h]
  rw [List.getD_eq_getElem?_getD, List.getElem?_eq_getElem h] at e
  rw [← e]; rfl
theorem dc22_38 : decode prog_163_method_2_code 38 = .ok (.iload 8, 2) := by decide +kernel
theorem dc22_40 : decode prog_163_method_2_code 40 = .ok (.iload 7, 2) := by decide +kernel
theorem dc22_42 : decode prog_163_method_2_code 42 = .ok (.if_icmp .ge 65, 3) := by decide +kernel
theorem dc22_45 : decode prog_163_method_2_code 45 = .ok (.aload 6, 2) := by decide +kernel
theorem dc22_47 : decode prog_163_method_2_code 47 = .ok (.iload 8, 2) := by decide +kernel
theorem dc22_49 : decode prog_163_method_2_code 49 = .ok (.iaload, 1) := by decide +kernel
theorem dc22_50 : decode prog_163_method_2_code 50 = .ok (.istore 9, 2) := by decide +kernel
theorem dc22_52 : decode prog_163_method_2_code 52 = .ok (.aload_n 0, 1) := by decide +kernel
theorem dc22_53 : decode prog_163_method_2_code 53 = .ok (.getfield 20, 3) := by decide +kernel
theorem dc22_56 : decode prog_163_method_2_code 56 = .ok (.iload 9, 2) := by decide +kernel
theorem dc22_58 : decode prog_163_method_2_code 58 = .ok (.aaload, 1) := by decide +kernel
theorem dc22_59 : decode prog_163_method_2_code 59 = .ok (.astore 10, 2) := by decide +kernel
theorem dc22_61 : decode prog_163_method_2_code 61 = .ok (.iconst 0, 1) := by decide +kernel
theorem dc22_62 : decode prog_163_method_2_code 62 = .ok (.istore 11, 2) := by decide +kernel
theorem dc22_101 : decode prog_163_method_2_code 101 = .ok (.iinc 8 1, 3) := by decide +kernel
theorem dc22_104 : decode prog_163_method_2_code 104 = .ok (.goto (-66), 3) := by decide +kernel
set_option maxRecDepth 65536 in
set_option maxHeartbeats 40000000 in
theorem own_candu (l : Launch) (Z : State) (a0 : Array Value) (hw : ∀ d ∈ tables_1, d.before a0 Z = true) {pg : Program} {ev : Env} {si : State} {mi : MethodId} {args : Array Value} {below : List Frame} {meth : Method} {ci : Code} {R : Room} {s₁ : State} {locs : List Loc} {cells slots : Nat} (X0 : Stand pg l ev R si mi args below meth ci s₁ locs cells slots) (hx : pg.tables.exec = Jvm.exec) (hby : ci.code = prog_163_method_2_code) (hml : ci.maxLocals = 12) (hZ : Z.Warmed39 si.vm) (hown : si.vm.findClass "com/example/crossbook/crossbook/venue/JsonFields$Texts" = some mi.cls) {P : State → Outcome → Prop} (o : Addr) (by_ : Addr) (fr : Int32) (tt : Int32) (t : Int32) (qq : Addr) (M : Int32) (p : Int32) (i : Int32) (re : Addr) (en : Addr) (kq : ClassId) (us : List Value) (ken : ClassId) (N : Int32) (hse : List (Int32 × Value)) (kr : ClassId) (ky : ClassId) (E : List Int32) (y0_ : Int32) (y1_ : Int32) (y2_ : Int32) (y3_ : Int32) (y4_ : Int32) (h0 : Heap) (n0 : Nat) (Z0 : n0 ≤ h0.size) (e0 : s₁.heap = h0) (N0 : Fr n0 locs) (VQ : Arv Z h0 qq kq .int M us (.int (0 : Int32))) (hp : ¬ p < 0) (hpM : p < M) (hup : us.getD p.toNatClampNeg (.int (0 : Int32)) = .int i) (F1 : Fld Z h0 o "com/example/crossbook/crossbook/venue/JsonFields$Texts" "encoded" "[[B" (.ref en)) (A0 : Arh Z h0 en ken (.array .byte) N hse [] .null) (hi : ¬ i < 0) (hiN : i < N) (hve : getH hse [] .null i.toNatClampNeg = .ref re) (R0 : Arv Z h0 re kr .byte t (E.map Value.int) (.int (0 : Int32))) (Y0 : Arv Z h0 by_ ky .byte (5 : Int32) [(.int y0_), (.int y1_), (.int y2_), (.int y3_), (.int y4_)] (.int (0 : Int32))) (hE : t.toInt = E.length) (ht4 : t.toInt ≤ 4) (hf0 : 0 ≤ fr.toInt) (hft : fr.toInt + t.toInt ≤ 5) (K1 : Mt E [y0_, y1_, y2_, y3_, y4_] fr.toNatClampNeg = true → ∀ (T' : State) (z : Int32), Stand pg l ev R si mi args below meth ci T' locs cells slots → T'.heap = h0 → Go pg.tables ev below (T'.setTop (mkF mi 98 #[.val (.ref o), .val (.ref by_), .val (.int fr), .val (.int tt), .val (.int t), .val (.ref qq), .val (.ref qq), .val (.int M), .val (.int p), .val (.int i), .val (.ref re), .val (.int z)] [])) P) (K2 : ¬ Mt E [y0_, y1_, y2_, y3_, y4_] fr.toNatClampNeg = true → ∀ (T' : State) (z : Int32), Stand pg l ev R si mi args below meth ci T' locs cells slots → T'.heap = h0 → Go pg.tables ev below (T'.setTop (mkF mi 38 #[.val (.ref o), .val (.ref by_), .val (.int fr), .val (.int tt), .val (.int t), .val (.ref qq), .val (.ref qq), .val (.int M), .val (.int (p + (1 : Int32))), .val (.int i), .val (.ref re), .val (.int z)] [])) P) :
    Go pg.tables ev below (s₁.setTop (mkF mi 38 #[.val (.ref o), .val (.ref by_), .val (.int fr), .val (.int tt), .val (.int t), .val (.ref qq), .val (.ref qq), .val (.int M), .val (.int p), .unset, .unset, .unset] [])) P := by
  refine g_iload X0 hx hby dc22_38 rfl ?_
  refine g_iload X0 hx hby dc22_40 rfl ?_
  refine g_icmpNo X0 hx hby dc22_42 (tlt hpM).2.1 ?_
  refine g_aload X0 hx hby dc22_45 rfl rfl ?_
  refine g_iload X0 hx hby dc22_47 rfl ?_
  have ov1 := VQ
  obtain ⟨cl1, Ar1, q1, S1, M1, H1, G1⟩ := ov1
  have hin1 : ¬ (p < 0 ∨ cl1.slots.size ≤ (p).toNatClampNeg) := inb_of S1 ⟨hp, hpM⟩
  have hat1 : cl1.slots[(p).toNatClampNeg]? = some (.int i) := Has.at H1 hin1 hup
  refine Go.st (X0.iaload hx (j := p) (v := (.int i)) (by rw [e0]; exact Ar1.1) (State.isArrayOf_alike hZ.alike Ar1.2.1) Ar1.2.2 hin1 hat1 (g := (mkF mi 49 #[.val (.ref o), .val (.ref by_), .val (.int fr), .val (.int tt), .val (.int t), .val (.ref qq), .val (.ref qq), .val (.int M), .val (.int p), .unset, .unset, .unset] [(.int p), (.ref qq)])) rfl rfl (hb hby dc22_49)) ?_
  refine g_istore X0 hx hby dc22_50 (l' := #[.val (.ref o), .val (.ref by_), .val (.int fr), .val (.int tt), .val (.int t), .val (.ref qq), .val (.ref qq), .val (.int M), .val (.int p), .val (.int i), .unset, .unset]) rfl ?_
  refine g_aloadN X0 hx hby dc22_52 rfl rfl ?_
  obtain ⟨T2, X2, e2, st2⟩ := getF X0 hx hZ hown (host := "") (Or.inl (hw _ (own_m 38 rfl))) Via.refl e0 F1 (g := (mkF mi 53 #[.val (.ref o), .val (.ref by_), .val (.int fr), .val (.int tt), .val (.int t), .val (.ref qq), .val (.ref qq), .val (.int M), .val (.int p), .val (.int i), .unset, .unset] [(.ref o)])) rfl rfl (hb hby dc22_53)
  refine Go.st st2 ?_
  refine g_iload X2 hx hby dc22_56 rfl ?_
  have ov3 := A0
  obtain ⟨cl3, Ar3, q3, S3, M3, H3, G3⟩ := ov3
  have hin3 : ¬ (i < 0 ∨ cl3.slots.size ≤ (i).toNatClampNeg) := inb_of S3 ⟨hi, hiN⟩
  have hat3 : cl3.slots[(i).toNatClampNeg]? = some (.ref re) := atH H3 hin3 hve
  refine Go.st (X2.aaload hx (j := i) (v := (.ref re)) (by rw [e2]; exact Ar3.1) (State.isArrayOf_alike hZ.alike Ar3.2.1) rfl Ar3.2.2 hin3 hat3 (g := (mkF mi 58 #[.val (.ref o), .val (.ref by_), .val (.int fr), .val (.int tt), .val (.int t), .val (.ref qq), .val (.ref qq), .val (.int M), .val (.int p), .val (.int i), .unset, .unset] [(.int i), (.ref en)])) rfl rfl (hb hby dc22_58)) ?_
  refine g_astore X2 hx hby dc22_59 rfl (l' := #[.val (.ref o), .val (.ref by_), .val (.int fr), .val (.int tt), .val (.int t), .val (.ref qq), .val (.ref qq), .val (.int M), .val (.int p), .val (.int i), .val (.ref re), .unset]) rfl ?_
  refine g_iconst X2 hx hby dc22_61 (v := 0) rfl ?_
  refine g_istore X2 hx hby dc22_62 (l' := #[.val (.ref o), .val (.ref by_), .val (.int fr), .val (.int tt), .val (.int t), .val (.ref qq), .val (.ref qq), .val (.int M), .val (.int p), .val (.int i), .val (.ref re), .val (.int 0)]) rfl ?_
  show Go _ _ _ (T2.setTop (mkF mi 64 #[.val (.ref o), .val (.ref by_), .val (.int fr), .val (.int tt), .val (.int t), .val (.ref qq), .val (.ref qq), .val (.int M), .val (.int p), .val (.int i), .val (.ref re), .val (.int 0)] [])) _
  refine own_cmp l Z a0 hw X2 hx hby hml hZ hown o by_ fr tt t qq M p i re kr ky E y0_ y1_ y2_ y3_ y4_ h0 n0 Z0 e2 N0 R0 Y0 hE ht4 hf0 hft (fun hm z => ?_) (fun hm z => ?_)
  · exact K1 hm _ z X2 e2
  · skip
    show Go _ _ _ (T2.setTop (mkF mi 101 #[.val (.ref o), .val (.ref by_), .val (.int fr), .val (.int tt), .val (.int t), .val (.ref qq), .val (.ref qq), .val (.int M), .val (.int p), .val (.int i), .val (.ref re), .val (.int z)] [])) _
    refine g_iinc X2 hx hby dc22_101 rfl rfl (l' := #[.val (.ref o), .val (.ref by_), .val (.int fr), .val (.int tt), .val (.int t), .val (.ref qq), .val (.ref qq), .val (.int M), .val (.int (p + (1 : Int32))), .val (.int i), .val (.ref re), .val (.int z)]) rfl ?_
    refine g_goto X2 hx hby dc22_104 (pc0 := 104) (pc' := 38) rfl (by decide) (by decide) ?_
    show Go _ _ _ (T2.setTop (mkF mi 38 #[.val (.ref o), .val (.ref by_), .val (.int fr), .val (.int tt), .val (.int t), .val (.ref qq), .val (.ref qq), .val (.int M), .val (.int (p + (1 : Int32))), .val (.int i), .val (.ref re), .val (.int z)] [])) _
    exact K2 hm _ z X2 e2
set_option maxRecDepth 65536 in
set_option maxHeartbeats 40000000 in
theorem own_candr (l : Launch) (Z : State) (a0 : Array Value) (hw : ∀ d ∈ tables_1, d.before a0 Z = true) {pg : Program} {ev : Env} {si : State} {mi : MethodId} {args : Array Value} {below : List Frame} {meth : Method} {ci : Code} {R : Room} {s₁ : State} {locs : List Loc} {cells slots : Nat} (X0 : Stand pg l ev R si mi args below meth ci s₁ locs cells slots) (hx : pg.tables.exec = Jvm.exec) (hby : ci.code = prog_163_method_2_code) (hml : ci.maxLocals = 12) (hZ : Z.Warmed39 si.vm) (hown : si.vm.findClass "com/example/crossbook/crossbook/venue/JsonFields$Texts" = some mi.cls) {P : State → Outcome → Prop} (o : Addr) (by_ : Addr) (fr : Int32) (tt : Int32) (t : Int32) (qq : Addr) (M : Int32) (p : Int32) (i : Int32) (re : Addr) (en : Addr) (kq : ClassId) (us : List Value) (ken : ClassId) (N : Int32) (hse : List (Int32 × Value)) (kr : ClassId) (ky : ClassId) (E : List Int32) (y0_ : Int32) (y1_ : Int32) (y2_ : Int32) (y3_ : Int32) (y4_ : Int32) (u9 : Int32) (u10 : Addr) (u11 : Int32) (h0 : Heap) (n0 : Nat) (Z0 : n0 ≤ h0.size) (e0 : s₁.heap = h0) (N0 : Fr n0 locs) (VQ : Arv Z h0 qq kq .int M us (.int (0 : Int32))) (hp : ¬ p < 0) (hpM : p < M) (hup : us.getD p.toNatClampNeg (.int (0 : Int32)) = .int i) (F1 : Fld Z h0 o "com/example/crossbook/crossbook/venue/JsonFields$Texts" "encoded" "[[B" (.ref en)) (A0 : Arh Z h0 en ken (.array .byte) N hse [] .null) (hi : ¬ i < 0) (hiN : i < N) (hve : getH hse [] .null i.toNatClampNeg = .ref re) (R0 : Arv Z h0 re kr .byte t (E.map Value.int) (.int (0 : Int32))) (Y0 : Arv Z h0 by_ ky .byte (5 : Int32) [(.int y0_), (.int y1_), (.int y2_), (.int y3_), (.int y4_)] (.int (0 : Int32))) (hE : t.toInt = E.length) (ht4 : t.toInt ≤ 4) (hf0 : 0 ≤ fr.toInt) (hft : fr.toInt + t.toInt ≤ 5) (K1 : Mt E [y0_, y1_, y2_, y3_, y4_] fr.toNatClampNeg = true → ∀ (T' : State) (z : Int32), Stand pg l ev R si mi args below meth ci T' locs cells slots → T'.heap = h0 → Go pg.tables ev below (T'.setTop (mkF mi 98 #[.val (.ref o), .val (.ref by_), .val (.int fr), .val (.int tt), .val (.int t), .val (.ref qq), .val (.ref qq), .val (.int M), .val (.int p), .val (.int i), .val (.ref re), .val (.int z)] [])) P) (K2 : ¬ Mt E [y0_, y1_, y2_, y3_, y4_] fr.toNatClampNeg = true → ∀ (T' : State) (z : Int32), Stand pg l ev R si mi args below meth ci T' locs cells slots → T'.heap = h0 → Go pg.tables ev below (T'.setTop (mkF mi 38 #[.val (.ref o), .val (.ref by_), .val (.int fr), .val (.int tt), .val (.int t), .val (.ref qq), .val (.ref qq), .val (.int M), .val (.int (p + (1 : Int32))), .val (.int i), .val (.ref re), .val (.int z)] [])) P) :
    Go pg.tables ev below (s₁.setTop (mkF mi 38 #[.val (.ref o), .val (.ref by_), .val (.int fr), .val (.int tt), .val (.int t), .val (.ref qq), .val (.ref qq), .val (.int M), .val (.int p), .val (.int u9), .val (.ref u10), .val (.int u11)] [])) P := by
  refine g_iload X0 hx hby dc22_38 rfl ?_
  refine g_iload X0 hx hby dc22_40 rfl ?_
  refine g_icmpNo X0 hx hby dc22_42 (tlt hpM).2.1 ?_
  refine g_aload X0 hx hby dc22_45 rfl rfl ?_
  refine g_iload X0 hx hby dc22_47 rfl ?_
  have ov1 := VQ
  obtain ⟨cl1, Ar1, q1, S1, M1, H1, G1⟩ := ov1
  have hin1 : ¬ (p < 0 ∨ cl1.slots.size ≤ (p).toNatClampNeg) := inb_of S1 ⟨hp, hpM⟩
  have hat1 : cl1.slots[(p).toNatClampNeg]? = some (.int i) := Has.at H1 hin1 hup
  refine Go.st (X0.iaload hx (j := p) (v := (.int i)) (by rw [e0]; exact Ar1.1) (State.isArrayOf_alike hZ.alike Ar1.2.1) Ar1.2.2 hin1 hat1 (g := (mkF mi 49 #[.val (.ref o), .val (.ref by_), .val (.int fr), .val (.int tt), .val (.int t), .val (.ref qq), .val (.ref qq), .val (.int M), .val (.int p), .val (.int u9), .val (.ref u10), .val (.int u11)] [(.int p), (.ref qq)])) rfl rfl (hb hby dc22_49)) ?_
  refine g_istore X0 hx hby dc22_50 (l' := #[.val (.ref o), .val (.ref by_), .val (.int fr), .val (.int tt), .val (.int t), .val (.ref qq), .val (.ref qq), .val (.int M), .val (.int p), .val (.int i), .val (.ref u10), .val (.int u11)]) rfl ?_
  refine g_aloadN X0 hx hby dc22_52 rfl rfl ?_
  obtain ⟨T2, X2, e2, st2⟩ := getF X0 hx hZ hown (host := "") (Or.inl (hw _ (own_m 38 rfl))) Via.refl e0 F1 (g := (mkF mi 53 #[.val (.ref o), .val (.ref by_), .val (.int fr), .val (.int tt), .val (.int t), .val (.ref qq), .val (.ref qq), .val (.int M), .val (.int p), .val (.int i), .val (.ref u10), .val (.int u11)] [(.ref o)])) rfl rfl (hb hby dc22_53)
  refine Go.st st2 ?_
  refine g_iload X2 hx hby dc22_56 rfl ?_
  have ov3 := A0
  obtain ⟨cl3, Ar3, q3, S3, M3, H3, G3⟩ := ov3
  have hin3 : ¬ (i < 0 ∨ cl3.slots.size ≤ (i).toNatClampNeg) := inb_of S3 ⟨hi, hiN⟩
  have hat3 : cl3.slots[(i).toNatClampNeg]? = some (.ref re) := atH H3 hin3 hve
  refine Go.st (X2.aaload hx (j := i) (v := (.ref re)) (by rw [e2]; exact Ar3.1) (State.isArrayOf_alike hZ.alike Ar3.2.1) rfl Ar3.2.2 hin3 hat3 (g := (mkF mi 58 #[.val (.ref o), .val (.ref by_), .val (.int fr), .val (.int tt), .val (.int t), .val (.ref qq), .val (.ref qq), .val (.int M), .val (.int p), .val (.int i), .val (.ref u10), .val (.int u11)] [(.int i), (.ref en)])) rfl rfl (hb hby dc22_58)) ?_
  refine g_astore X2 hx hby dc22_59 rfl (l' := #[.val (.ref o), .val (.ref by_), .val (.int fr), .val (.int tt), .val (.int t), .val (.ref qq), .val (.ref qq), .val (.int M), .val (.int p), .val (.int i), .val (.ref re), .val (.int u11)]) rfl ?_
  refine g_iconst X2 hx hby dc22_61 (v := 0) rfl ?_
  refine g_istore X2 hx hby dc22_62 (l' := #[.val (.ref o), .val (.ref by_), .val (.int fr), .val (.int tt), .val (.int t), .val (.ref qq), .val (.ref qq), .val (.int M), .val (.int p), .val (.int i), .val (.ref re), .val (.int 0)]) rfl ?_
  show Go _ _ _ (T2.setTop (mkF mi 64 #[.val (.ref o), .val (.ref by_), .val (.int fr), .val (.int tt), .val (.int t), .val (.ref qq), .val (.ref qq), .val (.int M), .val (.int p), .val (.int i), .val (.ref re), .val (.int 0)] [])) _
  refine own_cmp l Z a0 hw X2 hx hby hml hZ hown o by_ fr tt t qq M p i re kr ky E y0_ y1_ y2_ y3_ y4_ h0 n0 Z0 e2 N0 R0 Y0 hE ht4 hf0 hft (fun hm z => ?_) (fun hm z => ?_)
  · exact K1 hm _ z X2 e2
  · skip
    show Go _ _ _ (T2.setTop (mkF mi 101 #[.val (.ref o), .val (.ref by_), .val (.int fr), .val (.int tt), .val (.int t), .val (.ref qq), .val (.ref qq), .val (.int M), .val (.int p), .val (.int i), .val (.ref re), .val (.int z)] [])) _
    refine g_iinc X2 hx hby dc22_101 rfl rfl (l' := #[.val (.ref o), .val (.ref by_), .val (.int fr), .val (.int tt), .val (.int t), .val (.ref qq), .val (.ref qq), .val (.int M), .val (.int (p + (1 : Int32))), .val (.int i), .val (.ref re), .val (.int z)]) rfl ?_
    refine g_goto X2 hx hby dc22_104 (pc0 := 104) (pc' := 38) rfl (by decide) (by decide) ?_
    show Go _ _ _ (T2.setTop (mkF mi 38 #[.val (.ref o), .val (.ref by_), .val (.int fr), .val (.int tt), .val (.int t), .val (.ref qq), .val (.ref qq), .val (.int M), .val (.int (p + (1 : Int32))), .val (.int i), .val (.ref re), .val (.int z)] [])) _
    exact K2 hm _ z X2 e2
theorem own_candL (l : Launch) (Z : State) (a0 : Array Value) (hw : ∀ d ∈ tables_1, d.before a0 Z = true) {pg : Program} {ev : Env} {si : State} {mi : MethodId} {args : Array Value} {below : List Frame} {meth : Method} {ci : Code} {R : Room} {locs : List Loc} {cells slots : Nat} (hx : pg.tables.exec = Jvm.exec) (hby : ci.code = prog_163_method_2_code) (hml : ci.maxLocals = 12) (hZ : Z.Warmed39 si.vm) (hown : si.vm.findClass "com/example/crossbook/crossbook/venue/JsonFields$Texts" = some mi.cls) {P : State → Outcome → Prop} (o by_ : Addr) (fr tt t : Int32) (qq : Addr) (M : Int32) (en : Addr) (kq : ClassId) (us : List Value) (ken : ClassId) (N : Int32) (hse : List (Int32 × Value)) (ky : ClassId) (g : Nat → List Int32) (B : Nat) (y0_ : Int32) (y1_ : Int32) (y2_ : Int32) (y3_ : Int32) (y4_ : Int32) (h0 : Heap) (n0 : Nat) (Z0 : n0 ≤ h0.size) (N0 : Fr n0 locs) (VQ : Arv Z h0 qq kq .int M us (.int (0 : Int32))) (hM : M.toNatClampNeg = us.length) (hM0 : ¬ M < 0) (F1 : Fld Z h0 o "com/example/crossbook/crossbook/venue/JsonFields$Texts" "encoded" "[[B" (.ref en)) (EA : EncA Z h0 B o en ken N hse g N.toNatClampNeg) (hN : ¬ N < 0) (hN3 : N.toNatClampNeg ≤ 3) (hg4 : ∀ i, (g i).length ≤ 4) (hel : ∀ p, p < us.length → ∃ j : Nat, us.getD p (.int (0 : Int32)) = .int (Int32.ofNat j) ∧ j < N.toNatClampNeg ∧ nL g j = t) (Y0 : Arv Z h0 by_ ky .byte (5 : Int32) [(.int y0_), (.int y1_), (.int y2_), (.int y3_), (.int y4_)] (.int (0 : Int32))) (hf0 : 0 ≤ fr.toInt) (hft : fr.toInt + t.toInt ≤ 5)
    (K1 : ∀ (T' : State) (i z p : Int32) (re : Addr), Stand pg l ev R si mi args below meth ci T' locs cells slots → T'.heap = h0 → ixF g [y0_, y1_, y2_, y3_, y4_] fr.toNatClampNeg us = i → Go pg.tables ev below (T'.setTop (mkF mi 98 #[.val (.ref o), .val (.ref by_), .val (.int fr), .val (.int tt), .val (.int t), .val (.ref qq), .val (.ref qq), .val (.int M), .val (.int p), .val (.int i), .val (.ref re), .val (.int z)] [])) P)
    (K2 : ∀ (T' : State) (s9 s10 s11 : Slot), Stand pg l ev R si mi args below meth ci T' locs cells slots → T'.heap = h0 → ixF g [y0_, y1_, y2_, y3_, y4_] fr.toNatClampNeg us = -1 → Go pg.tables ev below (T'.setTop (mkF mi 38 #[.val (.ref o), .val (.ref by_), .val (.int fr), .val (.int tt), .val (.int t), .val (.ref qq), .val (.ref qq), .val (.int M), .val (.int M), s9, s10, s11] [])) P) :
    ∀ (d : Nat) (p : Int32) (s₁ : State) (s9 s10 s11 : Slot), Stand pg l ev R si mi args below meth ci s₁ locs cells slots → s₁.heap = h0 → ¬ p < 0 → p.toNatClampNeg + d = us.length → ((s9 = .unset ∧ s10 = .unset ∧ s11 = .unset) ∨ ∃ u9 u10 u11, s9 = .val (.int u9) ∧ s10 = .val (.ref u10) ∧ s11 = .val (.int u11)) → ixF g [y0_, y1_, y2_, y3_, y4_] fr.toNatClampNeg us = ixF g [y0_, y1_, y2_, y3_, y4_] fr.toNatClampNeg (us.drop p.toNatClampNeg) → Go pg.tables ev below (s₁.setTop (mkF mi 38 #[.val (.ref o), .val (.ref by_), .val (.int fr), .val (.int tt), .val (.int t), .val (.ref qq), .val (.ref qq), .val (.int M), .val (.int p), s9, s10, s11] [])) P := by
  intro d
  induction d with
  | zero =>
    intro p s₁ s9 s10 s11 X0 e0 hp hd hsl hix
    obtain rfl := own_iN hp hM0 (by omega)
    exact K2 _ s9 s10 s11 X0 e0 (by rw [hix, List.drop_eq_nil_of_le (by omega)]; rfl)
  | succ d ih =>
    intro p s₁ s9 s10 s11 X0 e0 hp hd hsl hix
    have hp2 : p.toNatClampNeg < us.length := by omega
    obtain ⟨hpM, h5, h6⟩ := own_i1 (N := M) hp (by omega)
    obtain ⟨j, h1, h2, h3⟩ := hel p.toNatClampNeg hp2
    obtain ⟨re, kr, hve, -, -, R0⟩ := EA.2.2.2 j h2
    rcases hsl with ⟨rfl, rfl, rfl⟩ | ⟨u9, u10, u11, rfl, rfl, rfl⟩
    · exact own_candu l Z a0 hw X0 hx hby hml hZ hown o by_ fr tt t qq M p (Int32.ofNat j) re en kq us ken N hse kr ky (g j) y0_ y1_ y2_ y3_ y4_ h0 n0 Z0 e0 N0 VQ hp hpM h1 F1 EA.1 (own_ofN0 (by omega)) (by rw [Int32.lt_iff_toInt_lt, own_ofN (by omega), own_nn hN]; omega) (by rw [own_ofNn (by omega)]; exact hve) (h3 ▸ R0) Y0 (by rw [← h3]; exact own_ofN (Nat.le_trans (hg4 j) (by decide))) (by rw [← h3]; unfold nL; rw [own_ofN (Nat.le_trans (hg4 j) (by decide))]; have := hg4 j; omega) hf0 hft (fun hm T' z X' e' => K1 T' _ z _ _ X' e' (by rw [hix, own_drop hp2 h1]; show ixF _ _ _ (.int _ :: _) = _; rw [ixF, own_ofNn (by omega), if_pos hm])) (fun hm T' z X' e' => ih _ T' _ _ _ X' e' h5 (by omega) (Or.inr ⟨_, _, _, rfl, rfl, rfl⟩) (by rw [hix, own_drop hp2 h1, h6]; show ixF _ _ _ (.int _ :: _) = _; rw [ixF, own_ofNn (by omega), if_neg hm]))
    · exact own_candr l Z a0 hw X0 hx hby hml hZ hown o by_ fr tt t qq M p (Int32.ofNat j) re en kq us ken N hse kr ky (g j) y0_ y1_ y2_ y3_ y4_ u9 u10 u11 h0 n0 Z0 e0 N0 VQ hp hpM h1 F1 EA.1 (own_ofN0 (by omega)) (by rw [Int32.lt_iff_toInt_lt, own_ofN (by omega), own_nn hN]; omega) (by rw [own_ofNn (by omega)]; exact hve) (h3 ▸ R0) Y0 (by rw [← h3]; exact own_ofN (Nat.le_trans (hg4 j) (by decide))) (by rw [← h3]; unfold nL; rw [own_ofN (Nat.le_trans (hg4 j) (by decide))]; have := hg4 j; omega) hf0 hft (fun hm T' z X' e' => K1 T' _ z _ _ X' e' (by rw [hix, own_drop hp2 h1]; show ixF _ _ _ (.int _ :: _) = _; rw [ixF, own_ofNn (by omega), if_pos hm])) (fun hm T' z X' e' => ih _ T' _ _ _ X' e' h5 (by omega) (Or.inr ⟨_, _, _, rfl, rfl, rfl⟩) (by rw [hix, own_drop hp2 h1, h6]; show ixF _ _ _ (.int _ :: _) = _; rw [ixF, own_ofNn (by omega), if_neg hm]))
def ixR (g : Nat → List Int32) (t : Int32) (bs : List Int32) (f n : Nat) : Int32 := ixF g bs f (idl g t n)
theorem own_idl0 {g : Nat → List Int32} {t nb : Int32} : ∀ (n : Nat), (∀ i, i < n → nL g i < nb) → ¬ t < nb → idl g t n = []
  | 0, _, _ => rfl
  | n + 1, h, q => by
    rw [idl, if_neg (fun (e : nL g n = t) => q (e ▸ h n (by omega)))]; exact own_idl0 n (fun i hi => h i (by omega)) q
theorem dc22_0 : decode prog_163_method_2_code 0 = .ok (.iload_n 3, 1) := by decide +kernel
theorem dc22_1 : decode prog_163_method_2_code 1 = .ok (.iload_n 2, 1) := by decide +kernel
theorem dc22_2 : decode prog_163_method_2_code 2 = .ok (.isub, 1) := by decide +kernel
theorem dc22_3 : decode prog_163_method_2_code 3 = .ok (.istore 4, 2) := by decide +kernel
theorem dc22_5 : decode prog_163_method_2_code 5 = .ok (.iload 4, 2) := by decide +kernel
theorem dc22_7 : decode prog_163_method_2_code 7 = .ok (.aload_n 0, 1) := by decide +kernel
theorem dc22_8 : decode prog_163_method_2_code 8 = .ok (.getfield 44, 3) := by decide +kernel
theorem dc22_11 : decode prog_163_method_2_code 11 = .ok (.arraylength, 1) := by decide +kernel
theorem dc22_12 : decode prog_163_method_2_code 12 = .ok (.if_icmp .lt 5, 3) := by decide +kernel
theorem dc22_17 : decode prog_163_method_2_code 17 = .ok (.aload_n 0, 1) := by decide +kernel
theorem dc22_18 : decode prog_163_method_2_code 18 = .ok (.getfield 44, 3) := by decide +kernel
theorem dc22_21 : decode prog_163_method_2_code 21 = .ok (.iload 4, 2) := by decide +kernel
theorem dc22_23 : decode prog_163_method_2_code 23 = .ok (.aaload, 1) := by decide +kernel
theorem dc22_24 : decode prog_163_method_2_code 24 = .ok (.astore 5, 2) := by decide +kernel
theorem dc22_26 : decode prog_163_method_2_code 26 = .ok (.aload 5, 2) := by decide +kernel
theorem dc22_28 : decode prog_163_method_2_code 28 = .ok (.astore 6, 2) := by decide +kernel
theorem dc22_30 : decode prog_163_method_2_code 30 = .ok (.aload 6, 2) := by decide +kernel
theorem dc22_32 : decode prog_163_method_2_code 32 = .ok (.arraylength, 1) := by decide +kernel
theorem dc22_33 : decode prog_163_method_2_code 33 = .ok (.istore 7, 2) := by decide +kernel
theorem dc22_35 : decode prog_163_method_2_code 35 = .ok (.iconst 0, 1) := by decide +kernel
theorem dc22_36 : decode prog_163_method_2_code 36 = .ok (.istore 8, 2) := by decide +kernel
theorem dc22_98 : decode prog_163_method_2_code 98 = .ok (.iload 9, 2) := by decide +kernel
theorem dc22_100 : decode prog_163_method_2_code 100 = .ok (.ireturn, 1) := by decide +kernel
theorem dc22_107 : decode prog_163_method_2_code 107 = .ok (.iconst (-1), 1) := by decide +kernel
theorem dc22_108 : decode prog_163_method_2_code 108 = .ok (.ireturn, 1) := by decide +kernel
theorem dc22_15 : decode prog_163_method_2_code 15 = .ok (.iconst (-1), 1) := by decide +kernel
theorem dc22_16 : decode prog_163_method_2_code 16 = .ok (.ireturn, 1) := by decide +kernel
theorem ef_rmIX (mi : MethodId) (o : Addr) (by_ : Addr) (fr : Int32) (tt : Int32) (ky : ClassId) (y0_ : Int32) (y1_ : Int32) (y2_ : Int32) (y3_ : Int32) (y4_ : Int32) (en : Addr) (bl : Addr) (ken : ClassId) (kbl : ClassId) (nb : Int32) (hse : List (Int32 × Value)) (hs : List (Int32 × Value)) (B : Nat) (N : Int32) (g : Nat → List Int32) : entryFrame mi #[(.ref o), (.ref by_), (.int fr), (.int tt)] 12 = mkF mi 0 #[.val (.ref o), .val (.ref by_), .val (.int fr), .val (.int tt), .unset, .unset, .unset, .unset, .unset, .unset, .unset, .unset] [] := by first | (simp [entryFrame, mkF, argsToLocals, Value.category]; done) | rfl
def Q_rmIX (Z : State) (o : Addr) (by_ : Addr) (fr : Int32) (tt : Int32) (ky : ClassId) (y0_ : Int32) (y1_ : Int32) (y2_ : Int32) (y3_ : Int32) (y4_ : Int32) (en : Addr) (bl : Addr) (ken : ClassId) (kbl : ClassId) (nb : Int32) (hse : List (Int32 × Value)) (hs : List (Int32 × Value)) (B : Nat) (N : Int32) (g : Nat → List Int32) (h0 : Heap) (n0 : Nat) (vv_ : Option Value) (hh_ : Heap) (LL_ : List Loc) : Prop := vv_ = some (.int (ixR g (tt - fr) [y0_, y1_, y2_, y3_, y4_] fr.toNatClampNeg N.toNatClampNeg)) ∧ Fr n0 LL_ ∧ hh_ = h0
set_option maxRecDepth 65536 in
set_option maxHeartbeats 40000000 in
theorem rmIX (l : Launch) (Z : State) (a0 : Array Value) (hw : ∀ d ∈ tables_1, d.before a0 Z = true) (ws : List Jvm.Cond) (o : Addr) (by_ : Addr) (fr : Int32) (tt : Int32) (ky : ClassId) (y0_ : Int32) (y1_ : Int32) (y2_ : Int32) (y3_ : Int32) (y4_ : Int32) (en : Addr) (bl : Addr) (ken : ClassId) (kbl : ClassId) (nb : Int32) (hse : List (Int32 × Value)) (hs : List (Int32 × Value)) (B : Nat) (N : Int32) (g : Nat → List Int32) (h0 : Heap) (n0 : Nat) (Z0 : n0 ≤ h0.size) (Y0 : Arv Z h0 by_ ky .byte (5 : Int32) [(.int y0_), (.int y1_), (.int y2_), (.int y3_), (.int y4_)] (.int (0 : Int32))) (F1 : Fld Z h0 o "com/example/crossbook/crossbook/venue/JsonFields$Texts" "encoded" "[[B" (.ref en)) (F2 : Fld Z h0 o "com/example/crossbook/crossbook/venue/JsonFields$Texts" "byLength" "[[I" (.ref bl)) (EA : EncA Z h0 B o en ken N hse g N.toNatClampNeg) (BL : Arh Z h0 bl kbl (.array .int) nb hs [] .null) (hlt : ∀ i, i < N.toNatClampNeg → nL g i < nb) (hal : ∀ t : Int32, ¬ t < 0 → t < nb → ∃ (q : Addr) (kq : ClassId), getH hs [] .null t.toNatClampNeg = .ref q ∧ Arv Z h0 q kq .int (cI g t N.toNatClampNeg) (idl g t N.toNatClampNeg) (.int (0 : Int32))) (hN : ¬ N < 0) (hN3 : N.toNatClampNeg ≤ 3) (hg4 : ∀ i, (g i).length ≤ 4) (hf0 : 0 ≤ fr.toInt) (ht0 : 0 ≤ (tt - fr).toInt) (hft : fr.toInt + (tt - fr).toInt ≤ 5) :
    MetFree l (⟨"com/example/crossbook/crossbook/venue/JsonFields$Texts", "indexOf", "([BII)I"⟩ : MethodName) (head1 (Jvm.Cond.code (⟨"com/example/crossbook/crossbook/venue/JsonFields$Texts", "indexOf", "([BII)I"⟩ : MethodName) prog_163_method_2_code 12 (some .int) :: ws) ({ frames := 0, cells := 0, slots := 0, locals := 0 } : Room)) (fun aa_ U => aa_ = #[(.ref o), (.ref by_), (.int fr), (.int tt)] ∧ Z.Warmed39 U.vm ∧ U.heap = h0) (fun _ _ _ _ _ => True) (fun _ U oo_ UV_ => ∃ vv_ LL_, oo_ = .returned vv_ ∧ Q_rmIX Z o by_ fr tt ky y0_ y1_ y2_ y3_ y4_ en bl ken kbl nb hse hs B N g h0 n0 vv_ UV_.heap LL_ ∧ FrameEnd U oo_ UV_ LL_ ({ frames := 0, cells := 0, slots := 0, locals := 0 } : Room).cells ({ frames := 0, cells := 0, slots := 0, locals := 0 } : Room).slots) := by
  refine MetFree.of_bodySF (plainFor_of_name pn_6) hisR ?_
  intro pg ev si mi args below meth ci s₁ Bd hml0 hP0 hK
  obtain ⟨rfl, hZ, hh⟩ := hP0
  have hx := Bd.exec
  have hby := Bd.bytes
  have hml : ci.maxLocals = 12 := hml0
  have hown : si.vm.findClass "com/example/crossbook/crossbook/venue/JsonFields$Texts" = some mi.cls := findClass_of_methodNamed Bd.named
  have hnm := (name_of_methodNamed Bd.named Bd.method).1
  have X0 : Stand pg l ev ({ frames := 0, cells := 0, slots := 0, locals := 0 } : Room) si mi #[(.ref o), (.ref by_), (.int fr), (.int tt)] below meth ci s₁ [] 0 0 := Stand.of_body Bd
  have e0 : s₁.heap = h0 := by rw [← hh, Bd.state]; rfl
  have N0 := Fr.nil n0
  refine Go.start (fun P hP => ?_)
  refine Go.st (fun t_ k_ => castTop (ef_rmIX mi o by_ fr tt ky y0_ y1_ y2_ y3_ y4_ en bl ken kbl nb hse hs B N g) k_) (A := s₁.setTop (mkF mi 0 #[.val (.ref o), .val (.ref by_), .val (.int fr), .val (.int tt), .unset, .unset, .unset, .unset, .unset, .unset, .unset, .unset] [])) ?_
  show Go _ _ _ (s₁.setTop (mkF mi 0 #[.val (.ref o), .val (.ref by_), .val (.int fr), .val (.int tt), .unset, .unset, .unset, .unset, .unset, .unset, .unset, .unset] [])) _
  refine g_iloadN X0 hx hby dc22_0 rfl ?_
  refine g_iloadN X0 hx hby dc22_1 rfl ?_
  refine g_isub X0 hx hby dc22_2 rfl ?_
  refine g_istore X0 hx hby dc22_3 (l' := #[.val (.ref o), .val (.ref by_), .val (.int fr), .val (.int tt), .val (.int (tt - fr)), .unset, .unset, .unset, .unset, .unset, .unset, .unset]) rfl ?_
  show Go _ _ _ (s₁.setTop (mkF mi 5 #[.val (.ref o), .val (.ref by_), .val (.int fr), .val (.int tt), .val (.int (tt - fr)), .unset, .unset, .unset, .unset, .unset, .unset, .unset] [])) _
  obtain ⟨t, htd⟩ : ∃ z, z = (tt - fr) := ⟨_, rfl⟩
  rw [← htd]
  rw [← htd] at ht0 hft
  have htn := own_mxneg ht0
  show Go _ _ _ (s₁.setTop (mkF mi 5 #[.val (.ref o), .val (.ref by_), .val (.int fr), .val (.int tt), .val (.int t), .unset, .unset, .unset, .unset, .unset, .unset, .unset] [])) _
  refine g_iload X0 hx hby dc22_5 rfl ?_
  refine g_aloadN X0 hx hby dc22_7 rfl rfl ?_
  obtain ⟨T1, X1, e1, st1⟩ := getF X0 hx hZ hown (host := "") (Or.inl (hw _ (own_m 42 rfl))) Via.refl e0 F2 (g := (mkF mi 8 #[.val (.ref o), .val (.ref by_), .val (.int fr), .val (.int tt), .val (.int t), .unset, .unset, .unset, .unset, .unset, .unset, .unset] [(.ref o), (.int t)])) rfl rfl (hb hby dc22_8)
  refine Go.st st1 ?_
  have ov2 := BL
  obtain ⟨cl2, Ar2, q2, S2, M2, H2, G2⟩ := ov2
  refine Go.st (X1.arraylength hx (by rw [e1]; exact Ar2.1) (State.isArrayOf_alike hZ.alike Ar2.2.1) (g := (mkF mi 11 #[.val (.ref o), .val (.ref by_), .val (.int fr), .val (.int tt), .val (.int t), .unset, .unset, .unset, .unset, .unset, .unset, .unset] [(.ref bl), (.int t)])) rfl rfl (hb hby dc22_11)) ?_
  rw [len_of S2 M2]
  by_cases hc12_1 : t < nb
  · refine g_icmpYes X1 hx hby dc22_12 (tlt hc12_1).1 (pc0 := 12) (pc' := 17) rfl (by decide) (by decide) ?_
    refine g_aloadN X1 hx hby dc22_17 rfl rfl ?_
    obtain ⟨T3, X3, e3, st3⟩ := getF X1 hx hZ hown (host := "") (Or.inl (hw _ (own_m 42 rfl))) Via.refl e1 F2 (g := (mkF mi 18 #[.val (.ref o), .val (.ref by_), .val (.int fr), .val (.int tt), .val (.int t), .unset, .unset, .unset, .unset, .unset, .unset, .unset] [(.ref o)])) rfl rfl (hb hby dc22_18)
    refine Go.st st3 ?_
    refine g_iload X3 hx hby dc22_21 rfl ?_
    have ov4 := BL
    obtain ⟨cl4, Ar4, q4, S4, M4, H4, G4⟩ := ov4
    have hin4 : ¬ (t < 0 ∨ cl4.slots.size ≤ (t).toNatClampNeg) := inb_of S4 ⟨htn, hc12_1⟩
    obtain ⟨qq, kq, hgq, VQ⟩ := hal t htn hc12_1
    have hat4 : cl4.slots[(t).toNatClampNeg]? = some (.ref qq) := atH H4 hin4 hgq
    refine Go.st (X3.aaload hx (j := t) (v := (.ref qq)) (by rw [e3]; exact Ar4.1) (State.isArrayOf_alike hZ.alike Ar4.2.1) rfl Ar4.2.2 hin4 hat4 (g := (mkF mi 23 #[.val (.ref o), .val (.ref by_), .val (.int fr), .val (.int tt), .val (.int t), .unset, .unset, .unset, .unset, .unset, .unset, .unset] [(.int t), (.ref bl)])) rfl rfl (hb hby dc22_23)) ?_
    refine g_astore X3 hx hby dc22_24 rfl (l' := #[.val (.ref o), .val (.ref by_), .val (.int fr), .val (.int tt), .val (.int t), .val (.ref qq), .unset, .unset, .unset, .unset, .unset, .unset]) rfl ?_
    refine g_aload X3 hx hby dc22_26 rfl rfl ?_
    refine g_astore X3 hx hby dc22_28 rfl (l' := #[.val (.ref o), .val (.ref by_), .val (.int fr), .val (.int tt), .val (.int t), .val (.ref qq), .val (.ref qq), .unset, .unset, .unset, .unset, .unset]) rfl ?_
    refine g_aload X3 hx hby dc22_30 rfl rfl ?_
    have ov5 := VQ
    obtain ⟨cl5, Ar5, q5, S5, M5, H5, G5⟩ := ov5
    refine Go.st (X3.arraylength hx (by rw [e3]; exact Ar5.1) (State.isArrayOf_alike hZ.alike Ar5.2.1) (g := (mkF mi 32 #[.val (.ref o), .val (.ref by_), .val (.int fr), .val (.int tt), .val (.int t), .val (.ref qq), .val (.ref qq), .unset, .unset, .unset, .unset, .unset] [(.ref qq)])) rfl rfl (hb hby dc22_32)) ?_
    rw [len_of S5 M5]
    refine g_istore X3 hx hby dc22_33 (l' := #[.val (.ref o), .val (.ref by_), .val (.int fr), .val (.int tt), .val (.int t), .val (.ref qq), .val (.ref qq), .val (.int (cI g t N.toNatClampNeg)), .unset, .unset, .unset, .unset]) rfl ?_
    refine g_iconst X3 hx hby dc22_35 (v := 0) rfl ?_
    refine g_istore X3 hx hby dc22_36 (l' := #[.val (.ref o), .val (.ref by_), .val (.int fr), .val (.int tt), .val (.int t), .val (.ref qq), .val (.ref qq), .val (.int (cI g t N.toNatClampNeg)), .val (.int 0), .unset, .unset, .unset]) rfl ?_
    show Go _ _ _ (T3.setTop (mkF mi 38 #[.val (.ref o), .val (.ref by_), .val (.int fr), .val (.int tt), .val (.int t), .val (.ref qq), .val (.ref qq), .val (.int (cI g t N.toNatClampNeg)), .val (.int 0), .unset, .unset, .unset] [])) _
    refine own_candL l Z a0 hw hx hby hml hZ hown o by_ fr tt t qq (cI g t N.toNatClampNeg) en kq (idl g t N.toNatClampNeg) ken N hse ky g B y0_ y1_ y2_ y3_ y4_ h0 n0 Z0 N0 VQ (cI_b g t hN3).2.2 (cI_b g t hN3).1 F1 EA hN hN3 hg4 (own_el g t N.toNatClampNeg) Y0 hf0 hft (fun T6 i6 z6 p6 re6 X6 e6 hr6 => ?_) (fun T6 s9 s10 s11 X6 e6 hr6 => ?_) (idl g t N.toNatClampNeg).length (0 : Int32) _ .unset .unset .unset X3 e3 (by decide) (Nat.zero_add _) (Or.inl ⟨rfl, rfl, rfl⟩) rfl
    · skip
      show Go _ _ _ (T6.setTop (mkF mi 98 #[.val (.ref o), .val (.ref by_), .val (.int fr), .val (.int tt), .val (.int t), .val (.ref qq), .val (.ref qq), .val (.int (cI g t N.toNatClampNeg)), .val (.int p6), .val (.int i6), .val (.ref re6), .val (.int z6)] [])) _
      refine g_iload X6 hx hby dc22_98 rfl ?_
      obtain ⟨fs, hr, hrun, hended, hW, hsame⟩ := X6.leave (v := some (.int i6)) (fun h => by rw [Bd.returns] at h; cases h) (BodyLoose.notSynchronized Bd)
      refine ⟨_, _, ?_, hP _ _ ⟨hrun, hended, _, _, rfl, ?_, ⟨_, rfl⟩, hW, hsame.mono (by decide) (by decide)⟩⟩
      · exact retI X6 hx Bd.returns (hb hby dc22_100) hr
      · show (some (.int i6) : Option Value) = some (.int (ixR g (tt - fr) [y0_, y1_, y2_, y3_, y4_] fr.toNatClampNeg N.toNatClampNeg)) ∧ Fr n0 _ ∧ T6.heap = h0
        rw [e6]
        refine ⟨?_, N0, rfl⟩
        rw [← htd, show (ixR g t [y0_, y1_, y2_, y3_, y4_] fr.toNatClampNeg N.toNatClampNeg) = i6 from hr6]
    · skip
      show Go _ _ _ (T6.setTop (mkF mi 38 #[.val (.ref o), .val (.ref by_), .val (.int fr), .val (.int tt), .val (.int t), .val (.ref qq), .val (.ref qq), .val (.int (cI g t N.toNatClampNeg)), .val (.int (cI g t N.toNatClampNeg)), s9, s10, s11] [])) _
      refine g_iload X6 hx hby dc22_38 rfl ?_
      refine g_iload X6 hx hby dc22_40 rfl ?_
      refine g_icmpYes X6 hx hby dc22_42 (flt Int32.lt_irrefl).2.1 (pc0 := 42) (pc' := 107) rfl (by decide) (by decide) ?_
      refine g_iconst X6 hx hby dc22_107 (v := (-1)) rfl ?_
      obtain ⟨fs, hr, hrun, hended, hW, hsame⟩ := X6.leave (v := some (.int (-1))) (fun h => by rw [Bd.returns] at h; cases h) (BodyLoose.notSynchronized Bd)
      refine ⟨_, _, ?_, hP _ _ ⟨hrun, hended, _, _, rfl, ?_, ⟨_, rfl⟩, hW, hsame.mono (by decide) (by decide)⟩⟩
      · exact retI X6 hx Bd.returns (hb hby dc22_108) hr
      · show (some (.int (-1)) : Option Value) = some (.int (ixR g (tt - fr) [y0_, y1_, y2_, y3_, y4_] fr.toNatClampNeg N.toNatClampNeg)) ∧ Fr n0 _ ∧ T6.heap = h0
        rw [e6]
        refine ⟨?_, N0, rfl⟩
        rw [← htd, show (ixR g t [y0_, y1_, y2_, y3_, y4_] fr.toNatClampNeg N.toNatClampNeg) = (-1 : Int32) from hr6]
  · refine g_icmpNo X1 hx hby dc22_12 (flt hc12_1).1 ?_
    refine g_iconst X1 hx hby dc22_15 (v := (-1)) rfl ?_
    obtain ⟨fs, hr, hrun, hended, hW, hsame⟩ := X1.leave (v := some (.int (-1))) (fun h => by rw [Bd.returns] at h; cases h) (BodyLoose.notSynchronized Bd)
    refine ⟨_, _, ?_, hP _ _ ⟨hrun, hended, _, _, rfl, ?_, ⟨_, rfl⟩, hW, hsame.mono (by decide) (by decide)⟩⟩
    · exact retI X1 hx Bd.returns (hb hby dc22_16) hr
    · show (some (.int (-1)) : Option Value) = some (.int (ixR g (tt - fr) [y0_, y1_, y2_, y3_, y4_] fr.toNatClampNeg N.toNatClampNeg)) ∧ Fr n0 _ ∧ T1.heap = h0
      rw [e1]
      refine ⟨?_, N0, rfl⟩
      rw [← htd, show (ixR g t [y0_, y1_, y2_, y3_, y4_] fr.toNatClampNeg N.toNatClampNeg) = (-1 : Int32) from by unfold ixR; rw [own_idl0 _ hlt hc12_1]; rfl]
def pu1 (x : Int32) : Int32 := (((192 : Int32) ||| ((x.toUInt32 >>> ((6 : Int32) &&& 31).toUInt32).toInt32)).toInt8.toInt32)
def pu2 (x : Int32) : Int32 := (((128 : Int32) ||| (x &&& (63 : Int32))).toInt8.toInt32)
theorem own_all : ∀ n : Fin 256, (¬ (Int32.ofNat n.val < (128 : Int32)) → ((Int32.ofNat n.val).toInt8.toInt32 < (0 : Int32) ∧ ec1 ((Int32.ofNat n.val).toInt8.toInt32) = pu1 (Int32.ofNat n.val) ∧ ec2 ((Int32.ofNat n.val).toInt8.toInt32) = pu2 (Int32.ofNat n.val))) ∧ (Int32.ofNat n.val < (128 : Int32) → ¬ (Int32.ofNat n.val).toInt8.toInt32 < (0 : Int32)) := by decide +kernel
theorem own_of {x : Int32} (h1 : 0 ≤ x.toInt) (h2 : x.toInt ≤ 255) : ∃ n : Fin 256, x = Int32.ofNat n.val := by
  refine ⟨⟨x.toInt.toNat, by omega⟩, ?_⟩
  apply Int32.toInt_inj.mp
  show x.toInt = (Int32.ofNat x.toInt.toNat).toInt
  rw [Int32.toInt_ofNat_small (by omega)]; omega
theorem own_pu {x : Int32} (h1 : 0 ≤ x.toInt) (h2 : x.toInt ≤ 255) (h : ¬ (x < (128 : Int32))) : enc1 (x.toInt8.toInt32) = [pu1 x, pu2 x] := by
  obtain ⟨n, rfl⟩ := own_of h1 h2
  obtain ⟨a, b, c⟩ := (own_all n).1 h
  rw [enP a, b, c]
theorem own_pa {x : Int32} (h1 : 0 ≤ x.toInt) (h2 : x.toInt ≤ 255) (h : x < (128 : Int32)) : enc1 (x.toInt8.toInt32) = [x.toInt8.toInt32] := by
  obtain ⟨n, rfl⟩ := own_of h1 h2
  exact enN ((own_all n).2 h)
theorem own_in0 {fr t : Int32} (hf : 0 ≤ fr.toInt) (hft : fr.toInt + t.toInt ≤ 5) (q : (0 : Int32) < t) : ¬ fr < 0 ∧ fr < (5 : Int32) := by
  rw [Int32.lt_iff_toInt_lt, own_z0] at q
  have l5 : (5 : Int32).toInt = 5 := rfl
  simp only [Int32.lt_iff_toInt_lt, own_z0]; omega
theorem dc23_0 : decode method_4_code 0 = .ok (.iload_n 2, 1) := by decide +kernel
theorem dc23_1 : decode method_4_code 1 = .ok (.sipush 128, 3) := by decide +kernel
theorem dc23_4 : decode method_4_code 4 = .ok (.if_icmp .ge 12, 3) := by decide +kernel
theorem dc23_7 : decode method_4_code 7 = .ok (.aload_n 0, 1) := by decide +kernel
theorem dc23_8 : decode method_4_code 8 = .ok (.iload_n 1, 1) := by decide +kernel
theorem dc23_9 : decode method_4_code 9 = .ok (.iload_n 2, 1) := by decide +kernel
theorem dc23_10 : decode method_4_code 10 = .ok (.i2b, 1) := by decide +kernel
theorem dc23_11 : decode method_4_code 11 = .ok (.bastore, 1) := by decide +kernel
theorem dc23_12 : decode method_4_code 12 = .ok (.iload_n 1, 1) := by decide +kernel
theorem dc23_13 : decode method_4_code 13 = .ok (.iconst 1, 1) := by decide +kernel
theorem dc23_14 : decode method_4_code 14 = .ok (.iadd, 1) := by decide +kernel
theorem dc23_15 : decode method_4_code 15 = .ok (.ireturn, 1) := by decide +kernel
theorem ef_rmPu0A (mi : MethodId) (ea : Addr) (x : Int32) (ke : ClassId) (wa : Int32) (wb : Int32) (wc : Int32) (wd : Int32) : entryFrame mi #[(.ref ea), (.int 0), (.int x)] 3 = mkF mi 0 #[.val (.ref ea), .val (.int 0), .val (.int x)] [] := by first | (simp [entryFrame, mkF, argsToLocals, Value.category]; done) | rfl
def Q_rmPu0A (Z : State) (ea : Addr) (x : Int32) (ke : ClassId) (wa : Int32) (wb : Int32) (wc : Int32) (wd : Int32) (h0 : Heap) (n0 : Nat) (vv_ : Option Value) (hh_ : Heap) (LL_ : List Loc) : Prop := vv_ = some (.int (1 : Int32)) ∧ Fr n0 LL_ ∧ Keep h0 hh_ [ea] ∧ Arv Z hh_ ea ke .byte (4 : Int32) [(.int (x.toInt8.toInt32)), (.int wb), (.int wc), (.int wd)] (.int (0 : Int32))
set_option maxRecDepth 65536 in
set_option maxHeartbeats 40000000 in
theorem rmPu0A (l : Launch) (Z : State) (a0 : Array Value) (hw : ∀ d ∈ tables_1, d.before a0 Z = true) (ws : List Jvm.Cond) (ea : Addr) (x : Int32) (ke : ClassId) (wa : Int32) (wb : Int32) (wc : Int32) (wd : Int32) (h0 : Heap) (n0 : Nat) (Z0 : n0 ≤ h0.size) (A0 : Arv Z h0 ea ke .byte (4 : Int32) [(.int wa), (.int wb), (.int wc), (.int wd)] (.int (0 : Int32))) (g_e : n0 ≤ ea) (hx8 : x < (128 : Int32)) :
    MetFree l (⟨"com/example/crossbook/crossbook/venue/TextsIndexOfPinLaw", "put", "([BIC)I"⟩ : MethodName) (head1 (Jvm.Cond.code (⟨"com/example/crossbook/crossbook/venue/TextsIndexOfPinLaw", "put", "([BIC)I"⟩ : MethodName) method_4_code 3 (some .int) :: ws) ({ frames := 0, cells := 0, slots := 0, locals := 0 } : Room)) (fun aa_ U => aa_ = #[(.ref ea), (.int 0), (.int x)] ∧ Z.Warmed39 U.vm ∧ U.heap = h0) (fun _ _ _ _ _ => True) (fun _ U oo_ UV_ => ∃ vv_ LL_, oo_ = .returned vv_ ∧ Q_rmPu0A Z ea x ke wa wb wc wd h0 n0 vv_ UV_.heap LL_ ∧ FrameEnd U oo_ UV_ LL_ ({ frames := 0, cells := 0, slots := 0, locals := 0 } : Room).cells ({ frames := 0, cells := 0, slots := 0, locals := 0 } : Room).slots) := by
  refine MetFree.of_bodySF (plainFor_of_name pn_3) hisR ?_
  intro pg ev si mi args below meth ci s₁ Bd hml0 hP0 hK
  obtain ⟨rfl, hZ, hh⟩ := hP0
  have hx := Bd.exec
  have hby := Bd.bytes
  have hml : ci.maxLocals = 3 := hml0
  have hown : si.vm.findClass "com/example/crossbook/crossbook/venue/TextsIndexOfPinLaw" = some mi.cls := findClass_of_methodNamed Bd.named
  have hnm := (name_of_methodNamed Bd.named Bd.method).1
  have X0 : Stand pg l ev ({ frames := 0, cells := 0, slots := 0, locals := 0 } : Room) si mi #[(.ref ea), (.int 0), (.int x)] below meth ci s₁ [] 0 0 := Stand.of_body Bd
  have e0 : s₁.heap = h0 := by rw [← hh, Bd.state]; rfl
  have N0 := Fr.nil n0
  refine Go.start (fun P hP => ?_)
  refine Go.st (fun t_ k_ => castTop (ef_rmPu0A mi ea x ke wa wb wc wd) k_) (A := s₁.setTop (mkF mi 0 #[.val (.ref ea), .val (.int 0), .val (.int x)] [])) ?_
  show Go _ _ _ (s₁.setTop (mkF mi 0 #[.val (.ref ea), .val (.int 0), .val (.int x)] [])) _
  refine g_iloadN X0 hx hby dc23_0 rfl ?_
  refine g_sipush X0 hx hby dc23_1 (v := 128) rfl ?_
  refine g_icmpNo X0 hx hby dc23_4 (tlt hx8).2.1 ?_
  refine g_aloadN X0 hx hby dc23_7 rfl rfl ?_
  refine g_iloadN X0 hx hby dc23_8 rfl ?_
  refine g_iloadN X0 hx hby dc23_9 rfl ?_
  refine g_i2b X0 hx hby dc23_10 rfl ?_
  have ov1 := A0
  obtain ⟨cl1, Ar1, q1, S1, M1, H1, G1⟩ := ov1
  have hin1 : ¬ ((0 : Int32) < 0 ∨ cl1.slots.size ≤ ((0 : Int32)).toNatClampNeg) := inb_of S1 ⟨by decide, by decide⟩
  obtain ⟨T2, h2, X2, e2, W2, st2⟩ := stB X0 hx hZ e0 Ar1 (j := (0 : Int32)) hin1 (g := (mkF mi 11 #[.val (.ref ea), .val (.int 0), .val (.int x)] [(.int (x.toInt8.toInt32)), (.int 0), (.ref ea)])) rfl rfl (hb hby dc23_11)
  have Zs3 : n0 ≤ h2.size := Nat.le_trans Z0 (Keep.of_wr W2).1
  have KC3 : Keep h0 h2 [ea] := (Keep.refl h0 [ea]).wr W2 (Or.inl (List.mem_of_getElem? (i := 0) rfl))
  have N3 := Fr.snoc X2 N0 g_e
  have V2 : Arv Z h2 ea ke .byte (4 : Int32) [(.int ((x.toInt8.toInt32).toInt8.toInt32)), (.int wb), (.int wc), (.int wd)] (.int (0 : Int32)) := Arv.set Ar1 q1 S1 M1 H1 G1 (fits_nar_byte _) W2 0 rfl (Nat.le_of_ble_eq_true rfl)
  rw [own_bb] at V2
  refine Go.st st2 ?_
  refine g_iloadN X2 hx hby dc23_12 rfl ?_
  refine g_iconst X2 hx hby dc23_13 (v := 1) rfl ?_
  refine g_iadd X2 hx hby dc23_14 (z := 1) rfl ?_
  obtain ⟨fs, hr, hrun, hended, hW, hsame⟩ := X2.leave (v := some (.int 1)) (fun h => by rw [Bd.returns] at h; cases h) (BodyLoose.notSynchronized Bd)
  refine ⟨_, _, ?_, hP _ _ ⟨hrun, hended, _, _, rfl, ?_, ⟨_, rfl⟩, hW, hsame.mono (by decide) (by decide)⟩⟩
  · exact retI X2 hx Bd.returns (hb hby dc23_15) hr
  · show (some (.int 1) : Option Value) = some (.int (1 : Int32)) ∧ Fr n0 _ ∧ Keep h0 T2.heap [ea] ∧ Arv Z T2.heap ea ke .byte (4 : Int32) [(.int (x.toInt8.toInt32)), (.int wb), (.int wc), (.int wd)] (.int (0 : Int32))
    rw [e2]
    exact ⟨rfl, N3, KC3, V2⟩
theorem dc23_16 : decode method_4_code 16 = .ok (.aload_n 0, 1) := by decide +kernel
theorem dc23_17 : decode method_4_code 17 = .ok (.iload_n 1, 1) := by decide +kernel
theorem dc23_18 : decode method_4_code 18 = .ok (.sipush 192, 3) := by decide +kernel
theorem dc23_21 : decode method_4_code 21 = .ok (.iload_n 2, 1) := by decide +kernel
theorem dc23_22 : decode method_4_code 22 = .ok (.bipush 6, 2) := by decide +kernel
theorem dc23_24 : decode method_4_code 24 = .ok (.iushr, 1) := by decide +kernel
theorem dc23_25 : decode method_4_code 25 = .ok (.ior, 1) := by decide +kernel
theorem dc23_26 : decode method_4_code 26 = .ok (.i2b, 1) := by decide +kernel
theorem dc23_27 : decode method_4_code 27 = .ok (.bastore, 1) := by decide +kernel
theorem dc23_28 : decode method_4_code 28 = .ok (.aload_n 0, 1) := by decide +kernel
theorem dc23_29 : decode method_4_code 29 = .ok (.iload_n 1, 1) := by decide +kernel
theorem dc23_30 : decode method_4_code 30 = .ok (.iconst 1, 1) := by decide +kernel
theorem dc23_31 : decode method_4_code 31 = .ok (.iadd, 1) := by decide +kernel
theorem dc23_32 : decode method_4_code 32 = .ok (.sipush 128, 3) := by decide +kernel
theorem dc23_35 : decode method_4_code 35 = .ok (.iload_n 2, 1) := by decide +kernel
theorem dc23_36 : decode method_4_code 36 = .ok (.bipush 63, 2) := by decide +kernel
theorem dc23_38 : decode method_4_code 38 = .ok (.iand, 1) := by decide +kernel
theorem dc23_39 : decode method_4_code 39 = .ok (.ior, 1) := by decide +kernel
theorem dc23_40 : decode method_4_code 40 = .ok (.i2b, 1) := by decide +kernel
theorem dc23_41 : decode method_4_code 41 = .ok (.bastore, 1) := by decide +kernel
theorem dc23_42 : decode method_4_code 42 = .ok (.iload_n 1, 1) := by decide +kernel
theorem dc23_43 : decode method_4_code 43 = .ok (.iconst 2, 1) := by decide +kernel
theorem dc23_44 : decode method_4_code 44 = .ok (.iadd, 1) := by decide +kernel
theorem dc23_45 : decode method_4_code 45 = .ok (.ireturn, 1) := by decide +kernel
theorem ef_rmPu0B (mi : MethodId) (ea : Addr) (x : Int32) (ke : ClassId) (wa : Int32) (wb : Int32) (wc : Int32) (wd : Int32) : entryFrame mi #[(.ref ea), (.int 0), (.int x)] 3 = mkF mi 0 #[.val (.ref ea), .val (.int 0), .val (.int x)] [] := by first | (simp [entryFrame, mkF, argsToLocals, Value.category]; done) | rfl
def Q_rmPu0B (Z : State) (ea : Addr) (x : Int32) (ke : ClassId) (wa : Int32) (wb : Int32) (wc : Int32) (wd : Int32) (h0 : Heap) (n0 : Nat) (vv_ : Option Value) (hh_ : Heap) (LL_ : List Loc) : Prop := vv_ = some (.int (2 : Int32)) ∧ Fr n0 LL_ ∧ Keep h0 hh_ [ea] ∧ Arv Z hh_ ea ke .byte (4 : Int32) [(.int (pu1 x)), (.int (pu2 x)), (.int wc), (.int wd)] (.int (0 : Int32))
set_option maxRecDepth 65536 in
set_option maxHeartbeats 40000000 in
theorem rmPu0B (l : Launch) (Z : State) (a0 : Array Value) (hw : ∀ d ∈ tables_1, d.before a0 Z = true) (ws : List Jvm.Cond) (ea : Addr) (x : Int32) (ke : ClassId) (wa : Int32) (wb : Int32) (wc : Int32) (wd : Int32) (h0 : Heap) (n0 : Nat) (Z0 : n0 ≤ h0.size) (A0 : Arv Z h0 ea ke .byte (4 : Int32) [(.int wa), (.int wb), (.int wc), (.int wd)] (.int (0 : Int32))) (g_e : n0 ≤ ea) (hx8 : ¬ (x < (128 : Int32))) :
    MetFree l (⟨"com/example/crossbook/crossbook/venue/TextsIndexOfPinLaw", "put", "([BIC)I"⟩ : MethodName) (head1 (Jvm.Cond.code (⟨"com/example/crossbook/crossbook/venue/TextsIndexOfPinLaw", "put", "([BIC)I"⟩ : MethodName) method_4_code 3 (some .int) :: ws) ({ frames := 0, cells := 0, slots := 0, locals := 0 } : Room)) (fun aa_ U => aa_ = #[(.ref ea), (.int 0), (.int x)] ∧ Z.Warmed39 U.vm ∧ U.heap = h0) (fun _ _ _ _ _ => True) (fun _ U oo_ UV_ => ∃ vv_ LL_, oo_ = .returned vv_ ∧ Q_rmPu0B Z ea x ke wa wb wc wd h0 n0 vv_ UV_.heap LL_ ∧ FrameEnd U oo_ UV_ LL_ ({ frames := 0, cells := 0, slots := 0, locals := 0 } : Room).cells ({ frames := 0, cells := 0, slots := 0, locals := 0 } : Room).slots) := by
  refine MetFree.of_bodySF (plainFor_of_name pn_3) hisR ?_
  intro pg ev si mi args below meth ci s₁ Bd hml0 hP0 hK
  obtain ⟨rfl, hZ, hh⟩ := hP0
  have hx := Bd.exec
  have hby := Bd.bytes
  have hml : ci.maxLocals = 3 := hml0
  have hown : si.vm.findClass "com/example/crossbook/crossbook/venue/TextsIndexOfPinLaw" = some mi.cls := findClass_of_methodNamed Bd.named
  have hnm := (name_of_methodNamed Bd.named Bd.method).1
  have X0 : Stand pg l ev ({ frames := 0, cells := 0, slots := 0, locals := 0 } : Room) si mi #[(.ref ea), (.int 0), (.int x)] below meth ci s₁ [] 0 0 := Stand.of_body Bd
  have e0 : s₁.heap = h0 := by rw [← hh, Bd.state]; rfl
  have N0 := Fr.nil n0
  refine Go.start (fun P hP => ?_)
  refine Go.st (fun t_ k_ => castTop (ef_rmPu0B mi ea x ke wa wb wc wd) k_) (A := s₁.setTop (mkF mi 0 #[.val (.ref ea), .val (.int 0), .val (.int x)] [])) ?_
  show Go _ _ _ (s₁.setTop (mkF mi 0 #[.val (.ref ea), .val (.int 0), .val (.int x)] [])) _
  refine g_iloadN X0 hx hby dc23_0 rfl ?_
  refine g_sipush X0 hx hby dc23_1 (v := 128) rfl ?_
  refine g_icmpYes X0 hx hby dc23_4 (flt hx8).2.1 (pc0 := 4) (pc' := 16) rfl (by decide) (by decide) ?_
  refine g_aloadN X0 hx hby dc23_16 rfl rfl ?_
  refine g_iloadN X0 hx hby dc23_17 rfl ?_
  refine g_sipush X0 hx hby dc23_18 (v := 192) rfl ?_
  refine g_iloadN X0 hx hby dc23_21 rfl ?_
  refine g_bipush X0 hx hby dc23_22 (v := 6) rfl ?_
  refine Go.s (XS.iushr X0.here hx rfl (hb hby dc23_24) rfl) ?_
  refine g_ior X0 hx hby dc23_25 rfl ?_
  refine g_i2b X0 hx hby dc23_26 rfl ?_
  have ov1 := A0
  obtain ⟨cl1, Ar1, q1, S1, M1, H1, G1⟩ := ov1
  have hin1 : ¬ ((0 : Int32) < 0 ∨ cl1.slots.size ≤ ((0 : Int32)).toNatClampNeg) := inb_of S1 ⟨by decide, by decide⟩
  obtain ⟨T2, h2, X2, e2, W2, st2⟩ := stB X0 hx hZ e0 Ar1 (j := (0 : Int32)) hin1 (g := (mkF mi 27 #[.val (.ref ea), .val (.int 0), .val (.int x)] [(.int (((192 : Int32) ||| ((x.toUInt32 >>> ((6 : Int32) &&& 31).toUInt32).toInt32)).toInt8.toInt32)), (.int 0), (.ref ea)])) rfl rfl (hb hby dc23_27)
  have Zs3 : n0 ≤ h2.size := Nat.le_trans Z0 (Keep.of_wr W2).1
  have KC3 : Keep h0 h2 [ea] := (Keep.refl h0 [ea]).wr W2 (Or.inl (List.mem_of_getElem? (i := 0) rfl))
  have N3 := Fr.snoc X2 N0 g_e
  have V2 : Arv Z h2 ea ke .byte (4 : Int32) [(.int ((((192 : Int32) ||| ((x.toUInt32 >>> ((6 : Int32) &&& 31).toUInt32).toInt32)).toInt8.toInt32).toInt8.toInt32)), (.int wb), (.int wc), (.int wd)] (.int (0 : Int32)) := Arv.set Ar1 q1 S1 M1 H1 G1 (fits_nar_byte _) W2 0 rfl (Nat.le_of_ble_eq_true rfl)
  rw [own_bb] at V2
  refine Go.st st2 ?_
  refine g_aloadN X2 hx hby dc23_28 rfl rfl ?_
  refine g_iloadN X2 hx hby dc23_29 rfl ?_
  refine g_iconst X2 hx hby dc23_30 (v := 1) rfl ?_
  refine g_iadd X2 hx hby dc23_31 (z := 1) rfl ?_
  refine g_sipush X2 hx hby dc23_32 (v := 128) rfl ?_
  refine g_iloadN X2 hx hby dc23_35 rfl ?_
  refine g_bipush X2 hx hby dc23_36 (v := 63) rfl ?_
  refine g_iand X2 hx hby dc23_38 rfl ?_
  refine g_ior X2 hx hby dc23_39 rfl ?_
  refine g_i2b X2 hx hby dc23_40 rfl ?_
  have ov4 := V2
  obtain ⟨cl4, Ar4, q4, S4, M4, H4, G4⟩ := ov4
  have hin4 : ¬ ((1 : Int32) < 0 ∨ cl4.slots.size ≤ ((1 : Int32)).toNatClampNeg) := inb_of S4 ⟨by decide, by decide⟩
  obtain ⟨T5, h5, X5, e5, W5, st5⟩ := stB X2 hx hZ e2 Ar4 (j := (1 : Int32)) hin4 (g := (mkF mi 41 #[.val (.ref ea), .val (.int 0), .val (.int x)] [(.int (((128 : Int32) ||| (x &&& (63 : Int32))).toInt8.toInt32)), (.int 1), (.ref ea)])) rfl rfl (hb hby dc23_41)
  have Zs6 : n0 ≤ h5.size := Nat.le_trans Zs3 (Keep.of_wr W5).1
  have KC6 : Keep h0 h5 [ea] := KC3.wr W5 (Or.inl (List.mem_of_getElem? (i := 0) rfl))
  have N6 := Fr.snoc X5 N3 g_e
  have V5 : Arv Z h5 ea ke .byte (4 : Int32) [(.int (((192 : Int32) ||| ((x.toUInt32 >>> ((6 : Int32) &&& 31).toUInt32).toInt32)).toInt8.toInt32)), (.int ((((128 : Int32) ||| (x &&& (63 : Int32))).toInt8.toInt32).toInt8.toInt32)), (.int wc), (.int wd)] (.int (0 : Int32)) := Arv.set Ar4 q4 S4 M4 H4 G4 (fits_nar_byte _) W5 1 rfl (Nat.le_of_ble_eq_true rfl)
  rw [own_bb] at V5
  refine Go.st st5 ?_
  show Go _ _ _ (T5.setTop (mkF mi 42 #[.val (.ref ea), .val (.int 0), .val (.int x)] [])) _
  refine g_iloadN X5 hx hby dc23_42 rfl ?_
  refine g_iconst X5 hx hby dc23_43 (v := 2) rfl ?_
  refine g_iadd X5 hx hby dc23_44 (z := 2) rfl ?_
  obtain ⟨fs, hr, hrun, hended, hW, hsame⟩ := X5.leave (v := some (.int 2)) (fun h => by rw [Bd.returns] at h; cases h) (BodyLoose.notSynchronized Bd)
  refine ⟨_, _, ?_, hP _ _ ⟨hrun, hended, _, _, rfl, ?_, ⟨_, rfl⟩, hW, hsame.mono (by decide) (by decide)⟩⟩
  · exact retI X5 hx Bd.returns (hb hby dc23_45) hr
  · show (some (.int 2) : Option Value) = some (.int (2 : Int32)) ∧ Fr n0 _ ∧ Keep h0 T5.heap [ea] ∧ Arv Z T5.heap ea ke .byte (4 : Int32) [(.int (pu1 x)), (.int (pu2 x)), (.int wc), (.int wd)] (.int (0 : Int32))
    rw [e5]
    exact ⟨rfl, N6, KC6, V5⟩
theorem ef_rmPu1A (mi : MethodId) (ea : Addr) (x : Int32) (ke : ClassId) (wa : Int32) (wb : Int32) (wc : Int32) (wd : Int32) : entryFrame mi #[(.ref ea), (.int 1), (.int x)] 3 = mkF mi 0 #[.val (.ref ea), .val (.int 1), .val (.int x)] [] := by first | (simp [entryFrame, mkF, argsToLocals, Value.category]; done) | rfl
def Q_rmPu1A (Z : State) (ea : Addr) (x : Int32) (ke : ClassId) (wa : Int32) (wb : Int32) (wc : Int32) (wd : Int32) (h0 : Heap) (n0 : Nat) (vv_ : Option Value) (hh_ : Heap) (LL_ : List Loc) : Prop := vv_ = some (.int (2 : Int32)) ∧ Fr n0 LL_ ∧ Keep h0 hh_ [ea] ∧ Arv Z hh_ ea ke .byte (4 : Int32) [(.int wa), (.int (x.toInt8.toInt32)), (.int wc), (.int wd)] (.int (0 : Int32))
set_option maxRecDepth 65536 in
set_option maxHeartbeats 40000000 in
theorem rmPu1A (l : Launch) (Z : State) (a0 : Array Value) (hw : ∀ d ∈ tables_1, d.before a0 Z = true) (ws : List Jvm.Cond) (ea : Addr) (x : Int32) (ke : ClassId) (wa : Int32) (wb : Int32) (wc : Int32) (wd : Int32) (h0 : Heap) (n0 : Nat) (Z0 : n0 ≤ h0.size) (A0 : Arv Z h0 ea ke .byte (4 : Int32) [(.int wa), (.int wb), (.int wc), (.int wd)] (.int (0 : Int32))) (g_e : n0 ≤ ea) (hx8 : x < (128 : Int32)) :
    MetFree l (⟨"com/example/crossbook/crossbook/venue/TextsIndexOfPinLaw", "put", "([BIC)I"⟩ : MethodName) (head1 (Jvm.Cond.code (⟨"com/example/crossbook/crossbook/venue/TextsIndexOfPinLaw", "put", "([BIC)I"⟩ : MethodName) method_4_code 3 (some .int) :: ws) ({ frames := 0, cells := 0, slots := 0, locals := 0 } : Room)) (fun aa_ U => aa_ = #[(.ref ea), (.int 1), (.int x)] ∧ Z.Warmed39 U.vm ∧ U.heap = h0) (fun _ _ _ _ _ => True) (fun _ U oo_ UV_ => ∃ vv_ LL_, oo_ = .returned vv_ ∧ Q_rmPu1A Z ea x ke wa wb wc wd h0 n0 vv_ UV_.heap LL_ ∧ FrameEnd U oo_ UV_ LL_ ({ frames := 0, cells := 0, slots := 0, locals := 0 } : Room).cells ({ frames := 0, cells := 0, slots := 0, locals := 0 } : Room).slots) := by
  refine MetFree.of_bodySF (plainFor_of_name pn_3) hisR ?_
  intro pg ev si mi args below meth ci s₁ Bd hml0 hP0 hK
  obtain ⟨rfl, hZ, hh⟩ := hP0
  have hx := Bd.exec
  have hby := Bd.bytes
  have hml : ci.maxLocals = 3 := hml0
  have hown : si.vm.findClass "com/example/crossbook/crossbook/venue/TextsIndexOfPinLaw" = some mi.cls := findClass_of_methodNamed Bd.named
  have hnm := (name_of_methodNamed Bd.named Bd.method).1
  have X0 : Stand pg l ev ({ frames := 0, cells := 0, slots := 0, locals := 0 } : Room) si mi #[(.ref ea), (.int 1), (.int x)] below meth ci s₁ [] 0 0 := Stand.of_body Bd
  have e0 : s₁.heap = h0 := by rw [← hh, Bd.state]; rfl
  have N0 := Fr.nil n0
  refine Go.start (fun P hP => ?_)
  refine Go.st (fun t_ k_ => castTop (ef_rmPu1A mi ea x ke wa wb wc wd) k_) (A := s₁.setTop (mkF mi 0 #[.val (.ref ea), .val (.int 1), .val (.int x)] [])) ?_
  show Go _ _ _ (s₁.setTop (mkF mi 0 #[.val (.ref ea), .val (.int 1), .val (.int x)] [])) _
  refine g_iloadN X0 hx hby dc23_0 rfl ?_
  refine g_sipush X0 hx hby dc23_1 (v := 128) rfl ?_
  refine g_icmpNo X0 hx hby dc23_4 (tlt hx8).2.1 ?_
  refine g_aloadN X0 hx hby dc23_7 rfl rfl ?_
  refine g_iloadN X0 hx hby dc23_8 rfl ?_
  refine g_iloadN X0 hx hby dc23_9 rfl ?_
  refine g_i2b X0 hx hby dc23_10 rfl ?_
  have ov1 := A0
  obtain ⟨cl1, Ar1, q1, S1, M1, H1, G1⟩ := ov1
  have hin1 : ¬ ((1 : Int32) < 0 ∨ cl1.slots.size ≤ ((1 : Int32)).toNatClampNeg) := inb_of S1 ⟨by decide, by decide⟩
  obtain ⟨T2, h2, X2, e2, W2, st2⟩ := stB X0 hx hZ e0 Ar1 (j := (1 : Int32)) hin1 (g := (mkF mi 11 #[.val (.ref ea), .val (.int 1), .val (.int x)] [(.int (x.toInt8.toInt32)), (.int 1), (.ref ea)])) rfl rfl (hb hby dc23_11)
  have Zs3 : n0 ≤ h2.size := Nat.le_trans Z0 (Keep.of_wr W2).1
  have KC3 : Keep h0 h2 [ea] := (Keep.refl h0 [ea]).wr W2 (Or.inl (List.mem_of_getElem? (i := 0) rfl))
  have N3 := Fr.snoc X2 N0 g_e
  have V2 : Arv Z h2 ea ke .byte (4 : Int32) [(.int wa), (.int ((x.toInt8.toInt32).toInt8.toInt32)), (.int wc), (.int wd)] (.int (0 : Int32)) := Arv.set Ar1 q1 S1 M1 H1 G1 (fits_nar_byte _) W2 1 rfl (Nat.le_of_ble_eq_true rfl)
  rw [own_bb] at V2
  refine Go.st st2 ?_
  refine g_iloadN X2 hx hby dc23_12 rfl ?_
  refine g_iconst X2 hx hby dc23_13 (v := 1) rfl ?_
  refine g_iadd X2 hx hby dc23_14 (z := 2) rfl ?_
  obtain ⟨fs, hr, hrun, hended, hW, hsame⟩ := X2.leave (v := some (.int 2)) (fun h => by rw [Bd.returns] at h; cases h) (BodyLoose.notSynchronized Bd)
  refine ⟨_, _, ?_, hP _ _ ⟨hrun, hended, _, _, rfl, ?_, ⟨_, rfl⟩, hW, hsame.mono (by decide) (by decide)⟩⟩
  · exact retI X2 hx Bd.returns (hb hby dc23_15) hr
  · show (some (.int 2) : Option Value) = some (.int (2 : Int32)) ∧ Fr n0 _ ∧ Keep h0 T2.heap [ea] ∧ Arv Z T2.heap ea ke .byte (4 : Int32) [(.int wa), (.int (x.toInt8.toInt32)), (.int wc), (.int wd)] (.int (0 : Int32))
    rw [e2]
    exact ⟨rfl, N3, KC3, V2⟩
theorem ef_rmPu1B (mi : MethodId) (ea : Addr) (x : Int32) (ke : ClassId) (wa : Int32) (wb : Int32) (wc : Int32) (wd : Int32) : entryFrame mi #[(.ref ea), (.int 1), (.int x)] 3 = mkF mi 0 #[.val (.ref ea), .val (.int 1), .val (.int x)] [] := by first | (simp [entryFrame, mkF, argsToLocals, Value.category]; done) | rfl
def Q_rmPu1B (Z : State) (ea : Addr) (x : Int32) (ke : ClassId) (wa : Int32) (wb : Int32) (wc : Int32) (wd : Int32) (h0 : Heap) (n0 : Nat) (vv_ : Option Value) (hh_ : Heap) (LL_ : List Loc) : Prop := vv_ = some (.int (3 : Int32)) ∧ Fr n0 LL_ ∧ Keep h0 hh_ [ea] ∧ Arv Z hh_ ea ke .byte (4 : Int32) [(.int wa), (.int (pu1 x)), (.int (pu2 x)), (.int wd)] (.int (0 : Int32))
set_option maxRecDepth 65536 in
set_option maxHeartbeats 40000000 in
theorem rmPu1B (l : Launch) (Z : State) (a0 : Array Value) (hw : ∀ d ∈ tables_1, d.before a0 Z = true) (ws : List Jvm.Cond) (ea : Addr) (x : Int32) (ke : ClassId) (wa : Int32) (wb : Int32) (wc : Int32) (wd : Int32) (h0 : Heap) (n0 : Nat) (Z0 : n0 ≤ h0.size) (A0 : Arv Z h0 ea ke .byte (4 : Int32) [(.int wa), (.int wb), (.int wc), (.int wd)] (.int (0 : Int32))) (g_e : n0 ≤ ea) (hx8 : ¬ (x < (128 : Int32))) :
    MetFree l (⟨"com/example/crossbook/crossbook/venue/TextsIndexOfPinLaw", "put", "([BIC)I"⟩ : MethodName) (head1 (Jvm.Cond.code (⟨"com/example/crossbook/crossbook/venue/TextsIndexOfPinLaw", "put", "([BIC)I"⟩ : MethodName) method_4_code 3 (some .int) :: ws) ({ frames := 0, cells := 0, slots := 0, locals := 0 } : Room)) (fun aa_ U => aa_ = #[(.ref ea), (.int 1), (.int x)] ∧ Z.Warmed39 U.vm ∧ U.heap = h0) (fun _ _ _ _ _ => True) (fun _ U oo_ UV_ => ∃ vv_ LL_, oo_ = .returned vv_ ∧ Q_rmPu1B Z ea x ke wa wb wc wd h0 n0 vv_ UV_.heap LL_ ∧ FrameEnd U oo_ UV_ LL_ ({ frames := 0, cells := 0, slots := 0, locals := 0 } : Room).cells ({ frames := 0, cells := 0, slots := 0, locals := 0 } : Room).slots) := by
  refine MetFree.of_bodySF (plainFor_of_name pn_3) hisR ?_
  intro pg ev si mi args below meth ci s₁ Bd hml0 hP0 hK
  obtain ⟨rfl, hZ, hh⟩ := hP0
  have hx := Bd.exec
  have hby := Bd.bytes
  have hml : ci.maxLocals = 3 := hml0
  have hown : si.vm.findClass "com/example/crossbook/crossbook/venue/TextsIndexOfPinLaw" = some mi.cls := findClass_of_methodNamed Bd.named
  have hnm := (name_of_methodNamed Bd.named Bd.method).1
  have X0 : Stand pg l ev ({ frames := 0, cells := 0, slots := 0, locals := 0 } : Room) si mi #[(.ref ea), (.int 1), (.int x)] below meth ci s₁ [] 0 0 := Stand.of_body Bd
  have e0 : s₁.heap = h0 := by rw [← hh, Bd.state]; rfl
  have N0 := Fr.nil n0
  refine Go.start (fun P hP => ?_)
  refine Go.st (fun t_ k_ => castTop (ef_rmPu1B mi ea x ke wa wb wc wd) k_) (A := s₁.setTop (mkF mi 0 #[.val (.ref ea), .val (.int 1), .val (.int x)] [])) ?_
  show Go _ _ _ (s₁.setTop (mkF mi 0 #[.val (.ref ea), .val (.int 1), .val (.int x)] [])) _
  refine g_iloadN X0 hx hby dc23_0 rfl ?_
  refine g_sipush X0 hx hby dc23_1 (v := 128) rfl ?_
  refine g_icmpYes X0 hx hby dc23_4 (flt hx8).2.1 (pc0 := 4) (pc' := 16) rfl (by decide) (by decide) ?_
  refine g_aloadN X0 hx hby dc23_16 rfl rfl ?_
  refine g_iloadN X0 hx hby dc23_17 rfl ?_
  refine g_sipush X0 hx hby dc23_18 (v := 192) rfl ?_
  refine g_iloadN X0 hx hby dc23_21 rfl ?_
  refine g_bipush X0 hx hby dc23_22 (v := 6) rfl ?_
  refine Go.s (XS.iushr X0.here hx rfl (hb hby dc23_24) rfl) ?_
  refine g_ior X0 hx hby dc23_25 rfl ?_
  refine g_i2b X0 hx hby dc23_26 rfl ?_
  have ov1 := A0
  obtain ⟨cl1, Ar1, q1, S1, M1, H1, G1⟩ := ov1
  have hin1 : ¬ ((1 : Int32) < 0 ∨ cl1.slots.size ≤ ((1 : Int32)).toNatClampNeg) := inb_of S1 ⟨by decide, by decide⟩
  obtain ⟨T2, h2, X2, e2, W2, st2⟩ := stB X0 hx hZ e0 Ar1 (j := (1 : Int32)) hin1 (g := (mkF mi 27 #[.val (.ref ea), .val (.int 1), .val (.int x)] [(.int (((192 : Int32) ||| ((x.toUInt32 >>> ((6 : Int32) &&& 31).toUInt32).toInt32)).toInt8.toInt32)), (.int 1), (.ref ea)])) rfl rfl (hb hby dc23_27)
  have Zs3 : n0 ≤ h2.size := Nat.le_trans Z0 (Keep.of_wr W2).1
  have KC3 : Keep h0 h2 [ea] := (Keep.refl h0 [ea]).wr W2 (Or.inl (List.mem_of_getElem? (i := 0) rfl))
  have N3 := Fr.snoc X2 N0 g_e
  have V2 : Arv Z h2 ea ke .byte (4 : Int32) [(.int wa), (.int ((((192 : Int32) ||| ((x.toUInt32 >>> ((6 : Int32) &&& 31).toUInt32).toInt32)).toInt8.toInt32).toInt8.toInt32)), (.int wc), (.int wd)] (.int (0 : Int32)) := Arv.set Ar1 q1 S1 M1 H1 G1 (fits_nar_byte _) W2 1 rfl (Nat.le_of_ble_eq_true rfl)
  rw [own_bb] at V2
  refine Go.st st2 ?_
  refine g_aloadN X2 hx hby dc23_28 rfl rfl ?_
  refine g_iloadN X2 hx hby dc23_29 rfl ?_
  refine g_iconst X2 hx hby dc23_30 (v := 1) rfl ?_
  refine g_iadd X2 hx hby dc23_31 (z := 2) rfl ?_
  refine g_sipush X2 hx hby dc23_32 (v := 128) rfl ?_
  refine g_iloadN X2 hx hby dc23_35 rfl ?_
  refine g_bipush X2 hx hby dc23_36 (v := 63) rfl ?_
  refine g_iand X2 hx hby dc23_38 rfl ?_
  refine g_ior X2 hx hby dc23_39 rfl ?_
  refine g_i2b X2 hx hby dc23_40 rfl ?_
  have ov4 := V2
  obtain ⟨cl4, Ar4, q4, S4, M4, H4, G4⟩ := ov4
  have hin4 : ¬ ((2 : Int32) < 0 ∨ cl4.slots.size ≤ ((2 : Int32)).toNatClampNeg) := inb_of S4 ⟨by decide, by decide⟩
  obtain ⟨T5, h5, X5, e5, W5, st5⟩ := stB X2 hx hZ e2 Ar4 (j := (2 : Int32)) hin4 (g := (mkF mi 41 #[.val (.ref ea), .val (.int 1), .val (.int x)] [(.int (((128 : Int32) ||| (x &&& (63 : Int32))).toInt8.toInt32)), (.int 2), (.ref ea)])) rfl rfl (hb hby dc23_41)
  have Zs6 : n0 ≤ h5.size := Nat.le_trans Zs3 (Keep.of_wr W5).1
  have KC6 : Keep h0 h5 [ea] := KC3.wr W5 (Or.inl (List.mem_of_getElem? (i := 0) rfl))
  have N6 := Fr.snoc X5 N3 g_e
  have V5 : Arv Z h5 ea ke .byte (4 : Int32) [(.int wa), (.int (((192 : Int32) ||| ((x.toUInt32 >>> ((6 : Int32) &&& 31).toUInt32).toInt32)).toInt8.toInt32)), (.int ((((128 : Int32) ||| (x &&& (63 : Int32))).toInt8.toInt32).toInt8.toInt32)), (.int wd)] (.int (0 : Int32)) := Arv.set Ar4 q4 S4 M4 H4 G4 (fits_nar_byte _) W5 2 rfl (Nat.le_of_ble_eq_true rfl)
  rw [own_bb] at V5
  refine Go.st st5 ?_
  show Go _ _ _ (T5.setTop (mkF mi 42 #[.val (.ref ea), .val (.int 1), .val (.int x)] [])) _
  refine g_iloadN X5 hx hby dc23_42 rfl ?_
  refine g_iconst X5 hx hby dc23_43 (v := 2) rfl ?_
  refine g_iadd X5 hx hby dc23_44 (z := 3) rfl ?_
  obtain ⟨fs, hr, hrun, hended, hW, hsame⟩ := X5.leave (v := some (.int 3)) (fun h => by rw [Bd.returns] at h; cases h) (BodyLoose.notSynchronized Bd)
  refine ⟨_, _, ?_, hP _ _ ⟨hrun, hended, _, _, rfl, ?_, ⟨_, rfl⟩, hW, hsame.mono (by decide) (by decide)⟩⟩
  · exact retI X5 hx Bd.returns (hb hby dc23_45) hr
  · show (some (.int 3) : Option Value) = some (.int (3 : Int32)) ∧ Fr n0 _ ∧ Keep h0 T5.heap [ea] ∧ Arv Z T5.heap ea ke .byte (4 : Int32) [(.int wa), (.int (pu1 x)), (.int (pu2 x)), (.int wd)] (.int (0 : Int32))
    rw [e5]
    exact ⟨rfl, N6, KC6, V5⟩
theorem ef_rmPu2A (mi : MethodId) (ea : Addr) (x : Int32) (ke : ClassId) (wa : Int32) (wb : Int32) (wc : Int32) (wd : Int32) : entryFrame mi #[(.ref ea), (.int 2), (.int x)] 3 = mkF mi 0 #[.val (.ref ea), .val (.int 2), .val (.int x)] [] := by first | (simp [entryFrame, mkF, argsToLocals, Value.category]; done) | rfl
def Q_rmPu2A (Z : State) (ea : Addr) (x : Int32) (ke : ClassId) (wa : Int32) (wb : Int32) (wc : Int32) (wd : Int32) (h0 : Heap) (n0 : Nat) (vv_ : Option Value) (hh_ : Heap) (LL_ : List Loc) : Prop := vv_ = some (.int (3 : Int32)) ∧ Fr n0 LL_ ∧ Keep h0 hh_ [ea] ∧ Arv Z hh_ ea ke .byte (4 : Int32) [(.int wa), (.int wb), (.int (x.toInt8.toInt32)), (.int wd)] (.int (0 : Int32))
set_option maxRecDepth 65536 in
set_option maxHeartbeats 40000000 in
theorem rmPu2A (l : Launch) (Z : State) (a0 : Array Value) (hw : ∀ d ∈ tables_1, d.before a0 Z = true) (ws : List Jvm.Cond) (ea : Addr) (x : Int32) (ke : ClassId) (wa : Int32) (wb : Int32) (wc : Int32) (wd : Int32) (h0 : Heap) (n0 : Nat) (Z0 : n0 ≤ h0.size) (A0 : Arv Z h0 ea ke .byte (4 : Int32) [(.int wa), (.int wb), (.int wc), (.int wd)] (.int (0 : Int32))) (g_e : n0 ≤ ea) (hx8 : x < (128 : Int32)) :
    MetFree l (⟨"com/example/crossbook/crossbook/venue/TextsIndexOfPinLaw", "put", "([BIC)I"⟩ : MethodName) (head1 (Jvm.Cond.code (⟨"com/example/crossbook/crossbook/venue/TextsIndexOfPinLaw", "put", "([BIC)I"⟩ : MethodName) method_4_code 3 (some .int) :: ws) ({ frames := 0, cells := 0, slots := 0, locals := 0 } : Room)) (fun aa_ U => aa_ = #[(.ref ea), (.int 2), (.int x)] ∧ Z.Warmed39 U.vm ∧ U.heap = h0) (fun _ _ _ _ _ => True) (fun _ U oo_ UV_ => ∃ vv_ LL_, oo_ = .returned vv_ ∧ Q_rmPu2A Z ea x ke wa wb wc wd h0 n0 vv_ UV_.heap LL_ ∧ FrameEnd U oo_ UV_ LL_ ({ frames := 0, cells := 0, slots := 0, locals := 0 } : Room).cells ({ frames := 0, cells := 0, slots := 0, locals := 0 } : Room).slots) := by
  refine MetFree.of_bodySF (plainFor_of_name pn_3) hisR ?_
  intro pg ev si mi args below meth ci s₁ Bd hml0 hP0 hK
  obtain ⟨rfl, hZ, hh⟩ := hP0
  have hx := Bd.exec
  have hby := Bd.bytes
  have hml : ci.maxLocals = 3 := hml0
  have hown : si.vm.findClass "com/example/crossbook/crossbook/venue/TextsIndexOfPinLaw" = some mi.cls := findClass_of_methodNamed Bd.named
  have hnm := (name_of_methodNamed Bd.named Bd.method).1
  have X0 : Stand pg l ev ({ frames := 0, cells := 0, slots := 0, locals := 0 } : Room) si mi #[(.ref ea), (.int 2), (.int x)] below meth ci s₁ [] 0 0 := Stand.of_body Bd
  have e0 : s₁.heap = h0 := by rw [← hh, Bd.state]; rfl
  have N0 := Fr.nil n0
  refine Go.start (fun P hP => ?_)
  refine Go.st (fun t_ k_ => castTop (ef_rmPu2A mi ea x ke wa wb wc wd) k_) (A := s₁.setTop (mkF mi 0 #[.val (.ref ea), .val (.int 2), .val (.int x)] [])) ?_
  show Go _ _ _ (s₁.setTop (mkF mi 0 #[.val (.ref ea), .val (.int 2), .val (.int x)] [])) _
  refine g_iloadN X0 hx hby dc23_0 rfl ?_
  refine g_sipush X0 hx hby dc23_1 (v := 128) rfl ?_
  refine g_icmpNo X0 hx hby dc23_4 (tlt hx8).2.1 ?_
  refine g_aloadN X0 hx hby dc23_7 rfl rfl ?_
  refine g_iloadN X0 hx hby dc23_8 rfl ?_
  refine g_iloadN X0 hx hby dc23_9 rfl ?_
  refine g_i2b X0 hx hby dc23_10 rfl ?_
  have ov1 := A0
  obtain ⟨cl1, Ar1, q1, S1, M1, H1, G1⟩ := ov1
  have hin1 : ¬ ((2 : Int32) < 0 ∨ cl1.slots.size ≤ ((2 : Int32)).toNatClampNeg) := inb_of S1 ⟨by decide, by decide⟩
  obtain ⟨T2, h2, X2, e2, W2, st2⟩ := stB X0 hx hZ e0 Ar1 (j := (2 : Int32)) hin1 (g := (mkF mi 11 #[.val (.ref ea), .val (.int 2), .val (.int x)] [(.int (x.toInt8.toInt32)), (.int 2), (.ref ea)])) rfl rfl (hb hby dc23_11)
  have Zs3 : n0 ≤ h2.size := Nat.le_trans Z0 (Keep.of_wr W2).1
  have KC3 : Keep h0 h2 [ea] := (Keep.refl h0 [ea]).wr W2 (Or.inl (List.mem_of_getElem? (i := 0) rfl))
  have N3 := Fr.snoc X2 N0 g_e
  have V2 : Arv Z h2 ea ke .byte (4 : Int32) [(.int wa), (.int wb), (.int ((x.toInt8.toInt32).toInt8.toInt32)), (.int wd)] (.int (0 : Int32)) := Arv.set Ar1 q1 S1 M1 H1 G1 (fits_nar_byte _) W2 2 rfl (Nat.le_of_ble_eq_true rfl)
  rw [own_bb] at V2
  refine Go.st st2 ?_
  refine g_iloadN X2 hx hby dc23_12 rfl ?_
  refine g_iconst X2 hx hby dc23_13 (v := 1) rfl ?_
  refine g_iadd X2 hx hby dc23_14 (z := 3) rfl ?_
  obtain ⟨fs, hr, hrun, hended, hW, hsame⟩ := X2.leave (v := some (.int 3)) (fun h => by rw [Bd.returns] at h; cases h) (BodyLoose.notSynchronized Bd)
  refine ⟨_, _, ?_, hP _ _ ⟨hrun, hended, _, _, rfl, ?_, ⟨_, rfl⟩, hW, hsame.mono (by decide) (by decide)⟩⟩
  · exact retI X2 hx Bd.returns (hb hby dc23_15) hr
  · show (some (.int 3) : Option Value) = some (.int (3 : Int32)) ∧ Fr n0 _ ∧ Keep h0 T2.heap [ea] ∧ Arv Z T2.heap ea ke .byte (4 : Int32) [(.int wa), (.int wb), (.int (x.toInt8.toInt32)), (.int wd)] (.int (0 : Int32))
    rw [e2]
    exact ⟨rfl, N3, KC3, V2⟩
theorem ef_rmPu2B (mi : MethodId) (ea : Addr) (x : Int32) (ke : ClassId) (wa : Int32) (wb : Int32) (wc : Int32) (wd : Int32) : entryFrame mi #[(.ref ea), (.int 2), (.int x)] 3 = mkF mi 0 #[.val (.ref ea), .val (.int 2), .val (.int x)] [] := by first | (simp [entryFrame, mkF, argsToLocals, Value.category]; done) | rfl
def Q_rmPu2B (Z : State) (ea : Addr) (x : Int32) (ke : ClassId) (wa : Int32) (wb : Int32) (wc : Int32) (wd : Int32) (h0 : Heap) (n0 : Nat) (vv_ : Option Value) (hh_ : Heap) (LL_ : List Loc) : Prop := vv_ = some (.int (4 : Int32)) ∧ Fr n0 LL_ ∧ Keep h0 hh_ [ea] ∧ Arv Z hh_ ea ke .byte (4 : Int32) [(.int wa), (.int wb), (.int (pu1 x)), (.int (pu2 x))] (.int (0 : Int32))
set_option maxRecDepth 65536 in
set_option maxHeartbeats 40000000 in
theorem rmPu2B (l : Launch) (Z : State) (a0 : Array Value) (hw : ∀ d ∈ tables_1, d.before a0 Z = true) (ws : List Jvm.Cond) (ea : Addr) (x : Int32) (ke : ClassId) (wa : Int32) (wb : Int32) (wc : Int32) (wd : Int32) (h0 : Heap) (n0 : Nat) (Z0 : n0 ≤ h0.size) (A0 : Arv Z h0 ea ke .byte (4 : Int32) [(.int wa), (.int wb), (.int wc), (.int wd)] (.int (0 : Int32))) (g_e : n0 ≤ ea) (hx8 : ¬ (x < (128 : Int32))) :
    MetFree l (⟨"com/example/crossbook/crossbook/venue/TextsIndexOfPinLaw", "put", "([BIC)I"⟩ : MethodName) (head1 (Jvm.Cond.code (⟨"com/example/crossbook/crossbook/venue/TextsIndexOfPinLaw", "put", "([BIC)I"⟩ : MethodName) method_4_code 3 (some .int) :: ws) ({ frames := 0, cells := 0, slots := 0, locals := 0 } : Room)) (fun aa_ U => aa_ = #[(.ref ea), (.int 2), (.int x)] ∧ Z.Warmed39 U.vm ∧ U.heap = h0) (fun _ _ _ _ _ => True) (fun _ U oo_ UV_ => ∃ vv_ LL_, oo_ = .returned vv_ ∧ Q_rmPu2B Z ea x ke wa wb wc wd h0 n0 vv_ UV_.heap LL_ ∧ FrameEnd U oo_ UV_ LL_ ({ frames := 0, cells := 0, slots := 0, locals := 0 } : Room).cells ({ frames := 0, cells := 0, slots := 0, locals := 0 } : Room).slots) := by
  refine MetFree.of_bodySF (plainFor_of_name pn_3) hisR ?_
  intro pg ev si mi args below meth ci s₁ Bd hml0 hP0 hK
  obtain ⟨rfl, hZ, hh⟩ := hP0
  have hx := Bd.exec
  have hby := Bd.bytes
  have hml : ci.maxLocals = 3 := hml0
  have hown : si.vm.findClass "com/example/crossbook/crossbook/venue/TextsIndexOfPinLaw" = some mi.cls := findClass_of_methodNamed Bd.named
  have hnm := (name_of_methodNamed Bd.named Bd.method).1
  have X0 : Stand pg l ev ({ frames := 0, cells := 0, slots := 0, locals := 0 } : Room) si mi #[(.ref ea), (.int 2), (.int x)] below meth ci s₁ [] 0 0 := Stand.of_body Bd
  have e0 : s₁.heap = h0 := by rw [← hh, Bd.state]; rfl
  have N0 := Fr.nil n0
  refine Go.start (fun P hP => ?_)
  refine Go.st (fun t_ k_ => castTop (ef_rmPu2B mi ea x ke wa wb wc wd) k_) (A := s₁.setTop (mkF mi 0 #[.val (.ref ea), .val (.int 2), .val (.int x)] [])) ?_
  show Go _ _ _ (s₁.setTop (mkF mi 0 #[.val (.ref ea), .val (.int 2), .val (.int x)] [])) _
  refine g_iloadN X0 hx hby dc23_0 rfl ?_
  refine g_sipush X0 hx hby dc23_1 (v := 128) rfl ?_
  refine g_icmpYes X0 hx hby dc23_4 (flt hx8).2.1 (pc0 := 4) (pc' := 16) rfl (by decide) (by decide) ?_
  refine g_aloadN X0 hx hby dc23_16 rfl rfl ?_
  refine g_iloadN X0 hx hby dc23_17 rfl ?_
  refine g_sipush X0 hx hby dc23_18 (v := 192) rfl ?_
  refine g_iloadN X0 hx hby dc23_21 rfl ?_
  refine g_bipush X0 hx hby dc23_22 (v := 6) rfl ?_
  refine Go.s (XS.iushr X0.here hx rfl (hb hby dc23_24) rfl) ?_
  refine g_ior X0 hx hby dc23_25 rfl ?_
  refine g_i2b X0 hx hby dc23_26 rfl ?_
  have ov1 := A0
  obtain ⟨cl1, Ar1, q1, S1, M1, H1, G1⟩ := ov1
  have hin1 : ¬ ((2 : Int32) < 0 ∨ cl1.slots.size ≤ ((2 : Int32)).toNatClampNeg) := inb_of S1 ⟨by decide, by decide⟩
  obtain ⟨T2, h2, X2, e2, W2, st2⟩ := stB X0 hx hZ e0 Ar1 (j := (2 : Int32)) hin1 (g := (mkF mi 27 #[.val (.ref ea), .val (.int 2), .val (.int x)] [(.int (((192 : Int32) ||| ((x.toUInt32 >>> ((6 : Int32) &&& 31).toUInt32).toInt32)).toInt8.toInt32)), (.int 2), (.ref ea)])) rfl rfl (hb hby dc23_27)
  have Zs3 : n0 ≤ h2.size := Nat.le_trans Z0 (Keep.of_wr W2).1
  have KC3 : Keep h0 h2 [ea] := (Keep.refl h0 [ea]).wr W2 (Or.inl (List.mem_of_getElem? (i := 0) rfl))
  have N3 := Fr.snoc X2 N0 g_e
  have V2 : Arv Z h2 ea ke .byte (4 : Int32) [(.int wa), (.int wb), (.int ((((192 : Int32) ||| ((x.toUInt32 >>> ((6 : Int32) &&& 31).toUInt32).toInt32)).toInt8.toInt32).toInt8.toInt32)), (.int wd)] (.int (0 : Int32)) := Arv.set Ar1 q1 S1 M1 H1 G1 (fits_nar_byte _) W2 2 rfl (Nat.le_of_ble_eq_true rfl)
  rw [own_bb] at V2
  refine Go.st st2 ?_
  refine g_aloadN X2 hx hby dc23_28 rfl rfl ?_
  refine g_iloadN X2 hx hby dc23_29 rfl ?_
  refine g_iconst X2 hx hby dc23_30 (v := 1) rfl ?_
  refine g_iadd X2 hx hby dc23_31 (z := 3) rfl ?_
  refine g_sipush X2 hx hby dc23_32 (v := 128) rfl ?_
  refine g_iloadN X2 hx hby dc23_35 rfl ?_
  refine g_bipush X2 hx hby dc23_36 (v := 63) rfl ?_
  refine g_iand X2 hx hby dc23_38 rfl ?_
  refine g_ior X2 hx hby dc23_39 rfl ?_
  refine g_i2b X2 hx hby dc23_40 rfl ?_
  have ov4 := V2
  obtain ⟨cl4, Ar4, q4, S4, M4, H4, G4⟩ := ov4
  have hin4 : ¬ ((3 : Int32) < 0 ∨ cl4.slots.size ≤ ((3 : Int32)).toNatClampNeg) := inb_of S4 ⟨by decide, by decide⟩
  obtain ⟨T5, h5, X5, e5, W5, st5⟩ := stB X2 hx hZ e2 Ar4 (j := (3 : Int32)) hin4 (g := (mkF mi 41 #[.val (.ref ea), .val (.int 2), .val (.int x)] [(.int (((128 : Int32) ||| (x &&& (63 : Int32))).toInt8.toInt32)), (.int 3), (.ref ea)])) rfl rfl (hb hby dc23_41)
  have Zs6 : n0 ≤ h5.size := Nat.le_trans Zs3 (Keep.of_wr W5).1
  have KC6 : Keep h0 h5 [ea] := KC3.wr W5 (Or.inl (List.mem_of_getElem? (i := 0) rfl))
  have N6 := Fr.snoc X5 N3 g_e
  have V5 : Arv Z h5 ea ke .byte (4 : Int32) [(.int wa), (.int wb), (.int (((192 : Int32) ||| ((x.toUInt32 >>> ((6 : Int32) &&& 31).toUInt32).toInt32)).toInt8.toInt32)), (.int ((((128 : Int32) ||| (x &&& (63 : Int32))).toInt8.toInt32).toInt8.toInt32))] (.int (0 : Int32)) := Arv.set Ar4 q4 S4 M4 H4 G4 (fits_nar_byte _) W5 3 rfl (Nat.le_of_ble_eq_true rfl)
  rw [own_bb] at V5
  refine Go.st st5 ?_
  show Go _ _ _ (T5.setTop (mkF mi 42 #[.val (.ref ea), .val (.int 2), .val (.int x)] [])) _
  refine g_iloadN X5 hx hby dc23_42 rfl ?_
  refine g_iconst X5 hx hby dc23_43 (v := 2) rfl ?_
  refine g_iadd X5 hx hby dc23_44 (z := 4) rfl ?_
  obtain ⟨fs, hr, hrun, hended, hW, hsame⟩ := X5.leave (v := some (.int 4)) (fun h => by rw [Bd.returns] at h; cases h) (BodyLoose.notSynchronized Bd)
  refine ⟨_, _, ?_, hP _ _ ⟨hrun, hended, _, _, rfl, ?_, ⟨_, rfl⟩, hW, hsame.mono (by decide) (by decide)⟩⟩
  · exact retI X5 hx Bd.returns (hb hby dc23_45) hr
  · show (some (.int 4) : Option Value) = some (.int (4 : Int32)) ∧ Fr n0 _ ∧ Keep h0 T5.heap [ea] ∧ Arv Z T5.heap ea ke .byte (4 : Int32) [(.int wa), (.int wb), (.int (pu1 x)), (.int (pu2 x))] (.int (0 : Int32))
    rw [e5]
    exact ⟨rfl, N6, KC6, V5⟩
theorem dc24_0 : decode method_5_code 0 = .ok (.iconst 4, 1) := by decide +kernel
theorem dc24_1 : decode method_5_code 1 = .ok (.newarray .byte, 2) := by decide +kernel
theorem dc24_3 : decode method_5_code 3 = .ok (.astore 6, 2) := by decide +kernel
theorem dc24_5 : decode method_5_code 5 = .ok (.iconst 0, 1) := by decide +kernel
theorem dc24_6 : decode method_5_code 6 = .ok (.istore 7, 2) := by decide +kernel
theorem dc24_8 : decode method_5_code 8 = .ok (.iload_n 0, 1) := by decide +kernel
theorem dc24_9 : decode method_5_code 9 = .ok (.iconst 1, 1) := by decide +kernel
theorem dc24_10 : decode method_5_code 10 = .ok (.if_icmp .lt 13, 3) := by decide +kernel
theorem dc24_23 : decode method_5_code 23 = .ok (.iload_n 0, 1) := by decide +kernel
theorem dc24_24 : decode method_5_code 24 = .ok (.iconst 2, 1) := by decide +kernel
theorem dc24_25 : decode method_5_code 25 = .ok (.if_icmp .lt 13, 3) := by decide +kernel
theorem dc24_38 : decode method_5_code 38 = .ok (.iload 5, 2) := by decide +kernel
theorem dc24_40 : decode method_5_code 40 = .ok (.iload 4, 2) := by decide +kernel
theorem dc24_42 : decode method_5_code 42 = .ok (.isub, 1) := by decide +kernel
theorem dc24_43 : decode method_5_code 43 = .ok (.iload 7, 2) := by decide +kernel
theorem dc24_45 : decode method_5_code 45 = .ok (.if_icmp .eq 5, 3) := by decide +kernel
theorem dc24_50 : decode method_5_code 50 = .ok (.iload 7, 2) := by decide +kernel
theorem dc24_52 : decode method_5_code 52 = .ok (.iconst 1, 1) := by decide +kernel
theorem dc24_53 : decode method_5_code 53 = .ok (.if_icmp .lt 16, 3) := by decide +kernel
theorem dc24_69 : decode method_5_code 69 = .ok (.iload 7, 2) := by decide +kernel
theorem dc24_71 : decode method_5_code 71 = .ok (.iconst 2, 1) := by decide +kernel
theorem dc24_72 : decode method_5_code 72 = .ok (.if_icmp .lt 18, 3) := by decide +kernel
theorem dc24_90 : decode method_5_code 90 = .ok (.iload 7, 2) := by decide +kernel
theorem dc24_92 : decode method_5_code 92 = .ok (.iconst 3, 1) := by decide +kernel
theorem dc24_93 : decode method_5_code 93 = .ok (.if_icmp .lt 18, 3) := by decide +kernel
theorem dc24_111 : decode method_5_code 111 = .ok (.iload 7, 2) := by decide +kernel
theorem dc24_113 : decode method_5_code 113 = .ok (.iconst 4, 1) := by decide +kernel
theorem dc24_114 : decode method_5_code 114 = .ok (.if_icmp .lt 18, 3) := by decide +kernel
theorem dc24_132 : decode method_5_code 132 = .ok (.iconst 1, 1) := by decide +kernel
theorem dc24_133 : decode method_5_code 133 = .ok (.ireturn, 1) := by decide +kernel
theorem dc24_48 : decode method_5_code 48 = .ok (.iconst 0, 1) := by decide +kernel
theorem dc24_49 : decode method_5_code 49 = .ok (.ireturn, 1) := by decide +kernel
theorem dc24_13 : decode method_5_code 13 = .ok (.aload 6, 2) := by decide +kernel
theorem dc24_15 : decode method_5_code 15 = .ok (.iload 7, 2) := by decide +kernel
theorem dc24_17 : decode method_5_code 17 = .ok (.iload_n 1, 1) := by decide +kernel
theorem dc24_18 : decode method_5_code 18 = .ok (.invokestatic 40, 3) := by decide +kernel
theorem pd_19 : parseMethodDescriptor "([BIC)I" = some ⟨[(.array .byte), .int, .char], some .int⟩ := by decide +kernel
theorem dc24_21 : decode method_5_code 21 = .ok (.istore 7, 2) := by decide +kernel
theorem dc24_56 : decode method_5_code 56 = .ok (.aload 6, 2) := by decide +kernel
theorem dc24_58 : decode method_5_code 58 = .ok (.iconst 0, 1) := by decide +kernel
theorem dc24_59 : decode method_5_code 59 = .ok (.baload, 1) := by decide +kernel
theorem dc24_60 : decode method_5_code 60 = .ok (.aload_n 3, 1) := by decide +kernel
theorem dc24_61 : decode method_5_code 61 = .ok (.iload 4, 2) := by decide +kernel
theorem dc24_63 : decode method_5_code 63 = .ok (.baload, 1) := by decide +kernel
theorem dc24_64 : decode method_5_code 64 = .ok (.if_icmp .eq 5, 3) := by decide +kernel
theorem dc24_67 : decode method_5_code 67 = .ok (.iconst 0, 1) := by decide +kernel
theorem dc24_68 : decode method_5_code 68 = .ok (.ireturn, 1) := by decide +kernel
theorem dc24_75 : decode method_5_code 75 = .ok (.aload 6, 2) := by decide +kernel
theorem dc24_77 : decode method_5_code 77 = .ok (.iconst 1, 1) := by decide +kernel
theorem dc24_78 : decode method_5_code 78 = .ok (.baload, 1) := by decide +kernel
theorem dc24_79 : decode method_5_code 79 = .ok (.aload_n 3, 1) := by decide +kernel
theorem dc24_80 : decode method_5_code 80 = .ok (.iload 4, 2) := by decide +kernel
theorem dc24_82 : decode method_5_code 82 = .ok (.iconst 1, 1) := by decide +kernel
theorem dc24_83 : decode method_5_code 83 = .ok (.iadd, 1) := by decide +kernel
theorem dc24_84 : decode method_5_code 84 = .ok (.baload, 1) := by decide +kernel
theorem dc24_85 : decode method_5_code 85 = .ok (.if_icmp .eq 5, 3) := by decide +kernel
theorem dc24_88 : decode method_5_code 88 = .ok (.iconst 0, 1) := by decide +kernel
theorem dc24_89 : decode method_5_code 89 = .ok (.ireturn, 1) := by decide +kernel
theorem dc24_28 : decode method_5_code 28 = .ok (.aload 6, 2) := by decide +kernel
theorem dc24_30 : decode method_5_code 30 = .ok (.iload 7, 2) := by decide +kernel
theorem dc24_32 : decode method_5_code 32 = .ok (.iload_n 2, 1) := by decide +kernel
theorem dc24_33 : decode method_5_code 33 = .ok (.invokestatic 40, 3) := by decide +kernel
theorem dc24_36 : decode method_5_code 36 = .ok (.istore 7, 2) := by decide +kernel
theorem dc24_96 : decode method_5_code 96 = .ok (.aload 6, 2) := by decide +kernel
theorem dc24_98 : decode method_5_code 98 = .ok (.iconst 2, 1) := by decide +kernel
theorem dc24_99 : decode method_5_code 99 = .ok (.baload, 1) := by decide +kernel
theorem dc24_100 : decode method_5_code 100 = .ok (.aload_n 3, 1) := by decide +kernel
theorem dc24_101 : decode method_5_code 101 = .ok (.iload 4, 2) := by decide +kernel
theorem dc24_103 : decode method_5_code 103 = .ok (.iconst 2, 1) := by decide +kernel
theorem dc24_104 : decode method_5_code 104 = .ok (.iadd, 1) := by decide +kernel
theorem dc24_105 : decode method_5_code 105 = .ok (.baload, 1) := by decide +kernel
theorem dc24_106 : decode method_5_code 106 = .ok (.if_icmp .eq 5, 3) := by decide +kernel
theorem dc24_109 : decode method_5_code 109 = .ok (.iconst 0, 1) := by decide +kernel
theorem dc24_110 : decode method_5_code 110 = .ok (.ireturn, 1) := by decide +kernel
theorem dc24_117 : decode method_5_code 117 = .ok (.aload 6, 2) := by decide +kernel
theorem dc24_119 : decode method_5_code 119 = .ok (.iconst 3, 1) := by decide +kernel
theorem dc24_120 : decode method_5_code 120 = .ok (.baload, 1) := by decide +kernel
theorem dc24_121 : decode method_5_code 121 = .ok (.aload_n 3, 1) := by decide +kernel
theorem dc24_122 : decode method_5_code 122 = .ok (.iload 4, 2) := by decide +kernel
theorem dc24_124 : decode method_5_code 124 = .ok (.iconst 3, 1) := by decide +kernel
theorem dc24_125 : decode method_5_code 125 = .ok (.iadd, 1) := by decide +kernel
theorem dc24_126 : decode method_5_code 126 = .ok (.baload, 1) := by decide +kernel
theorem dc24_127 : decode method_5_code 127 = .ok (.if_icmp .eq 5, 3) := by decide +kernel
theorem dc24_130 : decode method_5_code 130 = .ok (.iconst 0, 1) := by decide +kernel
theorem dc24_131 : decode method_5_code 131 = .ok (.ireturn, 1) := by decide +kernel
theorem ef_rmMa (mi : MethodId) (ln : Int32) (x : Int32) (y : Int32) (by_ : Addr) (fr : Int32) (tt : Int32) (ky : ClassId) (y0_ : Int32) (y1_ : Int32) (y2_ : Int32) (y3_ : Int32) (y4_ : Int32) : entryFrame mi #[(.int ln), (.int x), (.int y), (.ref by_), (.int fr), (.int tt)] 8 = mkF mi 0 #[.val (.int ln), .val (.int x), .val (.int y), .val (.ref by_), .val (.int fr), .val (.int tt), .unset, .unset] [] := by first | (simp [entryFrame, mkF, argsToLocals, Value.category]; done) | rfl
def Q_rmMa (Z : State) (ln : Int32) (x : Int32) (y : Int32) (by_ : Addr) (fr : Int32) (tt : Int32) (ky : ClassId) (y0_ : Int32) (y1_ : Int32) (y2_ : Int32) (y3_ : Int32) (y4_ : Int32) (h0 : Heap) (n0 : Nat) (vv_ : Option Value) (hh_ : Heap) (LL_ : List Loc) : Prop := vv_ = some (.int (if (eN ln (x.toInt8.toInt32) (y.toInt8.toInt32)) = (tt - fr) ∧ Mt (eL ln (x.toInt8.toInt32) (y.toInt8.toInt32)) [y0_, y1_, y2_, y3_, y4_] fr.toNatClampNeg = true then (1 : Int32) else (0 : Int32))) ∧ Fr n0 LL_ ∧ Keep h0 hh_ []
set_option maxRecDepth 65536 in
set_option maxHeartbeats 40000000 in
theorem rmMa (l : Launch) (Z : State) (a0 : Array Value) (hw : ∀ d ∈ tables_1, d.before a0 Z = true) (ws : List Jvm.Cond) (ln : Int32) (x : Int32) (y : Int32) (by_ : Addr) (fr : Int32) (tt : Int32) (ky : ClassId) (y0_ : Int32) (y1_ : Int32) (y2_ : Int32) (y3_ : Int32) (y4_ : Int32) (h0 : Heap) (n0 : Nat) (Z0 : n0 ≤ h0.size) (Y0 : Arv Z h0 by_ ky .byte (5 : Int32) [(.int y0_), (.int y1_), (.int y2_), (.int y3_), (.int y4_)] (.int (0 : Int32))) (hl : ln = 0 ∨ ln = 1 ∨ ln = 2) (hx1 : 0 ≤ x.toInt) (hx2 : x.toInt ≤ 255) (hy1 : 0 ≤ y.toInt) (hy2 : y.toInt ≤ 255) (hf0 : 0 ≤ fr.toInt) (hft : fr.toInt + (tt - fr).toInt ≤ 5) :
    MetFree l (⟨"com/example/crossbook/crossbook/venue/TextsIndexOfPinLaw", "matches", "(ICC[BII)Z"⟩ : MethodName) (head1 (Jvm.Cond.code (⟨"com/example/crossbook/crossbook/venue/TextsIndexOfPinLaw", "matches", "(ICC[BII)Z"⟩ : MethodName) method_5_code 8 (some .boolean) :: ws) ({ frames := 1, cells := 1, slots := 4, locals := 14 } : Room)) (fun aa_ U => aa_ = #[(.int ln), (.int x), (.int y), (.ref by_), (.int fr), (.int tt)] ∧ Z.Warmed39 U.vm ∧ U.heap = h0) (fun _ _ _ _ _ => True) (fun _ U oo_ UV_ => ∃ vv_ LL_, oo_ = .returned vv_ ∧ Q_rmMa Z ln x y by_ fr tt ky y0_ y1_ y2_ y3_ y4_ h0 n0 vv_ UV_.heap LL_ ∧ FrameEnd U oo_ UV_ LL_ ({ frames := 1, cells := 1, slots := 4, locals := 14 } : Room).cells ({ frames := 1, cells := 1, slots := 4, locals := 14 } : Room).slots) := by
  refine MetFree.of_bodySF (plainFor_of_name pn_3) hisR ?_
  intro pg ev si mi args below meth ci s₁ Bd hml0 hP0 hK
  obtain ⟨rfl, hZ, hh⟩ := hP0
  have hx := Bd.exec
  have hby := Bd.bytes
  have hml : ci.maxLocals = 8 := hml0
  have hown : si.vm.findClass "com/example/crossbook/crossbook/venue/TextsIndexOfPinLaw" = some mi.cls := findClass_of_methodNamed Bd.named
  have hnm := (name_of_methodNamed Bd.named Bd.method).1
  have X0 : Stand pg l ev ({ frames := 1, cells := 1, slots := 4, locals := 14 } : Room) si mi #[(.int ln), (.int x), (.int y), (.ref by_), (.int fr), (.int tt)] below meth ci s₁ [] 0 0 := Stand.of_body Bd
  have e0 : s₁.heap = h0 := by rw [← hh, Bd.state]; rfl
  have N0 := Fr.nil n0
  refine Go.start (fun P hP => ?_)
  refine Go.st (fun t_ k_ => castTop (ef_rmMa mi ln x y by_ fr tt ky y0_ y1_ y2_ y3_ y4_) k_) (A := s₁.setTop (mkF mi 0 #[.val (.int ln), .val (.int x), .val (.int y), .val (.ref by_), .val (.int fr), .val (.int tt), .unset, .unset] [])) ?_
  show Go _ _ _ (s₁.setTop (mkF mi 0 #[.val (.int ln), .val (.int x), .val (.int y), .val (.ref by_), .val (.int fr), .val (.int tt), .unset, .unset] [])) _
  rcases hl with hN | hN | hN
  · rw [hN]
    show Go _ _ _ (s₁.setTop (mkF mi 0 #[.val (.int 0), .val (.int x), .val (.int y), .val (.ref by_), .val (.int fr), .val (.int tt), .unset, .unset] [])) _
    refine g_iconst X0 hx hby dc24_0 (v := 4) rfl ?_
    obtain ⟨T1, h1, k1, X1, e1, E1, A1, EX1, st1⟩ := newPE X0 hx hZ (hw _ (own_m 8 rfl)) e0 (g := (mkF mi 1 #[.val (.int 0), .val (.int x), .val (.int y), .val (.ref by_), .val (.int fr), .val (.int tt), .unset, .unset] [(.int 4)])) rfl (hb hby dc24_1) rfl (by decide) (cap := 4) (by decide) (by decide) (by decide) (by decide) (ad := "[B") (by decide)
    obtain ⟨ob1, g1⟩ : ∃ z, z = h0.size := ⟨_, rfl⟩
    rw [← g1] at A1 EX1 st1
    have Zs2 : n0 ≤ h1.size := Nat.le_trans Z0 E1.1
    have KC2 : Keep h0 h1 [] := (Keep.refl h0 []).ext E1
    have g_ob1 : n0 ≤ ob1 := Nat.le_trans Z0 (Nat.le_of_eq g1.symm)
    have sz_ob1 : h0.size ≤ ob1 := Nat.le_trans (Keep.refl h0 []).1 (Nat.le_of_eq g1.symm)
    have V1 : Arv Z h1 ob1 k1 .byte (4 : Int32) [(.int (0 : Int32)), (.int (0 : Int32)), (.int (0 : Int32)), (.int (0 : Int32))] (.int (0 : Int32)) := (Arv.new A1 (by decide)).pad (pad_rep [] (.int (0 : Int32)) 4)
    refine Go.st st1 ?_
    refine g_astore X1 hx hby dc24_3 rfl (l' := #[.val (.int 0), .val (.int x), .val (.int y), .val (.ref by_), .val (.int fr), .val (.int tt), .val (.ref ob1), .unset]) rfl ?_
    refine g_iconst X1 hx hby dc24_5 (v := 0) rfl ?_
    refine g_istore X1 hx hby dc24_6 (l' := #[.val (.int 0), .val (.int x), .val (.int y), .val (.ref by_), .val (.int fr), .val (.int tt), .val (.ref ob1), .val (.int 0)]) rfl ?_
    refine g_iloadN X1 hx hby dc24_8 rfl ?_
    refine g_iconst X1 hx hby dc24_9 (v := 1) rfl ?_
    refine g_icmpYes X1 hx hby dc24_10 (tlt (by decide)).1 (pc0 := 10) (pc' := 23) rfl (by decide) (by decide) ?_
    refine g_iloadN X1 hx hby dc24_23 rfl ?_
    refine g_iconst X1 hx hby dc24_24 (v := 2) rfl ?_
    refine g_icmpYes X1 hx hby dc24_25 (tlt (by decide)).1 (pc0 := 25) (pc' := 38) rfl (by decide) (by decide) ?_
    refine g_iload X1 hx hby dc24_38 rfl ?_
    refine g_iload X1 hx hby dc24_40 rfl ?_
    refine g_isub X1 hx hby dc24_42 rfl ?_
    refine g_iload X1 hx hby dc24_43 rfl ?_
    by_cases hc45_1 : (tt - fr) = (0 : Int32)
    · refine g_icmpYes X1 hx hby dc24_45 (teq hc45_1).1 (pc0 := 45) (pc' := 50) rfl (by decide) (by decide) ?_
      refine g_iload X1 hx hby dc24_50 rfl ?_
      refine g_iconst X1 hx hby dc24_52 (v := 1) rfl ?_
      refine g_icmpYes X1 hx hby dc24_53 (tlt (by decide)).1 (pc0 := 53) (pc' := 69) rfl (by decide) (by decide) ?_
      refine g_iload X1 hx hby dc24_69 rfl ?_
      refine g_iconst X1 hx hby dc24_71 (v := 2) rfl ?_
      refine g_icmpYes X1 hx hby dc24_72 (tlt (by decide)).1 (pc0 := 72) (pc' := 90) rfl (by decide) (by decide) ?_
      refine g_iload X1 hx hby dc24_90 rfl ?_
      refine g_iconst X1 hx hby dc24_92 (v := 3) rfl ?_
      refine g_icmpYes X1 hx hby dc24_93 (tlt (by decide)).1 (pc0 := 93) (pc' := 111) rfl (by decide) (by decide) ?_
      refine g_iload X1 hx hby dc24_111 rfl ?_
      refine g_iconst X1 hx hby dc24_113 (v := 4) rfl ?_
      refine g_icmpYes X1 hx hby dc24_114 (tlt (by decide)).1 (pc0 := 114) (pc' := 132) rfl (by decide) (by decide) ?_
      refine g_iconst X1 hx hby dc24_132 (v := 1) rfl ?_
      obtain ⟨fs, hr, hrun, hended, hW, hsame⟩ := X1.leave (v := some (.int 1)) (fun h => by rw [Bd.returns] at h; cases h) (BodyLoose.notSynchronized Bd)
      refine ⟨_, _, ?_, hP _ _ ⟨hrun, hended, _, _, rfl, ?_, ⟨_, rfl⟩, hW, hsame.mono (by decide) (by decide)⟩⟩
      · exact retN X1 hx (t := .boolean) Bd.returns (by simp) (hb hby dc24_133) hr
      · show (some (.int 1) : Option Value) = some (.int (if (eN ln (x.toInt8.toInt32) (y.toInt8.toInt32)) = (tt - fr) ∧ Mt (eL ln (x.toInt8.toInt32) (y.toInt8.toInt32)) [y0_, y1_, y2_, y3_, y4_] fr.toNatClampNeg = true then (1 : Int32) else (0 : Int32))) ∧ Fr n0 _ ∧ Keep h0 T1.heap []
        rw [e1]
        have hE : eL ln (x.toInt8.toInt32) (y.toInt8.toInt32) = [] := by rw [hN, eL0] <;> rfl
        have hn : eN ln (x.toInt8.toInt32) (y.toInt8.toInt32) = (0 : Int32) := by unfold eN; rw [hE] <;> rfl
        refine ⟨?_, N0, KC2⟩
        have hm : Mt (eL ln (x.toInt8.toInt32) (y.toInt8.toInt32)) [y0_, y1_, y2_, y3_, y4_] fr.toNatClampNeg = true := by rw [hE]; exact own_mt.mpr (fun k hk => absurd hk (Nat.not_lt_zero _))
        rw [if_pos ⟨hn.trans hc45_1.symm, hm⟩]
    · refine g_icmpNo X1 hx hby dc24_45 (feq hc45_1).1 ?_
      refine g_iconst X1 hx hby dc24_48 (v := 0) rfl ?_
      show Go _ _ _ (T1.setTop (mkF mi 49 #[.val (.int 0), .val (.int x), .val (.int y), .val (.ref by_), .val (.int fr), .val (.int tt), .val (.ref ob1), .val (.int 0)] [(.int 0)])) _
      obtain ⟨fs, hr, hrun, hended, hW, hsame⟩ := X1.leave (v := some (.int 0)) (fun h => by rw [Bd.returns] at h; cases h) (BodyLoose.notSynchronized Bd)
      refine ⟨_, _, ?_, hP _ _ ⟨hrun, hended, _, _, rfl, ?_, ⟨_, rfl⟩, hW, hsame.mono (by decide) (by decide)⟩⟩
      · exact retN X1 hx (t := .boolean) Bd.returns (by simp) (hb hby dc24_49) hr
      · show (some (.int 0) : Option Value) = some (.int (if (eN ln (x.toInt8.toInt32) (y.toInt8.toInt32)) = (tt - fr) ∧ Mt (eL ln (x.toInt8.toInt32) (y.toInt8.toInt32)) [y0_, y1_, y2_, y3_, y4_] fr.toNatClampNeg = true then (1 : Int32) else (0 : Int32))) ∧ Fr n0 _ ∧ Keep h0 T1.heap []
        rw [e1]
        have hE : eL ln (x.toInt8.toInt32) (y.toInt8.toInt32) = [] := by rw [hN, eL0] <;> rfl
        have hn : eN ln (x.toInt8.toInt32) (y.toInt8.toInt32) = (0 : Int32) := by unfold eN; rw [hE] <;> rfl
        refine ⟨?_, N0, KC2⟩
        rw [if_neg (fun q => hc45_1 (q.1.symm.trans hn))]
  · rw [hN]
    show Go _ _ _ (s₁.setTop (mkF mi 0 #[.val (.int 1), .val (.int x), .val (.int y), .val (.ref by_), .val (.int fr), .val (.int tt), .unset, .unset] [])) _
    by_cases hxa : x < (128 : Int32)
    · skip
      refine g_iconst X0 hx hby dc24_0 (v := 4) rfl ?_
      obtain ⟨T3, h3, k3, X3, e3, E3, A3, EX3, st3⟩ := newPE X0 hx hZ (hw _ (own_m 8 rfl)) e0 (g := (mkF mi 1 #[.val (.int 1), .val (.int x), .val (.int y), .val (.ref by_), .val (.int fr), .val (.int tt), .unset, .unset] [(.int 4)])) rfl (hb hby dc24_1) rfl (by decide) (cap := 4) (by decide) (by decide) (by decide) (by decide) (ad := "[B") (by decide)
      obtain ⟨ob3, g3⟩ : ∃ z, z = h0.size := ⟨_, rfl⟩
      rw [← g3] at A3 EX3 st3
      have Zs4 : n0 ≤ h3.size := Nat.le_trans Z0 E3.1
      have KC4 : Keep h0 h3 [] := (Keep.refl h0 []).ext E3
      have g_ob3 : n0 ≤ ob3 := Nat.le_trans Z0 (Nat.le_of_eq g3.symm)
      have sz_ob3 : h0.size ≤ ob3 := Nat.le_trans (Keep.refl h0 []).1 (Nat.le_of_eq g3.symm)
      have V3 : Arv Z h3 ob3 k3 .byte (4 : Int32) [(.int (0 : Int32)), (.int (0 : Int32)), (.int (0 : Int32)), (.int (0 : Int32))] (.int (0 : Int32)) := (Arv.new A3 (by decide)).pad (pad_rep [] (.int (0 : Int32)) 4)
      refine Go.st st3 ?_
      refine g_astore X3 hx hby dc24_3 rfl (l' := #[.val (.int 1), .val (.int x), .val (.int y), .val (.ref by_), .val (.int fr), .val (.int tt), .val (.ref ob3), .unset]) rfl ?_
      refine g_iconst X3 hx hby dc24_5 (v := 0) rfl ?_
      refine g_istore X3 hx hby dc24_6 (l' := #[.val (.int 1), .val (.int x), .val (.int y), .val (.ref by_), .val (.int fr), .val (.int tt), .val (.ref ob3), .val (.int 0)]) rfl ?_
      refine g_iloadN X3 hx hby dc24_8 rfl ?_
      refine g_iconst X3 hx hby dc24_9 (v := 1) rfl ?_
      refine g_icmpNo X3 hx hby dc24_10 (flt (by decide)).1 ?_
      refine g_aload X3 hx hby dc24_13 rfl rfl ?_
      refine g_iload X3 hx hby dc24_15 rfl ?_
      refine g_iloadN X3 hx hby dc24_17 rfl ?_
      obtain ⟨_, _, ⟨T5, L5, k5, n5⟩, -, X5, ⟨Lc5, hQ5, l5, y5, z5⟩, st5⟩ := Jvm.LawKit.callS X3 hx (y := (⟨"com/example/crossbook/crossbook/venue/TextsIndexOfPinLaw", "put", "([BIC)I"⟩ : MethodName)) hown (mvT hZ (hw _ (own_m 145 rfl))) (mvT hZ (hw _ (own_m 146 rfl))) (mvT hZ (hw _ (own_m 3 rfl))) (mvT hZ (hw _ (own_m 147 rfl))) (by decide) (backOf (W := 0) (rmPu0A l Z a0 hw [] ob3 x k3 (0 : Int32) (0 : Int32) (0 : Int32) (0 : Int32) h3 n0 Zs4 V3 g_ob3 hxa) hZ (hw _ (own_m 147 rfl)) (hw _ (own_m 3 rfl)) (by decide) (by decide)) (g := (mkF mi 18 #[.val (.int 1), .val (.int x), .val (.int y), .val (.ref by_), .val (.int fr), .val (.int tt), .val (.ref ob3), .val (.int 0)] [(.int x), (.int 0), (.ref ob3)])) rfl (by rw [hml]; rfl) (argsL := [(.ref ob3), (.int 0), (.int x)]) (rest := []) (lenOf pd_19 rfl) rfl (by show 2 * 0 + _ ≤ _; exact Nat.le_of_eq rfl) (hb hby dc24_18) (fun _ _ => ⟨rfl, e3, (by decide : 1 + 0 ≤ _), (by decide : 4 + 0 ≤ _)⟩)
      dsimp only [Pt.U, Pt.locs, Pt.cells, Pt.slots] at X5 l5 y5 z5 st5 hQ5
      subst l5 y5 z5
      have X5 := own_cs X5 (cells' := 1) (slots' := 4) rfl rfl
      obtain ⟨h5, e5⟩ : ∃ z, T5.heap = z := ⟨_, rfl⟩
      rw [e5] at hQ5
      obtain ⟨rfl, N5q, K5, VV_5⟩ := hQ5
      have N5 := Fr.app N0 N5q
      have Zs6 : n0 ≤ h5.size := Nat.le_trans Zs4 K5.1
      have KC6 : Keep h0 h5 [] := KC4.trans K5 (allS (P := fun x => x ∈ [] ∨ h0.size ≤ x) (Or.inr sz_ob3) all0)
      refine Go.st st5 ?_
      refine g_istore X5 hx hby dc24_21 (l' := #[.val (.int 1), .val (.int x), .val (.int y), .val (.ref by_), .val (.int fr), .val (.int tt), .val (.ref ob3), .val (.int 1)]) rfl ?_
      refine g_iloadN X5 hx hby dc24_23 rfl ?_
      refine g_iconst X5 hx hby dc24_24 (v := 2) rfl ?_
      refine g_icmpYes X5 hx hby dc24_25 (tlt (by decide)).1 (pc0 := 25) (pc' := 38) rfl (by decide) (by decide) ?_
      refine g_iload X5 hx hby dc24_38 rfl ?_
      refine g_iload X5 hx hby dc24_40 rfl ?_
      refine g_isub X5 hx hby dc24_42 rfl ?_
      refine g_iload X5 hx hby dc24_43 rfl ?_
      by_cases hc45_2 : (tt - fr) = (1 : Int32)
      · refine g_icmpYes X5 hx hby dc24_45 (teq hc45_2).1 (pc0 := 45) (pc' := 50) rfl (by decide) (by decide) ?_
        refine g_iload X5 hx hby dc24_50 rfl ?_
        refine g_iconst X5 hx hby dc24_52 (v := 1) rfl ?_
        refine g_icmpNo X5 hx hby dc24_53 (flt (by decide)).1 ?_
        refine g_aload X5 hx hby dc24_56 rfl rfl ?_
        refine g_iconst X5 hx hby dc24_58 (v := 0) rfl ?_
        have ov7 := VV_5
        obtain ⟨cl7, Ar7, q7, S7, M7, H7, G7⟩ := ov7
        have hin7 : ¬ ((0 : Int32) < 0 ∨ cl7.slots.size ≤ ((0 : Int32)).toNatClampNeg) := inb_of S7 ⟨by decide, by decide⟩
        have hat7 : cl7.slots[((0 : Int32)).toNatClampNeg]? = some (.int (x.toInt8.toInt32)) := Has.at H7 hin7 rfl
        refine Go.st (X5.baloadBytes hx (j := (0 : Int32)) (v := (.int (x.toInt8.toInt32))) (by rw [e5]; exact Ar7.1) (State.isArrayOf_alike hZ.alike Ar7.2.1) Ar7.2.2 hin7 hat7 (g := (mkF mi 59 #[.val (.int 1), .val (.int x), .val (.int y), .val (.ref by_), .val (.int fr), .val (.int tt), .val (.ref ob3), .val (.int 1)] [(.int 0), (.ref ob3)])) rfl rfl (hb hby dc24_59)) ?_
        refine g_aloadN X5 hx hby dc24_60 rfl rfl ?_
        refine g_iload X5 hx hby dc24_61 rfl ?_
        have ne_by__ob3 : by_ ≠ ob3 := Nat.ne_of_lt (Nat.lt_of_lt_of_le Y0.lt (Nat.le_of_eq g3.symm))
        have f8 := ((Y0.ext E3).keep K5 (ninS ne_by__ob3 nin0))
        have ov9 := f8
        obtain ⟨cl9, Ar9, q9, S9, M9, H9, G9⟩ := ov9
        have hin9 : ¬ (fr < 0 ∨ cl9.slots.size ≤ (fr).toNatClampNeg) := inb_of S9 (own_in0 hf0 hft (show (0 : Int32) < (tt - fr) from by rw [hc45_2]; decide))
        have hat9 : cl9.slots[(fr).toNatClampNeg]? = some (.int ([y0_, y1_, y2_, y3_, y4_].getD (fr.toNatClampNeg + 0) 0)) := Has.at H9 hin9 (own_gm [y0_, y1_, y2_, y3_, y4_] _)
        refine Go.st (X5.baloadBytes hx (j := fr) (v := (.int ([y0_, y1_, y2_, y3_, y4_].getD (fr.toNatClampNeg + 0) 0))) (by rw [e5]; exact Ar9.1) (State.isArrayOf_alike hZ.alike Ar9.2.1) Ar9.2.2 hin9 hat9 (g := (mkF mi 63 #[.val (.int 1), .val (.int x), .val (.int y), .val (.ref by_), .val (.int fr), .val (.int tt), .val (.ref ob3), .val (.int 1)] [(.int fr), (.ref by_), (.int (x.toInt8.toInt32))])) rfl rfl (hb hby dc24_63)) ?_
        by_cases hc64_3 : (x.toInt8.toInt32) = ([y0_, y1_, y2_, y3_, y4_].getD (fr.toNatClampNeg + 0) 0)
        · refine g_icmpYes X5 hx hby dc24_64 (teq hc64_3).1 (pc0 := 64) (pc' := 69) rfl (by decide) (by decide) ?_
          show Go _ _ _ (T5.setTop (mkF mi 69 #[.val (.int 1), .val (.int x), .val (.int y), .val (.ref by_), .val (.int fr), .val (.int tt), .val (.ref ob3), .val (.int 1)] [])) _
          refine g_iload X5 hx hby dc24_69 rfl ?_
          refine g_iconst X5 hx hby dc24_71 (v := 2) rfl ?_
          refine g_icmpYes X5 hx hby dc24_72 (tlt (by decide)).1 (pc0 := 72) (pc' := 90) rfl (by decide) (by decide) ?_
          refine g_iload X5 hx hby dc24_90 rfl ?_
          refine g_iconst X5 hx hby dc24_92 (v := 3) rfl ?_
          refine g_icmpYes X5 hx hby dc24_93 (tlt (by decide)).1 (pc0 := 93) (pc' := 111) rfl (by decide) (by decide) ?_
          refine g_iload X5 hx hby dc24_111 rfl ?_
          refine g_iconst X5 hx hby dc24_113 (v := 4) rfl ?_
          refine g_icmpYes X5 hx hby dc24_114 (tlt (by decide)).1 (pc0 := 114) (pc' := 132) rfl (by decide) (by decide) ?_
          refine g_iconst X5 hx hby dc24_132 (v := 1) rfl ?_
          obtain ⟨fs, hr, hrun, hended, hW, hsame⟩ := X5.leave (v := some (.int 1)) (fun h => by rw [Bd.returns] at h; cases h) (BodyLoose.notSynchronized Bd)
          refine ⟨_, _, ?_, hP _ _ ⟨hrun, hended, _, _, rfl, ?_, ⟨_, rfl⟩, hW, hsame.mono (by decide) (by decide)⟩⟩
          · exact retN X5 hx (t := .boolean) Bd.returns (by simp) (hb hby dc24_133) hr
          · show (some (.int 1) : Option Value) = some (.int (if (eN ln (x.toInt8.toInt32) (y.toInt8.toInt32)) = (tt - fr) ∧ Mt (eL ln (x.toInt8.toInt32) (y.toInt8.toInt32)) [y0_, y1_, y2_, y3_, y4_] fr.toNatClampNeg = true then (1 : Int32) else (0 : Int32))) ∧ Fr n0 _ ∧ Keep h0 T5.heap []
            rw [e5]
            have hE : eL ln (x.toInt8.toInt32) (y.toInt8.toInt32) = [(x.toInt8.toInt32)] := by rw [hN, eL1, own_pa hx1 hx2 hxa] <;> rfl
            have hn : eN ln (x.toInt8.toInt32) (y.toInt8.toInt32) = (1 : Int32) := by unfold eN; rw [hE] <;> rfl
            refine ⟨?_, N5, KC6⟩
            have hm : Mt (eL ln (x.toInt8.toInt32) (y.toInt8.toInt32)) [y0_, y1_, y2_, y3_, y4_] fr.toNatClampNeg = true := by rw [hE]; exact own_mt.mpr (fun k hk => by
              match k, hk with
              | 0, _ => exact hc64_3)
            rw [if_pos ⟨hn.trans hc45_2.symm, hm⟩]
        · refine g_icmpNo X5 hx hby dc24_64 (feq hc64_3).1 ?_
          refine g_iconst X5 hx hby dc24_67 (v := 0) rfl ?_
          obtain ⟨fs, hr, hrun, hended, hW, hsame⟩ := X5.leave (v := some (.int 0)) (fun h => by rw [Bd.returns] at h; cases h) (BodyLoose.notSynchronized Bd)
          refine ⟨_, _, ?_, hP _ _ ⟨hrun, hended, _, _, rfl, ?_, ⟨_, rfl⟩, hW, hsame.mono (by decide) (by decide)⟩⟩
          · exact retN X5 hx (t := .boolean) Bd.returns (by simp) (hb hby dc24_68) hr
          · show (some (.int 0) : Option Value) = some (.int (if (eN ln (x.toInt8.toInt32) (y.toInt8.toInt32)) = (tt - fr) ∧ Mt (eL ln (x.toInt8.toInt32) (y.toInt8.toInt32)) [y0_, y1_, y2_, y3_, y4_] fr.toNatClampNeg = true then (1 : Int32) else (0 : Int32))) ∧ Fr n0 _ ∧ Keep h0 T5.heap []
            rw [e5]
            have hE : eL ln (x.toInt8.toInt32) (y.toInt8.toInt32) = [(x.toInt8.toInt32)] := by rw [hN, eL1, own_pa hx1 hx2 hxa] <;> rfl
            have hn : eN ln (x.toInt8.toInt32) (y.toInt8.toInt32) = (1 : Int32) := by unfold eN; rw [hE] <;> rfl
            refine ⟨?_, N5, KC6⟩
            rw [if_neg (fun (q : (eN ln (x.toInt8.toInt32) (y.toInt8.toInt32)) = (tt - fr) ∧ Mt (eL ln (x.toInt8.toInt32) (y.toInt8.toInt32)) [y0_, y1_, y2_, y3_, y4_] fr.toNatClampNeg = true) => hc64_3 ((own_mt (E := [(x.toInt8.toInt32)]) (bs := [y0_, y1_, y2_, y3_, y4_]) (f := fr.toNatClampNeg)).mp (hE ▸ q.2) 0 (by show 0 < 1; decide)))]
      · refine g_icmpNo X5 hx hby dc24_45 (feq hc45_2).1 ?_
        refine g_iconst X5 hx hby dc24_48 (v := 0) rfl ?_
        obtain ⟨fs, hr, hrun, hended, hW, hsame⟩ := X5.leave (v := some (.int 0)) (fun h => by rw [Bd.returns] at h; cases h) (BodyLoose.notSynchronized Bd)
        refine ⟨_, _, ?_, hP _ _ ⟨hrun, hended, _, _, rfl, ?_, ⟨_, rfl⟩, hW, hsame.mono (by decide) (by decide)⟩⟩
        · exact retN X5 hx (t := .boolean) Bd.returns (by simp) (hb hby dc24_49) hr
        · show (some (.int 0) : Option Value) = some (.int (if (eN ln (x.toInt8.toInt32) (y.toInt8.toInt32)) = (tt - fr) ∧ Mt (eL ln (x.toInt8.toInt32) (y.toInt8.toInt32)) [y0_, y1_, y2_, y3_, y4_] fr.toNatClampNeg = true then (1 : Int32) else (0 : Int32))) ∧ Fr n0 _ ∧ Keep h0 T5.heap []
          rw [e5]
          have hE : eL ln (x.toInt8.toInt32) (y.toInt8.toInt32) = [(x.toInt8.toInt32)] := by rw [hN, eL1, own_pa hx1 hx2 hxa] <;> rfl
          have hn : eN ln (x.toInt8.toInt32) (y.toInt8.toInt32) = (1 : Int32) := by unfold eN; rw [hE] <;> rfl
          refine ⟨?_, N5, KC6⟩
          rw [if_neg (fun q => hc45_2 (q.1.symm.trans hn))]
    · skip
      refine g_iconst X0 hx hby dc24_0 (v := 4) rfl ?_
      obtain ⟨T10, h10, k10, X10, e10, E10, A10, EX10, st10⟩ := newPE X0 hx hZ (hw _ (own_m 8 rfl)) e0 (g := (mkF mi 1 #[.val (.int 1), .val (.int x), .val (.int y), .val (.ref by_), .val (.int fr), .val (.int tt), .unset, .unset] [(.int 4)])) rfl (hb hby dc24_1) rfl (by decide) (cap := 4) (by decide) (by decide) (by decide) (by decide) (ad := "[B") (by decide)
      obtain ⟨ob10, g10⟩ : ∃ z, z = h0.size := ⟨_, rfl⟩
      rw [← g10] at A10 EX10 st10
      have Zs11 : n0 ≤ h10.size := Nat.le_trans Z0 E10.1
      have KC11 : Keep h0 h10 [] := (Keep.refl h0 []).ext E10
      have g_ob10 : n0 ≤ ob10 := Nat.le_trans Z0 (Nat.le_of_eq g10.symm)
      have sz_ob10 : h0.size ≤ ob10 := Nat.le_trans (Keep.refl h0 []).1 (Nat.le_of_eq g10.symm)
      have V10 : Arv Z h10 ob10 k10 .byte (4 : Int32) [(.int (0 : Int32)), (.int (0 : Int32)), (.int (0 : Int32)), (.int (0 : Int32))] (.int (0 : Int32)) := (Arv.new A10 (by decide)).pad (pad_rep [] (.int (0 : Int32)) 4)
      refine Go.st st10 ?_
      refine g_astore X10 hx hby dc24_3 rfl (l' := #[.val (.int 1), .val (.int x), .val (.int y), .val (.ref by_), .val (.int fr), .val (.int tt), .val (.ref ob10), .unset]) rfl ?_
      refine g_iconst X10 hx hby dc24_5 (v := 0) rfl ?_
      refine g_istore X10 hx hby dc24_6 (l' := #[.val (.int 1), .val (.int x), .val (.int y), .val (.ref by_), .val (.int fr), .val (.int tt), .val (.ref ob10), .val (.int 0)]) rfl ?_
      refine g_iloadN X10 hx hby dc24_8 rfl ?_
      refine g_iconst X10 hx hby dc24_9 (v := 1) rfl ?_
      refine g_icmpNo X10 hx hby dc24_10 (flt (by decide)).1 ?_
      refine g_aload X10 hx hby dc24_13 rfl rfl ?_
      refine g_iload X10 hx hby dc24_15 rfl ?_
      refine g_iloadN X10 hx hby dc24_17 rfl ?_
      obtain ⟨_, _, ⟨T12, L12, k12, n12⟩, -, X12, ⟨Lc12, hQ12, l12, y12, z12⟩, st12⟩ := Jvm.LawKit.callS X10 hx (y := (⟨"com/example/crossbook/crossbook/venue/TextsIndexOfPinLaw", "put", "([BIC)I"⟩ : MethodName)) hown (mvT hZ (hw _ (own_m 145 rfl))) (mvT hZ (hw _ (own_m 146 rfl))) (mvT hZ (hw _ (own_m 3 rfl))) (mvT hZ (hw _ (own_m 147 rfl))) (by decide) (backOf (W := 0) (rmPu0B l Z a0 hw [] ob10 x k10 (0 : Int32) (0 : Int32) (0 : Int32) (0 : Int32) h10 n0 Zs11 V10 g_ob10 hxa) hZ (hw _ (own_m 147 rfl)) (hw _ (own_m 3 rfl)) (by decide) (by decide)) (g := (mkF mi 18 #[.val (.int 1), .val (.int x), .val (.int y), .val (.ref by_), .val (.int fr), .val (.int tt), .val (.ref ob10), .val (.int 0)] [(.int x), (.int 0), (.ref ob10)])) rfl (by rw [hml]; rfl) (argsL := [(.ref ob10), (.int 0), (.int x)]) (rest := []) (lenOf pd_19 rfl) rfl (by show 2 * 0 + _ ≤ _; exact Nat.le_of_eq rfl) (hb hby dc24_18) (fun _ _ => ⟨rfl, e10, (by decide : 1 + 0 ≤ _), (by decide : 4 + 0 ≤ _)⟩)
      dsimp only [Pt.U, Pt.locs, Pt.cells, Pt.slots] at X12 l12 y12 z12 st12 hQ12
      subst l12 y12 z12
      have X12 := own_cs X12 (cells' := 1) (slots' := 4) rfl rfl
      obtain ⟨h12, e12⟩ : ∃ z, T12.heap = z := ⟨_, rfl⟩
      rw [e12] at hQ12
      obtain ⟨rfl, N12q, K12, VV_12⟩ := hQ12
      have N12 := Fr.app N0 N12q
      have Zs13 : n0 ≤ h12.size := Nat.le_trans Zs11 K12.1
      have KC13 : Keep h0 h12 [] := KC11.trans K12 (allS (P := fun x => x ∈ [] ∨ h0.size ≤ x) (Or.inr sz_ob10) all0)
      refine Go.st st12 ?_
      refine g_istore X12 hx hby dc24_21 (l' := #[.val (.int 1), .val (.int x), .val (.int y), .val (.ref by_), .val (.int fr), .val (.int tt), .val (.ref ob10), .val (.int 2)]) rfl ?_
      refine g_iloadN X12 hx hby dc24_23 rfl ?_
      refine g_iconst X12 hx hby dc24_24 (v := 2) rfl ?_
      refine g_icmpYes X12 hx hby dc24_25 (tlt (by decide)).1 (pc0 := 25) (pc' := 38) rfl (by decide) (by decide) ?_
      refine g_iload X12 hx hby dc24_38 rfl ?_
      show Go _ _ _ (T12.setTop (mkF mi 40 #[.val (.int 1), .val (.int x), .val (.int y), .val (.ref by_), .val (.int fr), .val (.int tt), .val (.ref ob10), .val (.int 2)] [(.int tt)])) _
      refine g_iload X12 hx hby dc24_40 rfl ?_
      refine g_isub X12 hx hby dc24_42 rfl ?_
      refine g_iload X12 hx hby dc24_43 rfl ?_
      by_cases hc45_4 : (tt - fr) = (2 : Int32)
      · refine g_icmpYes X12 hx hby dc24_45 (teq hc45_4).1 (pc0 := 45) (pc' := 50) rfl (by decide) (by decide) ?_
        refine g_iload X12 hx hby dc24_50 rfl ?_
        refine g_iconst X12 hx hby dc24_52 (v := 1) rfl ?_
        refine g_icmpNo X12 hx hby dc24_53 (flt (by decide)).1 ?_
        refine g_aload X12 hx hby dc24_56 rfl rfl ?_
        refine g_iconst X12 hx hby dc24_58 (v := 0) rfl ?_
        have ov14 := VV_12
        obtain ⟨cl14, Ar14, q14, S14, M14, H14, G14⟩ := ov14
        have hin14 : ¬ ((0 : Int32) < 0 ∨ cl14.slots.size ≤ ((0 : Int32)).toNatClampNeg) := inb_of S14 ⟨by decide, by decide⟩
        have hat14 : cl14.slots[((0 : Int32)).toNatClampNeg]? = some (.int (pu1 x)) := Has.at H14 hin14 rfl
        refine Go.st (X12.baloadBytes hx (j := (0 : Int32)) (v := (.int (pu1 x))) (by rw [e12]; exact Ar14.1) (State.isArrayOf_alike hZ.alike Ar14.2.1) Ar14.2.2 hin14 hat14 (g := (mkF mi 59 #[.val (.int 1), .val (.int x), .val (.int y), .val (.ref by_), .val (.int fr), .val (.int tt), .val (.ref ob10), .val (.int 2)] [(.int 0), (.ref ob10)])) rfl rfl (hb hby dc24_59)) ?_
        refine g_aloadN X12 hx hby dc24_60 rfl rfl ?_
        refine g_iload X12 hx hby dc24_61 rfl ?_
        have ne_by__ob10 : by_ ≠ ob10 := Nat.ne_of_lt (Nat.lt_of_lt_of_le Y0.lt (Nat.le_of_eq g10.symm))
        have f15 := ((Y0.ext E10).keep K12 (ninS ne_by__ob10 nin0))
        have ov16 := f15
        obtain ⟨cl16, Ar16, q16, S16, M16, H16, G16⟩ := ov16
        have hin16 : ¬ (fr < 0 ∨ cl16.slots.size ≤ (fr).toNatClampNeg) := inb_of S16 (own_in0 hf0 hft (show (0 : Int32) < (tt - fr) from by rw [hc45_4]; decide))
        have hat16 : cl16.slots[(fr).toNatClampNeg]? = some (.int ([y0_, y1_, y2_, y3_, y4_].getD (fr.toNatClampNeg + 0) 0)) := Has.at H16 hin16 (own_gm [y0_, y1_, y2_, y3_, y4_] _)
        refine Go.st (X12.baloadBytes hx (j := fr) (v := (.int ([y0_, y1_, y2_, y3_, y4_].getD (fr.toNatClampNeg + 0) 0))) (by rw [e12]; exact Ar16.1) (State.isArrayOf_alike hZ.alike Ar16.2.1) Ar16.2.2 hin16 hat16 (g := (mkF mi 63 #[.val (.int 1), .val (.int x), .val (.int y), .val (.ref by_), .val (.int fr), .val (.int tt), .val (.ref ob10), .val (.int 2)] [(.int fr), (.ref by_), (.int (pu1 x))])) rfl rfl (hb hby dc24_63)) ?_
        by_cases hc64_5 : (pu1 x) = ([y0_, y1_, y2_, y3_, y4_].getD (fr.toNatClampNeg + 0) 0)
        · refine g_icmpYes X12 hx hby dc24_64 (teq hc64_5).1 (pc0 := 64) (pc' := 69) rfl (by decide) (by decide) ?_
          refine g_iload X12 hx hby dc24_69 rfl ?_
          refine g_iconst X12 hx hby dc24_71 (v := 2) rfl ?_
          refine g_icmpNo X12 hx hby dc24_72 (flt (by decide)).1 ?_
          refine g_aload X12 hx hby dc24_75 rfl rfl ?_
          refine g_iconst X12 hx hby dc24_77 (v := 1) rfl ?_
          have ov17 := VV_12
          obtain ⟨cl17, Ar17, q17, S17, M17, H17, G17⟩ := ov17
          have hin17 : ¬ ((1 : Int32) < 0 ∨ cl17.slots.size ≤ ((1 : Int32)).toNatClampNeg) := inb_of S17 ⟨by decide, by decide⟩
          have hat17 : cl17.slots[((1 : Int32)).toNatClampNeg]? = some (.int (pu2 x)) := Has.at H17 hin17 rfl
          refine Go.st (X12.baloadBytes hx (j := (1 : Int32)) (v := (.int (pu2 x))) (by rw [e12]; exact Ar17.1) (State.isArrayOf_alike hZ.alike Ar17.2.1) Ar17.2.2 hin17 hat17 (g := (mkF mi 78 #[.val (.int 1), .val (.int x), .val (.int y), .val (.ref by_), .val (.int fr), .val (.int tt), .val (.ref ob10), .val (.int 2)] [(.int 1), (.ref ob10)])) rfl rfl (hb hby dc24_78)) ?_
          refine g_aloadN X12 hx hby dc24_79 rfl rfl ?_
          refine g_iload X12 hx hby dc24_80 rfl ?_
          refine g_iconst X12 hx hby dc24_82 (v := 1) rfl ?_
          refine g_iadd X12 hx hby dc24_83 rfl ?_
          have ov18 := f15
          obtain ⟨cl18, Ar18, q18, S18, M18, H18, G18⟩ := ov18
          have hin18 : ¬ ((fr + (1 : Int32)) < 0 ∨ cl18.slots.size ≤ ((fr + (1 : Int32))).toNatClampNeg) := inb_of S18 (own_in5 hf0 hft (by decide +kernel : (1 : Int32).toInt = ((1 : Nat) : Int)) (show (1 : Int32) < (tt - fr) from by rw [hc45_4]; decide))
          have hat18 : cl18.slots[((fr + (1 : Int32))).toNatClampNeg]? = some (.int ([y0_, y1_, y2_, y3_, y4_].getD (fr.toNatClampNeg + 1) 0)) := Has.at H18 hin18 (own_b5 _ _ _ _ _ hf0 hft (by decide +kernel : (1 : Int32).toInt = ((1 : Nat) : Int)) (show (1 : Int32) < (tt - fr) from by rw [hc45_4]; decide))
          refine Go.st (X12.baloadBytes hx (j := (fr + (1 : Int32))) (v := (.int ([y0_, y1_, y2_, y3_, y4_].getD (fr.toNatClampNeg + 1) 0))) (by rw [e12]; exact Ar18.1) (State.isArrayOf_alike hZ.alike Ar18.2.1) Ar18.2.2 hin18 hat18 (g := (mkF mi 84 #[.val (.int 1), .val (.int x), .val (.int y), .val (.ref by_), .val (.int fr), .val (.int tt), .val (.ref ob10), .val (.int 2)] [(.int (fr + (1 : Int32))), (.ref by_), (.int (pu2 x))])) rfl rfl (hb hby dc24_84)) ?_
          by_cases hc85_6 : (pu2 x) = ([y0_, y1_, y2_, y3_, y4_].getD (fr.toNatClampNeg + 1) 0)
          · refine g_icmpYes X12 hx hby dc24_85 (teq hc85_6).1 (pc0 := 85) (pc' := 90) rfl (by decide) (by decide) ?_
            refine g_iload X12 hx hby dc24_90 rfl ?_
            refine g_iconst X12 hx hby dc24_92 (v := 3) rfl ?_
            refine g_icmpYes X12 hx hby dc24_93 (tlt (by decide)).1 (pc0 := 93) (pc' := 111) rfl (by decide) (by decide) ?_
            refine g_iload X12 hx hby dc24_111 rfl ?_
            refine g_iconst X12 hx hby dc24_113 (v := 4) rfl ?_
            show Go _ _ _ (T12.setTop (mkF mi 114 #[.val (.int 1), .val (.int x), .val (.int y), .val (.ref by_), .val (.int fr), .val (.int tt), .val (.ref ob10), .val (.int 2)] [(.int 4), (.int 2)])) _
            refine g_icmpYes X12 hx hby dc24_114 (tlt (by decide)).1 (pc0 := 114) (pc' := 132) rfl (by decide) (by decide) ?_
            refine g_iconst X12 hx hby dc24_132 (v := 1) rfl ?_
            obtain ⟨fs, hr, hrun, hended, hW, hsame⟩ := X12.leave (v := some (.int 1)) (fun h => by rw [Bd.returns] at h; cases h) (BodyLoose.notSynchronized Bd)
            refine ⟨_, _, ?_, hP _ _ ⟨hrun, hended, _, _, rfl, ?_, ⟨_, rfl⟩, hW, hsame.mono (by decide) (by decide)⟩⟩
            · exact retN X12 hx (t := .boolean) Bd.returns (by simp) (hb hby dc24_133) hr
            · show (some (.int 1) : Option Value) = some (.int (if (eN ln (x.toInt8.toInt32) (y.toInt8.toInt32)) = (tt - fr) ∧ Mt (eL ln (x.toInt8.toInt32) (y.toInt8.toInt32)) [y0_, y1_, y2_, y3_, y4_] fr.toNatClampNeg = true then (1 : Int32) else (0 : Int32))) ∧ Fr n0 _ ∧ Keep h0 T12.heap []
              rw [e12]
              have hE : eL ln (x.toInt8.toInt32) (y.toInt8.toInt32) = [(pu1 x), (pu2 x)] := by rw [hN, eL1, own_pu hx1 hx2 hxa] <;> rfl
              have hn : eN ln (x.toInt8.toInt32) (y.toInt8.toInt32) = (2 : Int32) := by unfold eN; rw [hE] <;> rfl
              refine ⟨?_, N12, KC13⟩
              have hm : Mt (eL ln (x.toInt8.toInt32) (y.toInt8.toInt32)) [y0_, y1_, y2_, y3_, y4_] fr.toNatClampNeg = true := by rw [hE]; exact own_mt.mpr (fun k hk => by
                match k, hk with
                | 0, _ => exact hc64_5
                | 1, _ => exact hc85_6)
              rw [if_pos ⟨hn.trans hc45_4.symm, hm⟩]
          · refine g_icmpNo X12 hx hby dc24_85 (feq hc85_6).1 ?_
            refine g_iconst X12 hx hby dc24_88 (v := 0) rfl ?_
            obtain ⟨fs, hr, hrun, hended, hW, hsame⟩ := X12.leave (v := some (.int 0)) (fun h => by rw [Bd.returns] at h; cases h) (BodyLoose.notSynchronized Bd)
            refine ⟨_, _, ?_, hP _ _ ⟨hrun, hended, _, _, rfl, ?_, ⟨_, rfl⟩, hW, hsame.mono (by decide) (by decide)⟩⟩
            · exact retN X12 hx (t := .boolean) Bd.returns (by simp) (hb hby dc24_89) hr
            · show (some (.int 0) : Option Value) = some (.int (if (eN ln (x.toInt8.toInt32) (y.toInt8.toInt32)) = (tt - fr) ∧ Mt (eL ln (x.toInt8.toInt32) (y.toInt8.toInt32)) [y0_, y1_, y2_, y3_, y4_] fr.toNatClampNeg = true then (1 : Int32) else (0 : Int32))) ∧ Fr n0 _ ∧ Keep h0 T12.heap []
              rw [e12]
              have hE : eL ln (x.toInt8.toInt32) (y.toInt8.toInt32) = [(pu1 x), (pu2 x)] := by rw [hN, eL1, own_pu hx1 hx2 hxa] <;> rfl
              have hn : eN ln (x.toInt8.toInt32) (y.toInt8.toInt32) = (2 : Int32) := by unfold eN; rw [hE] <;> rfl
              refine ⟨?_, N12, KC13⟩
              rw [if_neg (fun (q : (eN ln (x.toInt8.toInt32) (y.toInt8.toInt32)) = (tt - fr) ∧ Mt (eL ln (x.toInt8.toInt32) (y.toInt8.toInt32)) [y0_, y1_, y2_, y3_, y4_] fr.toNatClampNeg = true) => hc85_6 ((own_mt (E := [(pu1 x), (pu2 x)]) (bs := [y0_, y1_, y2_, y3_, y4_]) (f := fr.toNatClampNeg)).mp (hE ▸ q.2) 1 (by show 1 < 2; decide)))]
        · refine g_icmpNo X12 hx hby dc24_64 (feq hc64_5).1 ?_
          refine g_iconst X12 hx hby dc24_67 (v := 0) rfl ?_
          obtain ⟨fs, hr, hrun, hended, hW, hsame⟩ := X12.leave (v := some (.int 0)) (fun h => by rw [Bd.returns] at h; cases h) (BodyLoose.notSynchronized Bd)
          refine ⟨_, _, ?_, hP _ _ ⟨hrun, hended, _, _, rfl, ?_, ⟨_, rfl⟩, hW, hsame.mono (by decide) (by decide)⟩⟩
          · exact retN X12 hx (t := .boolean) Bd.returns (by simp) (hb hby dc24_68) hr
          · show (some (.int 0) : Option Value) = some (.int (if (eN ln (x.toInt8.toInt32) (y.toInt8.toInt32)) = (tt - fr) ∧ Mt (eL ln (x.toInt8.toInt32) (y.toInt8.toInt32)) [y0_, y1_, y2_, y3_, y4_] fr.toNatClampNeg = true then (1 : Int32) else (0 : Int32))) ∧ Fr n0 _ ∧ Keep h0 T12.heap []
            rw [e12]
            have hE : eL ln (x.toInt8.toInt32) (y.toInt8.toInt32) = [(pu1 x), (pu2 x)] := by rw [hN, eL1, own_pu hx1 hx2 hxa] <;> rfl
            have hn : eN ln (x.toInt8.toInt32) (y.toInt8.toInt32) = (2 : Int32) := by unfold eN; rw [hE] <;> rfl
            refine ⟨?_, N12, KC13⟩
            rw [if_neg (fun (q : (eN ln (x.toInt8.toInt32) (y.toInt8.toInt32)) = (tt - fr) ∧ Mt (eL ln (x.toInt8.toInt32) (y.toInt8.toInt32)) [y0_, y1_, y2_, y3_, y4_] fr.toNatClampNeg = true) => hc64_5 ((own_mt (E := [(pu1 x), (pu2 x)]) (bs := [y0_, y1_, y2_, y3_, y4_]) (f := fr.toNatClampNeg)).mp (hE ▸ q.2) 0 (by show 0 < 2; decide)))]
      · refine g_icmpNo X12 hx hby dc24_45 (feq hc45_4).1 ?_
        refine g_iconst X12 hx hby dc24_48 (v := 0) rfl ?_
        obtain ⟨fs, hr, hrun, hended, hW, hsame⟩ := X12.leave (v := some (.int 0)) (fun h => by rw [Bd.returns] at h; cases h) (BodyLoose.notSynchronized Bd)
        refine ⟨_, _, ?_, hP _ _ ⟨hrun, hended, _, _, rfl, ?_, ⟨_, rfl⟩, hW, hsame.mono (by decide) (by decide)⟩⟩
        · exact retN X12 hx (t := .boolean) Bd.returns (by simp) (hb hby dc24_49) hr
        · show (some (.int 0) : Option Value) = some (.int (if (eN ln (x.toInt8.toInt32) (y.toInt8.toInt32)) = (tt - fr) ∧ Mt (eL ln (x.toInt8.toInt32) (y.toInt8.toInt32)) [y0_, y1_, y2_, y3_, y4_] fr.toNatClampNeg = true then (1 : Int32) else (0 : Int32))) ∧ Fr n0 _ ∧ Keep h0 T12.heap []
          rw [e12]
          have hE : eL ln (x.toInt8.toInt32) (y.toInt8.toInt32) = [(pu1 x), (pu2 x)] := by rw [hN, eL1, own_pu hx1 hx2 hxa] <;> rfl
          have hn : eN ln (x.toInt8.toInt32) (y.toInt8.toInt32) = (2 : Int32) := by unfold eN; rw [hE] <;> rfl
          refine ⟨?_, N12, KC13⟩
          rw [if_neg (fun q => hc45_4 (q.1.symm.trans hn))]
  · rw [hN]
    show Go _ _ _ (s₁.setTop (mkF mi 0 #[.val (.int 2), .val (.int x), .val (.int y), .val (.ref by_), .val (.int fr), .val (.int tt), .unset, .unset] [])) _
    by_cases hxa : x < (128 : Int32)
    · skip
      by_cases hya : y < (128 : Int32)
      · skip
        refine g_iconst X0 hx hby dc24_0 (v := 4) rfl ?_
        obtain ⟨T19, h19, k19, X19, e19, E19, A19, EX19, st19⟩ := newPE X0 hx hZ (hw _ (own_m 8 rfl)) e0 (g := (mkF mi 1 #[.val (.int 2), .val (.int x), .val (.int y), .val (.ref by_), .val (.int fr), .val (.int tt), .unset, .unset] [(.int 4)])) rfl (hb hby dc24_1) rfl (by decide) (cap := 4) (by decide) (by decide) (by decide) (by decide) (ad := "[B") (by decide)
        obtain ⟨ob19, g19⟩ : ∃ z, z = h0.size := ⟨_, rfl⟩
        rw [← g19] at A19 EX19 st19
        have Zs20 : n0 ≤ h19.size := Nat.le_trans Z0 E19.1
        have KC20 : Keep h0 h19 [] := (Keep.refl h0 []).ext E19
        have g_ob19 : n0 ≤ ob19 := Nat.le_trans Z0 (Nat.le_of_eq g19.symm)
        have sz_ob19 : h0.size ≤ ob19 := Nat.le_trans (Keep.refl h0 []).1 (Nat.le_of_eq g19.symm)
        have V19 : Arv Z h19 ob19 k19 .byte (4 : Int32) [(.int (0 : Int32)), (.int (0 : Int32)), (.int (0 : Int32)), (.int (0 : Int32))] (.int (0 : Int32)) := (Arv.new A19 (by decide)).pad (pad_rep [] (.int (0 : Int32)) 4)
        refine Go.st st19 ?_
        refine g_astore X19 hx hby dc24_3 rfl (l' := #[.val (.int 2), .val (.int x), .val (.int y), .val (.ref by_), .val (.int fr), .val (.int tt), .val (.ref ob19), .unset]) rfl ?_
        refine g_iconst X19 hx hby dc24_5 (v := 0) rfl ?_
        refine g_istore X19 hx hby dc24_6 (l' := #[.val (.int 2), .val (.int x), .val (.int y), .val (.ref by_), .val (.int fr), .val (.int tt), .val (.ref ob19), .val (.int 0)]) rfl ?_
        refine g_iloadN X19 hx hby dc24_8 rfl ?_
        refine g_iconst X19 hx hby dc24_9 (v := 1) rfl ?_
        refine g_icmpNo X19 hx hby dc24_10 (flt (by decide)).1 ?_
        refine g_aload X19 hx hby dc24_13 rfl rfl ?_
        refine g_iload X19 hx hby dc24_15 rfl ?_
        refine g_iloadN X19 hx hby dc24_17 rfl ?_
        obtain ⟨_, _, ⟨T21, L21, k21, n21⟩, -, X21, ⟨Lc21, hQ21, l21, y21, z21⟩, st21⟩ := Jvm.LawKit.callS X19 hx (y := (⟨"com/example/crossbook/crossbook/venue/TextsIndexOfPinLaw", "put", "([BIC)I"⟩ : MethodName)) hown (mvT hZ (hw _ (own_m 145 rfl))) (mvT hZ (hw _ (own_m 146 rfl))) (mvT hZ (hw _ (own_m 3 rfl))) (mvT hZ (hw _ (own_m 147 rfl))) (by decide) (backOf (W := 0) (rmPu0A l Z a0 hw [] ob19 x k19 (0 : Int32) (0 : Int32) (0 : Int32) (0 : Int32) h19 n0 Zs20 V19 g_ob19 hxa) hZ (hw _ (own_m 147 rfl)) (hw _ (own_m 3 rfl)) (by decide) (by decide)) (g := (mkF mi 18 #[.val (.int 2), .val (.int x), .val (.int y), .val (.ref by_), .val (.int fr), .val (.int tt), .val (.ref ob19), .val (.int 0)] [(.int x), (.int 0), (.ref ob19)])) rfl (by rw [hml]; rfl) (argsL := [(.ref ob19), (.int 0), (.int x)]) (rest := []) (lenOf pd_19 rfl) rfl (by show 2 * 0 + _ ≤ _; exact Nat.le_of_eq rfl) (hb hby dc24_18) (fun _ _ => ⟨rfl, e19, (by decide : 1 + 0 ≤ _), (by decide : 4 + 0 ≤ _)⟩)
        dsimp only [Pt.U, Pt.locs, Pt.cells, Pt.slots] at X21 l21 y21 z21 st21 hQ21
        subst l21 y21 z21
        have X21 := own_cs X21 (cells' := 1) (slots' := 4) rfl rfl
        obtain ⟨h21, e21⟩ : ∃ z, T21.heap = z := ⟨_, rfl⟩
        rw [e21] at hQ21
        obtain ⟨rfl, N21q, K21, VV_21⟩ := hQ21
        have N21 := Fr.app N0 N21q
        have Zs22 : n0 ≤ h21.size := Nat.le_trans Zs20 K21.1
        have KC22 : Keep h0 h21 [] := KC20.trans K21 (allS (P := fun x => x ∈ [] ∨ h0.size ≤ x) (Or.inr sz_ob19) all0)
        refine Go.st st21 ?_
        refine g_istore X21 hx hby dc24_21 (l' := #[.val (.int 2), .val (.int x), .val (.int y), .val (.ref by_), .val (.int fr), .val (.int tt), .val (.ref ob19), .val (.int 1)]) rfl ?_
        refine g_iloadN X21 hx hby dc24_23 rfl ?_
        refine g_iconst X21 hx hby dc24_24 (v := 2) rfl ?_
        refine g_icmpNo X21 hx hby dc24_25 (flt (by decide)).1 ?_
        refine g_aload X21 hx hby dc24_28 rfl rfl ?_
        refine g_iload X21 hx hby dc24_30 rfl ?_
        refine g_iloadN X21 hx hby dc24_32 rfl ?_
        obtain ⟨_, _, ⟨T23, L23, k23, n23⟩, -, X23, ⟨Lc23, hQ23, l23, y23, z23⟩, st23⟩ := Jvm.LawKit.callS X21 hx (y := (⟨"com/example/crossbook/crossbook/venue/TextsIndexOfPinLaw", "put", "([BIC)I"⟩ : MethodName)) hown (mvT hZ (hw _ (own_m 145 rfl))) (mvT hZ (hw _ (own_m 146 rfl))) (mvT hZ (hw _ (own_m 3 rfl))) (mvT hZ (hw _ (own_m 147 rfl))) (by decide) (backOf (W := 0) (rmPu1A l Z a0 hw [] ob19 y k19 (x.toInt8.toInt32) (0 : Int32) (0 : Int32) (0 : Int32) h21 n0 Zs22 VV_21 g_ob19 hya) hZ (hw _ (own_m 147 rfl)) (hw _ (own_m 3 rfl)) (by decide) (by decide)) (g := (mkF mi 33 #[.val (.int 2), .val (.int x), .val (.int y), .val (.ref by_), .val (.int fr), .val (.int tt), .val (.ref ob19), .val (.int 1)] [(.int y), (.int 1), (.ref ob19)])) rfl (by rw [hml]; rfl) (argsL := [(.ref ob19), (.int 1), (.int y)]) (rest := []) (lenOf pd_19 rfl) rfl (by show 2 * 0 + _ ≤ _; exact Nat.le_of_eq rfl) (hb hby dc24_33) (fun _ _ => ⟨rfl, e21, (by decide : 1 + 0 ≤ _), (by decide : 4 + 0 ≤ _)⟩)
        dsimp only [Pt.U, Pt.locs, Pt.cells, Pt.slots] at X23 l23 y23 z23 st23 hQ23
        subst l23 y23 z23
        have X23 := own_cs X23 (cells' := 1) (slots' := 4) rfl rfl
        obtain ⟨h23, e23⟩ : ∃ z, T23.heap = z := ⟨_, rfl⟩
        rw [e23] at hQ23
        obtain ⟨rfl, N23q, K23, VV_23⟩ := hQ23
        have N23 := Fr.app N21 N23q
        have Zs24 : n0 ≤ h23.size := Nat.le_trans Zs22 K23.1
        have KC24 : Keep h0 h23 [] := KC22.trans K23 (allS (P := fun x => x ∈ [] ∨ h0.size ≤ x) (Or.inr sz_ob19) all0)
        refine Go.st st23 ?_
        refine g_istore X23 hx hby dc24_36 (l' := #[.val (.int 2), .val (.int x), .val (.int y), .val (.ref by_), .val (.int fr), .val (.int tt), .val (.ref ob19), .val (.int 2)]) rfl ?_
        refine g_iload X23 hx hby dc24_38 rfl ?_
        refine g_iload X23 hx hby dc24_40 rfl ?_
        show Go _ _ _ (T23.setTop (mkF mi 42 #[.val (.int 2), .val (.int x), .val (.int y), .val (.ref by_), .val (.int fr), .val (.int tt), .val (.ref ob19), .val (.int 2)] [(.int fr), (.int tt)])) _
        refine g_isub X23 hx hby dc24_42 rfl ?_
        refine g_iload X23 hx hby dc24_43 rfl ?_
        by_cases hc45_7 : (tt - fr) = (2 : Int32)
        · refine g_icmpYes X23 hx hby dc24_45 (teq hc45_7).1 (pc0 := 45) (pc' := 50) rfl (by decide) (by decide) ?_
          refine g_iload X23 hx hby dc24_50 rfl ?_
          refine g_iconst X23 hx hby dc24_52 (v := 1) rfl ?_
          refine g_icmpNo X23 hx hby dc24_53 (flt (by decide)).1 ?_
          refine g_aload X23 hx hby dc24_56 rfl rfl ?_
          refine g_iconst X23 hx hby dc24_58 (v := 0) rfl ?_
          have ov25 := VV_23
          obtain ⟨cl25, Ar25, q25, S25, M25, H25, G25⟩ := ov25
          have hin25 : ¬ ((0 : Int32) < 0 ∨ cl25.slots.size ≤ ((0 : Int32)).toNatClampNeg) := inb_of S25 ⟨by decide, by decide⟩
          have hat25 : cl25.slots[((0 : Int32)).toNatClampNeg]? = some (.int (x.toInt8.toInt32)) := Has.at H25 hin25 rfl
          refine Go.st (X23.baloadBytes hx (j := (0 : Int32)) (v := (.int (x.toInt8.toInt32))) (by rw [e23]; exact Ar25.1) (State.isArrayOf_alike hZ.alike Ar25.2.1) Ar25.2.2 hin25 hat25 (g := (mkF mi 59 #[.val (.int 2), .val (.int x), .val (.int y), .val (.ref by_), .val (.int fr), .val (.int tt), .val (.ref ob19), .val (.int 2)] [(.int 0), (.ref ob19)])) rfl rfl (hb hby dc24_59)) ?_
          refine g_aloadN X23 hx hby dc24_60 rfl rfl ?_
          refine g_iload X23 hx hby dc24_61 rfl ?_
          have ne_by__ob19 : by_ ≠ ob19 := Nat.ne_of_lt (Nat.lt_of_lt_of_le Y0.lt (Nat.le_of_eq g19.symm))
          have f26 := (((Y0.ext E19).keep K21 (ninS ne_by__ob19 nin0)).keep K23 (ninS ne_by__ob19 nin0))
          have ov27 := f26
          obtain ⟨cl27, Ar27, q27, S27, M27, H27, G27⟩ := ov27
          have hin27 : ¬ (fr < 0 ∨ cl27.slots.size ≤ (fr).toNatClampNeg) := inb_of S27 (own_in0 hf0 hft (show (0 : Int32) < (tt - fr) from by rw [hc45_7]; decide))
          have hat27 : cl27.slots[(fr).toNatClampNeg]? = some (.int ([y0_, y1_, y2_, y3_, y4_].getD (fr.toNatClampNeg + 0) 0)) := Has.at H27 hin27 (own_gm [y0_, y1_, y2_, y3_, y4_] _)
          refine Go.st (X23.baloadBytes hx (j := fr) (v := (.int ([y0_, y1_, y2_, y3_, y4_].getD (fr.toNatClampNeg + 0) 0))) (by rw [e23]; exact Ar27.1) (State.isArrayOf_alike hZ.alike Ar27.2.1) Ar27.2.2 hin27 hat27 (g := (mkF mi 63 #[.val (.int 2), .val (.int x), .val (.int y), .val (.ref by_), .val (.int fr), .val (.int tt), .val (.ref ob19), .val (.int 2)] [(.int fr), (.ref by_), (.int (x.toInt8.toInt32))])) rfl rfl (hb hby dc24_63)) ?_
          by_cases hc64_8 : (x.toInt8.toInt32) = ([y0_, y1_, y2_, y3_, y4_].getD (fr.toNatClampNeg + 0) 0)
          · refine g_icmpYes X23 hx hby dc24_64 (teq hc64_8).1 (pc0 := 64) (pc' := 69) rfl (by decide) (by decide) ?_
            refine g_iload X23 hx hby dc24_69 rfl ?_
            refine g_iconst X23 hx hby dc24_71 (v := 2) rfl ?_
            refine g_icmpNo X23 hx hby dc24_72 (flt (by decide)).1 ?_
            refine g_aload X23 hx hby dc24_75 rfl rfl ?_
            refine g_iconst X23 hx hby dc24_77 (v := 1) rfl ?_
            have ov28 := VV_23
            obtain ⟨cl28, Ar28, q28, S28, M28, H28, G28⟩ := ov28
            have hin28 : ¬ ((1 : Int32) < 0 ∨ cl28.slots.size ≤ ((1 : Int32)).toNatClampNeg) := inb_of S28 ⟨by decide, by decide⟩
            have hat28 : cl28.slots[((1 : Int32)).toNatClampNeg]? = some (.int (y.toInt8.toInt32)) := Has.at H28 hin28 rfl
            refine Go.st (X23.baloadBytes hx (j := (1 : Int32)) (v := (.int (y.toInt8.toInt32))) (by rw [e23]; exact Ar28.1) (State.isArrayOf_alike hZ.alike Ar28.2.1) Ar28.2.2 hin28 hat28 (g := (mkF mi 78 #[.val (.int 2), .val (.int x), .val (.int y), .val (.ref by_), .val (.int fr), .val (.int tt), .val (.ref ob19), .val (.int 2)] [(.int 1), (.ref ob19)])) rfl rfl (hb hby dc24_78)) ?_
            refine g_aloadN X23 hx hby dc24_79 rfl rfl ?_
            refine g_iload X23 hx hby dc24_80 rfl ?_
            refine g_iconst X23 hx hby dc24_82 (v := 1) rfl ?_
            refine g_iadd X23 hx hby dc24_83 rfl ?_
            have ov29 := f26
            obtain ⟨cl29, Ar29, q29, S29, M29, H29, G29⟩ := ov29
            have hin29 : ¬ ((fr + (1 : Int32)) < 0 ∨ cl29.slots.size ≤ ((fr + (1 : Int32))).toNatClampNeg) := inb_of S29 (own_in5 hf0 hft (by decide +kernel : (1 : Int32).toInt = ((1 : Nat) : Int)) (show (1 : Int32) < (tt - fr) from by rw [hc45_7]; decide))
            have hat29 : cl29.slots[((fr + (1 : Int32))).toNatClampNeg]? = some (.int ([y0_, y1_, y2_, y3_, y4_].getD (fr.toNatClampNeg + 1) 0)) := Has.at H29 hin29 (own_b5 _ _ _ _ _ hf0 hft (by decide +kernel : (1 : Int32).toInt = ((1 : Nat) : Int)) (show (1 : Int32) < (tt - fr) from by rw [hc45_7]; decide))
            refine Go.st (X23.baloadBytes hx (j := (fr + (1 : Int32))) (v := (.int ([y0_, y1_, y2_, y3_, y4_].getD (fr.toNatClampNeg + 1) 0))) (by rw [e23]; exact Ar29.1) (State.isArrayOf_alike hZ.alike Ar29.2.1) Ar29.2.2 hin29 hat29 (g := (mkF mi 84 #[.val (.int 2), .val (.int x), .val (.int y), .val (.ref by_), .val (.int fr), .val (.int tt), .val (.ref ob19), .val (.int 2)] [(.int (fr + (1 : Int32))), (.ref by_), (.int (y.toInt8.toInt32))])) rfl rfl (hb hby dc24_84)) ?_
            by_cases hc85_9 : (y.toInt8.toInt32) = ([y0_, y1_, y2_, y3_, y4_].getD (fr.toNatClampNeg + 1) 0)
            · refine g_icmpYes X23 hx hby dc24_85 (teq hc85_9).1 (pc0 := 85) (pc' := 90) rfl (by decide) (by decide) ?_
              refine g_iload X23 hx hby dc24_90 rfl ?_
              refine g_iconst X23 hx hby dc24_92 (v := 3) rfl ?_
              refine g_icmpYes X23 hx hby dc24_93 (tlt (by decide)).1 (pc0 := 93) (pc' := 111) rfl (by decide) (by decide) ?_
              refine g_iload X23 hx hby dc24_111 rfl ?_
              refine g_iconst X23 hx hby dc24_113 (v := 4) rfl ?_
              refine g_icmpYes X23 hx hby dc24_114 (tlt (by decide)).1 (pc0 := 114) (pc' := 132) rfl (by decide) (by decide) ?_
              show Go _ _ _ (T23.setTop (mkF mi 132 #[.val (.int 2), .val (.int x), .val (.int y), .val (.ref by_), .val (.int fr), .val (.int tt), .val (.ref ob19), .val (.int 2)] [])) _
              refine g_iconst X23 hx hby dc24_132 (v := 1) rfl ?_
              obtain ⟨fs, hr, hrun, hended, hW, hsame⟩ := X23.leave (v := some (.int 1)) (fun h => by rw [Bd.returns] at h; cases h) (BodyLoose.notSynchronized Bd)
              refine ⟨_, _, ?_, hP _ _ ⟨hrun, hended, _, _, rfl, ?_, ⟨_, rfl⟩, hW, hsame.mono (by decide) (by decide)⟩⟩
              · exact retN X23 hx (t := .boolean) Bd.returns (by simp) (hb hby dc24_133) hr
              · show (some (.int 1) : Option Value) = some (.int (if (eN ln (x.toInt8.toInt32) (y.toInt8.toInt32)) = (tt - fr) ∧ Mt (eL ln (x.toInt8.toInt32) (y.toInt8.toInt32)) [y0_, y1_, y2_, y3_, y4_] fr.toNatClampNeg = true then (1 : Int32) else (0 : Int32))) ∧ Fr n0 _ ∧ Keep h0 T23.heap []
                rw [e23]
                have hE : eL ln (x.toInt8.toInt32) (y.toInt8.toInt32) = [(x.toInt8.toInt32), (y.toInt8.toInt32)] := by rw [hN, eL2, own_pa hx1 hx2 hxa, own_pa hy1 hy2 hya] <;> rfl
                have hn : eN ln (x.toInt8.toInt32) (y.toInt8.toInt32) = (2 : Int32) := by unfold eN; rw [hE] <;> rfl
                refine ⟨?_, N23, KC24⟩
                have hm : Mt (eL ln (x.toInt8.toInt32) (y.toInt8.toInt32)) [y0_, y1_, y2_, y3_, y4_] fr.toNatClampNeg = true := by rw [hE]; exact own_mt.mpr (fun k hk => by
                  match k, hk with
                  | 0, _ => exact hc64_8
                  | 1, _ => exact hc85_9)
                rw [if_pos ⟨hn.trans hc45_7.symm, hm⟩]
            · refine g_icmpNo X23 hx hby dc24_85 (feq hc85_9).1 ?_
              refine g_iconst X23 hx hby dc24_88 (v := 0) rfl ?_
              obtain ⟨fs, hr, hrun, hended, hW, hsame⟩ := X23.leave (v := some (.int 0)) (fun h => by rw [Bd.returns] at h; cases h) (BodyLoose.notSynchronized Bd)
              refine ⟨_, _, ?_, hP _ _ ⟨hrun, hended, _, _, rfl, ?_, ⟨_, rfl⟩, hW, hsame.mono (by decide) (by decide)⟩⟩
              · exact retN X23 hx (t := .boolean) Bd.returns (by simp) (hb hby dc24_89) hr
              · show (some (.int 0) : Option Value) = some (.int (if (eN ln (x.toInt8.toInt32) (y.toInt8.toInt32)) = (tt - fr) ∧ Mt (eL ln (x.toInt8.toInt32) (y.toInt8.toInt32)) [y0_, y1_, y2_, y3_, y4_] fr.toNatClampNeg = true then (1 : Int32) else (0 : Int32))) ∧ Fr n0 _ ∧ Keep h0 T23.heap []
                rw [e23]
                have hE : eL ln (x.toInt8.toInt32) (y.toInt8.toInt32) = [(x.toInt8.toInt32), (y.toInt8.toInt32)] := by rw [hN, eL2, own_pa hx1 hx2 hxa, own_pa hy1 hy2 hya] <;> rfl
                have hn : eN ln (x.toInt8.toInt32) (y.toInt8.toInt32) = (2 : Int32) := by unfold eN; rw [hE] <;> rfl
                refine ⟨?_, N23, KC24⟩
                rw [if_neg (fun (q : (eN ln (x.toInt8.toInt32) (y.toInt8.toInt32)) = (tt - fr) ∧ Mt (eL ln (x.toInt8.toInt32) (y.toInt8.toInt32)) [y0_, y1_, y2_, y3_, y4_] fr.toNatClampNeg = true) => hc85_9 ((own_mt (E := [(x.toInt8.toInt32), (y.toInt8.toInt32)]) (bs := [y0_, y1_, y2_, y3_, y4_]) (f := fr.toNatClampNeg)).mp (hE ▸ q.2) 1 (by show 1 < 2; decide)))]
          · refine g_icmpNo X23 hx hby dc24_64 (feq hc64_8).1 ?_
            refine g_iconst X23 hx hby dc24_67 (v := 0) rfl ?_
            obtain ⟨fs, hr, hrun, hended, hW, hsame⟩ := X23.leave (v := some (.int 0)) (fun h => by rw [Bd.returns] at h; cases h) (BodyLoose.notSynchronized Bd)
            refine ⟨_, _, ?_, hP _ _ ⟨hrun, hended, _, _, rfl, ?_, ⟨_, rfl⟩, hW, hsame.mono (by decide) (by decide)⟩⟩
            · exact retN X23 hx (t := .boolean) Bd.returns (by simp) (hb hby dc24_68) hr
            · show (some (.int 0) : Option Value) = some (.int (if (eN ln (x.toInt8.toInt32) (y.toInt8.toInt32)) = (tt - fr) ∧ Mt (eL ln (x.toInt8.toInt32) (y.toInt8.toInt32)) [y0_, y1_, y2_, y3_, y4_] fr.toNatClampNeg = true then (1 : Int32) else (0 : Int32))) ∧ Fr n0 _ ∧ Keep h0 T23.heap []
              rw [e23]
              have hE : eL ln (x.toInt8.toInt32) (y.toInt8.toInt32) = [(x.toInt8.toInt32), (y.toInt8.toInt32)] := by rw [hN, eL2, own_pa hx1 hx2 hxa, own_pa hy1 hy2 hya] <;> rfl
              have hn : eN ln (x.toInt8.toInt32) (y.toInt8.toInt32) = (2 : Int32) := by unfold eN; rw [hE] <;> rfl
              refine ⟨?_, N23, KC24⟩
              rw [if_neg (fun (q : (eN ln (x.toInt8.toInt32) (y.toInt8.toInt32)) = (tt - fr) ∧ Mt (eL ln (x.toInt8.toInt32) (y.toInt8.toInt32)) [y0_, y1_, y2_, y3_, y4_] fr.toNatClampNeg = true) => hc64_8 ((own_mt (E := [(x.toInt8.toInt32), (y.toInt8.toInt32)]) (bs := [y0_, y1_, y2_, y3_, y4_]) (f := fr.toNatClampNeg)).mp (hE ▸ q.2) 0 (by show 0 < 2; decide)))]
        · refine g_icmpNo X23 hx hby dc24_45 (feq hc45_7).1 ?_
          refine g_iconst X23 hx hby dc24_48 (v := 0) rfl ?_
          obtain ⟨fs, hr, hrun, hended, hW, hsame⟩ := X23.leave (v := some (.int 0)) (fun h => by rw [Bd.returns] at h; cases h) (BodyLoose.notSynchronized Bd)
          refine ⟨_, _, ?_, hP _ _ ⟨hrun, hended, _, _, rfl, ?_, ⟨_, rfl⟩, hW, hsame.mono (by decide) (by decide)⟩⟩
          · exact retN X23 hx (t := .boolean) Bd.returns (by simp) (hb hby dc24_49) hr
          · show (some (.int 0) : Option Value) = some (.int (if (eN ln (x.toInt8.toInt32) (y.toInt8.toInt32)) = (tt - fr) ∧ Mt (eL ln (x.toInt8.toInt32) (y.toInt8.toInt32)) [y0_, y1_, y2_, y3_, y4_] fr.toNatClampNeg = true then (1 : Int32) else (0 : Int32))) ∧ Fr n0 _ ∧ Keep h0 T23.heap []
            rw [e23]
            have hE : eL ln (x.toInt8.toInt32) (y.toInt8.toInt32) = [(x.toInt8.toInt32), (y.toInt8.toInt32)] := by rw [hN, eL2, own_pa hx1 hx2 hxa, own_pa hy1 hy2 hya] <;> rfl
            have hn : eN ln (x.toInt8.toInt32) (y.toInt8.toInt32) = (2 : Int32) := by unfold eN; rw [hE] <;> rfl
            refine ⟨?_, N23, KC24⟩
            rw [if_neg (fun q => hc45_7 (q.1.symm.trans hn))]
      · skip
        refine g_iconst X0 hx hby dc24_0 (v := 4) rfl ?_
        obtain ⟨T30, h30, k30, X30, e30, E30, A30, EX30, st30⟩ := newPE X0 hx hZ (hw _ (own_m 8 rfl)) e0 (g := (mkF mi 1 #[.val (.int 2), .val (.int x), .val (.int y), .val (.ref by_), .val (.int fr), .val (.int tt), .unset, .unset] [(.int 4)])) rfl (hb hby dc24_1) rfl (by decide) (cap := 4) (by decide) (by decide) (by decide) (by decide) (ad := "[B") (by decide)
        obtain ⟨ob30, g30⟩ : ∃ z, z = h0.size := ⟨_, rfl⟩
        rw [← g30] at A30 EX30 st30
        have Zs31 : n0 ≤ h30.size := Nat.le_trans Z0 E30.1
        have KC31 : Keep h0 h30 [] := (Keep.refl h0 []).ext E30
        have g_ob30 : n0 ≤ ob30 := Nat.le_trans Z0 (Nat.le_of_eq g30.symm)
        have sz_ob30 : h0.size ≤ ob30 := Nat.le_trans (Keep.refl h0 []).1 (Nat.le_of_eq g30.symm)
        have V30 : Arv Z h30 ob30 k30 .byte (4 : Int32) [(.int (0 : Int32)), (.int (0 : Int32)), (.int (0 : Int32)), (.int (0 : Int32))] (.int (0 : Int32)) := (Arv.new A30 (by decide)).pad (pad_rep [] (.int (0 : Int32)) 4)
        refine Go.st st30 ?_
        refine g_astore X30 hx hby dc24_3 rfl (l' := #[.val (.int 2), .val (.int x), .val (.int y), .val (.ref by_), .val (.int fr), .val (.int tt), .val (.ref ob30), .unset]) rfl ?_
        refine g_iconst X30 hx hby dc24_5 (v := 0) rfl ?_
        refine g_istore X30 hx hby dc24_6 (l' := #[.val (.int 2), .val (.int x), .val (.int y), .val (.ref by_), .val (.int fr), .val (.int tt), .val (.ref ob30), .val (.int 0)]) rfl ?_
        refine g_iloadN X30 hx hby dc24_8 rfl ?_
        refine g_iconst X30 hx hby dc24_9 (v := 1) rfl ?_
        refine g_icmpNo X30 hx hby dc24_10 (flt (by decide)).1 ?_
        refine g_aload X30 hx hby dc24_13 rfl rfl ?_
        refine g_iload X30 hx hby dc24_15 rfl ?_
        refine g_iloadN X30 hx hby dc24_17 rfl ?_
        obtain ⟨_, _, ⟨T32, L32, k32, n32⟩, -, X32, ⟨Lc32, hQ32, l32, y32, z32⟩, st32⟩ := Jvm.LawKit.callS X30 hx (y := (⟨"com/example/crossbook/crossbook/venue/TextsIndexOfPinLaw", "put", "([BIC)I"⟩ : MethodName)) hown (mvT hZ (hw _ (own_m 145 rfl))) (mvT hZ (hw _ (own_m 146 rfl))) (mvT hZ (hw _ (own_m 3 rfl))) (mvT hZ (hw _ (own_m 147 rfl))) (by decide) (backOf (W := 0) (rmPu0A l Z a0 hw [] ob30 x k30 (0 : Int32) (0 : Int32) (0 : Int32) (0 : Int32) h30 n0 Zs31 V30 g_ob30 hxa) hZ (hw _ (own_m 147 rfl)) (hw _ (own_m 3 rfl)) (by decide) (by decide)) (g := (mkF mi 18 #[.val (.int 2), .val (.int x), .val (.int y), .val (.ref by_), .val (.int fr), .val (.int tt), .val (.ref ob30), .val (.int 0)] [(.int x), (.int 0), (.ref ob30)])) rfl (by rw [hml]; rfl) (argsL := [(.ref ob30), (.int 0), (.int x)]) (rest := []) (lenOf pd_19 rfl) rfl (by show 2 * 0 + _ ≤ _; exact Nat.le_of_eq rfl) (hb hby dc24_18) (fun _ _ => ⟨rfl, e30, (by decide : 1 + 0 ≤ _), (by decide : 4 + 0 ≤ _)⟩)
        dsimp only [Pt.U, Pt.locs, Pt.cells, Pt.slots] at X32 l32 y32 z32 st32 hQ32
        subst l32 y32 z32
        have X32 := own_cs X32 (cells' := 1) (slots' := 4) rfl rfl
        obtain ⟨h32, e32⟩ : ∃ z, T32.heap = z := ⟨_, rfl⟩
        rw [e32] at hQ32
        obtain ⟨rfl, N32q, K32, VV_32⟩ := hQ32
        have N32 := Fr.app N0 N32q
        have Zs33 : n0 ≤ h32.size := Nat.le_trans Zs31 K32.1
        have KC33 : Keep h0 h32 [] := KC31.trans K32 (allS (P := fun x => x ∈ [] ∨ h0.size ≤ x) (Or.inr sz_ob30) all0)
        refine Go.st st32 ?_
        refine g_istore X32 hx hby dc24_21 (l' := #[.val (.int 2), .val (.int x), .val (.int y), .val (.ref by_), .val (.int fr), .val (.int tt), .val (.ref ob30), .val (.int 1)]) rfl ?_
        refine g_iloadN X32 hx hby dc24_23 rfl ?_
        refine g_iconst X32 hx hby dc24_24 (v := 2) rfl ?_
        refine g_icmpNo X32 hx hby dc24_25 (flt (by decide)).1 ?_
        refine g_aload X32 hx hby dc24_28 rfl rfl ?_
        refine g_iload X32 hx hby dc24_30 rfl ?_
        refine g_iloadN X32 hx hby dc24_32 rfl ?_
        obtain ⟨_, _, ⟨T34, L34, k34, n34⟩, -, X34, ⟨Lc34, hQ34, l34, y34, z34⟩, st34⟩ := Jvm.LawKit.callS X32 hx (y := (⟨"com/example/crossbook/crossbook/venue/TextsIndexOfPinLaw", "put", "([BIC)I"⟩ : MethodName)) hown (mvT hZ (hw _ (own_m 145 rfl))) (mvT hZ (hw _ (own_m 146 rfl))) (mvT hZ (hw _ (own_m 3 rfl))) (mvT hZ (hw _ (own_m 147 rfl))) (by decide) (backOf (W := 0) (rmPu1B l Z a0 hw [] ob30 y k30 (x.toInt8.toInt32) (0 : Int32) (0 : Int32) (0 : Int32) h32 n0 Zs33 VV_32 g_ob30 hya) hZ (hw _ (own_m 147 rfl)) (hw _ (own_m 3 rfl)) (by decide) (by decide)) (g := (mkF mi 33 #[.val (.int 2), .val (.int x), .val (.int y), .val (.ref by_), .val (.int fr), .val (.int tt), .val (.ref ob30), .val (.int 1)] [(.int y), (.int 1), (.ref ob30)])) rfl (by rw [hml]; rfl) (argsL := [(.ref ob30), (.int 1), (.int y)]) (rest := []) (lenOf pd_19 rfl) rfl (by show 2 * 0 + _ ≤ _; exact Nat.le_of_eq rfl) (hb hby dc24_33) (fun _ _ => ⟨rfl, e32, (by decide : 1 + 0 ≤ _), (by decide : 4 + 0 ≤ _)⟩)
        dsimp only [Pt.U, Pt.locs, Pt.cells, Pt.slots] at X34 l34 y34 z34 st34 hQ34
        subst l34 y34 z34
        have X34 := own_cs X34 (cells' := 1) (slots' := 4) rfl rfl
        obtain ⟨h34, e34⟩ : ∃ z, T34.heap = z := ⟨_, rfl⟩
        rw [e34] at hQ34
        obtain ⟨rfl, N34q, K34, VV_34⟩ := hQ34
        have N34 := Fr.app N32 N34q
        have Zs35 : n0 ≤ h34.size := Nat.le_trans Zs33 K34.1
        have KC35 : Keep h0 h34 [] := KC33.trans K34 (allS (P := fun x => x ∈ [] ∨ h0.size ≤ x) (Or.inr sz_ob30) all0)
        refine Go.st st34 ?_
        refine g_istore X34 hx hby dc24_36 (l' := #[.val (.int 2), .val (.int x), .val (.int y), .val (.ref by_), .val (.int fr), .val (.int tt), .val (.ref ob30), .val (.int 3)]) rfl ?_
        refine g_iload X34 hx hby dc24_38 rfl ?_
        refine g_iload X34 hx hby dc24_40 rfl ?_
        refine g_isub X34 hx hby dc24_42 rfl ?_
        show Go _ _ _ (T34.setTop (mkF mi 43 #[.val (.int 2), .val (.int x), .val (.int y), .val (.ref by_), .val (.int fr), .val (.int tt), .val (.ref ob30), .val (.int 3)] [(.int (tt - fr))])) _
        refine g_iload X34 hx hby dc24_43 rfl ?_
        by_cases hc45_10 : (tt - fr) = (3 : Int32)
        · refine g_icmpYes X34 hx hby dc24_45 (teq hc45_10).1 (pc0 := 45) (pc' := 50) rfl (by decide) (by decide) ?_
          refine g_iload X34 hx hby dc24_50 rfl ?_
          refine g_iconst X34 hx hby dc24_52 (v := 1) rfl ?_
          refine g_icmpNo X34 hx hby dc24_53 (flt (by decide)).1 ?_
          refine g_aload X34 hx hby dc24_56 rfl rfl ?_
          refine g_iconst X34 hx hby dc24_58 (v := 0) rfl ?_
          have ov36 := VV_34
          obtain ⟨cl36, Ar36, q36, S36, M36, H36, G36⟩ := ov36
          have hin36 : ¬ ((0 : Int32) < 0 ∨ cl36.slots.size ≤ ((0 : Int32)).toNatClampNeg) := inb_of S36 ⟨by decide, by decide⟩
          have hat36 : cl36.slots[((0 : Int32)).toNatClampNeg]? = some (.int (x.toInt8.toInt32)) := Has.at H36 hin36 rfl
          refine Go.st (X34.baloadBytes hx (j := (0 : Int32)) (v := (.int (x.toInt8.toInt32))) (by rw [e34]; exact Ar36.1) (State.isArrayOf_alike hZ.alike Ar36.2.1) Ar36.2.2 hin36 hat36 (g := (mkF mi 59 #[.val (.int 2), .val (.int x), .val (.int y), .val (.ref by_), .val (.int fr), .val (.int tt), .val (.ref ob30), .val (.int 3)] [(.int 0), (.ref ob30)])) rfl rfl (hb hby dc24_59)) ?_
          refine g_aloadN X34 hx hby dc24_60 rfl rfl ?_
          refine g_iload X34 hx hby dc24_61 rfl ?_
          have ne_by__ob30 : by_ ≠ ob30 := Nat.ne_of_lt (Nat.lt_of_lt_of_le Y0.lt (Nat.le_of_eq g30.symm))
          have f37 := (((Y0.ext E30).keep K32 (ninS ne_by__ob30 nin0)).keep K34 (ninS ne_by__ob30 nin0))
          have ov38 := f37
          obtain ⟨cl38, Ar38, q38, S38, M38, H38, G38⟩ := ov38
          have hin38 : ¬ (fr < 0 ∨ cl38.slots.size ≤ (fr).toNatClampNeg) := inb_of S38 (own_in0 hf0 hft (show (0 : Int32) < (tt - fr) from by rw [hc45_10]; decide))
          have hat38 : cl38.slots[(fr).toNatClampNeg]? = some (.int ([y0_, y1_, y2_, y3_, y4_].getD (fr.toNatClampNeg + 0) 0)) := Has.at H38 hin38 (own_gm [y0_, y1_, y2_, y3_, y4_] _)
          refine Go.st (X34.baloadBytes hx (j := fr) (v := (.int ([y0_, y1_, y2_, y3_, y4_].getD (fr.toNatClampNeg + 0) 0))) (by rw [e34]; exact Ar38.1) (State.isArrayOf_alike hZ.alike Ar38.2.1) Ar38.2.2 hin38 hat38 (g := (mkF mi 63 #[.val (.int 2), .val (.int x), .val (.int y), .val (.ref by_), .val (.int fr), .val (.int tt), .val (.ref ob30), .val (.int 3)] [(.int fr), (.ref by_), (.int (x.toInt8.toInt32))])) rfl rfl (hb hby dc24_63)) ?_
          by_cases hc64_11 : (x.toInt8.toInt32) = ([y0_, y1_, y2_, y3_, y4_].getD (fr.toNatClampNeg + 0) 0)
          · refine g_icmpYes X34 hx hby dc24_64 (teq hc64_11).1 (pc0 := 64) (pc' := 69) rfl (by decide) (by decide) ?_
            refine g_iload X34 hx hby dc24_69 rfl ?_
            refine g_iconst X34 hx hby dc24_71 (v := 2) rfl ?_
            refine g_icmpNo X34 hx hby dc24_72 (flt (by decide)).1 ?_
            refine g_aload X34 hx hby dc24_75 rfl rfl ?_
            refine g_iconst X34 hx hby dc24_77 (v := 1) rfl ?_
            have ov39 := VV_34
            obtain ⟨cl39, Ar39, q39, S39, M39, H39, G39⟩ := ov39
            have hin39 : ¬ ((1 : Int32) < 0 ∨ cl39.slots.size ≤ ((1 : Int32)).toNatClampNeg) := inb_of S39 ⟨by decide, by decide⟩
            have hat39 : cl39.slots[((1 : Int32)).toNatClampNeg]? = some (.int (pu1 y)) := Has.at H39 hin39 rfl
            refine Go.st (X34.baloadBytes hx (j := (1 : Int32)) (v := (.int (pu1 y))) (by rw [e34]; exact Ar39.1) (State.isArrayOf_alike hZ.alike Ar39.2.1) Ar39.2.2 hin39 hat39 (g := (mkF mi 78 #[.val (.int 2), .val (.int x), .val (.int y), .val (.ref by_), .val (.int fr), .val (.int tt), .val (.ref ob30), .val (.int 3)] [(.int 1), (.ref ob30)])) rfl rfl (hb hby dc24_78)) ?_
            refine g_aloadN X34 hx hby dc24_79 rfl rfl ?_
            refine g_iload X34 hx hby dc24_80 rfl ?_
            refine g_iconst X34 hx hby dc24_82 (v := 1) rfl ?_
            refine g_iadd X34 hx hby dc24_83 rfl ?_
            have ov40 := f37
            obtain ⟨cl40, Ar40, q40, S40, M40, H40, G40⟩ := ov40
            have hin40 : ¬ ((fr + (1 : Int32)) < 0 ∨ cl40.slots.size ≤ ((fr + (1 : Int32))).toNatClampNeg) := inb_of S40 (own_in5 hf0 hft (by decide +kernel : (1 : Int32).toInt = ((1 : Nat) : Int)) (show (1 : Int32) < (tt - fr) from by rw [hc45_10]; decide))
            have hat40 : cl40.slots[((fr + (1 : Int32))).toNatClampNeg]? = some (.int ([y0_, y1_, y2_, y3_, y4_].getD (fr.toNatClampNeg + 1) 0)) := Has.at H40 hin40 (own_b5 _ _ _ _ _ hf0 hft (by decide +kernel : (1 : Int32).toInt = ((1 : Nat) : Int)) (show (1 : Int32) < (tt - fr) from by rw [hc45_10]; decide))
            refine Go.st (X34.baloadBytes hx (j := (fr + (1 : Int32))) (v := (.int ([y0_, y1_, y2_, y3_, y4_].getD (fr.toNatClampNeg + 1) 0))) (by rw [e34]; exact Ar40.1) (State.isArrayOf_alike hZ.alike Ar40.2.1) Ar40.2.2 hin40 hat40 (g := (mkF mi 84 #[.val (.int 2), .val (.int x), .val (.int y), .val (.ref by_), .val (.int fr), .val (.int tt), .val (.ref ob30), .val (.int 3)] [(.int (fr + (1 : Int32))), (.ref by_), (.int (pu1 y))])) rfl rfl (hb hby dc24_84)) ?_
            by_cases hc85_12 : (pu1 y) = ([y0_, y1_, y2_, y3_, y4_].getD (fr.toNatClampNeg + 1) 0)
            · refine g_icmpYes X34 hx hby dc24_85 (teq hc85_12).1 (pc0 := 85) (pc' := 90) rfl (by decide) (by decide) ?_
              refine g_iload X34 hx hby dc24_90 rfl ?_
              refine g_iconst X34 hx hby dc24_92 (v := 3) rfl ?_
              refine g_icmpNo X34 hx hby dc24_93 (flt (by decide)).1 ?_
              refine g_aload X34 hx hby dc24_96 rfl rfl ?_
              refine g_iconst X34 hx hby dc24_98 (v := 2) rfl ?_
              have ov41 := VV_34
              obtain ⟨cl41, Ar41, q41, S41, M41, H41, G41⟩ := ov41
              have hin41 : ¬ ((2 : Int32) < 0 ∨ cl41.slots.size ≤ ((2 : Int32)).toNatClampNeg) := inb_of S41 ⟨by decide, by decide⟩
              have hat41 : cl41.slots[((2 : Int32)).toNatClampNeg]? = some (.int (pu2 y)) := Has.at H41 hin41 rfl
              refine Go.st (X34.baloadBytes hx (j := (2 : Int32)) (v := (.int (pu2 y))) (by rw [e34]; exact Ar41.1) (State.isArrayOf_alike hZ.alike Ar41.2.1) Ar41.2.2 hin41 hat41 (g := (mkF mi 99 #[.val (.int 2), .val (.int x), .val (.int y), .val (.ref by_), .val (.int fr), .val (.int tt), .val (.ref ob30), .val (.int 3)] [(.int 2), (.ref ob30)])) rfl rfl (hb hby dc24_99)) ?_
              refine g_aloadN X34 hx hby dc24_100 rfl rfl ?_
              show Go _ _ _ (T34.setTop (mkF mi 101 #[.val (.int 2), .val (.int x), .val (.int y), .val (.ref by_), .val (.int fr), .val (.int tt), .val (.ref ob30), .val (.int 3)] [(.ref by_), (.int (pu2 y))])) _
              refine g_iload X34 hx hby dc24_101 rfl ?_
              refine g_iconst X34 hx hby dc24_103 (v := 2) rfl ?_
              refine g_iadd X34 hx hby dc24_104 rfl ?_
              have ov42 := f37
              obtain ⟨cl42, Ar42, q42, S42, M42, H42, G42⟩ := ov42
              have hin42 : ¬ ((fr + (2 : Int32)) < 0 ∨ cl42.slots.size ≤ ((fr + (2 : Int32))).toNatClampNeg) := inb_of S42 (own_in5 hf0 hft (by decide +kernel : (2 : Int32).toInt = ((2 : Nat) : Int)) (show (2 : Int32) < (tt - fr) from by rw [hc45_10]; decide))
              have hat42 : cl42.slots[((fr + (2 : Int32))).toNatClampNeg]? = some (.int ([y0_, y1_, y2_, y3_, y4_].getD (fr.toNatClampNeg + 2) 0)) := Has.at H42 hin42 (own_b5 _ _ _ _ _ hf0 hft (by decide +kernel : (2 : Int32).toInt = ((2 : Nat) : Int)) (show (2 : Int32) < (tt - fr) from by rw [hc45_10]; decide))
              refine Go.st (X34.baloadBytes hx (j := (fr + (2 : Int32))) (v := (.int ([y0_, y1_, y2_, y3_, y4_].getD (fr.toNatClampNeg + 2) 0))) (by rw [e34]; exact Ar42.1) (State.isArrayOf_alike hZ.alike Ar42.2.1) Ar42.2.2 hin42 hat42 (g := (mkF mi 105 #[.val (.int 2), .val (.int x), .val (.int y), .val (.ref by_), .val (.int fr), .val (.int tt), .val (.ref ob30), .val (.int 3)] [(.int (fr + (2 : Int32))), (.ref by_), (.int (pu2 y))])) rfl rfl (hb hby dc24_105)) ?_
              by_cases hc106_13 : (pu2 y) = ([y0_, y1_, y2_, y3_, y4_].getD (fr.toNatClampNeg + 2) 0)
              · refine g_icmpYes X34 hx hby dc24_106 (teq hc106_13).1 (pc0 := 106) (pc' := 111) rfl (by decide) (by decide) ?_
                refine g_iload X34 hx hby dc24_111 rfl ?_
                refine g_iconst X34 hx hby dc24_113 (v := 4) rfl ?_
                refine g_icmpYes X34 hx hby dc24_114 (tlt (by decide)).1 (pc0 := 114) (pc' := 132) rfl (by decide) (by decide) ?_
                refine g_iconst X34 hx hby dc24_132 (v := 1) rfl ?_
                obtain ⟨fs, hr, hrun, hended, hW, hsame⟩ := X34.leave (v := some (.int 1)) (fun h => by rw [Bd.returns] at h; cases h) (BodyLoose.notSynchronized Bd)
                refine ⟨_, _, ?_, hP _ _ ⟨hrun, hended, _, _, rfl, ?_, ⟨_, rfl⟩, hW, hsame.mono (by decide) (by decide)⟩⟩
                · exact retN X34 hx (t := .boolean) Bd.returns (by simp) (hb hby dc24_133) hr
                · show (some (.int 1) : Option Value) = some (.int (if (eN ln (x.toInt8.toInt32) (y.toInt8.toInt32)) = (tt - fr) ∧ Mt (eL ln (x.toInt8.toInt32) (y.toInt8.toInt32)) [y0_, y1_, y2_, y3_, y4_] fr.toNatClampNeg = true then (1 : Int32) else (0 : Int32))) ∧ Fr n0 _ ∧ Keep h0 T34.heap []
                  rw [e34]
                  have hE : eL ln (x.toInt8.toInt32) (y.toInt8.toInt32) = [(x.toInt8.toInt32), (pu1 y), (pu2 y)] := by rw [hN, eL2, own_pa hx1 hx2 hxa, own_pu hy1 hy2 hya] <;> rfl
                  have hn : eN ln (x.toInt8.toInt32) (y.toInt8.toInt32) = (3 : Int32) := by unfold eN; rw [hE] <;> rfl
                  refine ⟨?_, N34, KC35⟩
                  have hm : Mt (eL ln (x.toInt8.toInt32) (y.toInt8.toInt32)) [y0_, y1_, y2_, y3_, y4_] fr.toNatClampNeg = true := by rw [hE]; exact own_mt.mpr (fun k hk => by
                    match k, hk with
                    | 0, _ => exact hc64_11
                    | 1, _ => exact hc85_12
                    | 2, _ => exact hc106_13)
                  rw [if_pos ⟨hn.trans hc45_10.symm, hm⟩]
              · refine g_icmpNo X34 hx hby dc24_106 (feq hc106_13).1 ?_
                refine g_iconst X34 hx hby dc24_109 (v := 0) rfl ?_
                obtain ⟨fs, hr, hrun, hended, hW, hsame⟩ := X34.leave (v := some (.int 0)) (fun h => by rw [Bd.returns] at h; cases h) (BodyLoose.notSynchronized Bd)
                refine ⟨_, _, ?_, hP _ _ ⟨hrun, hended, _, _, rfl, ?_, ⟨_, rfl⟩, hW, hsame.mono (by decide) (by decide)⟩⟩
                · exact retN X34 hx (t := .boolean) Bd.returns (by simp) (hb hby dc24_110) hr
                · show (some (.int 0) : Option Value) = some (.int (if (eN ln (x.toInt8.toInt32) (y.toInt8.toInt32)) = (tt - fr) ∧ Mt (eL ln (x.toInt8.toInt32) (y.toInt8.toInt32)) [y0_, y1_, y2_, y3_, y4_] fr.toNatClampNeg = true then (1 : Int32) else (0 : Int32))) ∧ Fr n0 _ ∧ Keep h0 T34.heap []
                  rw [e34]
                  have hE : eL ln (x.toInt8.toInt32) (y.toInt8.toInt32) = [(x.toInt8.toInt32), (pu1 y), (pu2 y)] := by rw [hN, eL2, own_pa hx1 hx2 hxa, own_pu hy1 hy2 hya] <;> rfl
                  have hn : eN ln (x.toInt8.toInt32) (y.toInt8.toInt32) = (3 : Int32) := by unfold eN; rw [hE] <;> rfl
                  refine ⟨?_, N34, KC35⟩
                  rw [if_neg (fun (q : (eN ln (x.toInt8.toInt32) (y.toInt8.toInt32)) = (tt - fr) ∧ Mt (eL ln (x.toInt8.toInt32) (y.toInt8.toInt32)) [y0_, y1_, y2_, y3_, y4_] fr.toNatClampNeg = true) => hc106_13 ((own_mt (E := [(x.toInt8.toInt32), (pu1 y), (pu2 y)]) (bs := [y0_, y1_, y2_, y3_, y4_]) (f := fr.toNatClampNeg)).mp (hE ▸ q.2) 2 (by show 2 < 3; decide)))]
            · refine g_icmpNo X34 hx hby dc24_85 (feq hc85_12).1 ?_
              refine g_iconst X34 hx hby dc24_88 (v := 0) rfl ?_
              obtain ⟨fs, hr, hrun, hended, hW, hsame⟩ := X34.leave (v := some (.int 0)) (fun h => by rw [Bd.returns] at h; cases h) (BodyLoose.notSynchronized Bd)
              refine ⟨_, _, ?_, hP _ _ ⟨hrun, hended, _, _, rfl, ?_, ⟨_, rfl⟩, hW, hsame.mono (by decide) (by decide)⟩⟩
              · exact retN X34 hx (t := .boolean) Bd.returns (by simp) (hb hby dc24_89) hr
              · show (some (.int 0) : Option Value) = some (.int (if (eN ln (x.toInt8.toInt32) (y.toInt8.toInt32)) = (tt - fr) ∧ Mt (eL ln (x.toInt8.toInt32) (y.toInt8.toInt32)) [y0_, y1_, y2_, y3_, y4_] fr.toNatClampNeg = true then (1 : Int32) else (0 : Int32))) ∧ Fr n0 _ ∧ Keep h0 T34.heap []
                rw [e34]
                have hE : eL ln (x.toInt8.toInt32) (y.toInt8.toInt32) = [(x.toInt8.toInt32), (pu1 y), (pu2 y)] := by rw [hN, eL2, own_pa hx1 hx2 hxa, own_pu hy1 hy2 hya] <;> rfl
                have hn : eN ln (x.toInt8.toInt32) (y.toInt8.toInt32) = (3 : Int32) := by unfold eN; rw [hE] <;> rfl
                refine ⟨?_, N34, KC35⟩
                rw [if_neg (fun (q : (eN ln (x.toInt8.toInt32) (y.toInt8.toInt32)) = (tt - fr) ∧ Mt (eL ln (x.toInt8.toInt32) (y.toInt8.toInt32)) [y0_, y1_, y2_, y3_, y4_] fr.toNatClampNeg = true) => hc85_12 ((own_mt (E := [(x.toInt8.toInt32), (pu1 y), (pu2 y)]) (bs := [y0_, y1_, y2_, y3_, y4_]) (f := fr.toNatClampNeg)).mp (hE ▸ q.2) 1 (by show 1 < 3; decide)))]
          · refine g_icmpNo X34 hx hby dc24_64 (feq hc64_11).1 ?_
            refine g_iconst X34 hx hby dc24_67 (v := 0) rfl ?_
            obtain ⟨fs, hr, hrun, hended, hW, hsame⟩ := X34.leave (v := some (.int 0)) (fun h => by rw [Bd.returns] at h; cases h) (BodyLoose.notSynchronized Bd)
            refine ⟨_, _, ?_, hP _ _ ⟨hrun, hended, _, _, rfl, ?_, ⟨_, rfl⟩, hW, hsame.mono (by decide) (by decide)⟩⟩
            · exact retN X34 hx (t := .boolean) Bd.returns (by simp) (hb hby dc24_68) hr
            · show (some (.int 0) : Option Value) = some (.int (if (eN ln (x.toInt8.toInt32) (y.toInt8.toInt32)) = (tt - fr) ∧ Mt (eL ln (x.toInt8.toInt32) (y.toInt8.toInt32)) [y0_, y1_, y2_, y3_, y4_] fr.toNatClampNeg = true then (1 : Int32) else (0 : Int32))) ∧ Fr n0 _ ∧ Keep h0 T34.heap []
              rw [e34]
              have hE : eL ln (x.toInt8.toInt32) (y.toInt8.toInt32) = [(x.toInt8.toInt32), (pu1 y), (pu2 y)] := by rw [hN, eL2, own_pa hx1 hx2 hxa, own_pu hy1 hy2 hya] <;> rfl
              have hn : eN ln (x.toInt8.toInt32) (y.toInt8.toInt32) = (3 : Int32) := by unfold eN; rw [hE] <;> rfl
              refine ⟨?_, N34, KC35⟩
              rw [if_neg (fun (q : (eN ln (x.toInt8.toInt32) (y.toInt8.toInt32)) = (tt - fr) ∧ Mt (eL ln (x.toInt8.toInt32) (y.toInt8.toInt32)) [y0_, y1_, y2_, y3_, y4_] fr.toNatClampNeg = true) => hc64_11 ((own_mt (E := [(x.toInt8.toInt32), (pu1 y), (pu2 y)]) (bs := [y0_, y1_, y2_, y3_, y4_]) (f := fr.toNatClampNeg)).mp (hE ▸ q.2) 0 (by show 0 < 3; decide)))]
        · refine g_icmpNo X34 hx hby dc24_45 (feq hc45_10).1 ?_
          refine g_iconst X34 hx hby dc24_48 (v := 0) rfl ?_
          obtain ⟨fs, hr, hrun, hended, hW, hsame⟩ := X34.leave (v := some (.int 0)) (fun h => by rw [Bd.returns] at h; cases h) (BodyLoose.notSynchronized Bd)
          refine ⟨_, _, ?_, hP _ _ ⟨hrun, hended, _, _, rfl, ?_, ⟨_, rfl⟩, hW, hsame.mono (by decide) (by decide)⟩⟩
          · exact retN X34 hx (t := .boolean) Bd.returns (by simp) (hb hby dc24_49) hr
          · show (some (.int 0) : Option Value) = some (.int (if (eN ln (x.toInt8.toInt32) (y.toInt8.toInt32)) = (tt - fr) ∧ Mt (eL ln (x.toInt8.toInt32) (y.toInt8.toInt32)) [y0_, y1_, y2_, y3_, y4_] fr.toNatClampNeg = true then (1 : Int32) else (0 : Int32))) ∧ Fr n0 _ ∧ Keep h0 T34.heap []
            rw [e34]
            have hE : eL ln (x.toInt8.toInt32) (y.toInt8.toInt32) = [(x.toInt8.toInt32), (pu1 y), (pu2 y)] := by rw [hN, eL2, own_pa hx1 hx2 hxa, own_pu hy1 hy2 hya] <;> rfl
            have hn : eN ln (x.toInt8.toInt32) (y.toInt8.toInt32) = (3 : Int32) := by unfold eN; rw [hE] <;> rfl
            refine ⟨?_, N34, KC35⟩
            rw [if_neg (fun q => hc45_10 (q.1.symm.trans hn))]
    · skip
      by_cases hya : y < (128 : Int32)
      · skip
        refine g_iconst X0 hx hby dc24_0 (v := 4) rfl ?_
        obtain ⟨T43, h43, k43, X43, e43, E43, A43, EX43, st43⟩ := newPE X0 hx hZ (hw _ (own_m 8 rfl)) e0 (g := (mkF mi 1 #[.val (.int 2), .val (.int x), .val (.int y), .val (.ref by_), .val (.int fr), .val (.int tt), .unset, .unset] [(.int 4)])) rfl (hb hby dc24_1) rfl (by decide) (cap := 4) (by decide) (by decide) (by decide) (by decide) (ad := "[B") (by decide)
        obtain ⟨ob43, g43⟩ : ∃ z, z = h0.size := ⟨_, rfl⟩
        rw [← g43] at A43 EX43 st43
        have Zs44 : n0 ≤ h43.size := Nat.le_trans Z0 E43.1
        have KC44 : Keep h0 h43 [] := (Keep.refl h0 []).ext E43
        have g_ob43 : n0 ≤ ob43 := Nat.le_trans Z0 (Nat.le_of_eq g43.symm)
        have sz_ob43 : h0.size ≤ ob43 := Nat.le_trans (Keep.refl h0 []).1 (Nat.le_of_eq g43.symm)
        have V43 : Arv Z h43 ob43 k43 .byte (4 : Int32) [(.int (0 : Int32)), (.int (0 : Int32)), (.int (0 : Int32)), (.int (0 : Int32))] (.int (0 : Int32)) := (Arv.new A43 (by decide)).pad (pad_rep [] (.int (0 : Int32)) 4)
        refine Go.st st43 ?_
        refine g_astore X43 hx hby dc24_3 rfl (l' := #[.val (.int 2), .val (.int x), .val (.int y), .val (.ref by_), .val (.int fr), .val (.int tt), .val (.ref ob43), .unset]) rfl ?_
        refine g_iconst X43 hx hby dc24_5 (v := 0) rfl ?_
        refine g_istore X43 hx hby dc24_6 (l' := #[.val (.int 2), .val (.int x), .val (.int y), .val (.ref by_), .val (.int fr), .val (.int tt), .val (.ref ob43), .val (.int 0)]) rfl ?_
        refine g_iloadN X43 hx hby dc24_8 rfl ?_
        refine g_iconst X43 hx hby dc24_9 (v := 1) rfl ?_
        refine g_icmpNo X43 hx hby dc24_10 (flt (by decide)).1 ?_
        refine g_aload X43 hx hby dc24_13 rfl rfl ?_
        refine g_iload X43 hx hby dc24_15 rfl ?_
        refine g_iloadN X43 hx hby dc24_17 rfl ?_
        obtain ⟨_, _, ⟨T45, L45, k45, n45⟩, -, X45, ⟨Lc45, hQ45, l45, y45, z45⟩, st45⟩ := Jvm.LawKit.callS X43 hx (y := (⟨"com/example/crossbook/crossbook/venue/TextsIndexOfPinLaw", "put", "([BIC)I"⟩ : MethodName)) hown (mvT hZ (hw _ (own_m 145 rfl))) (mvT hZ (hw _ (own_m 146 rfl))) (mvT hZ (hw _ (own_m 3 rfl))) (mvT hZ (hw _ (own_m 147 rfl))) (by decide) (backOf (W := 0) (rmPu0B l Z a0 hw [] ob43 x k43 (0 : Int32) (0 : Int32) (0 : Int32) (0 : Int32) h43 n0 Zs44 V43 g_ob43 hxa) hZ (hw _ (own_m 147 rfl)) (hw _ (own_m 3 rfl)) (by decide) (by decide)) (g := (mkF mi 18 #[.val (.int 2), .val (.int x), .val (.int y), .val (.ref by_), .val (.int fr), .val (.int tt), .val (.ref ob43), .val (.int 0)] [(.int x), (.int 0), (.ref ob43)])) rfl (by rw [hml]; rfl) (argsL := [(.ref ob43), (.int 0), (.int x)]) (rest := []) (lenOf pd_19 rfl) rfl (by show 2 * 0 + _ ≤ _; exact Nat.le_of_eq rfl) (hb hby dc24_18) (fun _ _ => ⟨rfl, e43, (by decide : 1 + 0 ≤ _), (by decide : 4 + 0 ≤ _)⟩)
        dsimp only [Pt.U, Pt.locs, Pt.cells, Pt.slots] at X45 l45 y45 z45 st45 hQ45
        subst l45 y45 z45
        have X45 := own_cs X45 (cells' := 1) (slots' := 4) rfl rfl
        obtain ⟨h45, e45⟩ : ∃ z, T45.heap = z := ⟨_, rfl⟩
        rw [e45] at hQ45
        obtain ⟨rfl, N45q, K45, VV_45⟩ := hQ45
        have N45 := Fr.app N0 N45q
        have Zs46 : n0 ≤ h45.size := Nat.le_trans Zs44 K45.1
        have KC46 : Keep h0 h45 [] := KC44.trans K45 (allS (P := fun x => x ∈ [] ∨ h0.size ≤ x) (Or.inr sz_ob43) all0)
        refine Go.st st45 ?_
        refine g_istore X45 hx hby dc24_21 (l' := #[.val (.int 2), .val (.int x), .val (.int y), .val (.ref by_), .val (.int fr), .val (.int tt), .val (.ref ob43), .val (.int 2)]) rfl ?_
        refine g_iloadN X45 hx hby dc24_23 rfl ?_
        show Go _ _ _ (T45.setTop (mkF mi 24 #[.val (.int 2), .val (.int x), .val (.int y), .val (.ref by_), .val (.int fr), .val (.int tt), .val (.ref ob43), .val (.int 2)] [(.int 2)])) _
        refine g_iconst X45 hx hby dc24_24 (v := 2) rfl ?_
        refine g_icmpNo X45 hx hby dc24_25 (flt (by decide)).1 ?_
        refine g_aload X45 hx hby dc24_28 rfl rfl ?_
        refine g_iload X45 hx hby dc24_30 rfl ?_
        refine g_iloadN X45 hx hby dc24_32 rfl ?_
        obtain ⟨_, _, ⟨T47, L47, k47, n47⟩, -, X47, ⟨Lc47, hQ47, l47, y47, z47⟩, st47⟩ := Jvm.LawKit.callS X45 hx (y := (⟨"com/example/crossbook/crossbook/venue/TextsIndexOfPinLaw", "put", "([BIC)I"⟩ : MethodName)) hown (mvT hZ (hw _ (own_m 145 rfl))) (mvT hZ (hw _ (own_m 146 rfl))) (mvT hZ (hw _ (own_m 3 rfl))) (mvT hZ (hw _ (own_m 147 rfl))) (by decide) (backOf (W := 0) (rmPu2A l Z a0 hw [] ob43 y k43 (pu1 x) (pu2 x) (0 : Int32) (0 : Int32) h45 n0 Zs46 VV_45 g_ob43 hya) hZ (hw _ (own_m 147 rfl)) (hw _ (own_m 3 rfl)) (by decide) (by decide)) (g := (mkF mi 33 #[.val (.int 2), .val (.int x), .val (.int y), .val (.ref by_), .val (.int fr), .val (.int tt), .val (.ref ob43), .val (.int 2)] [(.int y), (.int 2), (.ref ob43)])) rfl (by rw [hml]; rfl) (argsL := [(.ref ob43), (.int 2), (.int y)]) (rest := []) (lenOf pd_19 rfl) rfl (by show 2 * 0 + _ ≤ _; exact Nat.le_of_eq rfl) (hb hby dc24_33) (fun _ _ => ⟨rfl, e45, (by decide : 1 + 0 ≤ _), (by decide : 4 + 0 ≤ _)⟩)
        dsimp only [Pt.U, Pt.locs, Pt.cells, Pt.slots] at X47 l47 y47 z47 st47 hQ47
        subst l47 y47 z47
        have X47 := own_cs X47 (cells' := 1) (slots' := 4) rfl rfl
        obtain ⟨h47, e47⟩ : ∃ z, T47.heap = z := ⟨_, rfl⟩
        rw [e47] at hQ47
        obtain ⟨rfl, N47q, K47, VV_47⟩ := hQ47
        have N47 := Fr.app N45 N47q
        have Zs48 : n0 ≤ h47.size := Nat.le_trans Zs46 K47.1
        have KC48 : Keep h0 h47 [] := KC46.trans K47 (allS (P := fun x => x ∈ [] ∨ h0.size ≤ x) (Or.inr sz_ob43) all0)
        refine Go.st st47 ?_
        refine g_istore X47 hx hby dc24_36 (l' := #[.val (.int 2), .val (.int x), .val (.int y), .val (.ref by_), .val (.int fr), .val (.int tt), .val (.ref ob43), .val (.int 3)]) rfl ?_
        refine g_iload X47 hx hby dc24_38 rfl ?_
        refine g_iload X47 hx hby dc24_40 rfl ?_
        refine g_isub X47 hx hby dc24_42 rfl ?_
        refine g_iload X47 hx hby dc24_43 rfl ?_
        by_cases hc45_14 : (tt - fr) = (3 : Int32)
        · refine g_icmpYes X47 hx hby dc24_45 (teq hc45_14).1 (pc0 := 45) (pc' := 50) rfl (by decide) (by decide) ?_
          refine g_iload X47 hx hby dc24_50 rfl ?_
          refine g_iconst X47 hx hby dc24_52 (v := 1) rfl ?_
          refine g_icmpNo X47 hx hby dc24_53 (flt (by decide)).1 ?_
          refine g_aload X47 hx hby dc24_56 rfl rfl ?_
          refine g_iconst X47 hx hby dc24_58 (v := 0) rfl ?_
          have ov49 := VV_47
          obtain ⟨cl49, Ar49, q49, S49, M49, H49, G49⟩ := ov49
          have hin49 : ¬ ((0 : Int32) < 0 ∨ cl49.slots.size ≤ ((0 : Int32)).toNatClampNeg) := inb_of S49 ⟨by decide, by decide⟩
          have hat49 : cl49.slots[((0 : Int32)).toNatClampNeg]? = some (.int (pu1 x)) := Has.at H49 hin49 rfl
          refine Go.st (X47.baloadBytes hx (j := (0 : Int32)) (v := (.int (pu1 x))) (by rw [e47]; exact Ar49.1) (State.isArrayOf_alike hZ.alike Ar49.2.1) Ar49.2.2 hin49 hat49 (g := (mkF mi 59 #[.val (.int 2), .val (.int x), .val (.int y), .val (.ref by_), .val (.int fr), .val (.int tt), .val (.ref ob43), .val (.int 3)] [(.int 0), (.ref ob43)])) rfl rfl (hb hby dc24_59)) ?_
          refine g_aloadN X47 hx hby dc24_60 rfl rfl ?_
          refine g_iload X47 hx hby dc24_61 rfl ?_
          have ne_by__ob43 : by_ ≠ ob43 := Nat.ne_of_lt (Nat.lt_of_lt_of_le Y0.lt (Nat.le_of_eq g43.symm))
          have f50 := (((Y0.ext E43).keep K45 (ninS ne_by__ob43 nin0)).keep K47 (ninS ne_by__ob43 nin0))
          have ov51 := f50
          obtain ⟨cl51, Ar51, q51, S51, M51, H51, G51⟩ := ov51
          have hin51 : ¬ (fr < 0 ∨ cl51.slots.size ≤ (fr).toNatClampNeg) := inb_of S51 (own_in0 hf0 hft (show (0 : Int32) < (tt - fr) from by rw [hc45_14]; decide))
          have hat51 : cl51.slots[(fr).toNatClampNeg]? = some (.int ([y0_, y1_, y2_, y3_, y4_].getD (fr.toNatClampNeg + 0) 0)) := Has.at H51 hin51 (own_gm [y0_, y1_, y2_, y3_, y4_] _)
          refine Go.st (X47.baloadBytes hx (j := fr) (v := (.int ([y0_, y1_, y2_, y3_, y4_].getD (fr.toNatClampNeg + 0) 0))) (by rw [e47]; exact Ar51.1) (State.isArrayOf_alike hZ.alike Ar51.2.1) Ar51.2.2 hin51 hat51 (g := (mkF mi 63 #[.val (.int 2), .val (.int x), .val (.int y), .val (.ref by_), .val (.int fr), .val (.int tt), .val (.ref ob43), .val (.int 3)] [(.int fr), (.ref by_), (.int (pu1 x))])) rfl rfl (hb hby dc24_63)) ?_
          by_cases hc64_15 : (pu1 x) = ([y0_, y1_, y2_, y3_, y4_].getD (fr.toNatClampNeg + 0) 0)
          · refine g_icmpYes X47 hx hby dc24_64 (teq hc64_15).1 (pc0 := 64) (pc' := 69) rfl (by decide) (by decide) ?_
            refine g_iload X47 hx hby dc24_69 rfl ?_
            refine g_iconst X47 hx hby dc24_71 (v := 2) rfl ?_
            refine g_icmpNo X47 hx hby dc24_72 (flt (by decide)).1 ?_
            refine g_aload X47 hx hby dc24_75 rfl rfl ?_
            refine g_iconst X47 hx hby dc24_77 (v := 1) rfl ?_
            have ov52 := VV_47
            obtain ⟨cl52, Ar52, q52, S52, M52, H52, G52⟩ := ov52
            have hin52 : ¬ ((1 : Int32) < 0 ∨ cl52.slots.size ≤ ((1 : Int32)).toNatClampNeg) := inb_of S52 ⟨by decide, by decide⟩
            have hat52 : cl52.slots[((1 : Int32)).toNatClampNeg]? = some (.int (pu2 x)) := Has.at H52 hin52 rfl
            refine Go.st (X47.baloadBytes hx (j := (1 : Int32)) (v := (.int (pu2 x))) (by rw [e47]; exact Ar52.1) (State.isArrayOf_alike hZ.alike Ar52.2.1) Ar52.2.2 hin52 hat52 (g := (mkF mi 78 #[.val (.int 2), .val (.int x), .val (.int y), .val (.ref by_), .val (.int fr), .val (.int tt), .val (.ref ob43), .val (.int 3)] [(.int 1), (.ref ob43)])) rfl rfl (hb hby dc24_78)) ?_
            refine g_aloadN X47 hx hby dc24_79 rfl rfl ?_
            refine g_iload X47 hx hby dc24_80 rfl ?_
            refine g_iconst X47 hx hby dc24_82 (v := 1) rfl ?_
            show Go _ _ _ (T47.setTop (mkF mi 83 #[.val (.int 2), .val (.int x), .val (.int y), .val (.ref by_), .val (.int fr), .val (.int tt), .val (.ref ob43), .val (.int 3)] [(.int 1), (.int fr), (.ref by_), (.int (pu2 x))])) _
            refine g_iadd X47 hx hby dc24_83 rfl ?_
            have ov53 := f50
            obtain ⟨cl53, Ar53, q53, S53, M53, H53, G53⟩ := ov53
            have hin53 : ¬ ((fr + (1 : Int32)) < 0 ∨ cl53.slots.size ≤ ((fr + (1 : Int32))).toNatClampNeg) := inb_of S53 (own_in5 hf0 hft (by decide +kernel : (1 : Int32).toInt = ((1 : Nat) : Int)) (show (1 : Int32) < (tt - fr) from by rw [hc45_14]; decide))
            have hat53 : cl53.slots[((fr + (1 : Int32))).toNatClampNeg]? = some (.int ([y0_, y1_, y2_, y3_, y4_].getD (fr.toNatClampNeg + 1) 0)) := Has.at H53 hin53 (own_b5 _ _ _ _ _ hf0 hft (by decide +kernel : (1 : Int32).toInt = ((1 : Nat) : Int)) (show (1 : Int32) < (tt - fr) from by rw [hc45_14]; decide))
            refine Go.st (X47.baloadBytes hx (j := (fr + (1 : Int32))) (v := (.int ([y0_, y1_, y2_, y3_, y4_].getD (fr.toNatClampNeg + 1) 0))) (by rw [e47]; exact Ar53.1) (State.isArrayOf_alike hZ.alike Ar53.2.1) Ar53.2.2 hin53 hat53 (g := (mkF mi 84 #[.val (.int 2), .val (.int x), .val (.int y), .val (.ref by_), .val (.int fr), .val (.int tt), .val (.ref ob43), .val (.int 3)] [(.int (fr + (1 : Int32))), (.ref by_), (.int (pu2 x))])) rfl rfl (hb hby dc24_84)) ?_
            by_cases hc85_16 : (pu2 x) = ([y0_, y1_, y2_, y3_, y4_].getD (fr.toNatClampNeg + 1) 0)
            · refine g_icmpYes X47 hx hby dc24_85 (teq hc85_16).1 (pc0 := 85) (pc' := 90) rfl (by decide) (by decide) ?_
              refine g_iload X47 hx hby dc24_90 rfl ?_
              refine g_iconst X47 hx hby dc24_92 (v := 3) rfl ?_
              refine g_icmpNo X47 hx hby dc24_93 (flt (by decide)).1 ?_
              refine g_aload X47 hx hby dc24_96 rfl rfl ?_
              refine g_iconst X47 hx hby dc24_98 (v := 2) rfl ?_
              have ov54 := VV_47
              obtain ⟨cl54, Ar54, q54, S54, M54, H54, G54⟩ := ov54
              have hin54 : ¬ ((2 : Int32) < 0 ∨ cl54.slots.size ≤ ((2 : Int32)).toNatClampNeg) := inb_of S54 ⟨by decide, by decide⟩
              have hat54 : cl54.slots[((2 : Int32)).toNatClampNeg]? = some (.int (y.toInt8.toInt32)) := Has.at H54 hin54 rfl
              refine Go.st (X47.baloadBytes hx (j := (2 : Int32)) (v := (.int (y.toInt8.toInt32))) (by rw [e47]; exact Ar54.1) (State.isArrayOf_alike hZ.alike Ar54.2.1) Ar54.2.2 hin54 hat54 (g := (mkF mi 99 #[.val (.int 2), .val (.int x), .val (.int y), .val (.ref by_), .val (.int fr), .val (.int tt), .val (.ref ob43), .val (.int 3)] [(.int 2), (.ref ob43)])) rfl rfl (hb hby dc24_99)) ?_
              refine g_aloadN X47 hx hby dc24_100 rfl rfl ?_
              refine g_iload X47 hx hby dc24_101 rfl ?_
              refine g_iconst X47 hx hby dc24_103 (v := 2) rfl ?_
              refine g_iadd X47 hx hby dc24_104 rfl ?_
              have ov55 := f50
              obtain ⟨cl55, Ar55, q55, S55, M55, H55, G55⟩ := ov55
              have hin55 : ¬ ((fr + (2 : Int32)) < 0 ∨ cl55.slots.size ≤ ((fr + (2 : Int32))).toNatClampNeg) := inb_of S55 (own_in5 hf0 hft (by decide +kernel : (2 : Int32).toInt = ((2 : Nat) : Int)) (show (2 : Int32) < (tt - fr) from by rw [hc45_14]; decide))
              have hat55 : cl55.slots[((fr + (2 : Int32))).toNatClampNeg]? = some (.int ([y0_, y1_, y2_, y3_, y4_].getD (fr.toNatClampNeg + 2) 0)) := Has.at H55 hin55 (own_b5 _ _ _ _ _ hf0 hft (by decide +kernel : (2 : Int32).toInt = ((2 : Nat) : Int)) (show (2 : Int32) < (tt - fr) from by rw [hc45_14]; decide))
              refine Go.st (X47.baloadBytes hx (j := (fr + (2 : Int32))) (v := (.int ([y0_, y1_, y2_, y3_, y4_].getD (fr.toNatClampNeg + 2) 0))) (by rw [e47]; exact Ar55.1) (State.isArrayOf_alike hZ.alike Ar55.2.1) Ar55.2.2 hin55 hat55 (g := (mkF mi 105 #[.val (.int 2), .val (.int x), .val (.int y), .val (.ref by_), .val (.int fr), .val (.int tt), .val (.ref ob43), .val (.int 3)] [(.int (fr + (2 : Int32))), (.ref by_), (.int (y.toInt8.toInt32))])) rfl rfl (hb hby dc24_105)) ?_
              by_cases hc106_17 : (y.toInt8.toInt32) = ([y0_, y1_, y2_, y3_, y4_].getD (fr.toNatClampNeg + 2) 0)
              · refine g_icmpYes X47 hx hby dc24_106 (teq hc106_17).1 (pc0 := 106) (pc' := 111) rfl (by decide) (by decide) ?_
                refine g_iload X47 hx hby dc24_111 rfl ?_
                refine g_iconst X47 hx hby dc24_113 (v := 4) rfl ?_
                refine g_icmpYes X47 hx hby dc24_114 (tlt (by decide)).1 (pc0 := 114) (pc' := 132) rfl (by decide) (by decide) ?_
                refine g_iconst X47 hx hby dc24_132 (v := 1) rfl ?_
                obtain ⟨fs, hr, hrun, hended, hW, hsame⟩ := X47.leave (v := some (.int 1)) (fun h => by rw [Bd.returns] at h; cases h) (BodyLoose.notSynchronized Bd)
                refine ⟨_, _, ?_, hP _ _ ⟨hrun, hended, _, _, rfl, ?_, ⟨_, rfl⟩, hW, hsame.mono (by decide) (by decide)⟩⟩
                · exact retN X47 hx (t := .boolean) Bd.returns (by simp) (hb hby dc24_133) hr
                · show (some (.int 1) : Option Value) = some (.int (if (eN ln (x.toInt8.toInt32) (y.toInt8.toInt32)) = (tt - fr) ∧ Mt (eL ln (x.toInt8.toInt32) (y.toInt8.toInt32)) [y0_, y1_, y2_, y3_, y4_] fr.toNatClampNeg = true then (1 : Int32) else (0 : Int32))) ∧ Fr n0 _ ∧ Keep h0 T47.heap []
                  rw [e47]
                  have hE : eL ln (x.toInt8.toInt32) (y.toInt8.toInt32) = [(pu1 x), (pu2 x), (y.toInt8.toInt32)] := by rw [hN, eL2, own_pu hx1 hx2 hxa, own_pa hy1 hy2 hya] <;> rfl
                  have hn : eN ln (x.toInt8.toInt32) (y.toInt8.toInt32) = (3 : Int32) := by unfold eN; rw [hE] <;> rfl
                  refine ⟨?_, N47, KC48⟩
                  have hm : Mt (eL ln (x.toInt8.toInt32) (y.toInt8.toInt32)) [y0_, y1_, y2_, y3_, y4_] fr.toNatClampNeg = true := by rw [hE]; exact own_mt.mpr (fun k hk => by
                    match k, hk with
                    | 0, _ => exact hc64_15
                    | 1, _ => exact hc85_16
                    | 2, _ => exact hc106_17)
                  rw [if_pos ⟨hn.trans hc45_14.symm, hm⟩]
              · refine g_icmpNo X47 hx hby dc24_106 (feq hc106_17).1 ?_
                refine g_iconst X47 hx hby dc24_109 (v := 0) rfl ?_
                obtain ⟨fs, hr, hrun, hended, hW, hsame⟩ := X47.leave (v := some (.int 0)) (fun h => by rw [Bd.returns] at h; cases h) (BodyLoose.notSynchronized Bd)
                refine ⟨_, _, ?_, hP _ _ ⟨hrun, hended, _, _, rfl, ?_, ⟨_, rfl⟩, hW, hsame.mono (by decide) (by decide)⟩⟩
                · exact retN X47 hx (t := .boolean) Bd.returns (by simp) (hb hby dc24_110) hr
                · show (some (.int 0) : Option Value) = some (.int (if (eN ln (x.toInt8.toInt32) (y.toInt8.toInt32)) = (tt - fr) ∧ Mt (eL ln (x.toInt8.toInt32) (y.toInt8.toInt32)) [y0_, y1_, y2_, y3_, y4_] fr.toNatClampNeg = true then (1 : Int32) else (0 : Int32))) ∧ Fr n0 _ ∧ Keep h0 T47.heap []
                  rw [e47]
                  have hE : eL ln (x.toInt8.toInt32) (y.toInt8.toInt32) = [(pu1 x), (pu2 x), (y.toInt8.toInt32)] := by rw [hN, eL2, own_pu hx1 hx2 hxa, own_pa hy1 hy2 hya] <;> rfl
                  have hn : eN ln (x.toInt8.toInt32) (y.toInt8.toInt32) = (3 : Int32) := by unfold eN; rw [hE] <;> rfl
                  refine ⟨?_, N47, KC48⟩
                  rw [if_neg (fun (q : (eN ln (x.toInt8.toInt32) (y.toInt8.toInt32)) = (tt - fr) ∧ Mt (eL ln (x.toInt8.toInt32) (y.toInt8.toInt32)) [y0_, y1_, y2_, y3_, y4_] fr.toNatClampNeg = true) => hc106_17 ((own_mt (E := [(pu1 x), (pu2 x), (y.toInt8.toInt32)]) (bs := [y0_, y1_, y2_, y3_, y4_]) (f := fr.toNatClampNeg)).mp (hE ▸ q.2) 2 (by show 2 < 3; decide)))]
            · refine g_icmpNo X47 hx hby dc24_85 (feq hc85_16).1 ?_
              refine g_iconst X47 hx hby dc24_88 (v := 0) rfl ?_
              obtain ⟨fs, hr, hrun, hended, hW, hsame⟩ := X47.leave (v := some (.int 0)) (fun h => by rw [Bd.returns] at h; cases h) (BodyLoose.notSynchronized Bd)
              refine ⟨_, _, ?_, hP _ _ ⟨hrun, hended, _, _, rfl, ?_, ⟨_, rfl⟩, hW, hsame.mono (by decide) (by decide)⟩⟩
              · exact retN X47 hx (t := .boolean) Bd.returns (by simp) (hb hby dc24_89) hr
              · show (some (.int 0) : Option Value) = some (.int (if (eN ln (x.toInt8.toInt32) (y.toInt8.toInt32)) = (tt - fr) ∧ Mt (eL ln (x.toInt8.toInt32) (y.toInt8.toInt32)) [y0_, y1_, y2_, y3_, y4_] fr.toNatClampNeg = true then (1 : Int32) else (0 : Int32))) ∧ Fr n0 _ ∧ Keep h0 T47.heap []
                rw [e47]
                have hE : eL ln (x.toInt8.toInt32) (y.toInt8.toInt32) = [(pu1 x), (pu2 x), (y.toInt8.toInt32)] := by rw [hN, eL2, own_pu hx1 hx2 hxa, own_pa hy1 hy2 hya] <;> rfl
                have hn : eN ln (x.toInt8.toInt32) (y.toInt8.toInt32) = (3 : Int32) := by unfold eN; rw [hE] <;> rfl
                refine ⟨?_, N47, KC48⟩
                rw [if_neg (fun (q : (eN ln (x.toInt8.toInt32) (y.toInt8.toInt32)) = (tt - fr) ∧ Mt (eL ln (x.toInt8.toInt32) (y.toInt8.toInt32)) [y0_, y1_, y2_, y3_, y4_] fr.toNatClampNeg = true) => hc85_16 ((own_mt (E := [(pu1 x), (pu2 x), (y.toInt8.toInt32)]) (bs := [y0_, y1_, y2_, y3_, y4_]) (f := fr.toNatClampNeg)).mp (hE ▸ q.2) 1 (by show 1 < 3; decide)))]
          · refine g_icmpNo X47 hx hby dc24_64 (feq hc64_15).1 ?_
            refine g_iconst X47 hx hby dc24_67 (v := 0) rfl ?_
            obtain ⟨fs, hr, hrun, hended, hW, hsame⟩ := X47.leave (v := some (.int 0)) (fun h => by rw [Bd.returns] at h; cases h) (BodyLoose.notSynchronized Bd)
            refine ⟨_, _, ?_, hP _ _ ⟨hrun, hended, _, _, rfl, ?_, ⟨_, rfl⟩, hW, hsame.mono (by decide) (by decide)⟩⟩
            · exact retN X47 hx (t := .boolean) Bd.returns (by simp) (hb hby dc24_68) hr
            · show (some (.int 0) : Option Value) = some (.int (if (eN ln (x.toInt8.toInt32) (y.toInt8.toInt32)) = (tt - fr) ∧ Mt (eL ln (x.toInt8.toInt32) (y.toInt8.toInt32)) [y0_, y1_, y2_, y3_, y4_] fr.toNatClampNeg = true then (1 : Int32) else (0 : Int32))) ∧ Fr n0 _ ∧ Keep h0 T47.heap []
              rw [e47]
              have hE : eL ln (x.toInt8.toInt32) (y.toInt8.toInt32) = [(pu1 x), (pu2 x), (y.toInt8.toInt32)] := by rw [hN, eL2, own_pu hx1 hx2 hxa, own_pa hy1 hy2 hya] <;> rfl
              have hn : eN ln (x.toInt8.toInt32) (y.toInt8.toInt32) = (3 : Int32) := by unfold eN; rw [hE] <;> rfl
              refine ⟨?_, N47, KC48⟩
              rw [if_neg (fun (q : (eN ln (x.toInt8.toInt32) (y.toInt8.toInt32)) = (tt - fr) ∧ Mt (eL ln (x.toInt8.toInt32) (y.toInt8.toInt32)) [y0_, y1_, y2_, y3_, y4_] fr.toNatClampNeg = true) => hc64_15 ((own_mt (E := [(pu1 x), (pu2 x), (y.toInt8.toInt32)]) (bs := [y0_, y1_, y2_, y3_, y4_]) (f := fr.toNatClampNeg)).mp (hE ▸ q.2) 0 (by show 0 < 3; decide)))]
        · refine g_icmpNo X47 hx hby dc24_45 (feq hc45_14).1 ?_
          refine g_iconst X47 hx hby dc24_48 (v := 0) rfl ?_
          obtain ⟨fs, hr, hrun, hended, hW, hsame⟩ := X47.leave (v := some (.int 0)) (fun h => by rw [Bd.returns] at h; cases h) (BodyLoose.notSynchronized Bd)
          refine ⟨_, _, ?_, hP _ _ ⟨hrun, hended, _, _, rfl, ?_, ⟨_, rfl⟩, hW, hsame.mono (by decide) (by decide)⟩⟩
          · exact retN X47 hx (t := .boolean) Bd.returns (by simp) (hb hby dc24_49) hr
          · show (some (.int 0) : Option Value) = some (.int (if (eN ln (x.toInt8.toInt32) (y.toInt8.toInt32)) = (tt - fr) ∧ Mt (eL ln (x.toInt8.toInt32) (y.toInt8.toInt32)) [y0_, y1_, y2_, y3_, y4_] fr.toNatClampNeg = true then (1 : Int32) else (0 : Int32))) ∧ Fr n0 _ ∧ Keep h0 T47.heap []
            rw [e47]
            have hE : eL ln (x.toInt8.toInt32) (y.toInt8.toInt32) = [(pu1 x), (pu2 x), (y.toInt8.toInt32)] := by rw [hN, eL2, own_pu hx1 hx2 hxa, own_pa hy1 hy2 hya] <;> rfl
            have hn : eN ln (x.toInt8.toInt32) (y.toInt8.toInt32) = (3 : Int32) := by unfold eN; rw [hE] <;> rfl
            refine ⟨?_, N47, KC48⟩
            rw [if_neg (fun q => hc45_14 (q.1.symm.trans hn))]
      · skip
        refine g_iconst X0 hx hby dc24_0 (v := 4) rfl ?_
        obtain ⟨T56, h56, k56, X56, e56, E56, A56, EX56, st56⟩ := newPE X0 hx hZ (hw _ (own_m 8 rfl)) e0 (g := (mkF mi 1 #[.val (.int 2), .val (.int x), .val (.int y), .val (.ref by_), .val (.int fr), .val (.int tt), .unset, .unset] [(.int 4)])) rfl (hb hby dc24_1) rfl (by decide) (cap := 4) (by decide) (by decide) (by decide) (by decide) (ad := "[B") (by decide)
        obtain ⟨ob56, g56⟩ : ∃ z, z = h0.size := ⟨_, rfl⟩
        rw [← g56] at A56 EX56 st56
        have Zs57 : n0 ≤ h56.size := Nat.le_trans Z0 E56.1
        have KC57 : Keep h0 h56 [] := (Keep.refl h0 []).ext E56
        have g_ob56 : n0 ≤ ob56 := Nat.le_trans Z0 (Nat.le_of_eq g56.symm)
        have sz_ob56 : h0.size ≤ ob56 := Nat.le_trans (Keep.refl h0 []).1 (Nat.le_of_eq g56.symm)
        have V56 : Arv Z h56 ob56 k56 .byte (4 : Int32) [(.int (0 : Int32)), (.int (0 : Int32)), (.int (0 : Int32)), (.int (0 : Int32))] (.int (0 : Int32)) := (Arv.new A56 (by decide)).pad (pad_rep [] (.int (0 : Int32)) 4)
        refine Go.st st56 ?_
        refine g_astore X56 hx hby dc24_3 rfl (l' := #[.val (.int 2), .val (.int x), .val (.int y), .val (.ref by_), .val (.int fr), .val (.int tt), .val (.ref ob56), .unset]) rfl ?_
        refine g_iconst X56 hx hby dc24_5 (v := 0) rfl ?_
        show Go _ _ _ (T56.setTop (mkF mi 6 #[.val (.int 2), .val (.int x), .val (.int y), .val (.ref by_), .val (.int fr), .val (.int tt), .val (.ref ob56), .unset] [(.int 0)])) _
        refine g_istore X56 hx hby dc24_6 (l' := #[.val (.int 2), .val (.int x), .val (.int y), .val (.ref by_), .val (.int fr), .val (.int tt), .val (.ref ob56), .val (.int 0)]) rfl ?_
        refine g_iloadN X56 hx hby dc24_8 rfl ?_
        refine g_iconst X56 hx hby dc24_9 (v := 1) rfl ?_
        refine g_icmpNo X56 hx hby dc24_10 (flt (by decide)).1 ?_
        refine g_aload X56 hx hby dc24_13 rfl rfl ?_
        refine g_iload X56 hx hby dc24_15 rfl ?_
        refine g_iloadN X56 hx hby dc24_17 rfl ?_
        obtain ⟨_, _, ⟨T58, L58, k58, n58⟩, -, X58, ⟨Lc58, hQ58, l58, y58, z58⟩, st58⟩ := Jvm.LawKit.callS X56 hx (y := (⟨"com/example/crossbook/crossbook/venue/TextsIndexOfPinLaw", "put", "([BIC)I"⟩ : MethodName)) hown (mvT hZ (hw _ (own_m 145 rfl))) (mvT hZ (hw _ (own_m 146 rfl))) (mvT hZ (hw _ (own_m 3 rfl))) (mvT hZ (hw _ (own_m 147 rfl))) (by decide) (backOf (W := 0) (rmPu0B l Z a0 hw [] ob56 x k56 (0 : Int32) (0 : Int32) (0 : Int32) (0 : Int32) h56 n0 Zs57 V56 g_ob56 hxa) hZ (hw _ (own_m 147 rfl)) (hw _ (own_m 3 rfl)) (by decide) (by decide)) (g := (mkF mi 18 #[.val (.int 2), .val (.int x), .val (.int y), .val (.ref by_), .val (.int fr), .val (.int tt), .val (.ref ob56), .val (.int 0)] [(.int x), (.int 0), (.ref ob56)])) rfl (by rw [hml]; rfl) (argsL := [(.ref ob56), (.int 0), (.int x)]) (rest := []) (lenOf pd_19 rfl) rfl (by show 2 * 0 + _ ≤ _; exact Nat.le_of_eq rfl) (hb hby dc24_18) (fun _ _ => ⟨rfl, e56, (by decide : 1 + 0 ≤ _), (by decide : 4 + 0 ≤ _)⟩)
        dsimp only [Pt.U, Pt.locs, Pt.cells, Pt.slots] at X58 l58 y58 z58 st58 hQ58
        subst l58 y58 z58
        have X58 := own_cs X58 (cells' := 1) (slots' := 4) rfl rfl
        obtain ⟨h58, e58⟩ : ∃ z, T58.heap = z := ⟨_, rfl⟩
        rw [e58] at hQ58
        obtain ⟨rfl, N58q, K58, VV_58⟩ := hQ58
        have N58 := Fr.app N0 N58q
        have Zs59 : n0 ≤ h58.size := Nat.le_trans Zs57 K58.1
        have KC59 : Keep h0 h58 [] := KC57.trans K58 (allS (P := fun x => x ∈ [] ∨ h0.size ≤ x) (Or.inr sz_ob56) all0)
        refine Go.st st58 ?_
        refine g_istore X58 hx hby dc24_21 (l' := #[.val (.int 2), .val (.int x), .val (.int y), .val (.ref by_), .val (.int fr), .val (.int tt), .val (.ref ob56), .val (.int 2)]) rfl ?_
        refine g_iloadN X58 hx hby dc24_23 rfl ?_
        refine g_iconst X58 hx hby dc24_24 (v := 2) rfl ?_
        refine g_icmpNo X58 hx hby dc24_25 (flt (by decide)).1 ?_
        refine g_aload X58 hx hby dc24_28 rfl rfl ?_
        refine g_iload X58 hx hby dc24_30 rfl ?_
        refine g_iloadN X58 hx hby dc24_32 rfl ?_
        obtain ⟨_, _, ⟨T60, L60, k60, n60⟩, -, X60, ⟨Lc60, hQ60, l60, y60, z60⟩, st60⟩ := Jvm.LawKit.callS X58 hx (y := (⟨"com/example/crossbook/crossbook/venue/TextsIndexOfPinLaw", "put", "([BIC)I"⟩ : MethodName)) hown (mvT hZ (hw _ (own_m 145 rfl))) (mvT hZ (hw _ (own_m 146 rfl))) (mvT hZ (hw _ (own_m 3 rfl))) (mvT hZ (hw _ (own_m 147 rfl))) (by decide) (backOf (W := 0) (rmPu2B l Z a0 hw [] ob56 y k56 (pu1 x) (pu2 x) (0 : Int32) (0 : Int32) h58 n0 Zs59 VV_58 g_ob56 hya) hZ (hw _ (own_m 147 rfl)) (hw _ (own_m 3 rfl)) (by decide) (by decide)) (g := (mkF mi 33 #[.val (.int 2), .val (.int x), .val (.int y), .val (.ref by_), .val (.int fr), .val (.int tt), .val (.ref ob56), .val (.int 2)] [(.int y), (.int 2), (.ref ob56)])) rfl (by rw [hml]; rfl) (argsL := [(.ref ob56), (.int 2), (.int y)]) (rest := []) (lenOf pd_19 rfl) rfl (by show 2 * 0 + _ ≤ _; exact Nat.le_of_eq rfl) (hb hby dc24_33) (fun _ _ => ⟨rfl, e58, (by decide : 1 + 0 ≤ _), (by decide : 4 + 0 ≤ _)⟩)
        dsimp only [Pt.U, Pt.locs, Pt.cells, Pt.slots] at X60 l60 y60 z60 st60 hQ60
        subst l60 y60 z60
        have X60 := own_cs X60 (cells' := 1) (slots' := 4) rfl rfl
        obtain ⟨h60, e60⟩ : ∃ z, T60.heap = z := ⟨_, rfl⟩
        rw [e60] at hQ60
        obtain ⟨rfl, N60q, K60, VV_60⟩ := hQ60
        have N60 := Fr.app N58 N60q
        have Zs61 : n0 ≤ h60.size := Nat.le_trans Zs59 K60.1
        have KC61 : Keep h0 h60 [] := KC59.trans K60 (allS (P := fun x => x ∈ [] ∨ h0.size ≤ x) (Or.inr sz_ob56) all0)
        refine Go.st st60 ?_
        refine g_istore X60 hx hby dc24_36 (l' := #[.val (.int 2), .val (.int x), .val (.int y), .val (.ref by_), .val (.int fr), .val (.int tt), .val (.ref ob56), .val (.int 4)]) rfl ?_
        refine g_iload X60 hx hby dc24_38 rfl ?_
        refine g_iload X60 hx hby dc24_40 rfl ?_
        refine g_isub X60 hx hby dc24_42 rfl ?_
        refine g_iload X60 hx hby dc24_43 rfl ?_
        by_cases hc45_18 : (tt - fr) = (4 : Int32)
        · refine g_icmpYes X60 hx hby dc24_45 (teq hc45_18).1 (pc0 := 45) (pc' := 50) rfl (by decide) (by decide) ?_
          refine g_iload X60 hx hby dc24_50 rfl ?_
          refine g_iconst X60 hx hby dc24_52 (v := 1) rfl ?_
          refine g_icmpNo X60 hx hby dc24_53 (flt (by decide)).1 ?_
          refine g_aload X60 hx hby dc24_56 rfl rfl ?_
          refine g_iconst X60 hx hby dc24_58 (v := 0) rfl ?_
          have ov62 := VV_60
          obtain ⟨cl62, Ar62, q62, S62, M62, H62, G62⟩ := ov62
          have hin62 : ¬ ((0 : Int32) < 0 ∨ cl62.slots.size ≤ ((0 : Int32)).toNatClampNeg) := inb_of S62 ⟨by decide, by decide⟩
          have hat62 : cl62.slots[((0 : Int32)).toNatClampNeg]? = some (.int (pu1 x)) := Has.at H62 hin62 rfl
          refine Go.st (X60.baloadBytes hx (j := (0 : Int32)) (v := (.int (pu1 x))) (by rw [e60]; exact Ar62.1) (State.isArrayOf_alike hZ.alike Ar62.2.1) Ar62.2.2 hin62 hat62 (g := (mkF mi 59 #[.val (.int 2), .val (.int x), .val (.int y), .val (.ref by_), .val (.int fr), .val (.int tt), .val (.ref ob56), .val (.int 4)] [(.int 0), (.ref ob56)])) rfl rfl (hb hby dc24_59)) ?_
          refine g_aloadN X60 hx hby dc24_60 rfl rfl ?_
          refine g_iload X60 hx hby dc24_61 rfl ?_
          have ne_by__ob56 : by_ ≠ ob56 := Nat.ne_of_lt (Nat.lt_of_lt_of_le Y0.lt (Nat.le_of_eq g56.symm))
          have f63 := (((Y0.ext E56).keep K58 (ninS ne_by__ob56 nin0)).keep K60 (ninS ne_by__ob56 nin0))
          have ov64 := f63
          obtain ⟨cl64, Ar64, q64, S64, M64, H64, G64⟩ := ov64
          have hin64 : ¬ (fr < 0 ∨ cl64.slots.size ≤ (fr).toNatClampNeg) := inb_of S64 (own_in0 hf0 hft (show (0 : Int32) < (tt - fr) from by rw [hc45_18]; decide))
          have hat64 : cl64.slots[(fr).toNatClampNeg]? = some (.int ([y0_, y1_, y2_, y3_, y4_].getD (fr.toNatClampNeg + 0) 0)) := Has.at H64 hin64 (own_gm [y0_, y1_, y2_, y3_, y4_] _)
          refine Go.st (X60.baloadBytes hx (j := fr) (v := (.int ([y0_, y1_, y2_, y3_, y4_].getD (fr.toNatClampNeg + 0) 0))) (by rw [e60]; exact Ar64.1) (State.isArrayOf_alike hZ.alike Ar64.2.1) Ar64.2.2 hin64 hat64 (g := (mkF mi 63 #[.val (.int 2), .val (.int x), .val (.int y), .val (.ref by_), .val (.int fr), .val (.int tt), .val (.ref ob56), .val (.int 4)] [(.int fr), (.ref by_), (.int (pu1 x))])) rfl rfl (hb hby dc24_63)) ?_
          show Go _ _ _ (T60.setTop (mkF mi 64 #[.val (.int 2), .val (.int x), .val (.int y), .val (.ref by_), .val (.int fr), .val (.int tt), .val (.ref ob56), .val (.int 4)] [(.int ([y0_, y1_, y2_, y3_, y4_].getD (fr.toNatClampNeg + 0) 0)), (.int (pu1 x))])) _
          by_cases hc64_19 : (pu1 x) = ([y0_, y1_, y2_, y3_, y4_].getD (fr.toNatClampNeg + 0) 0)
          · refine g_icmpYes X60 hx hby dc24_64 (teq hc64_19).1 (pc0 := 64) (pc' := 69) rfl (by decide) (by decide) ?_
            refine g_iload X60 hx hby dc24_69 rfl ?_
            refine g_iconst X60 hx hby dc24_71 (v := 2) rfl ?_
            refine g_icmpNo X60 hx hby dc24_72 (flt (by decide)).1 ?_
            refine g_aload X60 hx hby dc24_75 rfl rfl ?_
            refine g_iconst X60 hx hby dc24_77 (v := 1) rfl ?_
            have ov65 := VV_60
            obtain ⟨cl65, Ar65, q65, S65, M65, H65, G65⟩ := ov65
            have hin65 : ¬ ((1 : Int32) < 0 ∨ cl65.slots.size ≤ ((1 : Int32)).toNatClampNeg) := inb_of S65 ⟨by decide, by decide⟩
            have hat65 : cl65.slots[((1 : Int32)).toNatClampNeg]? = some (.int (pu2 x)) := Has.at H65 hin65 rfl
            refine Go.st (X60.baloadBytes hx (j := (1 : Int32)) (v := (.int (pu2 x))) (by rw [e60]; exact Ar65.1) (State.isArrayOf_alike hZ.alike Ar65.2.1) Ar65.2.2 hin65 hat65 (g := (mkF mi 78 #[.val (.int 2), .val (.int x), .val (.int y), .val (.ref by_), .val (.int fr), .val (.int tt), .val (.ref ob56), .val (.int 4)] [(.int 1), (.ref ob56)])) rfl rfl (hb hby dc24_78)) ?_
            refine g_aloadN X60 hx hby dc24_79 rfl rfl ?_
            refine g_iload X60 hx hby dc24_80 rfl ?_
            refine g_iconst X60 hx hby dc24_82 (v := 1) rfl ?_
            refine g_iadd X60 hx hby dc24_83 rfl ?_
            have ov66 := f63
            obtain ⟨cl66, Ar66, q66, S66, M66, H66, G66⟩ := ov66
            have hin66 : ¬ ((fr + (1 : Int32)) < 0 ∨ cl66.slots.size ≤ ((fr + (1 : Int32))).toNatClampNeg) := inb_of S66 (own_in5 hf0 hft (by decide +kernel : (1 : Int32).toInt = ((1 : Nat) : Int)) (show (1 : Int32) < (tt - fr) from by rw [hc45_18]; decide))
            have hat66 : cl66.slots[((fr + (1 : Int32))).toNatClampNeg]? = some (.int ([y0_, y1_, y2_, y3_, y4_].getD (fr.toNatClampNeg + 1) 0)) := Has.at H66 hin66 (own_b5 _ _ _ _ _ hf0 hft (by decide +kernel : (1 : Int32).toInt = ((1 : Nat) : Int)) (show (1 : Int32) < (tt - fr) from by rw [hc45_18]; decide))
            refine Go.st (X60.baloadBytes hx (j := (fr + (1 : Int32))) (v := (.int ([y0_, y1_, y2_, y3_, y4_].getD (fr.toNatClampNeg + 1) 0))) (by rw [e60]; exact Ar66.1) (State.isArrayOf_alike hZ.alike Ar66.2.1) Ar66.2.2 hin66 hat66 (g := (mkF mi 84 #[.val (.int 2), .val (.int x), .val (.int y), .val (.ref by_), .val (.int fr), .val (.int tt), .val (.ref ob56), .val (.int 4)] [(.int (fr + (1 : Int32))), (.ref by_), (.int (pu2 x))])) rfl rfl (hb hby dc24_84)) ?_
            by_cases hc85_20 : (pu2 x) = ([y0_, y1_, y2_, y3_, y4_].getD (fr.toNatClampNeg + 1) 0)
            · refine g_icmpYes X60 hx hby dc24_85 (teq hc85_20).1 (pc0 := 85) (pc' := 90) rfl (by decide) (by decide) ?_
              refine g_iload X60 hx hby dc24_90 rfl ?_
              refine g_iconst X60 hx hby dc24_92 (v := 3) rfl ?_
              refine g_icmpNo X60 hx hby dc24_93 (flt (by decide)).1 ?_
              refine g_aload X60 hx hby dc24_96 rfl rfl ?_
              refine g_iconst X60 hx hby dc24_98 (v := 2) rfl ?_
              have ov67 := VV_60
              obtain ⟨cl67, Ar67, q67, S67, M67, H67, G67⟩ := ov67
              have hin67 : ¬ ((2 : Int32) < 0 ∨ cl67.slots.size ≤ ((2 : Int32)).toNatClampNeg) := inb_of S67 ⟨by decide, by decide⟩
              have hat67 : cl67.slots[((2 : Int32)).toNatClampNeg]? = some (.int (pu1 y)) := Has.at H67 hin67 rfl
              refine Go.st (X60.baloadBytes hx (j := (2 : Int32)) (v := (.int (pu1 y))) (by rw [e60]; exact Ar67.1) (State.isArrayOf_alike hZ.alike Ar67.2.1) Ar67.2.2 hin67 hat67 (g := (mkF mi 99 #[.val (.int 2), .val (.int x), .val (.int y), .val (.ref by_), .val (.int fr), .val (.int tt), .val (.ref ob56), .val (.int 4)] [(.int 2), (.ref ob56)])) rfl rfl (hb hby dc24_99)) ?_
              refine g_aloadN X60 hx hby dc24_100 rfl rfl ?_
              refine g_iload X60 hx hby dc24_101 rfl ?_
              refine g_iconst X60 hx hby dc24_103 (v := 2) rfl ?_
              refine g_iadd X60 hx hby dc24_104 rfl ?_
              have ov68 := f63
              obtain ⟨cl68, Ar68, q68, S68, M68, H68, G68⟩ := ov68
              have hin68 : ¬ ((fr + (2 : Int32)) < 0 ∨ cl68.slots.size ≤ ((fr + (2 : Int32))).toNatClampNeg) := inb_of S68 (own_in5 hf0 hft (by decide +kernel : (2 : Int32).toInt = ((2 : Nat) : Int)) (show (2 : Int32) < (tt - fr) from by rw [hc45_18]; decide))
              have hat68 : cl68.slots[((fr + (2 : Int32))).toNatClampNeg]? = some (.int ([y0_, y1_, y2_, y3_, y4_].getD (fr.toNatClampNeg + 2) 0)) := Has.at H68 hin68 (own_b5 _ _ _ _ _ hf0 hft (by decide +kernel : (2 : Int32).toInt = ((2 : Nat) : Int)) (show (2 : Int32) < (tt - fr) from by rw [hc45_18]; decide))
              refine Go.st (X60.baloadBytes hx (j := (fr + (2 : Int32))) (v := (.int ([y0_, y1_, y2_, y3_, y4_].getD (fr.toNatClampNeg + 2) 0))) (by rw [e60]; exact Ar68.1) (State.isArrayOf_alike hZ.alike Ar68.2.1) Ar68.2.2 hin68 hat68 (g := (mkF mi 105 #[.val (.int 2), .val (.int x), .val (.int y), .val (.ref by_), .val (.int fr), .val (.int tt), .val (.ref ob56), .val (.int 4)] [(.int (fr + (2 : Int32))), (.ref by_), (.int (pu1 y))])) rfl rfl (hb hby dc24_105)) ?_
              by_cases hc106_21 : (pu1 y) = ([y0_, y1_, y2_, y3_, y4_].getD (fr.toNatClampNeg + 2) 0)
              · refine g_icmpYes X60 hx hby dc24_106 (teq hc106_21).1 (pc0 := 106) (pc' := 111) rfl (by decide) (by decide) ?_
                refine g_iload X60 hx hby dc24_111 rfl ?_
                refine g_iconst X60 hx hby dc24_113 (v := 4) rfl ?_
                refine g_icmpNo X60 hx hby dc24_114 (flt (by decide)).1 ?_
                refine g_aload X60 hx hby dc24_117 rfl rfl ?_
                refine g_iconst X60 hx hby dc24_119 (v := 3) rfl ?_
                have ov69 := VV_60
                obtain ⟨cl69, Ar69, q69, S69, M69, H69, G69⟩ := ov69
                have hin69 : ¬ ((3 : Int32) < 0 ∨ cl69.slots.size ≤ ((3 : Int32)).toNatClampNeg) := inb_of S69 ⟨by decide, by decide⟩
                have hat69 : cl69.slots[((3 : Int32)).toNatClampNeg]? = some (.int (pu2 y)) := Has.at H69 hin69 rfl
                refine Go.st (X60.baloadBytes hx (j := (3 : Int32)) (v := (.int (pu2 y))) (by rw [e60]; exact Ar69.1) (State.isArrayOf_alike hZ.alike Ar69.2.1) Ar69.2.2 hin69 hat69 (g := (mkF mi 120 #[.val (.int 2), .val (.int x), .val (.int y), .val (.ref by_), .val (.int fr), .val (.int tt), .val (.ref ob56), .val (.int 4)] [(.int 3), (.ref ob56)])) rfl rfl (hb hby dc24_120)) ?_
                show Go _ _ _ (T60.setTop (mkF mi 121 #[.val (.int 2), .val (.int x), .val (.int y), .val (.ref by_), .val (.int fr), .val (.int tt), .val (.ref ob56), .val (.int 4)] [(.int (pu2 y))])) _
                refine g_aloadN X60 hx hby dc24_121 rfl rfl ?_
                refine g_iload X60 hx hby dc24_122 rfl ?_
                refine g_iconst X60 hx hby dc24_124 (v := 3) rfl ?_
                refine g_iadd X60 hx hby dc24_125 rfl ?_
                have ov70 := f63
                obtain ⟨cl70, Ar70, q70, S70, M70, H70, G70⟩ := ov70
                have hin70 : ¬ ((fr + (3 : Int32)) < 0 ∨ cl70.slots.size ≤ ((fr + (3 : Int32))).toNatClampNeg) := inb_of S70 (own_in5 hf0 hft (by decide +kernel : (3 : Int32).toInt = ((3 : Nat) : Int)) (show (3 : Int32) < (tt - fr) from by rw [hc45_18]; decide))
                have hat70 : cl70.slots[((fr + (3 : Int32))).toNatClampNeg]? = some (.int ([y0_, y1_, y2_, y3_, y4_].getD (fr.toNatClampNeg + 3) 0)) := Has.at H70 hin70 (own_b5 _ _ _ _ _ hf0 hft (by decide +kernel : (3 : Int32).toInt = ((3 : Nat) : Int)) (show (3 : Int32) < (tt - fr) from by rw [hc45_18]; decide))
                refine Go.st (X60.baloadBytes hx (j := (fr + (3 : Int32))) (v := (.int ([y0_, y1_, y2_, y3_, y4_].getD (fr.toNatClampNeg + 3) 0))) (by rw [e60]; exact Ar70.1) (State.isArrayOf_alike hZ.alike Ar70.2.1) Ar70.2.2 hin70 hat70 (g := (mkF mi 126 #[.val (.int 2), .val (.int x), .val (.int y), .val (.ref by_), .val (.int fr), .val (.int tt), .val (.ref ob56), .val (.int 4)] [(.int (fr + (3 : Int32))), (.ref by_), (.int (pu2 y))])) rfl rfl (hb hby dc24_126)) ?_
                by_cases hc127_22 : (pu2 y) = ([y0_, y1_, y2_, y3_, y4_].getD (fr.toNatClampNeg + 3) 0)
                · refine g_icmpYes X60 hx hby dc24_127 (teq hc127_22).1 (pc0 := 127) (pc' := 132) rfl (by decide) (by decide) ?_
                  refine g_iconst X60 hx hby dc24_132 (v := 1) rfl ?_
                  obtain ⟨fs, hr, hrun, hended, hW, hsame⟩ := X60.leave (v := some (.int 1)) (fun h => by rw [Bd.returns] at h; cases h) (BodyLoose.notSynchronized Bd)
                  refine ⟨_, _, ?_, hP _ _ ⟨hrun, hended, _, _, rfl, ?_, ⟨_, rfl⟩, hW, hsame.mono (by decide) (by decide)⟩⟩
                  · exact retN X60 hx (t := .boolean) Bd.returns (by simp) (hb hby dc24_133) hr
                  · show (some (.int 1) : Option Value) = some (.int (if (eN ln (x.toInt8.toInt32) (y.toInt8.toInt32)) = (tt - fr) ∧ Mt (eL ln (x.toInt8.toInt32) (y.toInt8.toInt32)) [y0_, y1_, y2_, y3_, y4_] fr.toNatClampNeg = true then (1 : Int32) else (0 : Int32))) ∧ Fr n0 _ ∧ Keep h0 T60.heap []
                    rw [e60]
                    have hE : eL ln (x.toInt8.toInt32) (y.toInt8.toInt32) = [(pu1 x), (pu2 x), (pu1 y), (pu2 y)] := by rw [hN, eL2, own_pu hx1 hx2 hxa, own_pu hy1 hy2 hya] <;> rfl
                    have hn : eN ln (x.toInt8.toInt32) (y.toInt8.toInt32) = (4 : Int32) := by unfold eN; rw [hE] <;> rfl
                    refine ⟨?_, N60, KC61⟩
                    have hm : Mt (eL ln (x.toInt8.toInt32) (y.toInt8.toInt32)) [y0_, y1_, y2_, y3_, y4_] fr.toNatClampNeg = true := by rw [hE]; exact own_mt.mpr (fun k hk => by
                      match k, hk with
                      | 0, _ => exact hc64_19
                      | 1, _ => exact hc85_20
                      | 2, _ => exact hc106_21
                      | 3, _ => exact hc127_22)
                    rw [if_pos ⟨hn.trans hc45_18.symm, hm⟩]
                · refine g_icmpNo X60 hx hby dc24_127 (feq hc127_22).1 ?_
                  refine g_iconst X60 hx hby dc24_130 (v := 0) rfl ?_
                  obtain ⟨fs, hr, hrun, hended, hW, hsame⟩ := X60.leave (v := some (.int 0)) (fun h => by rw [Bd.returns] at h; cases h) (BodyLoose.notSynchronized Bd)
                  refine ⟨_, _, ?_, hP _ _ ⟨hrun, hended, _, _, rfl, ?_, ⟨_, rfl⟩, hW, hsame.mono (by decide) (by decide)⟩⟩
                  · exact retN X60 hx (t := .boolean) Bd.returns (by simp) (hb hby dc24_131) hr
                  · show (some (.int 0) : Option Value) = some (.int (if (eN ln (x.toInt8.toInt32) (y.toInt8.toInt32)) = (tt - fr) ∧ Mt (eL ln (x.toInt8.toInt32) (y.toInt8.toInt32)) [y0_, y1_, y2_, y3_, y4_] fr.toNatClampNeg = true then (1 : Int32) else (0 : Int32))) ∧ Fr n0 _ ∧ Keep h0 T60.heap []
                    rw [e60]
                    have hE : eL ln (x.toInt8.toInt32) (y.toInt8.toInt32) = [(pu1 x), (pu2 x), (pu1 y), (pu2 y)] := by rw [hN, eL2, own_pu hx1 hx2 hxa, own_pu hy1 hy2 hya] <;> rfl
                    have hn : eN ln (x.toInt8.toInt32) (y.toInt8.toInt32) = (4 : Int32) := by unfold eN; rw [hE] <;> rfl
                    refine ⟨?_, N60, KC61⟩
                    rw [if_neg (fun (q : (eN ln (x.toInt8.toInt32) (y.toInt8.toInt32)) = (tt - fr) ∧ Mt (eL ln (x.toInt8.toInt32) (y.toInt8.toInt32)) [y0_, y1_, y2_, y3_, y4_] fr.toNatClampNeg = true) => hc127_22 ((own_mt (E := [(pu1 x), (pu2 x), (pu1 y), (pu2 y)]) (bs := [y0_, y1_, y2_, y3_, y4_]) (f := fr.toNatClampNeg)).mp (hE ▸ q.2) 3 (by show 3 < 4; decide)))]
              · refine g_icmpNo X60 hx hby dc24_106 (feq hc106_21).1 ?_
                refine g_iconst X60 hx hby dc24_109 (v := 0) rfl ?_
                obtain ⟨fs, hr, hrun, hended, hW, hsame⟩ := X60.leave (v := some (.int 0)) (fun h => by rw [Bd.returns] at h; cases h) (BodyLoose.notSynchronized Bd)
                refine ⟨_, _, ?_, hP _ _ ⟨hrun, hended, _, _, rfl, ?_, ⟨_, rfl⟩, hW, hsame.mono (by decide) (by decide)⟩⟩
                · exact retN X60 hx (t := .boolean) Bd.returns (by simp) (hb hby dc24_110) hr
                · show (some (.int 0) : Option Value) = some (.int (if (eN ln (x.toInt8.toInt32) (y.toInt8.toInt32)) = (tt - fr) ∧ Mt (eL ln (x.toInt8.toInt32) (y.toInt8.toInt32)) [y0_, y1_, y2_, y3_, y4_] fr.toNatClampNeg = true then (1 : Int32) else (0 : Int32))) ∧ Fr n0 _ ∧ Keep h0 T60.heap []
                  rw [e60]
                  have hE : eL ln (x.toInt8.toInt32) (y.toInt8.toInt32) = [(pu1 x), (pu2 x), (pu1 y), (pu2 y)] := by rw [hN, eL2, own_pu hx1 hx2 hxa, own_pu hy1 hy2 hya] <;> rfl
                  have hn : eN ln (x.toInt8.toInt32) (y.toInt8.toInt32) = (4 : Int32) := by unfold eN; rw [hE] <;> rfl
                  refine ⟨?_, N60, KC61⟩
                  rw [if_neg (fun (q : (eN ln (x.toInt8.toInt32) (y.toInt8.toInt32)) = (tt - fr) ∧ Mt (eL ln (x.toInt8.toInt32) (y.toInt8.toInt32)) [y0_, y1_, y2_, y3_, y4_] fr.toNatClampNeg = true) => hc106_21 ((own_mt (E := [(pu1 x), (pu2 x), (pu1 y), (pu2 y)]) (bs := [y0_, y1_, y2_, y3_, y4_]) (f := fr.toNatClampNeg)).mp (hE ▸ q.2) 2 (by show 2 < 4; decide)))]
            · refine g_icmpNo X60 hx hby dc24_85 (feq hc85_20).1 ?_
              refine g_iconst X60 hx hby dc24_88 (v := 0) rfl ?_
              obtain ⟨fs, hr, hrun, hended, hW, hsame⟩ := X60.leave (v := some (.int 0)) (fun h => by rw [Bd.returns] at h; cases h) (BodyLoose.notSynchronized Bd)
              refine ⟨_, _, ?_, hP _ _ ⟨hrun, hended, _, _, rfl, ?_, ⟨_, rfl⟩, hW, hsame.mono (by decide) (by decide)⟩⟩
              · exact retN X60 hx (t := .boolean) Bd.returns (by simp) (hb hby dc24_89) hr
              · show (some (.int 0) : Option Value) = some (.int (if (eN ln (x.toInt8.toInt32) (y.toInt8.toInt32)) = (tt - fr) ∧ Mt (eL ln (x.toInt8.toInt32) (y.toInt8.toInt32)) [y0_, y1_, y2_, y3_, y4_] fr.toNatClampNeg = true then (1 : Int32) else (0 : Int32))) ∧ Fr n0 _ ∧ Keep h0 T60.heap []
                rw [e60]
                have hE : eL ln (x.toInt8.toInt32) (y.toInt8.toInt32) = [(pu1 x), (pu2 x), (pu1 y), (pu2 y)] := by rw [hN, eL2, own_pu hx1 hx2 hxa, own_pu hy1 hy2 hya] <;> rfl
                have hn : eN ln (x.toInt8.toInt32) (y.toInt8.toInt32) = (4 : Int32) := by unfold eN; rw [hE] <;> rfl
                refine ⟨?_, N60, KC61⟩
                rw [if_neg (fun (q : (eN ln (x.toInt8.toInt32) (y.toInt8.toInt32)) = (tt - fr) ∧ Mt (eL ln (x.toInt8.toInt32) (y.toInt8.toInt32)) [y0_, y1_, y2_, y3_, y4_] fr.toNatClampNeg = true) => hc85_20 ((own_mt (E := [(pu1 x), (pu2 x), (pu1 y), (pu2 y)]) (bs := [y0_, y1_, y2_, y3_, y4_]) (f := fr.toNatClampNeg)).mp (hE ▸ q.2) 1 (by show 1 < 4; decide)))]
          · refine g_icmpNo X60 hx hby dc24_64 (feq hc64_19).1 ?_
            refine g_iconst X60 hx hby dc24_67 (v := 0) rfl ?_
            obtain ⟨fs, hr, hrun, hended, hW, hsame⟩ := X60.leave (v := some (.int 0)) (fun h => by rw [Bd.returns] at h; cases h) (BodyLoose.notSynchronized Bd)
            refine ⟨_, _, ?_, hP _ _ ⟨hrun, hended, _, _, rfl, ?_, ⟨_, rfl⟩, hW, hsame.mono (by decide) (by decide)⟩⟩
            · exact retN X60 hx (t := .boolean) Bd.returns (by simp) (hb hby dc24_68) hr
            · show (some (.int 0) : Option Value) = some (.int (if (eN ln (x.toInt8.toInt32) (y.toInt8.toInt32)) = (tt - fr) ∧ Mt (eL ln (x.toInt8.toInt32) (y.toInt8.toInt32)) [y0_, y1_, y2_, y3_, y4_] fr.toNatClampNeg = true then (1 : Int32) else (0 : Int32))) ∧ Fr n0 _ ∧ Keep h0 T60.heap []
              rw [e60]
              have hE : eL ln (x.toInt8.toInt32) (y.toInt8.toInt32) = [(pu1 x), (pu2 x), (pu1 y), (pu2 y)] := by rw [hN, eL2, own_pu hx1 hx2 hxa, own_pu hy1 hy2 hya] <;> rfl
              have hn : eN ln (x.toInt8.toInt32) (y.toInt8.toInt32) = (4 : Int32) := by unfold eN; rw [hE] <;> rfl
              refine ⟨?_, N60, KC61⟩
              rw [if_neg (fun (q : (eN ln (x.toInt8.toInt32) (y.toInt8.toInt32)) = (tt - fr) ∧ Mt (eL ln (x.toInt8.toInt32) (y.toInt8.toInt32)) [y0_, y1_, y2_, y3_, y4_] fr.toNatClampNeg = true) => hc64_19 ((own_mt (E := [(pu1 x), (pu2 x), (pu1 y), (pu2 y)]) (bs := [y0_, y1_, y2_, y3_, y4_]) (f := fr.toNatClampNeg)).mp (hE ▸ q.2) 0 (by show 0 < 4; decide)))]
        · refine g_icmpNo X60 hx hby dc24_45 (feq hc45_18).1 ?_
          refine g_iconst X60 hx hby dc24_48 (v := 0) rfl ?_
          obtain ⟨fs, hr, hrun, hended, hW, hsame⟩ := X60.leave (v := some (.int 0)) (fun h => by rw [Bd.returns] at h; cases h) (BodyLoose.notSynchronized Bd)
          refine ⟨_, _, ?_, hP _ _ ⟨hrun, hended, _, _, rfl, ?_, ⟨_, rfl⟩, hW, hsame.mono (by decide) (by decide)⟩⟩
          · exact retN X60 hx (t := .boolean) Bd.returns (by simp) (hb hby dc24_49) hr
          · show (some (.int 0) : Option Value) = some (.int (if (eN ln (x.toInt8.toInt32) (y.toInt8.toInt32)) = (tt - fr) ∧ Mt (eL ln (x.toInt8.toInt32) (y.toInt8.toInt32)) [y0_, y1_, y2_, y3_, y4_] fr.toNatClampNeg = true then (1 : Int32) else (0 : Int32))) ∧ Fr n0 _ ∧ Keep h0 T60.heap []
            rw [e60]
            have hE : eL ln (x.toInt8.toInt32) (y.toInt8.toInt32) = [(pu1 x), (pu2 x), (pu1 y), (pu2 y)] := by rw [hN, eL2, own_pu hx1 hx2 hxa, own_pu hy1 hy2 hya] <;> rfl
            have hn : eN ln (x.toInt8.toInt32) (y.toInt8.toInt32) = (4 : Int32) := by unfold eN; rw [hE] <;> rfl
            refine ⟨?_, N60, KC61⟩
            rw [if_neg (fun q => hc45_18 (q.1.symm.trans hn))]
theorem own_l3 (z : Int32) : ((z &&& (3 : Int32)) % (3 : Int32)) = 0 ∨ ((z &&& (3 : Int32)) % (3 : Int32)) = 1 ∨ ((z &&& (3 : Int32)) % (3 : Int32)) = 2 := by
  have e1 := c_mask z 3 2 (by decide) (by decide)
  have e2 := c_irem (z &&& 3) 3 3 rfl
  have l1 : (1 : Int32).toInt = 1 := rfl
  have l2 : (2 : Int32).toInt = 2 := rfl
  simp only [← Int32.toInt_inj, own_z0]; omega
theorem own_ch (z : Int64) : 0 ≤ (((z &&& (255 : Int64)).toInt32).toUInt32.toUInt16.toUInt32.toInt32).toInt ∧ (((z &&& (255 : Int64)).toInt32).toUInt32.toUInt16.toUInt32.toInt32).toInt ≤ 255 := by
  have e1 := c_maskL z 255 8 (by decide) (by decide)
  have e2 := c_l2i (z &&& 255)
  have e3 := c_i2c (z &&& 255).toInt32
  have b1 := Int32.le_toInt (z &&& 255).toInt32
  have b2 := Int32.toInt_lt (z &&& 255).toInt32
  omega
theorem own_N (z : Int32) : ¬ (z &&& (3 : Int32)) < 0 ∧ (z &&& (3 : Int32)).toNatClampNeg ≤ 3 := by
  have e1 := c_mask z 3 2 (by decide) (by decide)
  refine ⟨by rw [Int32.lt_iff_toInt_lt, own_z0]; omega, ?_⟩
  simp only [Int32.toNatClampNeg]; omega
theorem own_fr (z : Int32) : 0 ≤ ((z &&& (2147483647 : Int32)) % (6 : Int32)).toInt ∧ ((z &&& (2147483647 : Int32)) % (6 : Int32)).toInt ≤ 5 := by
  have e1 := c_mask z 2147483647 31 (by decide) (by decide)
  have e2 := c_irem (z &&& 2147483647) 6 6 rfl
  omega
theorem own_6 {fr : Int32} (h0 : 0 ≤ fr.toInt) (h5 : fr.toInt ≤ 5) : ((6 : Int32) - fr).toInt = 6 - fr.toInt := by
  have e := c_isub 6 fr
  have l6 : (6 : Int32).toInt = 6 := rfl
  have b1 := Int32.le_toInt (6 - fr)
  have b2 := Int32.toInt_lt (6 - fr)
  omega
theorem own_60 {fr : Int32} (h0 : 0 ≤ fr.toInt) (h5 : fr.toInt ≤ 5) : ((6 : Int32) - fr) ≠ (0 : Int32) := fun q => by
  have e := own_6 h0 h5
  rw [q, own_z0] at e; omega
theorem own_to (z : Int32) {fr tt : Int32} (h0 : 0 ≤ fr.toInt) (h5 : fr.toInt ≤ 5) (ht : tt = (fr + ((z &&& (2147483647 : Int32)) % ((6 : Int32) - fr)))) : 0 ≤ (tt - fr).toInt ∧ fr.toInt + (tt - fr).toInt ≤ 5 := by
  have e0 := own_6 h0 h5
  have e1 := c_mask z 2147483647 31 (by decide) (by decide)
  have e2 := (c_irem (z &&& 2147483647) (6 - fr) (6 - fr.toInt) e0).1 (by omega)
  have e3 := Int.emod_nonneg (z &&& 2147483647).toInt (show (6 - fr.toInt) ≠ 0 by omega)
  have e4 := Int.emod_lt_of_pos (z &&& 2147483647).toInt (show 0 < 6 - fr.toInt by omega)
  have e5 := c_isub tt fr
  have e6 := c_iadd fr ((z &&& 2147483647) % (6 - fr))
  rw [← ht] at e6
  have b1 := Int32.le_toInt (tt - fr)
  have b2 := Int32.toInt_lt (tt - fr)
  have b3 := Int32.le_toInt tt
  have b4 := Int32.toInt_lt tt
  omega
theorem own_N3 {N : Int32} (hN : ¬ N < 0) (h3 : N.toNatClampNeg ≤ 3) (a : ¬ (N = (0 : Int32))) (b : ¬ (N = (1 : Int32))) (c : ¬ (N = (2 : Int32))) : N = (3 : Int32) := by
  have e := own_nn hN
  have l1 : (1 : Int32).toInt = 1 := rfl
  have l2 : (2 : Int32).toInt = 2 := rfl
  have l3 : (3 : Int32).toInt = 3 := rfl
  simp only [← Int32.toInt_inj, own_z0] at *; omega
theorem own_lts {N a b : Int32} (h : N < a) (q : a.toInt ≤ b.toInt) : N < b := by rw [Int32.lt_iff_toInt_lt] at *; omega
theorem own_Nk {N a b : Int32} {k : Nat} (hN : ¬ N < 0) (ha : a.toInt = k) (hb : b.toInt = k + 1) (h1 : ¬ N < a) (h2 : N < b) : N.toNatClampNeg = k := by
  have e := own_nn hN
  rw [Int32.lt_iff_toInt_lt] at h1 h2; omega
theorem own_N33 {N : Int32} (hN : ¬ N < 0) (h3 : N.toNatClampNeg ≤ 3) (h1 : ¬ N < (3 : Int32)) : N.toNatClampNeg = 3 := by
  have e := own_nn hN
  have l3 : (3 : Int32).toInt = 3 := rfl
  rw [Int32.lt_iff_toInt_lt] at h1; omega
theorem own_g4 {a b c : List Int32} (ha : a.length ≤ 4) (hb : b.length ≤ 4) (hc : c.length ≤ 4) : ∀ i, (g3 a b c i).length ≤ 4
  | 0 => ha
  | 1 => hb
  | _ + 2 => hc
theorem own_ix0 (g : Nat → List Int32) (t : Int32) (bs : List Int32) (f : Nat) : ixR g t bs f 0 = (-1) := by
  unfold ixR
  have hL : idl g t 0 = [] := by simp only [idl] <;> rfl
  rw [hL]
  show (-1 : Int32) = _
  rfl
theorem own_ix1 (g : Nat → List Int32) (t : Int32) (bs : List Int32) (f : Nat) : ixR g t bs f 1 = (if nL g 0 = t ∧ Mt (g 0) bs f = true then (0 : Int32) else (-1)) := by
  unfold ixR
  by_cases h0 : nL g 0 = t
  · have hL : idl g t 1 = [.int 0] := by simp only [idl, if_pos h0] <;> rfl
    rw [hL]
    show (if Mt (g 0) bs f = true then (0 : Int32) else (-1 : Int32)) = _
    simp only [h0, true_and, false_and, if_false, and_self, eq_self_iff_true]
  · have hL : idl g t 1 = [] := by simp only [idl, if_neg h0] <;> rfl
    rw [hL]
    show (-1 : Int32) = _
    simp only [h0, true_and, false_and, if_false, and_self, eq_self_iff_true]
theorem own_ix2 (g : Nat → List Int32) (t : Int32) (bs : List Int32) (f : Nat) : ixR g t bs f 2 = (if nL g 0 = t ∧ Mt (g 0) bs f = true then (0 : Int32) else (if nL g 1 = t ∧ Mt (g 1) bs f = true then (1 : Int32) else (-1))) := by
  unfold ixR
  by_cases h0 : nL g 0 = t
  · by_cases h1 : nL g 1 = t
    · have hL : idl g t 2 = [.int 0, .int 1] := by simp only [idl, if_pos h0, if_pos h1] <;> rfl
      rw [hL]
      show (if Mt (g 0) bs f = true then (0 : Int32) else (if Mt (g 1) bs f = true then (1 : Int32) else (-1 : Int32))) = _
      simp only [h0, h1, true_and, false_and, if_false, and_self, eq_self_iff_true]
    · have hL : idl g t 2 = [.int 0] := by simp only [idl, if_pos h0, if_neg h1] <;> rfl
      rw [hL]
      show (if Mt (g 0) bs f = true then (0 : Int32) else (-1 : Int32)) = _
      simp only [h0, h1, true_and, false_and, if_false, and_self, eq_self_iff_true]
  · by_cases h1 : nL g 1 = t
    · have hL : idl g t 2 = [.int 1] := by simp only [idl, if_neg h0, if_pos h1] <;> rfl
      rw [hL]
      show (if Mt (g 1) bs f = true then (1 : Int32) else (-1 : Int32)) = _
      simp only [h0, h1, true_and, false_and, if_false, and_self, eq_self_iff_true]
    · have hL : idl g t 2 = [] := by simp only [idl, if_neg h0, if_neg h1] <;> rfl
      rw [hL]
      show (-1 : Int32) = _
      simp only [h0, h1, true_and, false_and, if_false, and_self, eq_self_iff_true]
theorem own_ix3 (g : Nat → List Int32) (t : Int32) (bs : List Int32) (f : Nat) : ixR g t bs f 3 = (if nL g 0 = t ∧ Mt (g 0) bs f = true then (0 : Int32) else (if nL g 1 = t ∧ Mt (g 1) bs f = true then (1 : Int32) else (if nL g 2 = t ∧ Mt (g 2) bs f = true then (2 : Int32) else (-1)))) := by
  unfold ixR
  by_cases h0 : nL g 0 = t
  · by_cases h1 : nL g 1 = t
    · by_cases h2 : nL g 2 = t
      · have hL : idl g t 3 = [.int 0, .int 1, .int 2] := by simp only [idl, if_pos h0, if_pos h1, if_pos h2] <;> rfl
        rw [hL]
        show (if Mt (g 0) bs f = true then (0 : Int32) else (if Mt (g 1) bs f = true then (1 : Int32) else (if Mt (g 2) bs f = true then (2 : Int32) else (-1 : Int32)))) = _
        simp only [h0, h1, h2, true_and, false_and, if_false, and_self, eq_self_iff_true]
      · have hL : idl g t 3 = [.int 0, .int 1] := by simp only [idl, if_pos h0, if_pos h1, if_neg h2] <;> rfl
        rw [hL]
        show (if Mt (g 0) bs f = true then (0 : Int32) else (if Mt (g 1) bs f = true then (1 : Int32) else (-1 : Int32))) = _
        simp only [h0, h1, h2, true_and, false_and, if_false, and_self, eq_self_iff_true]
    · by_cases h2 : nL g 2 = t
      · have hL : idl g t 3 = [.int 0, .int 2] := by simp only [idl, if_pos h0, if_neg h1, if_pos h2] <;> rfl
        rw [hL]
        show (if Mt (g 0) bs f = true then (0 : Int32) else (if Mt (g 2) bs f = true then (2 : Int32) else (-1 : Int32))) = _
        simp only [h0, h1, h2, true_and, false_and, if_false, and_self, eq_self_iff_true]
      · have hL : idl g t 3 = [.int 0] := by simp only [idl, if_pos h0, if_neg h1, if_neg h2] <;> rfl
        rw [hL]
        show (if Mt (g 0) bs f = true then (0 : Int32) else (-1 : Int32)) = _
        simp only [h0, h1, h2, true_and, false_and, if_false, and_self, eq_self_iff_true]
  · by_cases h1 : nL g 1 = t
    · by_cases h2 : nL g 2 = t
      · have hL : idl g t 3 = [.int 1, .int 2] := by simp only [idl, if_neg h0, if_pos h1, if_pos h2] <;> rfl
        rw [hL]
        show (if Mt (g 1) bs f = true then (1 : Int32) else (if Mt (g 2) bs f = true then (2 : Int32) else (-1 : Int32))) = _
        simp only [h0, h1, h2, true_and, false_and, if_false, and_self, eq_self_iff_true]
      · have hL : idl g t 3 = [.int 1] := by simp only [idl, if_neg h0, if_pos h1, if_neg h2] <;> rfl
        rw [hL]
        show (if Mt (g 1) bs f = true then (1 : Int32) else (-1 : Int32)) = _
        simp only [h0, h1, h2, true_and, false_and, if_false, and_self, eq_self_iff_true]
    · by_cases h2 : nL g 2 = t
      · have hL : idl g t 3 = [.int 2] := by simp only [idl, if_neg h0, if_neg h1, if_pos h2] <;> rfl
        rw [hL]
        show (if Mt (g 2) bs f = true then (2 : Int32) else (-1 : Int32)) = _
        simp only [h0, h1, h2, true_and, false_and, if_false, and_self, eq_self_iff_true]
      · have hL : idl g t 3 = [] := by simp only [idl, if_neg h0, if_neg h1, if_neg h2] <;> rfl
        rw [hL]
        show (-1 : Int32) = _
        simp only [h0, h1, h2, true_and, false_and, if_false, and_self, eq_self_iff_true]
theorem pd_20 : parseMethodDescriptor "(ICC)Ljava/lang/String;" = some ⟨[.int, .char, .char], some (.object "java/lang/String")⟩ := by decide +kernel
theorem pd_21 : parseMethodDescriptor "([Ljava/lang/String;)V" = some ⟨[(.array (.object "java/lang/String"))], none⟩ := by decide +kernel
theorem pd_22 : parseMethodDescriptor "(ICC[BII)Z" = some ⟨[.int, .char, .char, (.array .byte), .int, .int], some .boolean⟩ := by decide +kernel
theorem ef_rm0 (mi : MethodId) (shp : Int32) (chs : Int64) (dat : Int64) (fsd : Int32) (tsd : Int32) (cz : Int32) (cs : Addr) : entryFrame mi #[(.int shp), (.long chs), (.long dat), (.int fsd), (.int tsd)] maxLocals = mkF mi 0 #[.val (.int shp), .val (.long chs), .second, .val (.long dat), .second, .val (.int fsd), .val (.int tsd), .unset, .unset, .unset, .unset, .unset, .unset, .unset, .unset, .unset, .unset, .unset, .unset, .unset, .unset, .unset, .unset, .unset, .unset, .unset, .unset, .unset, .unset, .unset] [] := by first | (simp [entryFrame, mkF, argsToLocals, Value.category, maxLocals]; done) | rfl
def Q_rm0 (Z : State) (shp : Int32) (chs : Int64) (dat : Int64) (fsd : Int32) (tsd : Int32) (cz : Int32) (cs : Addr) (h0 : Heap) (n0 : Nat) (vv_ : Option Value) (hh_ : Heap) (LL_ : List Loc) : Prop := vv_ = some (.int 1) ∧ Fr n0 LL_
set_option maxRecDepth 65536 in
set_option maxHeartbeats 40000000 in
theorem rm0 (l : Launch) (Z : State) (a0 : Array Value) (hw : ∀ d ∈ tables_1, d.before a0 Z = true) (ws : List Jvm.Cond) (shp : Int32) (chs : Int64) (dat : Int64) (fsd : Int32) (tsd : Int32) (cz : Int32) (cs : Addr) (h0 : Heap) (n0 : Nat) (Z0 : n0 ≤ h0.size) (hEL : EW Z a0 own_EL) (SC : Sta Z h0 "java/lang/String" "COMPACT_STRINGS" "Z" (.int cz)) (hcz : ¬ (cz = (0 : Int32))) (S1 : Sta Z h0 "java/nio/charset/StandardCharsets" "UTF_8" "Ljava/nio/charset/Charset;" (.ref cs)) (S2 : Sta Z h0 "sun/nio/cs/UTF_8" "INSTANCE" "Lsun/nio/cs/UTF_8;" (.ref cs)) :
    MetFree l x (head1 (Jvm.Cond.code x code maxLocals ret :: ws) room_1) (fun aa_ U => aa_ = #[(.int shp), (.long chs), (.long dat), (.int fsd), (.int tsd)] ∧ Z.Warmed39 U.vm ∧ U.heap = h0 ∧ CHv Z own_EL U.vm h0) (fun _ _ _ _ _ => True) (fun _ U oo_ UV_ => ∃ vv_ LL_, oo_ = .returned vv_ ∧ Q_rm0 Z shp chs dat fsd tsd cz cs h0 n0 vv_ UV_.heap LL_ ∧ ReturnedEndW U oo_ UV_ LL_ room_1.cells room_1.slots) := by
  refine MetFree.of_bodySF (plainFor_of_name pn_3) hisR ?_
  intro pg ev si mi args below meth ci s₁ Bd hml0 hP0 hK
  obtain ⟨rfl, hZ, hh, hCH⟩ := hP0
  have hx := Bd.exec
  have hby := Bd.bytes
  have hml : ci.maxLocals = 30 := hml0
  have hown : si.vm.findClass "com/example/crossbook/crossbook/venue/TextsIndexOfPinLaw" = some mi.cls := findClass_of_methodNamed Bd.named
  have hnm := (name_of_methodNamed Bd.named Bd.method).1
  have X0 : Stand pg l ev room_1 si mi #[(.int shp), (.long chs), (.long dat), (.int fsd), (.int tsd)] below meth ci s₁ [] 0 0 := Stand.of_body Bd
  have e0 : s₁.heap = h0 := by rw [← hh, Bd.state]; rfl
  have N0 := Fr.nil n0
  refine Go.start (fun P hP => ?_)
  refine Go.st (fun t_ k_ => castTop (ef_rm0 mi shp chs dat fsd tsd cz cs) k_) (A := s₁.setTop (mkF mi 0 #[.val (.int shp), .val (.long chs), .second, .val (.long dat), .second, .val (.int fsd), .val (.int tsd), .unset, .unset, .unset, .unset, .unset, .unset, .unset, .unset, .unset, .unset, .unset, .unset, .unset, .unset, .unset, .unset, .unset, .unset, .unset, .unset, .unset, .unset, .unset] [])) ?_
  show Go _ _ _ (s₁.setTop (mkF mi 0 #[.val (.int shp), .val (.long chs), .second, .val (.long dat), .second, .val (.int fsd), .val (.int tsd), .unset, .unset, .unset, .unset, .unset, .unset, .unset, .unset, .unset, .unset, .unset, .unset, .unset, .unset, .unset, .unset, .unset, .unset, .unset, .unset, .unset, .unset, .unset] [])) _
  refine g_iloadN X0 hx hby at_0 rfl ?_
  refine g_iconst X0 hx hby at_1 (v := 3) rfl ?_
  refine g_iand X0 hx hby at_2 rfl ?_
  refine g_istore X0 hx hby at_3 (l' := #[.val (.int shp), .val (.long chs), .second, .val (.long dat), .second, .val (.int fsd), .val (.int tsd), .val (.int (shp &&& (3 : Int32))), .unset, .unset, .unset, .unset, .unset, .unset, .unset, .unset, .unset, .unset, .unset, .unset, .unset, .unset, .unset, .unset, .unset, .unset, .unset, .unset, .unset, .unset]) rfl ?_
  refine g_iloadN X0 hx hby at_5 rfl ?_
  refine g_iconst X0 hx hby at_6 (v := 2) rfl ?_
  refine Go.s (XS.iushr X0.here hx rfl (hb hby at_7) rfl) ?_
  refine g_iconst X0 hx hby at_8 (v := 3) rfl ?_
  refine g_iand X0 hx hby at_9 rfl ?_
  refine g_iconst X0 hx hby at_10 (v := 3) rfl ?_
  refine Go.s (iremM X0 hx rfl (hb hby at_11) rfl (by decide)) ?_
  refine g_istore X0 hx hby at_12 (l' := #[.val (.int shp), .val (.long chs), .second, .val (.long dat), .second, .val (.int fsd), .val (.int tsd), .val (.int (shp &&& (3 : Int32))), .val (.int ((((shp.toUInt32 >>> ((2 : Int32) &&& 31).toUInt32).toInt32) &&& (3 : Int32)) % (3 : Int32))), .unset, .unset, .unset, .unset, .unset, .unset, .unset, .unset, .unset, .unset, .unset, .unset, .unset, .unset, .unset, .unset, .unset, .unset, .unset, .unset, .unset]) rfl ?_
  refine g_iloadN X0 hx hby at_14 rfl ?_
  refine g_iconst X0 hx hby at_15 (v := 4) rfl ?_
  refine Go.s (XS.iushr X0.here hx rfl (hb hby at_16) rfl) ?_
  show Go _ _ _ (s₁.setTop (mkF mi 17 #[.val (.int shp), .val (.long chs), .second, .val (.long dat), .second, .val (.int fsd), .val (.int tsd), .val (.int (shp &&& (3 : Int32))), .val (.int ((((shp.toUInt32 >>> ((2 : Int32) &&& 31).toUInt32).toInt32) &&& (3 : Int32)) % (3 : Int32))), .unset, .unset, .unset, .unset, .unset, .unset, .unset, .unset, .unset, .unset, .unset, .unset, .unset, .unset, .unset, .unset, .unset, .unset, .unset, .unset, .unset] [(.int ((shp.toUInt32 >>> ((4 : Int32) &&& 31).toUInt32).toInt32))])) _
  refine g_iconst X0 hx hby at_17 (v := 3) rfl ?_
  refine g_iand X0 hx hby at_18 rfl ?_
  refine g_iconst X0 hx hby at_19 (v := 3) rfl ?_
  refine Go.s (iremM X0 hx rfl (hb hby at_20) rfl (by decide)) ?_
  refine g_istore X0 hx hby at_21 (l' := #[.val (.int shp), .val (.long chs), .second, .val (.long dat), .second, .val (.int fsd), .val (.int tsd), .val (.int (shp &&& (3 : Int32))), .val (.int ((((shp.toUInt32 >>> ((2 : Int32) &&& 31).toUInt32).toInt32) &&& (3 : Int32)) % (3 : Int32))), .val (.int ((((shp.toUInt32 >>> ((4 : Int32) &&& 31).toUInt32).toInt32) &&& (3 : Int32)) % (3 : Int32))), .unset, .unset, .unset, .unset, .unset, .unset, .unset, .unset, .unset, .unset, .unset, .unset, .unset, .unset, .unset, .unset, .unset, .unset, .unset, .unset]) rfl ?_
  refine g_iloadN X0 hx hby at_23 rfl ?_
  refine g_bipush X0 hx hby at_24 (v := 6) rfl ?_
  refine Go.s (XS.iushr X0.here hx rfl (hb hby at_26) rfl) ?_
  refine g_iconst X0 hx hby at_27 (v := 3) rfl ?_
  refine g_iand X0 hx hby at_28 rfl ?_
  refine g_iconst X0 hx hby at_29 (v := 3) rfl ?_
  refine Go.s (iremM X0 hx rfl (hb hby at_30) rfl (by decide)) ?_
  show Go _ _ _ (s₁.setTop (mkF mi 31 #[.val (.int shp), .val (.long chs), .second, .val (.long dat), .second, .val (.int fsd), .val (.int tsd), .val (.int (shp &&& (3 : Int32))), .val (.int ((((shp.toUInt32 >>> ((2 : Int32) &&& 31).toUInt32).toInt32) &&& (3 : Int32)) % (3 : Int32))), .val (.int ((((shp.toUInt32 >>> ((4 : Int32) &&& 31).toUInt32).toInt32) &&& (3 : Int32)) % (3 : Int32))), .unset, .unset, .unset, .unset, .unset, .unset, .unset, .unset, .unset, .unset, .unset, .unset, .unset, .unset, .unset, .unset, .unset, .unset, .unset, .unset] [(.int ((((shp.toUInt32 >>> ((6 : Int32) &&& 31).toUInt32).toInt32) &&& (3 : Int32)) % (3 : Int32)))])) _
  refine g_istore X0 hx hby at_31 (l' := #[.val (.int shp), .val (.long chs), .second, .val (.long dat), .second, .val (.int fsd), .val (.int tsd), .val (.int (shp &&& (3 : Int32))), .val (.int ((((shp.toUInt32 >>> ((2 : Int32) &&& 31).toUInt32).toInt32) &&& (3 : Int32)) % (3 : Int32))), .val (.int ((((shp.toUInt32 >>> ((4 : Int32) &&& 31).toUInt32).toInt32) &&& (3 : Int32)) % (3 : Int32))), .val (.int ((((shp.toUInt32 >>> ((6 : Int32) &&& 31).toUInt32).toInt32) &&& (3 : Int32)) % (3 : Int32))), .unset, .unset, .unset, .unset, .unset, .unset, .unset, .unset, .unset, .unset, .unset, .unset, .unset, .unset, .unset, .unset, .unset, .unset, .unset]) rfl ?_
  refine g_lloadN X0 hx hby at_33 rfl ?_
  refine Go.st (X0.ldc2Long hx hown (mvT hZ (hw _ (own_m 0 rfl))) (g := (mkF mi 34 #[.val (.int shp), .val (.long chs), .second, .val (.long dat), .second, .val (.int fsd), .val (.int tsd), .val (.int (shp &&& (3 : Int32))), .val (.int ((((shp.toUInt32 >>> ((2 : Int32) &&& 31).toUInt32).toInt32) &&& (3 : Int32)) % (3 : Int32))), .val (.int ((((shp.toUInt32 >>> ((4 : Int32) &&& 31).toUInt32).toInt32) &&& (3 : Int32)) % (3 : Int32))), .val (.int ((((shp.toUInt32 >>> ((6 : Int32) &&& 31).toUInt32).toInt32) &&& (3 : Int32)) % (3 : Int32))), .unset, .unset, .unset, .unset, .unset, .unset, .unset, .unset, .unset, .unset, .unset, .unset, .unset, .unset, .unset, .unset, .unset, .unset, .unset] [(.long chs)])) rfl (hb hby at_34)) ?_
  refine Go.s (XS.land X0.here hx rfl (hb hby at_37) rfl) ?_
  refine Go.s (XS.l2i X0.here hx rfl (hb hby at_38) rfl) ?_
  refine g_i2c X0 hx hby at_39 rfl ?_
  refine g_istore X0 hx hby at_40 (l' := #[.val (.int shp), .val (.long chs), .second, .val (.long dat), .second, .val (.int fsd), .val (.int tsd), .val (.int (shp &&& (3 : Int32))), .val (.int ((((shp.toUInt32 >>> ((2 : Int32) &&& 31).toUInt32).toInt32) &&& (3 : Int32)) % (3 : Int32))), .val (.int ((((shp.toUInt32 >>> ((4 : Int32) &&& 31).toUInt32).toInt32) &&& (3 : Int32)) % (3 : Int32))), .val (.int ((((shp.toUInt32 >>> ((6 : Int32) &&& 31).toUInt32).toInt32) &&& (3 : Int32)) % (3 : Int32))), .val (.int (((chs &&& (255 : Int64)).toInt32).toUInt32.toUInt16.toUInt32.toInt32)), .unset, .unset, .unset, .unset, .unset, .unset, .unset, .unset, .unset, .unset, .unset, .unset, .unset, .unset, .unset, .unset, .unset, .unset]) rfl ?_
  show Go _ _ _ (s₁.setTop (mkF mi 42 #[.val (.int shp), .val (.long chs), .second, .val (.long dat), .second, .val (.int fsd), .val (.int tsd), .val (.int (shp &&& (3 : Int32))), .val (.int ((((shp.toUInt32 >>> ((2 : Int32) &&& 31).toUInt32).toInt32) &&& (3 : Int32)) % (3 : Int32))), .val (.int ((((shp.toUInt32 >>> ((4 : Int32) &&& 31).toUInt32).toInt32) &&& (3 : Int32)) % (3 : Int32))), .val (.int ((((shp.toUInt32 >>> ((6 : Int32) &&& 31).toUInt32).toInt32) &&& (3 : Int32)) % (3 : Int32))), .val (.int (((chs &&& (255 : Int64)).toInt32).toUInt32.toUInt16.toUInt32.toInt32)), .unset, .unset, .unset, .unset, .unset, .unset, .unset, .unset, .unset, .unset, .unset, .unset, .unset, .unset, .unset, .unset, .unset, .unset] [])) _
  refine g_lloadN X0 hx hby at_42 rfl ?_
  refine g_bipush X0 hx hby at_43 (v := 8) rfl ?_
  refine Go.s (XS.lushr X0.here hx rfl (hb hby at_45) rfl) ?_
  refine Go.st (X0.ldc2Long hx hown (mvT hZ (hw _ (own_m 0 rfl))) (g := (mkF mi 46 #[.val (.int shp), .val (.long chs), .second, .val (.long dat), .second, .val (.int fsd), .val (.int tsd), .val (.int (shp &&& (3 : Int32))), .val (.int ((((shp.toUInt32 >>> ((2 : Int32) &&& 31).toUInt32).toInt32) &&& (3 : Int32)) % (3 : Int32))), .val (.int ((((shp.toUInt32 >>> ((4 : Int32) &&& 31).toUInt32).toInt32) &&& (3 : Int32)) % (3 : Int32))), .val (.int ((((shp.toUInt32 >>> ((6 : Int32) &&& 31).toUInt32).toInt32) &&& (3 : Int32)) % (3 : Int32))), .val (.int (((chs &&& (255 : Int64)).toInt32).toUInt32.toUInt16.toUInt32.toInt32)), .unset, .unset, .unset, .unset, .unset, .unset, .unset, .unset, .unset, .unset, .unset, .unset, .unset, .unset, .unset, .unset, .unset, .unset] [(.long ((chs.toUInt64 >>> ((8 : Int32) &&& 0x3f).toInt64.toUInt64).toInt64))])) rfl (hb hby at_46)) ?_
  refine Go.s (XS.land X0.here hx rfl (hb hby at_49) rfl) ?_
  refine Go.s (XS.l2i X0.here hx rfl (hb hby at_50) rfl) ?_
  show Go _ _ _ (s₁.setTop (mkF mi 51 #[.val (.int shp), .val (.long chs), .second, .val (.long dat), .second, .val (.int fsd), .val (.int tsd), .val (.int (shp &&& (3 : Int32))), .val (.int ((((shp.toUInt32 >>> ((2 : Int32) &&& 31).toUInt32).toInt32) &&& (3 : Int32)) % (3 : Int32))), .val (.int ((((shp.toUInt32 >>> ((4 : Int32) &&& 31).toUInt32).toInt32) &&& (3 : Int32)) % (3 : Int32))), .val (.int ((((shp.toUInt32 >>> ((6 : Int32) &&& 31).toUInt32).toInt32) &&& (3 : Int32)) % (3 : Int32))), .val (.int (((chs &&& (255 : Int64)).toInt32).toUInt32.toUInt16.toUInt32.toInt32)), .unset, .unset, .unset, .unset, .unset, .unset, .unset, .unset, .unset, .unset, .unset, .unset, .unset, .unset, .unset, .unset, .unset, .unset] [(.int ((((chs.toUInt64 >>> ((8 : Int32) &&& 0x3f).toInt64.toUInt64).toInt64) &&& (255 : Int64)).toInt32))])) _
  refine g_i2c X0 hx hby at_51 rfl ?_
  refine g_istore X0 hx hby at_52 (l' := #[.val (.int shp), .val (.long chs), .second, .val (.long dat), .second, .val (.int fsd), .val (.int tsd), .val (.int (shp &&& (3 : Int32))), .val (.int ((((shp.toUInt32 >>> ((2 : Int32) &&& 31).toUInt32).toInt32) &&& (3 : Int32)) % (3 : Int32))), .val (.int ((((shp.toUInt32 >>> ((4 : Int32) &&& 31).toUInt32).toInt32) &&& (3 : Int32)) % (3 : Int32))), .val (.int ((((shp.toUInt32 >>> ((6 : Int32) &&& 31).toUInt32).toInt32) &&& (3 : Int32)) % (3 : Int32))), .val (.int (((chs &&& (255 : Int64)).toInt32).toUInt32.toUInt16.toUInt32.toInt32)), .val (.int (((((chs.toUInt64 >>> ((8 : Int32) &&& 0x3f).toInt64.toUInt64).toInt64) &&& (255 : Int64)).toInt32).toUInt32.toUInt16.toUInt32.toInt32)), .unset, .unset, .unset, .unset, .unset, .unset, .unset, .unset, .unset, .unset, .unset, .unset, .unset, .unset, .unset, .unset, .unset]) rfl ?_
  refine g_lloadN X0 hx hby at_54 rfl ?_
  refine g_bipush X0 hx hby at_55 (v := 16) rfl ?_
  refine Go.s (XS.lushr X0.here hx rfl (hb hby at_57) rfl) ?_
  refine Go.st (X0.ldc2Long hx hown (mvT hZ (hw _ (own_m 0 rfl))) (g := (mkF mi 58 #[.val (.int shp), .val (.long chs), .second, .val (.long dat), .second, .val (.int fsd), .val (.int tsd), .val (.int (shp &&& (3 : Int32))), .val (.int ((((shp.toUInt32 >>> ((2 : Int32) &&& 31).toUInt32).toInt32) &&& (3 : Int32)) % (3 : Int32))), .val (.int ((((shp.toUInt32 >>> ((4 : Int32) &&& 31).toUInt32).toInt32) &&& (3 : Int32)) % (3 : Int32))), .val (.int ((((shp.toUInt32 >>> ((6 : Int32) &&& 31).toUInt32).toInt32) &&& (3 : Int32)) % (3 : Int32))), .val (.int (((chs &&& (255 : Int64)).toInt32).toUInt32.toUInt16.toUInt32.toInt32)), .val (.int (((((chs.toUInt64 >>> ((8 : Int32) &&& 0x3f).toInt64.toUInt64).toInt64) &&& (255 : Int64)).toInt32).toUInt32.toUInt16.toUInt32.toInt32)), .unset, .unset, .unset, .unset, .unset, .unset, .unset, .unset, .unset, .unset, .unset, .unset, .unset, .unset, .unset, .unset, .unset] [(.long ((chs.toUInt64 >>> ((16 : Int32) &&& 0x3f).toInt64.toUInt64).toInt64))])) rfl (hb hby at_58)) ?_
  refine Go.s (XS.land X0.here hx rfl (hb hby at_61) rfl) ?_
  show Go _ _ _ (s₁.setTop (mkF mi 62 #[.val (.int shp), .val (.long chs), .second, .val (.long dat), .second, .val (.int fsd), .val (.int tsd), .val (.int (shp &&& (3 : Int32))), .val (.int ((((shp.toUInt32 >>> ((2 : Int32) &&& 31).toUInt32).toInt32) &&& (3 : Int32)) % (3 : Int32))), .val (.int ((((shp.toUInt32 >>> ((4 : Int32) &&& 31).toUInt32).toInt32) &&& (3 : Int32)) % (3 : Int32))), .val (.int ((((shp.toUInt32 >>> ((6 : Int32) &&& 31).toUInt32).toInt32) &&& (3 : Int32)) % (3 : Int32))), .val (.int (((chs &&& (255 : Int64)).toInt32).toUInt32.toUInt16.toUInt32.toInt32)), .val (.int (((((chs.toUInt64 >>> ((8 : Int32) &&& 0x3f).toInt64.toUInt64).toInt64) &&& (255 : Int64)).toInt32).toUInt32.toUInt16.toUInt32.toInt32)), .unset, .unset, .unset, .unset, .unset, .unset, .unset, .unset, .unset, .unset, .unset, .unset, .unset, .unset, .unset, .unset, .unset] [(.long (((chs.toUInt64 >>> ((16 : Int32) &&& 0x3f).toInt64.toUInt64).toInt64) &&& (255 : Int64)))])) _
  refine Go.s (XS.l2i X0.here hx rfl (hb hby at_62) rfl) ?_
  refine g_i2c X0 hx hby at_63 rfl ?_
  refine g_istore X0 hx hby at_64 (l' := #[.val (.int shp), .val (.long chs), .second, .val (.long dat), .second, .val (.int fsd), .val (.int tsd), .val (.int (shp &&& (3 : Int32))), .val (.int ((((shp.toUInt32 >>> ((2 : Int32) &&& 31).toUInt32).toInt32) &&& (3 : Int32)) % (3 : Int32))), .val (.int ((((shp.toUInt32 >>> ((4 : Int32) &&& 31).toUInt32).toInt32) &&& (3 : Int32)) % (3 : Int32))), .val (.int ((((shp.toUInt32 >>> ((6 : Int32) &&& 31).toUInt32).toInt32) &&& (3 : Int32)) % (3 : Int32))), .val (.int (((chs &&& (255 : Int64)).toInt32).toUInt32.toUInt16.toUInt32.toInt32)), .val (.int (((((chs.toUInt64 >>> ((8 : Int32) &&& 0x3f).toInt64.toUInt64).toInt64) &&& (255 : Int64)).toInt32).toUInt32.toUInt16.toUInt32.toInt32)), .val (.int (((((chs.toUInt64 >>> ((16 : Int32) &&& 0x3f).toInt64.toUInt64).toInt64) &&& (255 : Int64)).toInt32).toUInt32.toUInt16.toUInt32.toInt32)), .unset, .unset, .unset, .unset, .unset, .unset, .unset, .unset, .unset, .unset, .unset, .unset, .unset, .unset, .unset, .unset]) rfl ?_
  refine g_lloadN X0 hx hby at_66 rfl ?_
  refine g_bipush X0 hx hby at_67 (v := 24) rfl ?_
  refine Go.s (XS.lushr X0.here hx rfl (hb hby at_69) rfl) ?_
  refine Go.st (X0.ldc2Long hx hown (mvT hZ (hw _ (own_m 0 rfl))) (g := (mkF mi 70 #[.val (.int shp), .val (.long chs), .second, .val (.long dat), .second, .val (.int fsd), .val (.int tsd), .val (.int (shp &&& (3 : Int32))), .val (.int ((((shp.toUInt32 >>> ((2 : Int32) &&& 31).toUInt32).toInt32) &&& (3 : Int32)) % (3 : Int32))), .val (.int ((((shp.toUInt32 >>> ((4 : Int32) &&& 31).toUInt32).toInt32) &&& (3 : Int32)) % (3 : Int32))), .val (.int ((((shp.toUInt32 >>> ((6 : Int32) &&& 31).toUInt32).toInt32) &&& (3 : Int32)) % (3 : Int32))), .val (.int (((chs &&& (255 : Int64)).toInt32).toUInt32.toUInt16.toUInt32.toInt32)), .val (.int (((((chs.toUInt64 >>> ((8 : Int32) &&& 0x3f).toInt64.toUInt64).toInt64) &&& (255 : Int64)).toInt32).toUInt32.toUInt16.toUInt32.toInt32)), .val (.int (((((chs.toUInt64 >>> ((16 : Int32) &&& 0x3f).toInt64.toUInt64).toInt64) &&& (255 : Int64)).toInt32).toUInt32.toUInt16.toUInt32.toInt32)), .unset, .unset, .unset, .unset, .unset, .unset, .unset, .unset, .unset, .unset, .unset, .unset, .unset, .unset, .unset, .unset] [(.long ((chs.toUInt64 >>> ((24 : Int32) &&& 0x3f).toInt64.toUInt64).toInt64))])) rfl (hb hby at_70)) ?_
  show Go _ _ _ (s₁.setTop (mkF mi 73 #[.val (.int shp), .val (.long chs), .second, .val (.long dat), .second, .val (.int fsd), .val (.int tsd), .val (.int (shp &&& (3 : Int32))), .val (.int ((((shp.toUInt32 >>> ((2 : Int32) &&& 31).toUInt32).toInt32) &&& (3 : Int32)) % (3 : Int32))), .val (.int ((((shp.toUInt32 >>> ((4 : Int32) &&& 31).toUInt32).toInt32) &&& (3 : Int32)) % (3 : Int32))), .val (.int ((((shp.toUInt32 >>> ((6 : Int32) &&& 31).toUInt32).toInt32) &&& (3 : Int32)) % (3 : Int32))), .val (.int (((chs &&& (255 : Int64)).toInt32).toUInt32.toUInt16.toUInt32.toInt32)), .val (.int (((((chs.toUInt64 >>> ((8 : Int32) &&& 0x3f).toInt64.toUInt64).toInt64) &&& (255 : Int64)).toInt32).toUInt32.toUInt16.toUInt32.toInt32)), .val (.int (((((chs.toUInt64 >>> ((16 : Int32) &&& 0x3f).toInt64.toUInt64).toInt64) &&& (255 : Int64)).toInt32).toUInt32.toUInt16.toUInt32.toInt32)), .unset, .unset, .unset, .unset, .unset, .unset, .unset, .unset, .unset, .unset, .unset, .unset, .unset, .unset, .unset, .unset] [(.long 255), (.long ((chs.toUInt64 >>> ((24 : Int32) &&& 0x3f).toInt64.toUInt64).toInt64))])) _
  refine Go.s (XS.land X0.here hx rfl (hb hby at_73) rfl) ?_
  refine Go.s (XS.l2i X0.here hx rfl (hb hby at_74) rfl) ?_
  refine g_i2c X0 hx hby at_75 rfl ?_
  refine g_istore X0 hx hby at_76 (l' := #[.val (.int shp), .val (.long chs), .second, .val (.long dat), .second, .val (.int fsd), .val (.int tsd), .val (.int (shp &&& (3 : Int32))), .val (.int ((((shp.toUInt32 >>> ((2 : Int32) &&& 31).toUInt32).toInt32) &&& (3 : Int32)) % (3 : Int32))), .val (.int ((((shp.toUInt32 >>> ((4 : Int32) &&& 31).toUInt32).toInt32) &&& (3 : Int32)) % (3 : Int32))), .val (.int ((((shp.toUInt32 >>> ((6 : Int32) &&& 31).toUInt32).toInt32) &&& (3 : Int32)) % (3 : Int32))), .val (.int (((chs &&& (255 : Int64)).toInt32).toUInt32.toUInt16.toUInt32.toInt32)), .val (.int (((((chs.toUInt64 >>> ((8 : Int32) &&& 0x3f).toInt64.toUInt64).toInt64) &&& (255 : Int64)).toInt32).toUInt32.toUInt16.toUInt32.toInt32)), .val (.int (((((chs.toUInt64 >>> ((16 : Int32) &&& 0x3f).toInt64.toUInt64).toInt64) &&& (255 : Int64)).toInt32).toUInt32.toUInt16.toUInt32.toInt32)), .val (.int (((((chs.toUInt64 >>> ((24 : Int32) &&& 0x3f).toInt64.toUInt64).toInt64) &&& (255 : Int64)).toInt32).toUInt32.toUInt16.toUInt32.toInt32)), .unset, .unset, .unset, .unset, .unset, .unset, .unset, .unset, .unset, .unset, .unset, .unset, .unset, .unset, .unset]) rfl ?_
  refine g_lloadN X0 hx hby at_78 rfl ?_
  refine g_bipush X0 hx hby at_79 (v := 32) rfl ?_
  refine Go.s (XS.lushr X0.here hx rfl (hb hby at_81) rfl) ?_
  show Go _ _ _ (s₁.setTop (mkF mi 82 #[.val (.int shp), .val (.long chs), .second, .val (.long dat), .second, .val (.int fsd), .val (.int tsd), .val (.int (shp &&& (3 : Int32))), .val (.int ((((shp.toUInt32 >>> ((2 : Int32) &&& 31).toUInt32).toInt32) &&& (3 : Int32)) % (3 : Int32))), .val (.int ((((shp.toUInt32 >>> ((4 : Int32) &&& 31).toUInt32).toInt32) &&& (3 : Int32)) % (3 : Int32))), .val (.int ((((shp.toUInt32 >>> ((6 : Int32) &&& 31).toUInt32).toInt32) &&& (3 : Int32)) % (3 : Int32))), .val (.int (((chs &&& (255 : Int64)).toInt32).toUInt32.toUInt16.toUInt32.toInt32)), .val (.int (((((chs.toUInt64 >>> ((8 : Int32) &&& 0x3f).toInt64.toUInt64).toInt64) &&& (255 : Int64)).toInt32).toUInt32.toUInt16.toUInt32.toInt32)), .val (.int (((((chs.toUInt64 >>> ((16 : Int32) &&& 0x3f).toInt64.toUInt64).toInt64) &&& (255 : Int64)).toInt32).toUInt32.toUInt16.toUInt32.toInt32)), .val (.int (((((chs.toUInt64 >>> ((24 : Int32) &&& 0x3f).toInt64.toUInt64).toInt64) &&& (255 : Int64)).toInt32).toUInt32.toUInt16.toUInt32.toInt32)), .unset, .unset, .unset, .unset, .unset, .unset, .unset, .unset, .unset, .unset, .unset, .unset, .unset, .unset, .unset] [(.long ((chs.toUInt64 >>> ((32 : Int32) &&& 0x3f).toInt64.toUInt64).toInt64))])) _
  refine Go.st (X0.ldc2Long hx hown (mvT hZ (hw _ (own_m 0 rfl))) (g := (mkF mi 82 #[.val (.int shp), .val (.long chs), .second, .val (.long dat), .second, .val (.int fsd), .val (.int tsd), .val (.int (shp &&& (3 : Int32))), .val (.int ((((shp.toUInt32 >>> ((2 : Int32) &&& 31).toUInt32).toInt32) &&& (3 : Int32)) % (3 : Int32))), .val (.int ((((shp.toUInt32 >>> ((4 : Int32) &&& 31).toUInt32).toInt32) &&& (3 : Int32)) % (3 : Int32))), .val (.int ((((shp.toUInt32 >>> ((6 : Int32) &&& 31).toUInt32).toInt32) &&& (3 : Int32)) % (3 : Int32))), .val (.int (((chs &&& (255 : Int64)).toInt32).toUInt32.toUInt16.toUInt32.toInt32)), .val (.int (((((chs.toUInt64 >>> ((8 : Int32) &&& 0x3f).toInt64.toUInt64).toInt64) &&& (255 : Int64)).toInt32).toUInt32.toUInt16.toUInt32.toInt32)), .val (.int (((((chs.toUInt64 >>> ((16 : Int32) &&& 0x3f).toInt64.toUInt64).toInt64) &&& (255 : Int64)).toInt32).toUInt32.toUInt16.toUInt32.toInt32)), .val (.int (((((chs.toUInt64 >>> ((24 : Int32) &&& 0x3f).toInt64.toUInt64).toInt64) &&& (255 : Int64)).toInt32).toUInt32.toUInt16.toUInt32.toInt32)), .unset, .unset, .unset, .unset, .unset, .unset, .unset, .unset, .unset, .unset, .unset, .unset, .unset, .unset, .unset] [(.long ((chs.toUInt64 >>> ((32 : Int32) &&& 0x3f).toInt64.toUInt64).toInt64))])) rfl (hb hby at_82)) ?_
  refine Go.s (XS.land X0.here hx rfl (hb hby at_85) rfl) ?_
  refine Go.s (XS.l2i X0.here hx rfl (hb hby at_86) rfl) ?_
  refine g_i2c X0 hx hby at_87 rfl ?_
  refine g_istore X0 hx hby at_88 (l' := #[.val (.int shp), .val (.long chs), .second, .val (.long dat), .second, .val (.int fsd), .val (.int tsd), .val (.int (shp &&& (3 : Int32))), .val (.int ((((shp.toUInt32 >>> ((2 : Int32) &&& 31).toUInt32).toInt32) &&& (3 : Int32)) % (3 : Int32))), .val (.int ((((shp.toUInt32 >>> ((4 : Int32) &&& 31).toUInt32).toInt32) &&& (3 : Int32)) % (3 : Int32))), .val (.int ((((shp.toUInt32 >>> ((6 : Int32) &&& 31).toUInt32).toInt32) &&& (3 : Int32)) % (3 : Int32))), .val (.int (((chs &&& (255 : Int64)).toInt32).toUInt32.toUInt16.toUInt32.toInt32)), .val (.int (((((chs.toUInt64 >>> ((8 : Int32) &&& 0x3f).toInt64.toUInt64).toInt64) &&& (255 : Int64)).toInt32).toUInt32.toUInt16.toUInt32.toInt32)), .val (.int (((((chs.toUInt64 >>> ((16 : Int32) &&& 0x3f).toInt64.toUInt64).toInt64) &&& (255 : Int64)).toInt32).toUInt32.toUInt16.toUInt32.toInt32)), .val (.int (((((chs.toUInt64 >>> ((24 : Int32) &&& 0x3f).toInt64.toUInt64).toInt64) &&& (255 : Int64)).toInt32).toUInt32.toUInt16.toUInt32.toInt32)), .val (.int (((((chs.toUInt64 >>> ((32 : Int32) &&& 0x3f).toInt64.toUInt64).toInt64) &&& (255 : Int64)).toInt32).toUInt32.toUInt16.toUInt32.toInt32)), .unset, .unset, .unset, .unset, .unset, .unset, .unset, .unset, .unset, .unset, .unset, .unset, .unset, .unset]) rfl ?_
  refine g_lloadN X0 hx hby at_90 rfl ?_
  refine g_bipush X0 hx hby at_91 (v := 40) rfl ?_
  show Go _ _ _ (s₁.setTop (mkF mi 93 #[.val (.int shp), .val (.long chs), .second, .val (.long dat), .second, .val (.int fsd), .val (.int tsd), .val (.int (shp &&& (3 : Int32))), .val (.int ((((shp.toUInt32 >>> ((2 : Int32) &&& 31).toUInt32).toInt32) &&& (3 : Int32)) % (3 : Int32))), .val (.int ((((shp.toUInt32 >>> ((4 : Int32) &&& 31).toUInt32).toInt32) &&& (3 : Int32)) % (3 : Int32))), .val (.int ((((shp.toUInt32 >>> ((6 : Int32) &&& 31).toUInt32).toInt32) &&& (3 : Int32)) % (3 : Int32))), .val (.int (((chs &&& (255 : Int64)).toInt32).toUInt32.toUInt16.toUInt32.toInt32)), .val (.int (((((chs.toUInt64 >>> ((8 : Int32) &&& 0x3f).toInt64.toUInt64).toInt64) &&& (255 : Int64)).toInt32).toUInt32.toUInt16.toUInt32.toInt32)), .val (.int (((((chs.toUInt64 >>> ((16 : Int32) &&& 0x3f).toInt64.toUInt64).toInt64) &&& (255 : Int64)).toInt32).toUInt32.toUInt16.toUInt32.toInt32)), .val (.int (((((chs.toUInt64 >>> ((24 : Int32) &&& 0x3f).toInt64.toUInt64).toInt64) &&& (255 : Int64)).toInt32).toUInt32.toUInt16.toUInt32.toInt32)), .val (.int (((((chs.toUInt64 >>> ((32 : Int32) &&& 0x3f).toInt64.toUInt64).toInt64) &&& (255 : Int64)).toInt32).toUInt32.toUInt16.toUInt32.toInt32)), .unset, .unset, .unset, .unset, .unset, .unset, .unset, .unset, .unset, .unset, .unset, .unset, .unset, .unset] [(.int 40), (.long chs)])) _
  refine Go.s (XS.lushr X0.here hx rfl (hb hby at_93) rfl) ?_
  refine Go.st (X0.ldc2Long hx hown (mvT hZ (hw _ (own_m 0 rfl))) (g := (mkF mi 94 #[.val (.int shp), .val (.long chs), .second, .val (.long dat), .second, .val (.int fsd), .val (.int tsd), .val (.int (shp &&& (3 : Int32))), .val (.int ((((shp.toUInt32 >>> ((2 : Int32) &&& 31).toUInt32).toInt32) &&& (3 : Int32)) % (3 : Int32))), .val (.int ((((shp.toUInt32 >>> ((4 : Int32) &&& 31).toUInt32).toInt32) &&& (3 : Int32)) % (3 : Int32))), .val (.int ((((shp.toUInt32 >>> ((6 : Int32) &&& 31).toUInt32).toInt32) &&& (3 : Int32)) % (3 : Int32))), .val (.int (((chs &&& (255 : Int64)).toInt32).toUInt32.toUInt16.toUInt32.toInt32)), .val (.int (((((chs.toUInt64 >>> ((8 : Int32) &&& 0x3f).toInt64.toUInt64).toInt64) &&& (255 : Int64)).toInt32).toUInt32.toUInt16.toUInt32.toInt32)), .val (.int (((((chs.toUInt64 >>> ((16 : Int32) &&& 0x3f).toInt64.toUInt64).toInt64) &&& (255 : Int64)).toInt32).toUInt32.toUInt16.toUInt32.toInt32)), .val (.int (((((chs.toUInt64 >>> ((24 : Int32) &&& 0x3f).toInt64.toUInt64).toInt64) &&& (255 : Int64)).toInt32).toUInt32.toUInt16.toUInt32.toInt32)), .val (.int (((((chs.toUInt64 >>> ((32 : Int32) &&& 0x3f).toInt64.toUInt64).toInt64) &&& (255 : Int64)).toInt32).toUInt32.toUInt16.toUInt32.toInt32)), .unset, .unset, .unset, .unset, .unset, .unset, .unset, .unset, .unset, .unset, .unset, .unset, .unset, .unset] [(.long ((chs.toUInt64 >>> ((40 : Int32) &&& 0x3f).toInt64.toUInt64).toInt64))])) rfl (hb hby at_94)) ?_
  refine Go.s (XS.land X0.here hx rfl (hb hby at_97) rfl) ?_
  refine Go.s (XS.l2i X0.here hx rfl (hb hby at_98) rfl) ?_
  show Go _ _ _ (s₁.setTop (mkF mi 99 #[.val (.int shp), .val (.long chs), .second, .val (.long dat), .second, .val (.int fsd), .val (.int tsd), .val (.int (shp &&& (3 : Int32))), .val (.int ((((shp.toUInt32 >>> ((2 : Int32) &&& 31).toUInt32).toInt32) &&& (3 : Int32)) % (3 : Int32))), .val (.int ((((shp.toUInt32 >>> ((4 : Int32) &&& 31).toUInt32).toInt32) &&& (3 : Int32)) % (3 : Int32))), .val (.int ((((shp.toUInt32 >>> ((6 : Int32) &&& 31).toUInt32).toInt32) &&& (3 : Int32)) % (3 : Int32))), .val (.int (((chs &&& (255 : Int64)).toInt32).toUInt32.toUInt16.toUInt32.toInt32)), .val (.int (((((chs.toUInt64 >>> ((8 : Int32) &&& 0x3f).toInt64.toUInt64).toInt64) &&& (255 : Int64)).toInt32).toUInt32.toUInt16.toUInt32.toInt32)), .val (.int (((((chs.toUInt64 >>> ((16 : Int32) &&& 0x3f).toInt64.toUInt64).toInt64) &&& (255 : Int64)).toInt32).toUInt32.toUInt16.toUInt32.toInt32)), .val (.int (((((chs.toUInt64 >>> ((24 : Int32) &&& 0x3f).toInt64.toUInt64).toInt64) &&& (255 : Int64)).toInt32).toUInt32.toUInt16.toUInt32.toInt32)), .val (.int (((((chs.toUInt64 >>> ((32 : Int32) &&& 0x3f).toInt64.toUInt64).toInt64) &&& (255 : Int64)).toInt32).toUInt32.toUInt16.toUInt32.toInt32)), .unset, .unset, .unset, .unset, .unset, .unset, .unset, .unset, .unset, .unset, .unset, .unset, .unset, .unset] [(.int ((((chs.toUInt64 >>> ((40 : Int32) &&& 0x3f).toInt64.toUInt64).toInt64) &&& (255 : Int64)).toInt32))])) _
  refine g_i2c X0 hx hby at_99 rfl ?_
  refine g_istore X0 hx hby at_100 (l' := #[.val (.int shp), .val (.long chs), .second, .val (.long dat), .second, .val (.int fsd), .val (.int tsd), .val (.int (shp &&& (3 : Int32))), .val (.int ((((shp.toUInt32 >>> ((2 : Int32) &&& 31).toUInt32).toInt32) &&& (3 : Int32)) % (3 : Int32))), .val (.int ((((shp.toUInt32 >>> ((4 : Int32) &&& 31).toUInt32).toInt32) &&& (3 : Int32)) % (3 : Int32))), .val (.int ((((shp.toUInt32 >>> ((6 : Int32) &&& 31).toUInt32).toInt32) &&& (3 : Int32)) % (3 : Int32))), .val (.int (((chs &&& (255 : Int64)).toInt32).toUInt32.toUInt16.toUInt32.toInt32)), .val (.int (((((chs.toUInt64 >>> ((8 : Int32) &&& 0x3f).toInt64.toUInt64).toInt64) &&& (255 : Int64)).toInt32).toUInt32.toUInt16.toUInt32.toInt32)), .val (.int (((((chs.toUInt64 >>> ((16 : Int32) &&& 0x3f).toInt64.toUInt64).toInt64) &&& (255 : Int64)).toInt32).toUInt32.toUInt16.toUInt32.toInt32)), .val (.int (((((chs.toUInt64 >>> ((24 : Int32) &&& 0x3f).toInt64.toUInt64).toInt64) &&& (255 : Int64)).toInt32).toUInt32.toUInt16.toUInt32.toInt32)), .val (.int (((((chs.toUInt64 >>> ((32 : Int32) &&& 0x3f).toInt64.toUInt64).toInt64) &&& (255 : Int64)).toInt32).toUInt32.toUInt16.toUInt32.toInt32)), .val (.int (((((chs.toUInt64 >>> ((40 : Int32) &&& 0x3f).toInt64.toUInt64).toInt64) &&& (255 : Int64)).toInt32).toUInt32.toUInt16.toUInt32.toInt32)), .unset, .unset, .unset, .unset, .unset, .unset, .unset, .unset, .unset, .unset, .unset, .unset, .unset]) rfl ?_
  show Go _ _ _ (s₁.setTop (mkF mi 102 #[.val (.int shp), .val (.long chs), .second, .val (.long dat), .second, .val (.int fsd), .val (.int tsd), .val (.int (shp &&& (3 : Int32))), .val (.int ((((shp.toUInt32 >>> ((2 : Int32) &&& 31).toUInt32).toInt32) &&& (3 : Int32)) % (3 : Int32))), .val (.int ((((shp.toUInt32 >>> ((4 : Int32) &&& 31).toUInt32).toInt32) &&& (3 : Int32)) % (3 : Int32))), .val (.int ((((shp.toUInt32 >>> ((6 : Int32) &&& 31).toUInt32).toInt32) &&& (3 : Int32)) % (3 : Int32))), .val (.int (((chs &&& (255 : Int64)).toInt32).toUInt32.toUInt16.toUInt32.toInt32)), .val (.int (((((chs.toUInt64 >>> ((8 : Int32) &&& 0x3f).toInt64.toUInt64).toInt64) &&& (255 : Int64)).toInt32).toUInt32.toUInt16.toUInt32.toInt32)), .val (.int (((((chs.toUInt64 >>> ((16 : Int32) &&& 0x3f).toInt64.toUInt64).toInt64) &&& (255 : Int64)).toInt32).toUInt32.toUInt16.toUInt32.toInt32)), .val (.int (((((chs.toUInt64 >>> ((24 : Int32) &&& 0x3f).toInt64.toUInt64).toInt64) &&& (255 : Int64)).toInt32).toUInt32.toUInt16.toUInt32.toInt32)), .val (.int (((((chs.toUInt64 >>> ((32 : Int32) &&& 0x3f).toInt64.toUInt64).toInt64) &&& (255 : Int64)).toInt32).toUInt32.toUInt16.toUInt32.toInt32)), .val (.int (((((chs.toUInt64 >>> ((40 : Int32) &&& 0x3f).toInt64.toUInt64).toInt64) &&& (255 : Int64)).toInt32).toUInt32.toUInt16.toUInt32.toInt32)), .unset, .unset, .unset, .unset, .unset, .unset, .unset, .unset, .unset, .unset, .unset, .unset, .unset] [])) _
  obtain ⟨N, hd_N⟩ : ∃ z, z = (shp &&& (3 : Int32)) := ⟨_, rfl⟩
  rw [← hd_N]
  have hNN := own_N shp
  rw [← hd_N] at hNN
  obtain ⟨hN, hN3⟩ := hNN
  obtain ⟨sl0, hd_sl0⟩ : ∃ z, z = ((((shp.toUInt32 >>> ((2 : Int32) &&& 31).toUInt32).toInt32) &&& (3 : Int32)) % (3 : Int32)) := ⟨_, rfl⟩
  rw [← hd_sl0]
  have hl_0 := own_l3 ((shp.toUInt32 >>> ((2 : Int32) &&& 31).toUInt32).toInt32)
  rw [← hd_sl0] at hl_0
  obtain ⟨sl1, hd_sl1⟩ : ∃ z, z = ((((shp.toUInt32 >>> ((4 : Int32) &&& 31).toUInt32).toInt32) &&& (3 : Int32)) % (3 : Int32)) := ⟨_, rfl⟩
  rw [← hd_sl1]
  have hl_1 := own_l3 ((shp.toUInt32 >>> ((4 : Int32) &&& 31).toUInt32).toInt32)
  rw [← hd_sl1] at hl_1
  obtain ⟨sl2, hd_sl2⟩ : ∃ z, z = ((((shp.toUInt32 >>> ((6 : Int32) &&& 31).toUInt32).toInt32) &&& (3 : Int32)) % (3 : Int32)) := ⟨_, rfl⟩
  rw [← hd_sl2]
  have hl_2 := own_l3 ((shp.toUInt32 >>> ((6 : Int32) &&& 31).toUInt32).toInt32)
  rw [← hd_sl2] at hl_2
  obtain ⟨cx0, hd_cx0⟩ : ∃ z, z = (((chs &&& (255 : Int64)).toInt32).toUInt32.toUInt16.toUInt32.toInt32) := ⟨_, rfl⟩
  rw [← hd_cx0]
  have hb_cx0 := own_ch chs
  rw [← hd_cx0] at hb_cx0
  obtain ⟨cy0, hd_cy0⟩ : ∃ z, z = (((((chs.toUInt64 >>> ((8 : Int32) &&& 0x3f).toInt64.toUInt64).toInt64) &&& (255 : Int64)).toInt32).toUInt32.toUInt16.toUInt32.toInt32) := ⟨_, rfl⟩
  rw [← hd_cy0]
  have hb_cy0 := own_ch ((chs.toUInt64 >>> ((8 : Int32) &&& 0x3f).toInt64.toUInt64).toInt64)
  rw [← hd_cy0] at hb_cy0
  obtain ⟨cx1, hd_cx1⟩ : ∃ z, z = (((((chs.toUInt64 >>> ((16 : Int32) &&& 0x3f).toInt64.toUInt64).toInt64) &&& (255 : Int64)).toInt32).toUInt32.toUInt16.toUInt32.toInt32) := ⟨_, rfl⟩
  rw [← hd_cx1]
  have hb_cx1 := own_ch ((chs.toUInt64 >>> ((16 : Int32) &&& 0x3f).toInt64.toUInt64).toInt64)
  rw [← hd_cx1] at hb_cx1
  obtain ⟨cy1, hd_cy1⟩ : ∃ z, z = (((((chs.toUInt64 >>> ((24 : Int32) &&& 0x3f).toInt64.toUInt64).toInt64) &&& (255 : Int64)).toInt32).toUInt32.toUInt16.toUInt32.toInt32) := ⟨_, rfl⟩
  rw [← hd_cy1]
  have hb_cy1 := own_ch ((chs.toUInt64 >>> ((24 : Int32) &&& 0x3f).toInt64.toUInt64).toInt64)
  rw [← hd_cy1] at hb_cy1
  obtain ⟨cx2, hd_cx2⟩ : ∃ z, z = (((((chs.toUInt64 >>> ((32 : Int32) &&& 0x3f).toInt64.toUInt64).toInt64) &&& (255 : Int64)).toInt32).toUInt32.toUInt16.toUInt32.toInt32) := ⟨_, rfl⟩
  rw [← hd_cx2]
  have hb_cx2 := own_ch ((chs.toUInt64 >>> ((32 : Int32) &&& 0x3f).toInt64.toUInt64).toInt64)
  rw [← hd_cx2] at hb_cx2
  obtain ⟨cy2, hd_cy2⟩ : ∃ z, z = (((((chs.toUInt64 >>> ((40 : Int32) &&& 0x3f).toInt64.toUInt64).toInt64) &&& (255 : Int64)).toInt32).toUInt32.toUInt16.toUInt32.toInt32) := ⟨_, rfl⟩
  rw [← hd_cy2]
  have hb_cy2 := own_ch ((chs.toUInt64 >>> ((40 : Int32) &&& 0x3f).toInt64.toUInt64).toInt64)
  rw [← hd_cy2] at hb_cy2
  clear hd_N hd_sl0 hd_sl1 hd_sl2 hd_cx0 hd_cy0 hd_cx1 hd_cy1 hd_cx2 hd_cy2
  show Go _ _ _ (s₁.setTop (mkF mi 102 #[.val (.int shp), .val (.long chs), .second, .val (.long dat), .second, .val (.int fsd), .val (.int tsd), .val (.int N), .val (.int sl0), .val (.int sl1), .val (.int sl2), .val (.int cx0), .val (.int cy0), .val (.int cx1), .val (.int cy1), .val (.int cx2), .val (.int cy2), .unset, .unset, .unset, .unset, .unset, .unset, .unset, .unset, .unset, .unset, .unset, .unset, .unset] [])) _
  refine g_iload (own_rb X0) hx hby at_102 rfl ?_
  refine g_iload (own_rb X0) hx hby at_104 rfl ?_
  refine g_iload (own_rb X0) hx hby at_106 rfl ?_
  show Go _ _ _ (s₁.setTop (mkF mi 108 #[.val (.int shp), .val (.long chs), .second, .val (.long dat), .second, .val (.int fsd), .val (.int tsd), .val (.int N), .val (.int sl0), .val (.int sl1), .val (.int sl2), .val (.int cx0), .val (.int cy0), .val (.int cx1), .val (.int cy1), .val (.int cx2), .val (.int cy2), .unset, .unset, .unset, .unset, .unset, .unset, .unset, .unset, .unset, .unset, .unset, .unset, .unset] [(.int cy0), (.int cx0), (.int sl0)])) _
  obtain ⟨_, _, ⟨T1, L1, k1, n1⟩, -, X1, hS1', hG1, ⟨Lc1, hQ1, l1, y1, z1, hCr1⟩, st1⟩ := callSS (own_rb X0) hx (y := (⟨"com/example/crossbook/crossbook/venue/TextsIndexOfPinLaw", "text", "(ICC)Ljava/lang/String;"⟩ : MethodName)) hown (mvT hZ (hw _ (own_m 1 rfl))) (mvT hZ (hw _ (own_m 2 rfl))) (mvT hZ (hw _ (own_m 3 rfl))) (mvT hZ (hw _ (own_m 4 rfl))) (by decide) (backOfSH (s := si) (vm0 := si.vm) (EL := own_EL) (W := 0) (rmT l Z a0 hw [] sl0 cx0 cy0 cz h0 n0 Z0 hEL hl_0 SC hcz hb_cx0.1 hb_cx0.2 hb_cy0.1 hb_cy0.2) hZ (hw _ (own_m 4 rfl)) (hw _ (own_m 3 rfl)) (by decide) (by decide) hEL hCH) (g := (mkF mi 108 #[.val (.int shp), .val (.long chs), .second, .val (.long dat), .second, .val (.int fsd), .val (.int tsd), .val (.int N), .val (.int sl0), .val (.int sl1), .val (.int sl2), .val (.int cx0), .val (.int cy0), .val (.int cx1), .val (.int cy1), .val (.int cx2), .val (.int cy2), .unset, .unset, .unset, .unset, .unset, .unset, .unset, .unset, .unset, .unset, .unset, .unset, .unset] [(.int cy0), (.int cx0), (.int sl0)])) rfl (by rw [hml]; rfl) (argsL := [(.int sl0), (.int cx0), (.int cy0)]) (rest := []) (lenOf pd_20 rfl) rfl (by show 2 * 0 + _ ≤ _; exact Nat.le_of_eq rfl) (hb hby at_108) (fun _ _ => ⟨rfl, e0, (by decide : 0 + 3 ≤ _), (by decide : 0 + 8 ≤ _)⟩)
  dsimp only [Pt.U, Pt.locs, Pt.cells, Pt.slots] at X1 l1 y1 z1 st1 hQ1 hCr1 hS1' hG1
  subst l1 y1 z1
  have X1 := own_cs X1 (cells' := 3) (slots' := 8) rfl rfl
  obtain ⟨X1, hS1, hZ, hown⟩ := rebS ((State.WarmedH.refl si).since h0.size) (by show _ ≤ s₁.heap.size; rw [e0]; exact Nat.le_refl _) X1 hS1' hG1 hZ hown
  obtain ⟨h1, e1⟩ : ∃ z, T1.heap = z := ⟨_, rfl⟩
  rw [e1] at hQ1
  obtain ⟨so0, sb0, sk0, rfl, N1q, K1, A_1, FC_1, FV_1, AV_1, EB_1⟩ := hQ1
  have N1 := Fr.app N0 N1q
  have Zs2 : n0 ≤ h1.size := Nat.le_trans Z0 K1.1
  have hCH1 : CHv Z own_EL T1.vm h1 := by rw [← e1]; exact hCr1.1
  refine Go.tr st1 ?_
  show Go _ _ _ (T1.setTop (mkF mi 111 #[.val (.int shp), .val (.long chs), .second, .val (.long dat), .second, .val (.int fsd), .val (.int tsd), .val (.int N), .val (.int sl0), .val (.int sl1), .val (.int sl2), .val (.int cx0), .val (.int cy0), .val (.int cx1), .val (.int cy1), .val (.int cx2), .val (.int cy2), .unset, .unset, .unset, .unset, .unset, .unset, .unset, .unset, .unset, .unset, .unset, .unset, .unset] [(.ref so0)])) _
  refine g_astore X1 hx hby at_111 rfl (l' := #[.val (.int shp), .val (.long chs), .second, .val (.long dat), .second, .val (.int fsd), .val (.int tsd), .val (.int N), .val (.int sl0), .val (.int sl1), .val (.int sl2), .val (.int cx0), .val (.int cy0), .val (.int cx1), .val (.int cy1), .val (.int cx2), .val (.int cy2), .val (.ref so0), .unset, .unset, .unset, .unset, .unset, .unset, .unset, .unset, .unset, .unset, .unset, .unset]) rfl ?_
  refine g_iload X1 hx hby at_113 rfl ?_
  refine g_iload X1 hx hby at_115 rfl ?_
  refine g_iload X1 hx hby at_117 rfl ?_
  show Go _ _ _ (T1.setTop (mkF mi 119 #[.val (.int shp), .val (.long chs), .second, .val (.long dat), .second, .val (.int fsd), .val (.int tsd), .val (.int N), .val (.int sl0), .val (.int sl1), .val (.int sl2), .val (.int cx0), .val (.int cy0), .val (.int cx1), .val (.int cy1), .val (.int cx2), .val (.int cy2), .val (.ref so0), .unset, .unset, .unset, .unset, .unset, .unset, .unset, .unset, .unset, .unset, .unset, .unset] [(.int cy1), (.int cx1), (.int sl1)])) _
  have f4 := (own_sta_keep SC K1 ns0)
  obtain ⟨_, _, ⟨T3, L3, k3, n3⟩, -, X3, hS3', hG3, ⟨Lc3, hQ3, l3, y3, z3, hCr3⟩, st3⟩ := callSS X1 hx (y := (⟨"com/example/crossbook/crossbook/venue/TextsIndexOfPinLaw", "text", "(ICC)Ljava/lang/String;"⟩ : MethodName)) hown (mvT hZ (hw _ (own_m 1 rfl))) (mvT hZ (hw _ (own_m 2 rfl))) (mvT hZ (hw _ (own_m 3 rfl))) (mvT hZ (hw _ (own_m 4 rfl))) (by decide) (backOfSH (s := si) (vm0 := T1.vm) (EL := own_EL) (W := 0) (rmT l Z a0 hw [] sl1 cx1 cy1 cz h1 n0 Zs2 hEL hl_1 f4 hcz hb_cx1.1 hb_cx1.2 hb_cy1.1 hb_cy1.2) hZ (hw _ (own_m 4 rfl)) (hw _ (own_m 3 rfl)) (by decide) (by decide) hEL hCH1) (g := (mkF mi 119 #[.val (.int shp), .val (.long chs), .second, .val (.long dat), .second, .val (.int fsd), .val (.int tsd), .val (.int N), .val (.int sl0), .val (.int sl1), .val (.int sl2), .val (.int cx0), .val (.int cy0), .val (.int cx1), .val (.int cy1), .val (.int cx2), .val (.int cy2), .val (.ref so0), .unset, .unset, .unset, .unset, .unset, .unset, .unset, .unset, .unset, .unset, .unset, .unset] [(.int cy1), (.int cx1), (.int sl1)])) rfl (by rw [hml]; rfl) (argsL := [(.int sl1), (.int cx1), (.int cy1)]) (rest := []) (lenOf pd_20 rfl) rfl (by show 2 * 0 + _ ≤ _; exact Nat.le_of_eq rfl) (hb hby at_119) (fun _ _ => ⟨rfl, e1, (by decide : 3 + 3 ≤ _), (by decide : 8 + 8 ≤ _)⟩)
  dsimp only [Pt.U, Pt.locs, Pt.cells, Pt.slots] at X3 l3 y3 z3 st3 hQ3 hCr3 hS3' hG3
  subst l3 y3 z3
  have X3 := own_cs X3 (cells' := 6) (slots' := 16) rfl rfl
  obtain ⟨X3, hS3, hZ, hown⟩ := rebS hS1 (Nat.le_refl _) X3 hS3' hG3 hZ hown
  obtain ⟨h3, e3⟩ : ∃ z, T3.heap = z := ⟨_, rfl⟩
  rw [e3] at hQ3
  obtain ⟨so1, sb1, sk1, rfl, N3q, K3, A_3, FC_3, FV_3, AV_3, EB_3⟩ := hQ3
  have N3 := Fr.app N1 N3q
  have Zs5 : n0 ≤ h3.size := Nat.le_trans Zs2 K3.1
  have hCH3 : CHv Z own_EL T3.vm h3 := by rw [← e3]; exact hCr3.1
  refine Go.tr st3 ?_
  show Go _ _ _ (T3.setTop (mkF mi 122 #[.val (.int shp), .val (.long chs), .second, .val (.long dat), .second, .val (.int fsd), .val (.int tsd), .val (.int N), .val (.int sl0), .val (.int sl1), .val (.int sl2), .val (.int cx0), .val (.int cy0), .val (.int cx1), .val (.int cy1), .val (.int cx2), .val (.int cy2), .val (.ref so0), .unset, .unset, .unset, .unset, .unset, .unset, .unset, .unset, .unset, .unset, .unset, .unset] [(.ref so1)])) _
  refine g_astore X3 hx hby at_122 rfl (l' := #[.val (.int shp), .val (.long chs), .second, .val (.long dat), .second, .val (.int fsd), .val (.int tsd), .val (.int N), .val (.int sl0), .val (.int sl1), .val (.int sl2), .val (.int cx0), .val (.int cy0), .val (.int cx1), .val (.int cy1), .val (.int cx2), .val (.int cy2), .val (.ref so0), .val (.ref so1), .unset, .unset, .unset, .unset, .unset, .unset, .unset, .unset, .unset, .unset, .unset]) rfl ?_
  refine g_iload X3 hx hby at_124 rfl ?_
  refine g_iload X3 hx hby at_126 rfl ?_
  refine g_iload X3 hx hby at_128 rfl ?_
  show Go _ _ _ (T3.setTop (mkF mi 130 #[.val (.int shp), .val (.long chs), .second, .val (.long dat), .second, .val (.int fsd), .val (.int tsd), .val (.int N), .val (.int sl0), .val (.int sl1), .val (.int sl2), .val (.int cx0), .val (.int cy0), .val (.int cx1), .val (.int cy1), .val (.int cx2), .val (.int cy2), .val (.ref so0), .val (.ref so1), .unset, .unset, .unset, .unset, .unset, .unset, .unset, .unset, .unset, .unset, .unset] [(.int cy2), (.int cx2), (.int sl2)])) _
  have f7 := (own_sta_keep f4 K3 ns0)
  obtain ⟨_, _, ⟨T6, L6, k6, n6⟩, -, X6, hS6', hG6, ⟨Lc6, hQ6, l6, y6, z6, hCr6⟩, st6⟩ := callSS X3 hx (y := (⟨"com/example/crossbook/crossbook/venue/TextsIndexOfPinLaw", "text", "(ICC)Ljava/lang/String;"⟩ : MethodName)) hown (mvT hZ (hw _ (own_m 1 rfl))) (mvT hZ (hw _ (own_m 2 rfl))) (mvT hZ (hw _ (own_m 3 rfl))) (mvT hZ (hw _ (own_m 4 rfl))) (by decide) (backOfSH (s := si) (vm0 := T3.vm) (EL := own_EL) (W := 0) (rmT l Z a0 hw [] sl2 cx2 cy2 cz h3 n0 Zs5 hEL hl_2 f7 hcz hb_cx2.1 hb_cx2.2 hb_cy2.1 hb_cy2.2) hZ (hw _ (own_m 4 rfl)) (hw _ (own_m 3 rfl)) (by decide) (by decide) hEL hCH3) (g := (mkF mi 130 #[.val (.int shp), .val (.long chs), .second, .val (.long dat), .second, .val (.int fsd), .val (.int tsd), .val (.int N), .val (.int sl0), .val (.int sl1), .val (.int sl2), .val (.int cx0), .val (.int cy0), .val (.int cx1), .val (.int cy1), .val (.int cx2), .val (.int cy2), .val (.ref so0), .val (.ref so1), .unset, .unset, .unset, .unset, .unset, .unset, .unset, .unset, .unset, .unset, .unset] [(.int cy2), (.int cx2), (.int sl2)])) rfl (by rw [hml]; rfl) (argsL := [(.int sl2), (.int cx2), (.int cy2)]) (rest := []) (lenOf pd_20 rfl) rfl (by show 2 * 0 + _ ≤ _; exact Nat.le_of_eq rfl) (hb hby at_130) (fun _ _ => ⟨rfl, e3, (by decide : 6 + 3 ≤ _), (by decide : 16 + 8 ≤ _)⟩)
  dsimp only [Pt.U, Pt.locs, Pt.cells, Pt.slots] at X6 l6 y6 z6 st6 hQ6 hCr6 hS6' hG6
  subst l6 y6 z6
  have X6 := own_cs X6 (cells' := 9) (slots' := 24) rfl rfl
  obtain ⟨X6, hS6, hZ, hown⟩ := rebS hS3 (Nat.le_refl _) X6 hS6' hG6 hZ hown
  obtain ⟨h6, e6⟩ : ∃ z, T6.heap = z := ⟨_, rfl⟩
  rw [e6] at hQ6
  obtain ⟨so2, sb2, sk2, rfl, N6q, K6, A_6, FC_6, FV_6, AV_6, EB_6⟩ := hQ6
  have N6 := Fr.app N3 N6q
  have Zs8 : n0 ≤ h6.size := Nat.le_trans Zs5 K6.1
  have hCH6 : CHv Z own_EL T6.vm h6 := by rw [← e6]; exact hCr6.1
  refine Go.tr st6 ?_
  show Go _ _ _ (T6.setTop (mkF mi 133 #[.val (.int shp), .val (.long chs), .second, .val (.long dat), .second, .val (.int fsd), .val (.int tsd), .val (.int N), .val (.int sl0), .val (.int sl1), .val (.int sl2), .val (.int cx0), .val (.int cy0), .val (.int cx1), .val (.int cy1), .val (.int cx2), .val (.int cy2), .val (.ref so0), .val (.ref so1), .unset, .unset, .unset, .unset, .unset, .unset, .unset, .unset, .unset, .unset, .unset] [(.ref so2)])) _
  refine g_astore X6 hx hby at_133 rfl (l' := #[.val (.int shp), .val (.long chs), .second, .val (.long dat), .second, .val (.int fsd), .val (.int tsd), .val (.int N), .val (.int sl0), .val (.int sl1), .val (.int sl2), .val (.int cx0), .val (.int cy0), .val (.int cx1), .val (.int cy1), .val (.int cx2), .val (.int cy2), .val (.ref so0), .val (.ref so1), .val (.ref so2), .unset, .unset, .unset, .unset, .unset, .unset, .unset, .unset, .unset, .unset]) rfl ?_
  show Go _ _ _ (T6.setTop (mkF mi 135 #[.val (.int shp), .val (.long chs), .second, .val (.long dat), .second, .val (.int fsd), .val (.int tsd), .val (.int N), .val (.int sl0), .val (.int sl1), .val (.int sl2), .val (.int cx0), .val (.int cy0), .val (.int cx1), .val (.int cy1), .val (.int cx2), .val (.int cy2), .val (.ref so0), .val (.ref so1), .val (.ref so2), .unset, .unset, .unset, .unset, .unset, .unset, .unset, .unset, .unset, .unset] [])) _
  obtain ⟨kk, hkk⟩ : ∃ z, T6.heap.size = z := ⟨_, rfl⟩
  have ZK0 : kk ≤ h6.size := by rw [← hkk, e6]; exact Nat.le_refl _
  have KJ : ∀ (TJ : State) (LJ : List Loc) (hJ : Heap) (ta : Addr) (kt : ClassId) (tv : List Value), Stand pg l ev room_1 (si.setVm T6.vm) mi #[(.int shp), (.long chs), (.long dat), (.int fsd), (.int tsd)] below meth ci TJ LJ 10 27 → TJ.heap = hJ → Fr n0 LJ → Keep h6 hJ [] → h6.size ≤ ta → n0 ≤ ta → Arv Z hJ ta kt (.object "java/lang/String") N tv .null → Exa Z hJ ta "[Ljava/lang/String;" → ((0 : Int32) < N → tv.getD (0 : Int32).toNatClampNeg .null = .ref so0) → ((1 : Int32) < N → tv.getD (1 : Int32).toNatClampNeg .null = .ref so1) → ((2 : Int32) < N → tv.getD (2 : Int32).toNatClampNeg .null = .ref so2) → Go pg.tables ev below (TJ.setTop (mkF mi 207 #[.val (.int shp), .val (.long chs), .second, .val (.long dat), .second, .val (.int fsd), .val (.int tsd), .val (.int N), .val (.int sl0), .val (.int sl1), .val (.int sl2), .val (.int cx0), .val (.int cy0), .val (.int cx1), .val (.int cy1), .val (.int cx2), .val (.int cy2), .val (.ref so0), .val (.ref so1), .val (.ref so2), .unset, .unset, .unset, .unset, .unset, .unset, .unset, .unset, .unset, .unset] [(.ref ta)])) P := by
    intro TJ LJ hJ ta kt tv XJ eJ NJ KJ0 zJ gJ VJ EJ hg_0 hg_1 hg_2
    have Zs10 : n0 ≤ hJ.size := Nat.le_trans Zs8 KJ0.1
    have ZK10 : kk ≤ hJ.size := Nat.le_trans ZK0 KJ0.1
    refine g_astore XJ hx hby at_207 rfl (l' := #[.val (.int shp), .val (.long chs), .second, .val (.long dat), .second, .val (.int fsd), .val (.int tsd), .val (.int N), .val (.int sl0), .val (.int sl1), .val (.int sl2), .val (.int cx0), .val (.int cy0), .val (.int cx1), .val (.int cy1), .val (.int cx2), .val (.int cy2), .val (.ref so0), .val (.ref so1), .val (.ref so2), .val (.ref ta), .unset, .unset, .unset, .unset, .unset, .unset, .unset, .unset, .unset]) rfl ?_
    refine g_iconst XJ hx hby at_209 (v := 5) rfl ?_
    obtain ⟨T11, h11, k11, X11, e11, E11, A11, EX11, st11⟩ := newPE XJ hx hZ (hw _ (own_m 8 rfl)) eJ (g := (mkF mi 210 #[.val (.int shp), .val (.long chs), .second, .val (.long dat), .second, .val (.int fsd), .val (.int tsd), .val (.int N), .val (.int sl0), .val (.int sl1), .val (.int sl2), .val (.int cx0), .val (.int cy0), .val (.int cx1), .val (.int cy1), .val (.int cx2), .val (.int cy2), .val (.ref so0), .val (.ref so1), .val (.ref so2), .val (.ref ta), .unset, .unset, .unset, .unset, .unset, .unset, .unset, .unset, .unset] [(.int 5)])) rfl (hb hby at_210) rfl (by decide) (cap := 5) (by decide) (by decide) (by decide) (by decide) (ad := "[B") (by decide)
    obtain ⟨ob11, g11⟩ : ∃ z, z = hJ.size := ⟨_, rfl⟩
    rw [← g11] at A11 EX11 st11
    have Zs12 : n0 ≤ h11.size := Nat.le_trans Zs10 E11.1
    have ZK12 : kk ≤ h11.size := Nat.le_trans ZK10 E11.1
    have g_ob11 : n0 ≤ ob11 := Nat.le_trans Zs10 (Nat.le_of_eq g11.symm)
    have V11 : Arv Z h11 ob11 k11 .byte (5 : Int32) [(.int (0 : Int32)), (.int (0 : Int32)), (.int (0 : Int32)), (.int (0 : Int32)), (.int (0 : Int32))] (.int (0 : Int32)) := (Arv.new A11 (by decide)).pad (pad_rep [] (.int (0 : Int32)) 5)
    refine Go.st st11 ?_
    refine g_astore X11 hx hby at_212 rfl (l' := #[.val (.int shp), .val (.long chs), .second, .val (.long dat), .second, .val (.int fsd), .val (.int tsd), .val (.int N), .val (.int sl0), .val (.int sl1), .val (.int sl2), .val (.int cx0), .val (.int cy0), .val (.int cx1), .val (.int cy1), .val (.int cx2), .val (.int cy2), .val (.ref so0), .val (.ref so1), .val (.ref so2), .val (.ref ta), .val (.ref ob11), .unset, .unset, .unset, .unset, .unset, .unset, .unset, .unset]) rfl ?_
    refine g_aload X11 hx hby at_214 rfl rfl ?_
    refine g_iconst X11 hx hby at_216 (v := 0) rfl ?_
    refine g_lloadN X11 hx hby at_217 rfl ?_
    refine Go.s (XS.l2i X11.here hx rfl (hb hby at_218) rfl) ?_
    refine g_i2b X11 hx hby at_219 rfl ?_
    have ov13 := V11
    obtain ⟨cl13, Ar13, q13, S13, M13, H13, G13⟩ := ov13
    have hin13 : ¬ ((0 : Int32) < 0 ∨ cl13.slots.size ≤ ((0 : Int32)).toNatClampNeg) := inb_of S13 ⟨by decide, by decide⟩
    obtain ⟨T14, h14, X14, e14, W14, st14⟩ := stB X11 hx hZ e11 Ar13 (j := (0 : Int32)) hin13 (g := (mkF mi 220 #[.val (.int shp), .val (.long chs), .second, .val (.long dat), .second, .val (.int fsd), .val (.int tsd), .val (.int N), .val (.int sl0), .val (.int sl1), .val (.int sl2), .val (.int cx0), .val (.int cy0), .val (.int cx1), .val (.int cy1), .val (.int cx2), .val (.int cy2), .val (.ref so0), .val (.ref so1), .val (.ref so2), .val (.ref ta), .val (.ref ob11), .unset, .unset, .unset, .unset, .unset, .unset, .unset, .unset] [(.int ((dat.toInt32).toInt8.toInt32)), (.int 0), (.ref ob11)])) rfl rfl (hb hby at_220)
    have Zs15 : n0 ≤ h14.size := Nat.le_trans Zs12 (Keep.of_wr W14).1
    have ZK15 : kk ≤ h14.size := Nat.le_trans ZK12 (Keep.of_wr W14).1
    have N15 := Fr.snoc X14 NJ g_ob11
    have V14 : Arv Z h14 ob11 k11 .byte (5 : Int32) [(.int (((dat.toInt32).toInt8.toInt32).toInt8.toInt32)), (.int 0), (.int 0), (.int 0), (.int 0)] (.int (0 : Int32)) := Arv.set Ar13 q13 S13 M13 H13 G13 (fits_nar_byte _) W14 0 rfl (Nat.le_of_ble_eq_true rfl)
    refine Go.st st14 ?_
    refine g_aload X14 hx hby at_221 rfl rfl ?_
    refine g_iconst X14 hx hby at_223 (v := 1) rfl ?_
    refine g_lloadN X14 hx hby at_224 rfl ?_
    refine g_bipush X14 hx hby at_225 (v := 8) rfl ?_
    refine Go.s (XS.lushr X14.here hx rfl (hb hby at_227) rfl) ?_
    show Go _ _ _ (T14.setTop (mkF mi 228 #[.val (.int shp), .val (.long chs), .second, .val (.long dat), .second, .val (.int fsd), .val (.int tsd), .val (.int N), .val (.int sl0), .val (.int sl1), .val (.int sl2), .val (.int cx0), .val (.int cy0), .val (.int cx1), .val (.int cy1), .val (.int cx2), .val (.int cy2), .val (.ref so0), .val (.ref so1), .val (.ref so2), .val (.ref ta), .val (.ref ob11), .unset, .unset, .unset, .unset, .unset, .unset, .unset, .unset] [(.long ((dat.toUInt64 >>> ((8 : Int32) &&& 0x3f).toInt64.toUInt64).toInt64)), (.int 1), (.ref ob11)])) _
    refine Go.s (XS.l2i X14.here hx rfl (hb hby at_228) rfl) ?_
    refine g_i2b X14 hx hby at_229 rfl ?_
    have ov16 := V14
    obtain ⟨cl16, Ar16, q16, S16, M16, H16, G16⟩ := ov16
    have hin16 : ¬ ((1 : Int32) < 0 ∨ cl16.slots.size ≤ ((1 : Int32)).toNatClampNeg) := inb_of S16 ⟨by decide, by decide⟩
    obtain ⟨T17, h17, X17, e17, W17, st17⟩ := stB X14 hx hZ e14 Ar16 (j := (1 : Int32)) hin16 (g := (mkF mi 230 #[.val (.int shp), .val (.long chs), .second, .val (.long dat), .second, .val (.int fsd), .val (.int tsd), .val (.int N), .val (.int sl0), .val (.int sl1), .val (.int sl2), .val (.int cx0), .val (.int cy0), .val (.int cx1), .val (.int cy1), .val (.int cx2), .val (.int cy2), .val (.ref so0), .val (.ref so1), .val (.ref so2), .val (.ref ta), .val (.ref ob11), .unset, .unset, .unset, .unset, .unset, .unset, .unset, .unset] [(.int ((((dat.toUInt64 >>> ((8 : Int32) &&& 0x3f).toInt64.toUInt64).toInt64).toInt32).toInt8.toInt32)), (.int 1), (.ref ob11)])) rfl rfl (hb hby at_230)
    have Zs18 : n0 ≤ h17.size := Nat.le_trans Zs15 (Keep.of_wr W17).1
    have ZK18 : kk ≤ h17.size := Nat.le_trans ZK15 (Keep.of_wr W17).1
    have N18 := Fr.snoc X17 N15 g_ob11
    have V17 : Arv Z h17 ob11 k11 .byte (5 : Int32) [(.int (((dat.toInt32).toInt8.toInt32).toInt8.toInt32)), (.int (((((dat.toUInt64 >>> ((8 : Int32) &&& 0x3f).toInt64.toUInt64).toInt64).toInt32).toInt8.toInt32).toInt8.toInt32)), (.int 0), (.int 0), (.int 0)] (.int (0 : Int32)) := Arv.set Ar16 q16 S16 M16 H16 G16 (fits_nar_byte _) W17 1 rfl (Nat.le_of_ble_eq_true rfl)
    refine Go.st st17 ?_
    refine g_aload X17 hx hby at_231 rfl rfl ?_
    refine g_iconst X17 hx hby at_233 (v := 2) rfl ?_
    refine g_lloadN X17 hx hby at_234 rfl ?_
    refine g_bipush X17 hx hby at_235 (v := 16) rfl ?_
    refine Go.s (XS.lushr X17.here hx rfl (hb hby at_237) rfl) ?_
    refine Go.s (XS.l2i X17.here hx rfl (hb hby at_238) rfl) ?_
    show Go _ _ _ (T17.setTop (mkF mi 239 #[.val (.int shp), .val (.long chs), .second, .val (.long dat), .second, .val (.int fsd), .val (.int tsd), .val (.int N), .val (.int sl0), .val (.int sl1), .val (.int sl2), .val (.int cx0), .val (.int cy0), .val (.int cx1), .val (.int cy1), .val (.int cx2), .val (.int cy2), .val (.ref so0), .val (.ref so1), .val (.ref so2), .val (.ref ta), .val (.ref ob11), .unset, .unset, .unset, .unset, .unset, .unset, .unset, .unset] [(.int (((dat.toUInt64 >>> ((16 : Int32) &&& 0x3f).toInt64.toUInt64).toInt64).toInt32)), (.int 2), (.ref ob11)])) _
    refine g_i2b X17 hx hby at_239 rfl ?_
    have ov19 := V17
    obtain ⟨cl19, Ar19, q19, S19, M19, H19, G19⟩ := ov19
    have hin19 : ¬ ((2 : Int32) < 0 ∨ cl19.slots.size ≤ ((2 : Int32)).toNatClampNeg) := inb_of S19 ⟨by decide, by decide⟩
    obtain ⟨T20, h20, X20, e20, W20, st20⟩ := stB X17 hx hZ e17 Ar19 (j := (2 : Int32)) hin19 (g := (mkF mi 240 #[.val (.int shp), .val (.long chs), .second, .val (.long dat), .second, .val (.int fsd), .val (.int tsd), .val (.int N), .val (.int sl0), .val (.int sl1), .val (.int sl2), .val (.int cx0), .val (.int cy0), .val (.int cx1), .val (.int cy1), .val (.int cx2), .val (.int cy2), .val (.ref so0), .val (.ref so1), .val (.ref so2), .val (.ref ta), .val (.ref ob11), .unset, .unset, .unset, .unset, .unset, .unset, .unset, .unset] [(.int ((((dat.toUInt64 >>> ((16 : Int32) &&& 0x3f).toInt64.toUInt64).toInt64).toInt32).toInt8.toInt32)), (.int 2), (.ref ob11)])) rfl rfl (hb hby at_240)
    have Zs21 : n0 ≤ h20.size := Nat.le_trans Zs18 (Keep.of_wr W20).1
    have ZK21 : kk ≤ h20.size := Nat.le_trans ZK18 (Keep.of_wr W20).1
    have N21 := Fr.snoc X20 N18 g_ob11
    have V20 : Arv Z h20 ob11 k11 .byte (5 : Int32) [(.int (((dat.toInt32).toInt8.toInt32).toInt8.toInt32)), (.int (((((dat.toUInt64 >>> ((8 : Int32) &&& 0x3f).toInt64.toUInt64).toInt64).toInt32).toInt8.toInt32).toInt8.toInt32)), (.int (((((dat.toUInt64 >>> ((16 : Int32) &&& 0x3f).toInt64.toUInt64).toInt64).toInt32).toInt8.toInt32).toInt8.toInt32)), (.int 0), (.int 0)] (.int (0 : Int32)) := Arv.set Ar19 q19 S19 M19 H19 G19 (fits_nar_byte _) W20 2 rfl (Nat.le_of_ble_eq_true rfl)
    refine Go.st st20 ?_
    refine g_aload X20 hx hby at_241 rfl rfl ?_
    refine g_iconst X20 hx hby at_243 (v := 3) rfl ?_
    refine g_lloadN X20 hx hby at_244 rfl ?_
    refine g_bipush X20 hx hby at_245 (v := 24) rfl ?_
    refine Go.s (XS.lushr X20.here hx rfl (hb hby at_247) rfl) ?_
    refine Go.s (XS.l2i X20.here hx rfl (hb hby at_248) rfl) ?_
    refine g_i2b X20 hx hby at_249 rfl ?_
    have ov22 := V20
    obtain ⟨cl22, Ar22, q22, S22, M22, H22, G22⟩ := ov22
    have hin22 : ¬ ((3 : Int32) < 0 ∨ cl22.slots.size ≤ ((3 : Int32)).toNatClampNeg) := inb_of S22 ⟨by decide, by decide⟩
    obtain ⟨T23, h23, X23, e23, W23, st23⟩ := stB X20 hx hZ e20 Ar22 (j := (3 : Int32)) hin22 (g := (mkF mi 250 #[.val (.int shp), .val (.long chs), .second, .val (.long dat), .second, .val (.int fsd), .val (.int tsd), .val (.int N), .val (.int sl0), .val (.int sl1), .val (.int sl2), .val (.int cx0), .val (.int cy0), .val (.int cx1), .val (.int cy1), .val (.int cx2), .val (.int cy2), .val (.ref so0), .val (.ref so1), .val (.ref so2), .val (.ref ta), .val (.ref ob11), .unset, .unset, .unset, .unset, .unset, .unset, .unset, .unset] [(.int ((((dat.toUInt64 >>> ((24 : Int32) &&& 0x3f).toInt64.toUInt64).toInt64).toInt32).toInt8.toInt32)), (.int 3), (.ref ob11)])) rfl rfl (hb hby at_250)
    have Zs24 : n0 ≤ h23.size := Nat.le_trans Zs21 (Keep.of_wr W23).1
    have ZK24 : kk ≤ h23.size := Nat.le_trans ZK21 (Keep.of_wr W23).1
    have N24 := Fr.snoc X23 N21 g_ob11
    have V23 : Arv Z h23 ob11 k11 .byte (5 : Int32) [(.int (((dat.toInt32).toInt8.toInt32).toInt8.toInt32)), (.int (((((dat.toUInt64 >>> ((8 : Int32) &&& 0x3f).toInt64.toUInt64).toInt64).toInt32).toInt8.toInt32).toInt8.toInt32)), (.int (((((dat.toUInt64 >>> ((16 : Int32) &&& 0x3f).toInt64.toUInt64).toInt64).toInt32).toInt8.toInt32).toInt8.toInt32)), (.int (((((dat.toUInt64 >>> ((24 : Int32) &&& 0x3f).toInt64.toUInt64).toInt64).toInt32).toInt8.toInt32).toInt8.toInt32)), (.int 0)] (.int (0 : Int32)) := Arv.set Ar22 q22 S22 M22 H22 G22 (fits_nar_byte _) W23 3 rfl (Nat.le_of_ble_eq_true rfl)
    refine Go.st st23 ?_
    refine g_aload X23 hx hby at_251 rfl rfl ?_
    refine g_iconst X23 hx hby at_253 (v := 4) rfl ?_
    refine g_lloadN X23 hx hby at_254 rfl ?_
    refine g_bipush X23 hx hby at_255 (v := 32) rfl ?_
    refine Go.s (XS.lushr X23.here hx rfl (hb hby at_257) rfl) ?_
    show Go _ _ _ (T23.setTop (mkF mi 258 #[.val (.int shp), .val (.long chs), .second, .val (.long dat), .second, .val (.int fsd), .val (.int tsd), .val (.int N), .val (.int sl0), .val (.int sl1), .val (.int sl2), .val (.int cx0), .val (.int cy0), .val (.int cx1), .val (.int cy1), .val (.int cx2), .val (.int cy2), .val (.ref so0), .val (.ref so1), .val (.ref so2), .val (.ref ta), .val (.ref ob11), .unset, .unset, .unset, .unset, .unset, .unset, .unset, .unset] [(.long ((dat.toUInt64 >>> ((32 : Int32) &&& 0x3f).toInt64.toUInt64).toInt64)), (.int 4), (.ref ob11)])) _
    refine Go.s (XS.l2i X23.here hx rfl (hb hby at_258) rfl) ?_
    refine g_i2b X23 hx hby at_259 rfl ?_
    have ov25 := V23
    obtain ⟨cl25, Ar25, q25, S25, M25, H25, G25⟩ := ov25
    have hin25 : ¬ ((4 : Int32) < 0 ∨ cl25.slots.size ≤ ((4 : Int32)).toNatClampNeg) := inb_of S25 ⟨by decide, by decide⟩
    obtain ⟨T26, h26, X26, e26, W26, st26⟩ := stB X23 hx hZ e23 Ar25 (j := (4 : Int32)) hin25 (g := (mkF mi 260 #[.val (.int shp), .val (.long chs), .second, .val (.long dat), .second, .val (.int fsd), .val (.int tsd), .val (.int N), .val (.int sl0), .val (.int sl1), .val (.int sl2), .val (.int cx0), .val (.int cy0), .val (.int cx1), .val (.int cy1), .val (.int cx2), .val (.int cy2), .val (.ref so0), .val (.ref so1), .val (.ref so2), .val (.ref ta), .val (.ref ob11), .unset, .unset, .unset, .unset, .unset, .unset, .unset, .unset] [(.int ((((dat.toUInt64 >>> ((32 : Int32) &&& 0x3f).toInt64.toUInt64).toInt64).toInt32).toInt8.toInt32)), (.int 4), (.ref ob11)])) rfl rfl (hb hby at_260)
    have Zs27 : n0 ≤ h26.size := Nat.le_trans Zs24 (Keep.of_wr W26).1
    have ZK27 : kk ≤ h26.size := Nat.le_trans ZK24 (Keep.of_wr W26).1
    have N27 := Fr.snoc X26 N24 g_ob11
    have V26 : Arv Z h26 ob11 k11 .byte (5 : Int32) [(.int (((dat.toInt32).toInt8.toInt32).toInt8.toInt32)), (.int (((((dat.toUInt64 >>> ((8 : Int32) &&& 0x3f).toInt64.toUInt64).toInt64).toInt32).toInt8.toInt32).toInt8.toInt32)), (.int (((((dat.toUInt64 >>> ((16 : Int32) &&& 0x3f).toInt64.toUInt64).toInt64).toInt32).toInt8.toInt32).toInt8.toInt32)), (.int (((((dat.toUInt64 >>> ((24 : Int32) &&& 0x3f).toInt64.toUInt64).toInt64).toInt32).toInt8.toInt32).toInt8.toInt32)), (.int (((((dat.toUInt64 >>> ((32 : Int32) &&& 0x3f).toInt64.toUInt64).toInt64).toInt32).toInt8.toInt32).toInt8.toInt32))] (.int (0 : Int32)) := Arv.set Ar25 q25 S25 M25 H25 G25 (fits_nar_byte _) W26 4 rfl (Nat.le_of_ble_eq_true rfl)
    refine Go.st st26 ?_
    show Go _ _ _ (T26.setTop (mkF mi 261 #[.val (.int shp), .val (.long chs), .second, .val (.long dat), .second, .val (.int fsd), .val (.int tsd), .val (.int N), .val (.int sl0), .val (.int sl1), .val (.int sl2), .val (.int cx0), .val (.int cy0), .val (.int cx1), .val (.int cy1), .val (.int cx2), .val (.int cy2), .val (.ref so0), .val (.ref so1), .val (.ref so2), .val (.ref ta), .val (.ref ob11), .unset, .unset, .unset, .unset, .unset, .unset, .unset, .unset] [])) _
    have VG := V26
    obtain ⟨y0_, hy0_⟩ : ∃ z, z = (((dat.toInt32).toInt8.toInt32).toInt8.toInt32) := ⟨_, rfl⟩
    rw [← hy0_] at VG
    obtain ⟨y1_, hy1_⟩ : ∃ z, z = (((((dat.toUInt64 >>> ((8 : Int32) &&& 0x3f).toInt64.toUInt64).toInt64).toInt32).toInt8.toInt32).toInt8.toInt32) := ⟨_, rfl⟩
    rw [← hy1_] at VG
    obtain ⟨y2_, hy2_⟩ : ∃ z, z = (((((dat.toUInt64 >>> ((16 : Int32) &&& 0x3f).toInt64.toUInt64).toInt64).toInt32).toInt8.toInt32).toInt8.toInt32) := ⟨_, rfl⟩
    rw [← hy2_] at VG
    obtain ⟨y3_, hy3_⟩ : ∃ z, z = (((((dat.toUInt64 >>> ((24 : Int32) &&& 0x3f).toInt64.toUInt64).toInt64).toInt32).toInt8.toInt32).toInt8.toInt32) := ⟨_, rfl⟩
    rw [← hy3_] at VG
    obtain ⟨y4_, hy4_⟩ : ∃ z, z = (((((dat.toUInt64 >>> ((32 : Int32) &&& 0x3f).toInt64.toUInt64).toInt64).toInt32).toInt8.toInt32).toInt8.toInt32) := ⟨_, rfl⟩
    rw [← hy4_] at VG
    clear hy0_ hy1_ hy2_ hy3_ hy4_
    refine g_iload X26 hx hby at_261 rfl ?_
    refine Go.st (X26.ldcInt hx hown (mvT hZ (hw _ (own_m 15 rfl))) (g := (mkF mi 263 #[.val (.int shp), .val (.long chs), .second, .val (.long dat), .second, .val (.int fsd), .val (.int tsd), .val (.int N), .val (.int sl0), .val (.int sl1), .val (.int sl2), .val (.int cx0), .val (.int cy0), .val (.int cx1), .val (.int cy1), .val (.int cx2), .val (.int cy2), .val (.ref so0), .val (.ref so1), .val (.ref so2), .val (.ref ta), .val (.ref ob11), .unset, .unset, .unset, .unset, .unset, .unset, .unset, .unset] [(.int fsd)])) rfl (hb hby at_263)) ?_
    refine g_iand X26 hx hby at_265 rfl ?_
    refine g_bipush X26 hx hby at_266 (v := 6) rfl ?_
    refine Go.s (iremM X26 hx rfl (hb hby at_268) rfl (by decide)) ?_
    refine g_istore X26 hx hby at_269 (l' := #[.val (.int shp), .val (.long chs), .second, .val (.long dat), .second, .val (.int fsd), .val (.int tsd), .val (.int N), .val (.int sl0), .val (.int sl1), .val (.int sl2), .val (.int cx0), .val (.int cy0), .val (.int cx1), .val (.int cy1), .val (.int cx2), .val (.int cy2), .val (.ref so0), .val (.ref so1), .val (.ref so2), .val (.ref ta), .val (.ref ob11), .val (.int ((fsd &&& (2147483647 : Int32)) % (6 : Int32))), .unset, .unset, .unset, .unset, .unset, .unset, .unset]) rfl ?_
    show Go _ _ _ (T26.setTop (mkF mi 271 #[.val (.int shp), .val (.long chs), .second, .val (.long dat), .second, .val (.int fsd), .val (.int tsd), .val (.int N), .val (.int sl0), .val (.int sl1), .val (.int sl2), .val (.int cx0), .val (.int cy0), .val (.int cx1), .val (.int cy1), .val (.int cx2), .val (.int cy2), .val (.ref so0), .val (.ref so1), .val (.ref so2), .val (.ref ta), .val (.ref ob11), .val (.int ((fsd &&& (2147483647 : Int32)) % (6 : Int32))), .unset, .unset, .unset, .unset, .unset, .unset, .unset] [])) _
    obtain ⟨fr, hd_fr⟩ : ∃ z, z = ((fsd &&& (2147483647 : Int32)) % (6 : Int32)) := ⟨_, rfl⟩
    rw [← hd_fr]
    have hfr := own_fr fsd
    rw [← hd_fr] at hfr
    obtain ⟨hf0, hf5⟩ := hfr
    have hfr6 := own_60 hf0 hf5
    show Go _ _ _ (T26.setTop (mkF mi 271 #[.val (.int shp), .val (.long chs), .second, .val (.long dat), .second, .val (.int fsd), .val (.int tsd), .val (.int N), .val (.int sl0), .val (.int sl1), .val (.int sl2), .val (.int cx0), .val (.int cy0), .val (.int cx1), .val (.int cy1), .val (.int cx2), .val (.int cy2), .val (.ref so0), .val (.ref so1), .val (.ref so2), .val (.ref ta), .val (.ref ob11), .val (.int fr), .unset, .unset, .unset, .unset, .unset, .unset, .unset] [])) _
    refine g_iload X26 hx hby at_271 rfl ?_
    refine g_iload X26 hx hby at_273 rfl ?_
    refine Go.st (X26.ldcInt hx hown (mvT hZ (hw _ (own_m 15 rfl))) (g := (mkF mi 275 #[.val (.int shp), .val (.long chs), .second, .val (.long dat), .second, .val (.int fsd), .val (.int tsd), .val (.int N), .val (.int sl0), .val (.int sl1), .val (.int sl2), .val (.int cx0), .val (.int cy0), .val (.int cx1), .val (.int cy1), .val (.int cx2), .val (.int cy2), .val (.ref so0), .val (.ref so1), .val (.ref so2), .val (.ref ta), .val (.ref ob11), .val (.int fr), .unset, .unset, .unset, .unset, .unset, .unset, .unset] [(.int tsd), (.int fr)])) rfl (hb hby at_275)) ?_
    refine g_iand X26 hx hby at_277 rfl ?_
    refine g_bipush X26 hx hby at_278 (v := 6) rfl ?_
    refine g_iload X26 hx hby at_280 rfl ?_
    refine g_isub X26 hx hby at_282 rfl ?_
    refine Go.s (iremM X26 hx rfl (hb hby at_283) rfl hfr6) ?_
    refine g_iadd X26 hx hby at_284 rfl ?_
    refine g_istore X26 hx hby at_285 (l' := #[.val (.int shp), .val (.long chs), .second, .val (.long dat), .second, .val (.int fsd), .val (.int tsd), .val (.int N), .val (.int sl0), .val (.int sl1), .val (.int sl2), .val (.int cx0), .val (.int cy0), .val (.int cx1), .val (.int cy1), .val (.int cx2), .val (.int cy2), .val (.ref so0), .val (.ref so1), .val (.ref so2), .val (.ref ta), .val (.ref ob11), .val (.int fr), .val (.int (fr + ((tsd &&& (2147483647 : Int32)) % ((6 : Int32) - fr)))), .unset, .unset, .unset, .unset, .unset, .unset]) rfl ?_
    show Go _ _ _ (T26.setTop (mkF mi 287 #[.val (.int shp), .val (.long chs), .second, .val (.long dat), .second, .val (.int fsd), .val (.int tsd), .val (.int N), .val (.int sl0), .val (.int sl1), .val (.int sl2), .val (.int cx0), .val (.int cy0), .val (.int cx1), .val (.int cy1), .val (.int cx2), .val (.int cy2), .val (.ref so0), .val (.ref so1), .val (.ref so2), .val (.ref ta), .val (.ref ob11), .val (.int fr), .val (.int (fr + ((tsd &&& (2147483647 : Int32)) % ((6 : Int32) - fr)))), .unset, .unset, .unset, .unset, .unset, .unset] [])) _
    obtain ⟨tt, hd_tt⟩ : ∃ z, z = (fr + ((tsd &&& (2147483647 : Int32)) % ((6 : Int32) - fr))) := ⟨_, rfl⟩
    rw [← hd_tt]
    obtain ⟨ht0, hft⟩ := own_to tsd hf0 hf5 hd_tt
    show Go _ _ _ (T26.setTop (mkF mi 287 #[.val (.int shp), .val (.long chs), .second, .val (.long dat), .second, .val (.int fsd), .val (.int tsd), .val (.int N), .val (.int sl0), .val (.int sl1), .val (.int sl2), .val (.int cx0), .val (.int cy0), .val (.int cx1), .val (.int cy1), .val (.int cx2), .val (.int cy2), .val (.ref so0), .val (.ref so1), .val (.ref so2), .val (.ref ta), .val (.ref ob11), .val (.int fr), .val (.int tt), .unset, .unset, .unset, .unset, .unset, .unset] [])) _
    obtain ⟨T28, h28, X28, e28, E28, A28, D28, -, st28⟩ := newO X26 hx hZ hown (hw _ (own_m 16 rfl)) (hw _ (own_m 17 rfl)) (hw _ (own_m 18 rfl)) e26 (g := (mkF mi 287 #[.val (.int shp), .val (.long chs), .second, .val (.long dat), .second, .val (.int fsd), .val (.int tsd), .val (.int N), .val (.int sl0), .val (.int sl1), .val (.int sl2), .val (.int cx0), .val (.int cy0), .val (.int cx1), .val (.int cy1), .val (.int cx2), .val (.int cy2), .val (.ref so0), .val (.ref so1), .val (.ref so2), .val (.ref ta), .val (.ref ob11), .val (.int fr), .val (.int tt), .unset, .unset, .unset, .unset, .unset, .unset] [])) rfl (hb hby at_287) (by decide) (by decide)
    obtain ⟨ob28, g28⟩ : ∃ z, z = h26.size := ⟨_, rfl⟩
    rw [← g28] at A28 D28 st28
    have Zs29 : n0 ≤ h28.size := Nat.le_trans Zs27 E28.1
    have ZK29 : kk ≤ h28.size := Nat.le_trans ZK27 E28.1
    have g_ob28 : n0 ≤ ob28 := Nat.le_trans Zs27 (Nat.le_of_eq g28.symm)
    have F28_35 : Fld Z h28 ob28 "com/example/crossbook/crossbook/venue/JsonFields$Texts" "texts" "[Ljava/lang/String;" .null := D28 (Or.inr (hw _ (own_m 35 rfl))) (ty := (.array (.object "java/lang/String"))) (by decide)
    have F28_39 : Fld Z h28 ob28 "com/example/crossbook/crossbook/venue/JsonFields$Texts" "encoded" "[[B" .null := D28 (Or.inr (hw _ (own_m 39 rfl))) (ty := (.array (.array .byte))) (by decide)
    have F28_43 : Fld Z h28 ob28 "com/example/crossbook/crossbook/venue/JsonFields$Texts" "byLength" "[[I" .null := D28 (Or.inr (hw _ (own_m 43 rfl))) (ty := (.array (.array .int))) (by decide)
    refine Go.st st28 ?_
    refine g_dup X28 hx hby at_290 rfl ?_
    refine g_aload X28 hx hby at_291 rfl rfl ?_
    have ne_ta_ob11 : ta ≠ ob11 := Nat.ne_of_lt (Nat.lt_of_lt_of_le EJ.lt (Nat.le_of_eq g11.symm))
    have f31 := (((((((VJ.ext E11).other W14 ne_ta_ob11).other W17 ne_ta_ob11).other W20 ne_ta_ob11).other W23 ne_ta_ob11).other W26 ne_ta_ob11).ext E28)
    have f32 := (((((((EJ.ext E11).wr W14).wr W17).wr W20).wr W23).wr W26).ext E28)
    have ne_ta_ob28 : ta ≠ ob28 := Nat.ne_of_lt (Nat.lt_of_lt_of_le ((((((EJ.ext E11).wr W14).wr W17).wr W20).wr W23).wr W26).lt (Nat.le_of_eq g28.symm))
    have f33 := ((((((((((A_1.keep K3).keep K6).keep KJ0).ext E11).wr W14).wr W17).wr W20).wr W23).wr W26).ext E28)
    have ne_so0_ob11 : so0 ≠ ob11 := Nat.ne_of_lt (Nat.lt_of_lt_of_le (((A_1.keep K3).keep K6).keep KJ0).lt (Nat.le_of_eq g11.symm))
    have f34 := ((((((((((FC_1.keep K3 nin0).keep K6 nin0).keep KJ0 nin0).ext E11).other W14 (Or.inl ne_so0_ob11)).other W17 (Or.inl ne_so0_ob11)).other W20 (Or.inl ne_so0_ob11)).other W23 (Or.inl ne_so0_ob11)).other W26 (Or.inl ne_so0_ob11)).ext E28)
    have f35 := ((((((((((FV_1.keep K3 nin0).keep K6 nin0).keep KJ0 nin0).ext E11).other W14 (Or.inl ne_so0_ob11)).other W17 (Or.inl ne_so0_ob11)).other W20 (Or.inl ne_so0_ob11)).other W23 (Or.inl ne_so0_ob11)).other W26 (Or.inl ne_so0_ob11)).ext E28)
    have ne_sb0_ob11 : sb0 ≠ ob11 := Nat.ne_of_lt (Nat.lt_of_lt_of_le (((EB_1.keep K3).keep K6).keep KJ0).lt (Nat.le_of_eq g11.symm))
    have f36 := ((((((((((AV_1.keep K3 nin0).keep K6 nin0).keep KJ0 nin0).ext E11).other W14 ne_sb0_ob11).other W17 ne_sb0_ob11).other W20 ne_sb0_ob11).other W23 ne_sb0_ob11).other W26 ne_sb0_ob11).ext E28)
    have f37 := ((((((((((EB_1.keep K3).keep K6).keep KJ0).ext E11).wr W14).wr W17).wr W20).wr W23).wr W26).ext E28)
    have ne_so0_ob28 : so0 ≠ ob28 := Nat.ne_of_lt (Nat.lt_of_lt_of_le (((((((((A_1.keep K3).keep K6).keep KJ0).ext E11).wr W14).wr W17).wr W20).wr W23).wr W26).lt (Nat.le_of_eq g28.symm))
    have ne_sb0_ob28 : sb0 ≠ ob28 := Nat.ne_of_lt (Nat.lt_of_lt_of_le (((((((((EB_1.keep K3).keep K6).keep KJ0).ext E11).wr W14).wr W17).wr W20).wr W23).wr W26).lt (Nat.le_of_eq g28.symm))
    have f38 := (((((((((A_3.keep K6).keep KJ0).ext E11).wr W14).wr W17).wr W20).wr W23).wr W26).ext E28)
    have ne_so1_ob11 : so1 ≠ ob11 := Nat.ne_of_lt (Nat.lt_of_lt_of_le ((A_3.keep K6).keep KJ0).lt (Nat.le_of_eq g11.symm))
    have f39 := (((((((((FC_3.keep K6 nin0).keep KJ0 nin0).ext E11).other W14 (Or.inl ne_so1_ob11)).other W17 (Or.inl ne_so1_ob11)).other W20 (Or.inl ne_so1_ob11)).other W23 (Or.inl ne_so1_ob11)).other W26 (Or.inl ne_so1_ob11)).ext E28)
    have f40 := (((((((((FV_3.keep K6 nin0).keep KJ0 nin0).ext E11).other W14 (Or.inl ne_so1_ob11)).other W17 (Or.inl ne_so1_ob11)).other W20 (Or.inl ne_so1_ob11)).other W23 (Or.inl ne_so1_ob11)).other W26 (Or.inl ne_so1_ob11)).ext E28)
    have ne_sb1_ob11 : sb1 ≠ ob11 := Nat.ne_of_lt (Nat.lt_of_lt_of_le ((EB_3.keep K6).keep KJ0).lt (Nat.le_of_eq g11.symm))
    have f41 := (((((((((AV_3.keep K6 nin0).keep KJ0 nin0).ext E11).other W14 ne_sb1_ob11).other W17 ne_sb1_ob11).other W20 ne_sb1_ob11).other W23 ne_sb1_ob11).other W26 ne_sb1_ob11).ext E28)
    have f42 := (((((((((EB_3.keep K6).keep KJ0).ext E11).wr W14).wr W17).wr W20).wr W23).wr W26).ext E28)
    have ne_so1_ob28 : so1 ≠ ob28 := Nat.ne_of_lt (Nat.lt_of_lt_of_le ((((((((A_3.keep K6).keep KJ0).ext E11).wr W14).wr W17).wr W20).wr W23).wr W26).lt (Nat.le_of_eq g28.symm))
    have ne_sb1_ob28 : sb1 ≠ ob28 := Nat.ne_of_lt (Nat.lt_of_lt_of_le ((((((((EB_3.keep K6).keep KJ0).ext E11).wr W14).wr W17).wr W20).wr W23).wr W26).lt (Nat.le_of_eq g28.symm))
    have f43 := ((((((((A_6.keep KJ0).ext E11).wr W14).wr W17).wr W20).wr W23).wr W26).ext E28)
    have ne_so2_ob11 : so2 ≠ ob11 := Nat.ne_of_lt (Nat.lt_of_lt_of_le (A_6.keep KJ0).lt (Nat.le_of_eq g11.symm))
    have f44 := ((((((((FC_6.keep KJ0 nin0).ext E11).other W14 (Or.inl ne_so2_ob11)).other W17 (Or.inl ne_so2_ob11)).other W20 (Or.inl ne_so2_ob11)).other W23 (Or.inl ne_so2_ob11)).other W26 (Or.inl ne_so2_ob11)).ext E28)
    have f45 := ((((((((FV_6.keep KJ0 nin0).ext E11).other W14 (Or.inl ne_so2_ob11)).other W17 (Or.inl ne_so2_ob11)).other W20 (Or.inl ne_so2_ob11)).other W23 (Or.inl ne_so2_ob11)).other W26 (Or.inl ne_so2_ob11)).ext E28)
    have ne_sb2_ob11 : sb2 ≠ ob11 := Nat.ne_of_lt (Nat.lt_of_lt_of_le (EB_6.keep KJ0).lt (Nat.le_of_eq g11.symm))
    have f46 := ((((((((AV_6.keep KJ0 nin0).ext E11).other W14 ne_sb2_ob11).other W17 ne_sb2_ob11).other W20 ne_sb2_ob11).other W23 ne_sb2_ob11).other W26 ne_sb2_ob11).ext E28)
    have f47 := ((((((((EB_6.keep KJ0).ext E11).wr W14).wr W17).wr W20).wr W23).wr W26).ext E28)
    have ne_so2_ob28 : so2 ≠ ob28 := Nat.ne_of_lt (Nat.lt_of_lt_of_le (((((((A_6.keep KJ0).ext E11).wr W14).wr W17).wr W20).wr W23).wr W26).lt (Nat.le_of_eq g28.symm))
    have ne_sb2_ob28 : sb2 ≠ ob28 := Nat.ne_of_lt (Nat.lt_of_lt_of_le (((((((EB_6.keep KJ0).ext E11).wr W14).wr W17).wr W20).wr W23).wr W26).lt (Nat.le_of_eq g28.symm))
    have f48 := ((((((((own_sta_keep (own_sta_keep f7 K6 ns0) KJ0 ns0).ext E11).wr W14).wr W17).wr W20).wr W23).wr W26).ext E28)
    have f49 := ((((((((own_sta_keep (own_sta_keep (own_sta_keep (own_sta_keep S1 K1 ns0) K3 ns0) K6 ns0) KJ0 ns0).ext E11).wr W14).wr W17).wr W20).wr W23).wr W26).ext E28)
    have f50 := ((((((((own_sta_keep (own_sta_keep (own_sta_keep (own_sta_keep S2 K1 ns0) K3 ns0) K6 ns0) KJ0 ns0).ext E11).wr W14).wr W17).wr W20).wr W23).wr W26).ext E28)
    obtain ⟨_, _, ⟨T30, L30, k30, n30⟩, -, X30, ⟨Lc30, hQ30, l30, y30, z30⟩, st30⟩ := X28.specialBack hx (y := (⟨"com/example/crossbook/crossbook/venue/JsonFields$Texts", "<init>", "([Ljava/lang/String;)V"⟩ : MethodName)) rfl hown (mvT hZ (hw _ (own_m 19 rfl))) (mvT hZ (hw _ (own_m 20 rfl))) (mvT hZ (hw _ (own_m 21 rfl))) (by decide) (backOf (W := 1) (rmTI l Z a0 hw [] ob28 ta kt N tv so0 sb0 sk0 sl0 (cx0.toInt8.toInt32) (cy0.toInt8.toInt32) so1 sb1 sk1 sl1 (cx1.toInt8.toInt32) (cy1.toInt8.toInt32) so2 sb2 sk2 sl2 (cx2.toInt8.toInt32) (cy2.toInt8.toInt32) cz cs h28 n0 Zs29 A28 F28_35 F28_39 F28_43 g_ob28 f31 f32 ne_ta_ob28 hN hN3 f33 f34 f35 f36 f37 hl_0 (own_bb cx0) (own_bb cy0) ne_so0_ob28 ne_sb0_ob28 hg_0 f38 f39 f40 f41 f42 hl_1 (own_bb cx1) (own_bb cy1) ne_so1_ob28 ne_sb1_ob28 hg_1 f43 f44 f45 f46 f47 hl_2 (own_bb cx2) (own_bb cy2) ne_so2_ob28 ne_sb2_ob28 hg_2 f48 hcz f49 f50) hZ (hw _ (own_m 21 rfl)) (hw _ (own_m 18 rfl)) (by decide) (by decide)) (g := (mkF mi 293 #[.val (.int shp), .val (.long chs), .second, .val (.long dat), .second, .val (.int fsd), .val (.int tsd), .val (.int N), .val (.int sl0), .val (.int sl1), .val (.int sl2), .val (.int cx0), .val (.int cy0), .val (.int cx1), .val (.int cy1), .val (.int cx2), .val (.int cy2), .val (.ref so0), .val (.ref so1), .val (.ref so2), .val (.ref ta), .val (.ref ob11), .val (.int fr), .val (.int tt), .unset, .unset, .unset, .unset, .unset, .unset] [(.ref ta), (.ref ob28), (.ref ob28)])) rfl (by rw [hml]; rfl) (Steps.refl _) (a := ob28) (argsL := [(.ref ta)]) (rest := [(.ref ob28)]) (lenOf pd_21 rfl) rfl (by show 2 * 0 + _ ≤ _; exact Nat.le_of_eq rfl) (hb hby at_293) (fun _ _ => ⟨rfl, e28, (by decide : 12 + 14 ≤ _), (by decide : 35 + 47 ≤ _)⟩)
    dsimp only [Pt.U, Pt.locs, Pt.cells, Pt.slots] at X30 l30 y30 z30 st30 hQ30
    subst l30 y30 z30
    have X30 := own_cs X30 (cells' := 26) (slots' := 82) rfl rfl
    obtain ⟨h30, e30⟩ : ∃ z, T30.heap = z := ⟨_, rfl⟩
    rw [e30] at hQ30
    obtain ⟨rfl, N30q, K30, A_30, en, bl, ken, kbl, nb, hse, hsx, Bx, FE, FB, EA, BL, hlt, HAL⟩ := hQ30
    have N30 := Fr.app N27 N30q
    have Zs51 : n0 ≤ h30.size := Nat.le_trans Zs29 K30.1
    have ZK51 : kk ≤ h30.size := Nat.le_trans ZK29 K30.1
    refine Go.tr st30 ?_
    refine g_astore X30 hx hby at_296 rfl (l' := #[.val (.int shp), .val (.long chs), .second, .val (.long dat), .second, .val (.int fsd), .val (.int tsd), .val (.int N), .val (.int sl0), .val (.int sl1), .val (.int sl2), .val (.int cx0), .val (.int cy0), .val (.int cx1), .val (.int cy1), .val (.int cx2), .val (.int cy2), .val (.ref so0), .val (.ref so1), .val (.ref so2), .val (.ref ta), .val (.ref ob11), .val (.int fr), .val (.int tt), .val (.ref ob28), .unset, .unset, .unset, .unset, .unset]) rfl ?_
    refine g_aload X30 hx hby at_298 rfl rfl ?_
    refine g_aload X30 hx hby at_300 rfl rfl ?_
    refine g_iload X30 hx hby at_302 rfl ?_
    refine g_iload X30 hx hby at_304 rfl ?_
    have ne_ob11_ob28 : ob11 ≠ ob28 := Nat.ne_of_lt (Nat.lt_of_lt_of_le (((((EX11.wr W14).wr W17).wr W20).wr W23).wr W26).lt (Nat.le_of_eq g28.symm))
    have f53 := ((VG.ext E28).keep K30 (ninS ne_ob11_ob28 nin0))
    obtain ⟨cq52, kq52, q52a, q52b, q52c⟩ := isOf hZ e30 A_30
    obtain ⟨_, _, ⟨T52, L52, k52, n52⟩, -, X52, ⟨Lc52, hQ52, l52, y52, z52⟩, st52⟩ := X30.virtualBack hx (y := (⟨"com/example/crossbook/crossbook/venue/JsonFields$Texts", "indexOf", "([BII)I"⟩ : MethodName)) (z := (⟨"com/example/crossbook/crossbook/venue/JsonFields$Texts", "indexOf", "([BII)I"⟩ : MethodName)) hown (mvT hZ (hw _ (own_m 46 rfl))) (mvT hZ (hw _ (own_m 47 rfl))) (notFace_of_selects (args := #[]) (mvT hZ (hw _ (own_m 49 rfl)))) (mvT hZ (hw _ (own_m 49 rfl))) (mvT hZ (hw _ (own_m 48 rfl))) (by decide) (backOf (W := 0) (rmIX l Z a0 hw [] ob28 ob11 fr tt k11 y0_ y1_ y2_ y3_ y4_ en bl ken kbl nb hse hsx Bx N (g3 (eL sl0 (cx0.toInt8.toInt32) (cy0.toInt8.toInt32)) (eL sl1 (cx1.toInt8.toInt32) (cy1.toInt8.toInt32)) (eL sl2 (cx2.toInt8.toInt32) (cy2.toInt8.toInt32))) h30 n0 Zs51 f53 FE FB EA BL hlt HAL hN hN3 (own_g4 (own_eLl hl_0) (own_eLl hl_1) (own_eLl hl_2)) hf0 ht0 hft) hZ (hw _ (own_m 50 rfl)) (hw _ (own_m 18 rfl)) (by decide) (by decide)) q52a q52c (g := (mkF mi 306 #[.val (.int shp), .val (.long chs), .second, .val (.long dat), .second, .val (.int fsd), .val (.int tsd), .val (.int N), .val (.int sl0), .val (.int sl1), .val (.int sl2), .val (.int cx0), .val (.int cy0), .val (.int cx1), .val (.int cy1), .val (.int cx2), .val (.int cy2), .val (.ref so0), .val (.ref so1), .val (.ref so2), .val (.ref ta), .val (.ref ob11), .val (.int fr), .val (.int tt), .val (.ref ob28), .unset, .unset, .unset, .unset, .unset] [(.int tt), (.int fr), (.ref ob11), (.ref ob28)])) rfl (by rw [hml]; rfl) (Steps.refl _) (argsL := [(.ref ob11), (.int fr), (.int tt)]) (rest := []) (lenOf pd_9 rfl) rfl (by show 2 * 0 + _ ≤ _; exact Nat.le_of_eq rfl) (hb hby at_306) (fun _ _ => ⟨rfl, e30, (by decide : 26 + 0 ≤ _), (by decide : 82 + 0 ≤ _)⟩)
    dsimp only [Pt.U, Pt.locs, Pt.cells, Pt.slots] at X52 l52 y52 z52 st52 hQ52
    subst l52 y52 z52
    have X52 := own_cs X52 (cells' := 26) (slots' := 82) rfl rfl
    obtain ⟨rfl, N52q, e52⟩ := hQ52
    have N52 := Fr.app N30 N52q
    refine Go.tr st52 ?_
    refine g_istore X52 hx hby at_309 (l' := #[.val (.int shp), .val (.long chs), .second, .val (.long dat), .second, .val (.int fsd), .val (.int tsd), .val (.int N), .val (.int sl0), .val (.int sl1), .val (.int sl2), .val (.int cx0), .val (.int cy0), .val (.int cx1), .val (.int cy1), .val (.int cx2), .val (.int cy2), .val (.ref so0), .val (.ref so1), .val (.ref so2), .val (.ref ta), .val (.ref ob11), .val (.int fr), .val (.int tt), .val (.ref ob28), .val (.int (ixR (g3 (eL sl0 (cx0.toInt8.toInt32) (cy0.toInt8.toInt32)) (eL sl1 (cx1.toInt8.toInt32) (cy1.toInt8.toInt32)) (eL sl2 (cx2.toInt8.toInt32) (cy2.toInt8.toInt32))) (tt - fr) [y0_, y1_, y2_, y3_, y4_] fr.toNatClampNeg N.toNatClampNeg)), .unset, .unset, .unset, .unset]) rfl ?_
    refine g_iload X52 hx hby at_311 rfl ?_
    refine g_iconst X52 hx hby at_313 (v := 1) rfl ?_
    by_cases hc314_1 : N < (1 : Int32)
    · refine g_icmpYes X52 hx hby at_314 (tlt hc314_1).1 (pc0 := 314) (pc' := 339) rfl (by decide) (by decide) ?_
      refine g_iconst X52 hx hby at_339 (v := 0) rfl ?_
      refine g_istore X52 hx hby at_340 (l' := #[.val (.int shp), .val (.long chs), .second, .val (.long dat), .second, .val (.int fsd), .val (.int tsd), .val (.int N), .val (.int sl0), .val (.int sl1), .val (.int sl2), .val (.int cx0), .val (.int cy0), .val (.int cx1), .val (.int cy1), .val (.int cx2), .val (.int cy2), .val (.ref so0), .val (.ref so1), .val (.ref so2), .val (.ref ta), .val (.ref ob11), .val (.int fr), .val (.int tt), .val (.ref ob28), .val (.int (ixR (g3 (eL sl0 (cx0.toInt8.toInt32) (cy0.toInt8.toInt32)) (eL sl1 (cx1.toInt8.toInt32) (cy1.toInt8.toInt32)) (eL sl2 (cx2.toInt8.toInt32) (cy2.toInt8.toInt32))) (tt - fr) [y0_, y1_, y2_, y3_, y4_] fr.toNatClampNeg N.toNatClampNeg)), .val (.int 0), .unset, .unset, .unset]) rfl ?_
      refine g_iload X52 hx hby at_342 rfl ?_
      refine g_iconst X52 hx hby at_344 (v := 2) rfl ?_
      refine g_icmpYes X52 hx hby at_345 (tlt (own_lts hc314_1 (by decide +kernel))).1 (pc0 := 345) (pc' := 370) rfl (by decide) (by decide) ?_
      refine g_iconst X52 hx hby at_370 (v := 0) rfl ?_
      refine g_istore X52 hx hby at_371 (l' := #[.val (.int shp), .val (.long chs), .second, .val (.long dat), .second, .val (.int fsd), .val (.int tsd), .val (.int N), .val (.int sl0), .val (.int sl1), .val (.int sl2), .val (.int cx0), .val (.int cy0), .val (.int cx1), .val (.int cy1), .val (.int cx2), .val (.int cy2), .val (.ref so0), .val (.ref so1), .val (.ref so2), .val (.ref ta), .val (.ref ob11), .val (.int fr), .val (.int tt), .val (.ref ob28), .val (.int (ixR (g3 (eL sl0 (cx0.toInt8.toInt32) (cy0.toInt8.toInt32)) (eL sl1 (cx1.toInt8.toInt32) (cy1.toInt8.toInt32)) (eL sl2 (cx2.toInt8.toInt32) (cy2.toInt8.toInt32))) (tt - fr) [y0_, y1_, y2_, y3_, y4_] fr.toNatClampNeg N.toNatClampNeg)), .val (.int 0), .val (.int 0), .unset, .unset]) rfl ?_
      refine g_iload X52 hx hby at_373 rfl ?_
      refine g_iconst X52 hx hby at_375 (v := 3) rfl ?_
      refine g_icmpYes X52 hx hby at_376 (tlt (own_lts hc314_1 (by decide +kernel))).1 (pc0 := 376) (pc' := 401) rfl (by decide) (by decide) ?_
      refine g_iconst X52 hx hby at_401 (v := 0) rfl ?_
      refine g_istore X52 hx hby at_402 (l' := #[.val (.int shp), .val (.long chs), .second, .val (.long dat), .second, .val (.int fsd), .val (.int tsd), .val (.int N), .val (.int sl0), .val (.int sl1), .val (.int sl2), .val (.int cx0), .val (.int cy0), .val (.int cx1), .val (.int cy1), .val (.int cx2), .val (.int cy2), .val (.ref so0), .val (.ref so1), .val (.ref so2), .val (.ref ta), .val (.ref ob11), .val (.int fr), .val (.int tt), .val (.ref ob28), .val (.int (ixR (g3 (eL sl0 (cx0.toInt8.toInt32) (cy0.toInt8.toInt32)) (eL sl1 (cx1.toInt8.toInt32) (cy1.toInt8.toInt32)) (eL sl2 (cx2.toInt8.toInt32) (cy2.toInt8.toInt32))) (tt - fr) [y0_, y1_, y2_, y3_, y4_] fr.toNatClampNeg N.toNatClampNeg)), .val (.int 0), .val (.int 0), .val (.int 0), .unset]) rfl ?_
      refine g_iload X52 hx hby at_404 rfl ?_
      refine g_ifYes X52 hx hby at_406 ((if0 _ _).trans (teq rfl).1) (pc0 := 406) (pc' := 413) rfl (by decide) (by decide) ?_
      refine g_iload X52 hx hby at_413 rfl ?_
      refine g_ifYes X52 hx hby at_415 ((if0 _ _).trans (teq rfl).1) (pc0 := 415) (pc' := 422) rfl (by decide) (by decide) ?_
      refine g_iload X52 hx hby at_422 rfl ?_
      show Go _ _ _ (T52.setTop (mkF mi 424 #[.val (.int shp), .val (.long chs), .second, .val (.long dat), .second, .val (.int fsd), .val (.int tsd), .val (.int N), .val (.int sl0), .val (.int sl1), .val (.int sl2), .val (.int cx0), .val (.int cy0), .val (.int cx1), .val (.int cy1), .val (.int cx2), .val (.int cy2), .val (.ref so0), .val (.ref so1), .val (.ref so2), .val (.ref ta), .val (.ref ob11), .val (.int fr), .val (.int tt), .val (.ref ob28), .val (.int (ixR (g3 (eL sl0 (cx0.toInt8.toInt32) (cy0.toInt8.toInt32)) (eL sl1 (cx1.toInt8.toInt32) (cy1.toInt8.toInt32)) (eL sl2 (cx2.toInt8.toInt32) (cy2.toInt8.toInt32))) (tt - fr) [y0_, y1_, y2_, y3_, y4_] fr.toNatClampNeg N.toNatClampNeg)), .val (.int 0), .val (.int 0), .val (.int 0), .unset] [(.int 0)])) _
      refine g_ifYes X52 hx hby at_424 ((if0 _ _).trans (teq rfl).1) (pc0 := 424) (pc' := 431) rfl (by decide) (by decide) ?_
      refine g_iconst X52 hx hby at_431 (v := (-1)) rfl ?_
      refine g_istore X52 hx hby at_432 (l' := #[.val (.int shp), .val (.long chs), .second, .val (.long dat), .second, .val (.int fsd), .val (.int tsd), .val (.int N), .val (.int sl0), .val (.int sl1), .val (.int sl2), .val (.int cx0), .val (.int cy0), .val (.int cx1), .val (.int cy1), .val (.int cx2), .val (.int cy2), .val (.ref so0), .val (.ref so1), .val (.ref so2), .val (.ref ta), .val (.ref ob11), .val (.int fr), .val (.int tt), .val (.ref ob28), .val (.int (ixR (g3 (eL sl0 (cx0.toInt8.toInt32) (cy0.toInt8.toInt32)) (eL sl1 (cx1.toInt8.toInt32) (cy1.toInt8.toInt32)) (eL sl2 (cx2.toInt8.toInt32) (cy2.toInt8.toInt32))) (tt - fr) [y0_, y1_, y2_, y3_, y4_] fr.toNatClampNeg N.toNatClampNeg)), .val (.int 0), .val (.int 0), .val (.int 0), .val (.int (-1))]) rfl ?_
      refine g_iload X52 hx hby at_434 rfl ?_
      refine g_iload X52 hx hby at_436 rfl ?_
      refine g_icmpNo X52 hx hby at_438 (teq (show (ixR (g3 (eL sl0 (cx0.toInt8.toInt32) (cy0.toInt8.toInt32)) (eL sl1 (cx1.toInt8.toInt32) (cy1.toInt8.toInt32)) (eL sl2 (cx2.toInt8.toInt32) (cy2.toInt8.toInt32))) (tt - fr) [y0_, y1_, y2_, y3_, y4_] fr.toNatClampNeg N.toNatClampNeg) = (-1 : Int32) from by rw [own_Nk (k := 0) (a := (0 : Int32)) (b := (1 : Int32)) hN (by decide +kernel) (by decide +kernel) hN hc314_1, own_ix0] <;> exact rfl)).2 ?_
      refine g_iconst X52 hx hby at_441 (v := 1) rfl ?_
      refine g_goto X52 hx hby at_442 (pc0 := 442) (pc' := 446) rfl (by decide) (by decide) ?_
      show Go _ _ _ (T52.setTop (mkF mi 446 #[.val (.int shp), .val (.long chs), .second, .val (.long dat), .second, .val (.int fsd), .val (.int tsd), .val (.int N), .val (.int sl0), .val (.int sl1), .val (.int sl2), .val (.int cx0), .val (.int cy0), .val (.int cx1), .val (.int cy1), .val (.int cx2), .val (.int cy2), .val (.ref so0), .val (.ref so1), .val (.ref so2), .val (.ref ta), .val (.ref ob11), .val (.int fr), .val (.int tt), .val (.ref ob28), .val (.int (ixR (g3 (eL sl0 (cx0.toInt8.toInt32) (cy0.toInt8.toInt32)) (eL sl1 (cx1.toInt8.toInt32) (cy1.toInt8.toInt32)) (eL sl2 (cx2.toInt8.toInt32) (cy2.toInt8.toInt32))) (tt - fr) [y0_, y1_, y2_, y3_, y4_] fr.toNatClampNeg N.toNatClampNeg)), .val (.int 0), .val (.int 0), .val (.int 0), .val (.int (-1))] [(.int 1)])) _
      obtain ⟨fs, hr, hrun, hended, -, hW, hpr, hsame⟩ := Stand.leaveW (v := some (.int 1)) X52 hS6 (by show T6.heap.size ≤ T52.heap.size; rw [hkk, e52]; exact ZK51) (fun h => by rw [Bd.returns] at h; cases h) (BodyLoose.notSynchronized Bd)
      refine ⟨_, _, ?_, hP _ _ ⟨hrun, hended, _, _, rfl, ?_, ⟨_, rfl⟩, hW, hpr, hsame.mono (by decide) (by decide)⟩⟩
      · exact retN X52 hx (t := .boolean) Bd.returns (by simp) (hb hby at_446) hr
      · show (some (.int 1) : Option Value) = some (.int 1) ∧ Fr n0 _
        exact ⟨rfl, N52⟩
    · refine g_icmpNo X52 hx hby at_314 (flt hc314_1).1 ?_
      refine g_iload X52 hx hby at_317 rfl ?_
      refine g_iload X52 hx hby at_319 rfl ?_
      refine g_iload X52 hx hby at_321 rfl ?_
      refine g_aload X52 hx hby at_323 rfl rfl ?_
      refine g_iload X52 hx hby at_325 rfl ?_
      refine g_iload X52 hx hby at_327 rfl ?_
      obtain ⟨_, _, ⟨T54, L54, k54, n54⟩, -, X54, ⟨Lc54, hQ54, l54, y54, z54⟩, st54⟩ := Jvm.LawKit.callS X52 hx (y := (⟨"com/example/crossbook/crossbook/venue/TextsIndexOfPinLaw", "matches", "(ICC[BII)Z"⟩ : MethodName)) hown (mvT hZ (hw _ (own_m 92 rfl))) (mvT hZ (hw _ (own_m 93 rfl))) (mvT hZ (hw _ (own_m 3 rfl))) (mvT hZ (hw _ (own_m 94 rfl))) (by decide) (backOf (W := 0) (rmMa l Z a0 hw [] sl0 cx0 cy0 ob11 fr tt k11 y0_ y1_ y2_ y3_ y4_ h30 n0 Zs51 f53 hl_0 hb_cx0.1 hb_cx0.2 hb_cy0.1 hb_cy0.2 hf0 hft) hZ (hw _ (own_m 94 rfl)) (hw _ (own_m 3 rfl)) (by decide) (by decide)) (g := (mkF mi 329 #[.val (.int shp), .val (.long chs), .second, .val (.long dat), .second, .val (.int fsd), .val (.int tsd), .val (.int N), .val (.int sl0), .val (.int sl1), .val (.int sl2), .val (.int cx0), .val (.int cy0), .val (.int cx1), .val (.int cy1), .val (.int cx2), .val (.int cy2), .val (.ref so0), .val (.ref so1), .val (.ref so2), .val (.ref ta), .val (.ref ob11), .val (.int fr), .val (.int tt), .val (.ref ob28), .val (.int (ixR (g3 (eL sl0 (cx0.toInt8.toInt32) (cy0.toInt8.toInt32)) (eL sl1 (cx1.toInt8.toInt32) (cy1.toInt8.toInt32)) (eL sl2 (cx2.toInt8.toInt32) (cy2.toInt8.toInt32))) (tt - fr) [y0_, y1_, y2_, y3_, y4_] fr.toNatClampNeg N.toNatClampNeg)), .unset, .unset, .unset, .unset] [(.int tt), (.int fr), (.ref ob11), (.int cy0), (.int cx0), (.int sl0)])) rfl (by rw [hml]; rfl) (argsL := [(.int sl0), (.int cx0), (.int cy0), (.ref ob11), (.int fr), (.int tt)]) (rest := []) (lenOf pd_22 rfl) rfl (by show 2 * 0 + _ ≤ _; exact Nat.le_of_eq rfl) (hb hby at_329) (fun _ _ => ⟨rfl, e52, (by decide : 26 + 1 ≤ _), (by decide : 82 + 4 ≤ _)⟩)
      dsimp only [Pt.U, Pt.locs, Pt.cells, Pt.slots] at X54 l54 y54 z54 st54 hQ54
      subst l54 y54 z54
      have X54 := own_cs X54 (cells' := 27) (slots' := 86) rfl rfl
      obtain ⟨h54, e54⟩ : ∃ z, T54.heap = z := ⟨_, rfl⟩
      rw [e54] at hQ54
      obtain ⟨rfl, N54q, K54⟩ := hQ54
      have N54 := Fr.app N52 N54q
      have Zs55 : n0 ≤ h54.size := Nat.le_trans Zs51 K54.1
      have ZK55 : kk ≤ h54.size := Nat.le_trans ZK51 K54.1
      refine Go.st st54 ?_
      have dm56 : ∀ t_, Steps pg.tables ev below (T54.setTop (mkF mi 340 #[.val (.int shp), .val (.long chs), .second, .val (.long dat), .second, .val (.int fsd), .val (.int tsd), .val (.int N), .val (.int sl0), .val (.int sl1), .val (.int sl2), .val (.int cx0), .val (.int cy0), .val (.int cx1), .val (.int cy1), .val (.int cx2), .val (.int cy2), .val (.ref so0), .val (.ref so1), .val (.ref so2), .val (.ref ta), .val (.ref ob11), .val (.int fr), .val (.int tt), .val (.ref ob28), .val (.int (ixR (g3 (eL sl0 (cx0.toInt8.toInt32) (cy0.toInt8.toInt32)) (eL sl1 (cx1.toInt8.toInt32) (cy1.toInt8.toInt32)) (eL sl2 (cx2.toInt8.toInt32) (cy2.toInt8.toInt32))) (tt - fr) [y0_, y1_, y2_, y3_, y4_] fr.toNatClampNeg N.toNatClampNeg)), .unset, .unset, .unset, .unset] [(.int (if (eN sl0 (cx0.toInt8.toInt32) (cy0.toInt8.toInt32)) = (tt - fr) ∧ Mt (eL sl0 (cx0.toInt8.toInt32) (cy0.toInt8.toInt32)) [y0_, y1_, y2_, y3_, y4_] fr.toNatClampNeg = true then (1 : Int32) else (0 : Int32)))])) t_ → Steps pg.tables ev below (T54.setTop (mkF mi 332 #[.val (.int shp), .val (.long chs), .second, .val (.long dat), .second, .val (.int fsd), .val (.int tsd), .val (.int N), .val (.int sl0), .val (.int sl1), .val (.int sl2), .val (.int cx0), .val (.int cy0), .val (.int cx1), .val (.int cy1), .val (.int cx2), .val (.int cy2), .val (.ref so0), .val (.ref so1), .val (.ref so2), .val (.ref ta), .val (.ref ob11), .val (.int fr), .val (.int tt), .val (.ref ob28), .val (.int (ixR (g3 (eL sl0 (cx0.toInt8.toInt32) (cy0.toInt8.toInt32)) (eL sl1 (cx1.toInt8.toInt32) (cy1.toInt8.toInt32)) (eL sl2 (cx2.toInt8.toInt32) (cy2.toInt8.toInt32))) (tt - fr) [y0_, y1_, y2_, y3_, y4_] fr.toNatClampNeg N.toNatClampNeg)), .unset, .unset, .unset, .unset] [(.int (if (eN sl0 (cx0.toInt8.toInt32) (cy0.toInt8.toInt32)) = (tt - fr) ∧ Mt (eL sl0 (cx0.toInt8.toInt32) (cy0.toInt8.toInt32)) [y0_, y1_, y2_, y3_, y4_] fr.toNatClampNeg = true then (1 : Int32) else (0 : Int32)))])) t_ := by
        intro t_ k_
        by_cases hd : (eN sl0 (cx0.toInt8.toInt32) (cy0.toInt8.toInt32)) = (tt - fr) ∧ Mt (eL sl0 (cx0.toInt8.toInt32) (cy0.toInt8.toInt32)) [y0_, y1_, y2_, y3_, y4_] fr.toNatClampNeg = true
        · refine XS.ifNo X54.here hx rfl (hb hby at_332) rfl ((if0 _ _).trans (feq (show ¬ ((if (eN sl0 (cx0.toInt8.toInt32) (cy0.toInt8.toInt32)) = (tt - fr) ∧ Mt (eL sl0 (cx0.toInt8.toInt32) (cy0.toInt8.toInt32)) [y0_, y1_, y2_, y3_, y4_] fr.toNatClampNeg = true then (1 : Int32) else (0 : Int32)) = (0 : Int32)) from (by rw [if_pos hd] <;> decide))).1) ?_
          refine XS.iconst X54.here hx rfl (hb hby at_335) ?_
          refine XS.goto X54.here hx rfl (pc0 := 336) (pc' := 340) rfl (hb hby at_336) (by decide) (by decide) ?_
          show Steps _ _ _ (T54.setTop (mkF mi 340 #[.val (.int shp), .val (.long chs), .second, .val (.long dat), .second, .val (.int fsd), .val (.int tsd), .val (.int N), .val (.int sl0), .val (.int sl1), .val (.int sl2), .val (.int cx0), .val (.int cy0), .val (.int cx1), .val (.int cy1), .val (.int cx2), .val (.int cy2), .val (.ref so0), .val (.ref so1), .val (.ref so2), .val (.ref ta), .val (.ref ob11), .val (.int fr), .val (.int tt), .val (.ref ob28), .val (.int (ixR (g3 (eL sl0 (cx0.toInt8.toInt32) (cy0.toInt8.toInt32)) (eL sl1 (cx1.toInt8.toInt32) (cy1.toInt8.toInt32)) (eL sl2 (cx2.toInt8.toInt32) (cy2.toInt8.toInt32))) (tt - fr) [y0_, y1_, y2_, y3_, y4_] fr.toNatClampNeg N.toNatClampNeg)), .unset, .unset, .unset, .unset] [(.int 1)])) t_
          exact own_cst (if_pos hd) k_
        · refine XS.ifYes X54.here hx rfl (pc0 := 332) (pc' := 339) rfl (hb hby at_332) rfl ((if0 _ _).trans (teq (show (if (eN sl0 (cx0.toInt8.toInt32) (cy0.toInt8.toInt32)) = (tt - fr) ∧ Mt (eL sl0 (cx0.toInt8.toInt32) (cy0.toInt8.toInt32)) [y0_, y1_, y2_, y3_, y4_] fr.toNatClampNeg = true then (1 : Int32) else (0 : Int32)) = (0 : Int32) from (by rw [if_neg hd] <;> decide))).1) (by decide) (by decide) ?_
          refine XS.iconst X54.here hx rfl (hb hby at_339) ?_
          show Steps _ _ _ (T54.setTop (mkF mi 340 #[.val (.int shp), .val (.long chs), .second, .val (.long dat), .second, .val (.int fsd), .val (.int tsd), .val (.int N), .val (.int sl0), .val (.int sl1), .val (.int sl2), .val (.int cx0), .val (.int cy0), .val (.int cx1), .val (.int cy1), .val (.int cx2), .val (.int cy2), .val (.ref so0), .val (.ref so1), .val (.ref so2), .val (.ref ta), .val (.ref ob11), .val (.int fr), .val (.int tt), .val (.ref ob28), .val (.int (ixR (g3 (eL sl0 (cx0.toInt8.toInt32) (cy0.toInt8.toInt32)) (eL sl1 (cx1.toInt8.toInt32) (cy1.toInt8.toInt32)) (eL sl2 (cx2.toInt8.toInt32) (cy2.toInt8.toInt32))) (tt - fr) [y0_, y1_, y2_, y3_, y4_] fr.toNatClampNeg N.toNatClampNeg)), .unset, .unset, .unset, .unset] [(.int 0)])) t_
          exact own_cst (if_neg hd) k_
      refine Go.st dm56 ?_
      show Go _ _ _ (T54.setTop (mkF mi 340 #[.val (.int shp), .val (.long chs), .second, .val (.long dat), .second, .val (.int fsd), .val (.int tsd), .val (.int N), .val (.int sl0), .val (.int sl1), .val (.int sl2), .val (.int cx0), .val (.int cy0), .val (.int cx1), .val (.int cy1), .val (.int cx2), .val (.int cy2), .val (.ref so0), .val (.ref so1), .val (.ref so2), .val (.ref ta), .val (.ref ob11), .val (.int fr), .val (.int tt), .val (.ref ob28), .val (.int (ixR (g3 (eL sl0 (cx0.toInt8.toInt32) (cy0.toInt8.toInt32)) (eL sl1 (cx1.toInt8.toInt32) (cy1.toInt8.toInt32)) (eL sl2 (cx2.toInt8.toInt32) (cy2.toInt8.toInt32))) (tt - fr) [y0_, y1_, y2_, y3_, y4_] fr.toNatClampNeg N.toNatClampNeg)), .unset, .unset, .unset, .unset] [(.int (if (eN sl0 (cx0.toInt8.toInt32) (cy0.toInt8.toInt32)) = (tt - fr) ∧ Mt (eL sl0 (cx0.toInt8.toInt32) (cy0.toInt8.toInt32)) [y0_, y1_, y2_, y3_, y4_] fr.toNatClampNeg = true then (1 : Int32) else (0 : Int32)))])) _
      refine g_istore X54 hx hby at_340 (l' := #[.val (.int shp), .val (.long chs), .second, .val (.long dat), .second, .val (.int fsd), .val (.int tsd), .val (.int N), .val (.int sl0), .val (.int sl1), .val (.int sl2), .val (.int cx0), .val (.int cy0), .val (.int cx1), .val (.int cy1), .val (.int cx2), .val (.int cy2), .val (.ref so0), .val (.ref so1), .val (.ref so2), .val (.ref ta), .val (.ref ob11), .val (.int fr), .val (.int tt), .val (.ref ob28), .val (.int (ixR (g3 (eL sl0 (cx0.toInt8.toInt32) (cy0.toInt8.toInt32)) (eL sl1 (cx1.toInt8.toInt32) (cy1.toInt8.toInt32)) (eL sl2 (cx2.toInt8.toInt32) (cy2.toInt8.toInt32))) (tt - fr) [y0_, y1_, y2_, y3_, y4_] fr.toNatClampNeg N.toNatClampNeg)), .val (.int (if (eN sl0 (cx0.toInt8.toInt32) (cy0.toInt8.toInt32)) = (tt - fr) ∧ Mt (eL sl0 (cx0.toInt8.toInt32) (cy0.toInt8.toInt32)) [y0_, y1_, y2_, y3_, y4_] fr.toNatClampNeg = true then (1 : Int32) else (0 : Int32))), .unset, .unset, .unset]) rfl ?_
      refine g_iload X54 hx hby at_342 rfl ?_
      refine g_iconst X54 hx hby at_344 (v := 2) rfl ?_
      by_cases hc345_2 : N < (2 : Int32)
      · refine g_icmpYes X54 hx hby at_345 (tlt hc345_2).1 (pc0 := 345) (pc' := 370) rfl (by decide) (by decide) ?_
        refine g_iconst X54 hx hby at_370 (v := 0) rfl ?_
        refine g_istore X54 hx hby at_371 (l' := #[.val (.int shp), .val (.long chs), .second, .val (.long dat), .second, .val (.int fsd), .val (.int tsd), .val (.int N), .val (.int sl0), .val (.int sl1), .val (.int sl2), .val (.int cx0), .val (.int cy0), .val (.int cx1), .val (.int cy1), .val (.int cx2), .val (.int cy2), .val (.ref so0), .val (.ref so1), .val (.ref so2), .val (.ref ta), .val (.ref ob11), .val (.int fr), .val (.int tt), .val (.ref ob28), .val (.int (ixR (g3 (eL sl0 (cx0.toInt8.toInt32) (cy0.toInt8.toInt32)) (eL sl1 (cx1.toInt8.toInt32) (cy1.toInt8.toInt32)) (eL sl2 (cx2.toInt8.toInt32) (cy2.toInt8.toInt32))) (tt - fr) [y0_, y1_, y2_, y3_, y4_] fr.toNatClampNeg N.toNatClampNeg)), .val (.int (if (eN sl0 (cx0.toInt8.toInt32) (cy0.toInt8.toInt32)) = (tt - fr) ∧ Mt (eL sl0 (cx0.toInt8.toInt32) (cy0.toInt8.toInt32)) [y0_, y1_, y2_, y3_, y4_] fr.toNatClampNeg = true then (1 : Int32) else (0 : Int32))), .val (.int 0), .unset, .unset]) rfl ?_
        refine g_iload X54 hx hby at_373 rfl ?_
        refine g_iconst X54 hx hby at_375 (v := 3) rfl ?_
        refine g_icmpYes X54 hx hby at_376 (tlt (own_lts hc345_2 (by decide +kernel))).1 (pc0 := 376) (pc' := 401) rfl (by decide) (by decide) ?_
        refine g_iconst X54 hx hby at_401 (v := 0) rfl ?_
        refine g_istore X54 hx hby at_402 (l' := #[.val (.int shp), .val (.long chs), .second, .val (.long dat), .second, .val (.int fsd), .val (.int tsd), .val (.int N), .val (.int sl0), .val (.int sl1), .val (.int sl2), .val (.int cx0), .val (.int cy0), .val (.int cx1), .val (.int cy1), .val (.int cx2), .val (.int cy2), .val (.ref so0), .val (.ref so1), .val (.ref so2), .val (.ref ta), .val (.ref ob11), .val (.int fr), .val (.int tt), .val (.ref ob28), .val (.int (ixR (g3 (eL sl0 (cx0.toInt8.toInt32) (cy0.toInt8.toInt32)) (eL sl1 (cx1.toInt8.toInt32) (cy1.toInt8.toInt32)) (eL sl2 (cx2.toInt8.toInt32) (cy2.toInt8.toInt32))) (tt - fr) [y0_, y1_, y2_, y3_, y4_] fr.toNatClampNeg N.toNatClampNeg)), .val (.int (if (eN sl0 (cx0.toInt8.toInt32) (cy0.toInt8.toInt32)) = (tt - fr) ∧ Mt (eL sl0 (cx0.toInt8.toInt32) (cy0.toInt8.toInt32)) [y0_, y1_, y2_, y3_, y4_] fr.toNatClampNeg = true then (1 : Int32) else (0 : Int32))), .val (.int 0), .val (.int 0), .unset]) rfl ?_
        refine g_iload X54 hx hby at_404 rfl ?_
        by_cases hc406_3 : (eN sl0 (cx0.toInt8.toInt32) (cy0.toInt8.toInt32)) = (tt - fr) ∧ Mt (eL sl0 (cx0.toInt8.toInt32) (cy0.toInt8.toInt32)) [y0_, y1_, y2_, y3_, y4_] fr.toNatClampNeg = true
        · refine g_ifNo X54 hx hby at_406 ((if0 _ _).trans (feq (show ¬ ((if (eN sl0 (cx0.toInt8.toInt32) (cy0.toInt8.toInt32)) = (tt - fr) ∧ Mt (eL sl0 (cx0.toInt8.toInt32) (cy0.toInt8.toInt32)) [y0_, y1_, y2_, y3_, y4_] fr.toNatClampNeg = true then (1 : Int32) else (0 : Int32)) = (0 : Int32)) from (by rw [if_pos hc406_3] <;> decide))).1) ?_
          refine g_iconst X54 hx hby at_409 (v := 0) rfl ?_
          refine g_goto X54 hx hby at_410 (pc0 := 410) (pc' := 432) rfl (by decide) (by decide) ?_
          refine g_istore X54 hx hby at_432 (l' := #[.val (.int shp), .val (.long chs), .second, .val (.long dat), .second, .val (.int fsd), .val (.int tsd), .val (.int N), .val (.int sl0), .val (.int sl1), .val (.int sl2), .val (.int cx0), .val (.int cy0), .val (.int cx1), .val (.int cy1), .val (.int cx2), .val (.int cy2), .val (.ref so0), .val (.ref so1), .val (.ref so2), .val (.ref ta), .val (.ref ob11), .val (.int fr), .val (.int tt), .val (.ref ob28), .val (.int (ixR (g3 (eL sl0 (cx0.toInt8.toInt32) (cy0.toInt8.toInt32)) (eL sl1 (cx1.toInt8.toInt32) (cy1.toInt8.toInt32)) (eL sl2 (cx2.toInt8.toInt32) (cy2.toInt8.toInt32))) (tt - fr) [y0_, y1_, y2_, y3_, y4_] fr.toNatClampNeg N.toNatClampNeg)), .val (.int (if (eN sl0 (cx0.toInt8.toInt32) (cy0.toInt8.toInt32)) = (tt - fr) ∧ Mt (eL sl0 (cx0.toInt8.toInt32) (cy0.toInt8.toInt32)) [y0_, y1_, y2_, y3_, y4_] fr.toNatClampNeg = true then (1 : Int32) else (0 : Int32))), .val (.int 0), .val (.int 0), .val (.int 0)]) rfl ?_
          refine g_iload X54 hx hby at_434 rfl ?_
          refine g_iload X54 hx hby at_436 rfl ?_
          refine g_icmpNo X54 hx hby at_438 (teq (show (ixR (g3 (eL sl0 (cx0.toInt8.toInt32) (cy0.toInt8.toInt32)) (eL sl1 (cx1.toInt8.toInt32) (cy1.toInt8.toInt32)) (eL sl2 (cx2.toInt8.toInt32) (cy2.toInt8.toInt32))) (tt - fr) [y0_, y1_, y2_, y3_, y4_] fr.toNatClampNeg N.toNatClampNeg) = (0 : Int32) from by rw [own_Nk (k := 1) (a := (1 : Int32)) (b := (2 : Int32)) hN (by decide +kernel) (by decide +kernel) hc314_1 hc345_2, own_ix1] <;> exact (if_pos hc406_3))).2 ?_
          refine g_iconst X54 hx hby at_441 (v := 1) rfl ?_
          refine g_goto X54 hx hby at_442 (pc0 := 442) (pc' := 446) rfl (by decide) (by decide) ?_
          show Go _ _ _ (T54.setTop (mkF mi 446 #[.val (.int shp), .val (.long chs), .second, .val (.long dat), .second, .val (.int fsd), .val (.int tsd), .val (.int N), .val (.int sl0), .val (.int sl1), .val (.int sl2), .val (.int cx0), .val (.int cy0), .val (.int cx1), .val (.int cy1), .val (.int cx2), .val (.int cy2), .val (.ref so0), .val (.ref so1), .val (.ref so2), .val (.ref ta), .val (.ref ob11), .val (.int fr), .val (.int tt), .val (.ref ob28), .val (.int (ixR (g3 (eL sl0 (cx0.toInt8.toInt32) (cy0.toInt8.toInt32)) (eL sl1 (cx1.toInt8.toInt32) (cy1.toInt8.toInt32)) (eL sl2 (cx2.toInt8.toInt32) (cy2.toInt8.toInt32))) (tt - fr) [y0_, y1_, y2_, y3_, y4_] fr.toNatClampNeg N.toNatClampNeg)), .val (.int (if (eN sl0 (cx0.toInt8.toInt32) (cy0.toInt8.toInt32)) = (tt - fr) ∧ Mt (eL sl0 (cx0.toInt8.toInt32) (cy0.toInt8.toInt32)) [y0_, y1_, y2_, y3_, y4_] fr.toNatClampNeg = true then (1 : Int32) else (0 : Int32))), .val (.int 0), .val (.int 0), .val (.int 0)] [(.int 1)])) _
          obtain ⟨fs, hr, hrun, hended, -, hW, hpr, hsame⟩ := Stand.leaveW (v := some (.int 1)) X54 hS6 (by show T6.heap.size ≤ T54.heap.size; rw [hkk, e54]; exact ZK55) (fun h => by rw [Bd.returns] at h; cases h) (BodyLoose.notSynchronized Bd)
          refine ⟨_, _, ?_, hP _ _ ⟨hrun, hended, _, _, rfl, ?_, ⟨_, rfl⟩, hW, hpr, hsame.mono (by decide) (by decide)⟩⟩
          · exact retN X54 hx (t := .boolean) Bd.returns (by simp) (hb hby at_446) hr
          · show (some (.int 1) : Option Value) = some (.int 1) ∧ Fr n0 _
            exact ⟨rfl, N54⟩
        · refine g_ifYes X54 hx hby at_406 ((if0 _ _).trans (teq (show (if (eN sl0 (cx0.toInt8.toInt32) (cy0.toInt8.toInt32)) = (tt - fr) ∧ Mt (eL sl0 (cx0.toInt8.toInt32) (cy0.toInt8.toInt32)) [y0_, y1_, y2_, y3_, y4_] fr.toNatClampNeg = true then (1 : Int32) else (0 : Int32)) = (0 : Int32) from (by rw [if_neg hc406_3] <;> decide))).1) (pc0 := 406) (pc' := 413) rfl (by decide) (by decide) ?_
          refine g_iload X54 hx hby at_413 rfl ?_
          refine g_ifYes X54 hx hby at_415 ((if0 _ _).trans (teq rfl).1) (pc0 := 415) (pc' := 422) rfl (by decide) (by decide) ?_
          refine g_iload X54 hx hby at_422 rfl ?_
          refine g_ifYes X54 hx hby at_424 ((if0 _ _).trans (teq rfl).1) (pc0 := 424) (pc' := 431) rfl (by decide) (by decide) ?_
          refine g_iconst X54 hx hby at_431 (v := (-1)) rfl ?_
          refine g_istore X54 hx hby at_432 (l' := #[.val (.int shp), .val (.long chs), .second, .val (.long dat), .second, .val (.int fsd), .val (.int tsd), .val (.int N), .val (.int sl0), .val (.int sl1), .val (.int sl2), .val (.int cx0), .val (.int cy0), .val (.int cx1), .val (.int cy1), .val (.int cx2), .val (.int cy2), .val (.ref so0), .val (.ref so1), .val (.ref so2), .val (.ref ta), .val (.ref ob11), .val (.int fr), .val (.int tt), .val (.ref ob28), .val (.int (ixR (g3 (eL sl0 (cx0.toInt8.toInt32) (cy0.toInt8.toInt32)) (eL sl1 (cx1.toInt8.toInt32) (cy1.toInt8.toInt32)) (eL sl2 (cx2.toInt8.toInt32) (cy2.toInt8.toInt32))) (tt - fr) [y0_, y1_, y2_, y3_, y4_] fr.toNatClampNeg N.toNatClampNeg)), .val (.int (if (eN sl0 (cx0.toInt8.toInt32) (cy0.toInt8.toInt32)) = (tt - fr) ∧ Mt (eL sl0 (cx0.toInt8.toInt32) (cy0.toInt8.toInt32)) [y0_, y1_, y2_, y3_, y4_] fr.toNatClampNeg = true then (1 : Int32) else (0 : Int32))), .val (.int 0), .val (.int 0), .val (.int (-1))]) rfl ?_
          refine g_iload X54 hx hby at_434 rfl ?_
          refine g_iload X54 hx hby at_436 rfl ?_
          refine g_icmpNo X54 hx hby at_438 (teq (show (ixR (g3 (eL sl0 (cx0.toInt8.toInt32) (cy0.toInt8.toInt32)) (eL sl1 (cx1.toInt8.toInt32) (cy1.toInt8.toInt32)) (eL sl2 (cx2.toInt8.toInt32) (cy2.toInt8.toInt32))) (tt - fr) [y0_, y1_, y2_, y3_, y4_] fr.toNatClampNeg N.toNatClampNeg) = (-1 : Int32) from by rw [own_Nk (k := 1) (a := (1 : Int32)) (b := (2 : Int32)) hN (by decide +kernel) (by decide +kernel) hc314_1 hc345_2, own_ix1] <;> exact ((if_neg hc406_3).trans rfl))).2 ?_
          refine g_iconst X54 hx hby at_441 (v := 1) rfl ?_
          refine g_goto X54 hx hby at_442 (pc0 := 442) (pc' := 446) rfl (by decide) (by decide) ?_
          show Go _ _ _ (T54.setTop (mkF mi 446 #[.val (.int shp), .val (.long chs), .second, .val (.long dat), .second, .val (.int fsd), .val (.int tsd), .val (.int N), .val (.int sl0), .val (.int sl1), .val (.int sl2), .val (.int cx0), .val (.int cy0), .val (.int cx1), .val (.int cy1), .val (.int cx2), .val (.int cy2), .val (.ref so0), .val (.ref so1), .val (.ref so2), .val (.ref ta), .val (.ref ob11), .val (.int fr), .val (.int tt), .val (.ref ob28), .val (.int (ixR (g3 (eL sl0 (cx0.toInt8.toInt32) (cy0.toInt8.toInt32)) (eL sl1 (cx1.toInt8.toInt32) (cy1.toInt8.toInt32)) (eL sl2 (cx2.toInt8.toInt32) (cy2.toInt8.toInt32))) (tt - fr) [y0_, y1_, y2_, y3_, y4_] fr.toNatClampNeg N.toNatClampNeg)), .val (.int (if (eN sl0 (cx0.toInt8.toInt32) (cy0.toInt8.toInt32)) = (tt - fr) ∧ Mt (eL sl0 (cx0.toInt8.toInt32) (cy0.toInt8.toInt32)) [y0_, y1_, y2_, y3_, y4_] fr.toNatClampNeg = true then (1 : Int32) else (0 : Int32))), .val (.int 0), .val (.int 0), .val (.int (-1))] [(.int 1)])) _
          obtain ⟨fs, hr, hrun, hended, -, hW, hpr, hsame⟩ := Stand.leaveW (v := some (.int 1)) X54 hS6 (by show T6.heap.size ≤ T54.heap.size; rw [hkk, e54]; exact ZK55) (fun h => by rw [Bd.returns] at h; cases h) (BodyLoose.notSynchronized Bd)
          refine ⟨_, _, ?_, hP _ _ ⟨hrun, hended, _, _, rfl, ?_, ⟨_, rfl⟩, hW, hpr, hsame.mono (by decide) (by decide)⟩⟩
          · exact retN X54 hx (t := .boolean) Bd.returns (by simp) (hb hby at_446) hr
          · show (some (.int 1) : Option Value) = some (.int 1) ∧ Fr n0 _
            exact ⟨rfl, N54⟩
      · refine g_icmpNo X54 hx hby at_345 (flt hc345_2).1 ?_
        refine g_iload X54 hx hby at_348 rfl ?_
        refine g_iload X54 hx hby at_350 rfl ?_
        refine g_iload X54 hx hby at_352 rfl ?_
        refine g_aload X54 hx hby at_354 rfl rfl ?_
        refine g_iload X54 hx hby at_356 rfl ?_
        refine g_iload X54 hx hby at_358 rfl ?_
        have f58 := (f53.keep K54 nin0)
        obtain ⟨_, _, ⟨T57, L57, k57, n57⟩, -, X57, ⟨Lc57, hQ57, l57, y57, z57⟩, st57⟩ := Jvm.LawKit.callS X54 hx (y := (⟨"com/example/crossbook/crossbook/venue/TextsIndexOfPinLaw", "matches", "(ICC[BII)Z"⟩ : MethodName)) hown (mvT hZ (hw _ (own_m 92 rfl))) (mvT hZ (hw _ (own_m 93 rfl))) (mvT hZ (hw _ (own_m 3 rfl))) (mvT hZ (hw _ (own_m 94 rfl))) (by decide) (backOf (W := 0) (rmMa l Z a0 hw [] sl1 cx1 cy1 ob11 fr tt k11 y0_ y1_ y2_ y3_ y4_ h54 n0 Zs55 f58 hl_1 hb_cx1.1 hb_cx1.2 hb_cy1.1 hb_cy1.2 hf0 hft) hZ (hw _ (own_m 94 rfl)) (hw _ (own_m 3 rfl)) (by decide) (by decide)) (g := (mkF mi 360 #[.val (.int shp), .val (.long chs), .second, .val (.long dat), .second, .val (.int fsd), .val (.int tsd), .val (.int N), .val (.int sl0), .val (.int sl1), .val (.int sl2), .val (.int cx0), .val (.int cy0), .val (.int cx1), .val (.int cy1), .val (.int cx2), .val (.int cy2), .val (.ref so0), .val (.ref so1), .val (.ref so2), .val (.ref ta), .val (.ref ob11), .val (.int fr), .val (.int tt), .val (.ref ob28), .val (.int (ixR (g3 (eL sl0 (cx0.toInt8.toInt32) (cy0.toInt8.toInt32)) (eL sl1 (cx1.toInt8.toInt32) (cy1.toInt8.toInt32)) (eL sl2 (cx2.toInt8.toInt32) (cy2.toInt8.toInt32))) (tt - fr) [y0_, y1_, y2_, y3_, y4_] fr.toNatClampNeg N.toNatClampNeg)), .val (.int (if (eN sl0 (cx0.toInt8.toInt32) (cy0.toInt8.toInt32)) = (tt - fr) ∧ Mt (eL sl0 (cx0.toInt8.toInt32) (cy0.toInt8.toInt32)) [y0_, y1_, y2_, y3_, y4_] fr.toNatClampNeg = true then (1 : Int32) else (0 : Int32))), .unset, .unset, .unset] [(.int tt), (.int fr), (.ref ob11), (.int cy1), (.int cx1), (.int sl1)])) rfl (by rw [hml]; rfl) (argsL := [(.int sl1), (.int cx1), (.int cy1), (.ref ob11), (.int fr), (.int tt)]) (rest := []) (lenOf pd_22 rfl) rfl (by show 2 * 0 + _ ≤ _; exact Nat.le_of_eq rfl) (hb hby at_360) (fun _ _ => ⟨rfl, e54, (by decide : 27 + 1 ≤ _), (by decide : 86 + 4 ≤ _)⟩)
        dsimp only [Pt.U, Pt.locs, Pt.cells, Pt.slots] at X57 l57 y57 z57 st57 hQ57
        subst l57 y57 z57
        have X57 := own_cs X57 (cells' := 28) (slots' := 90) rfl rfl
        obtain ⟨h57, e57⟩ : ∃ z, T57.heap = z := ⟨_, rfl⟩
        rw [e57] at hQ57
        obtain ⟨rfl, N57q, K57⟩ := hQ57
        have N57 := Fr.app N54 N57q
        have Zs59 : n0 ≤ h57.size := Nat.le_trans Zs55 K57.1
        have ZK59 : kk ≤ h57.size := Nat.le_trans ZK55 K57.1
        refine Go.st st57 ?_
        have dm60 : ∀ t_, Steps pg.tables ev below (T57.setTop (mkF mi 371 #[.val (.int shp), .val (.long chs), .second, .val (.long dat), .second, .val (.int fsd), .val (.int tsd), .val (.int N), .val (.int sl0), .val (.int sl1), .val (.int sl2), .val (.int cx0), .val (.int cy0), .val (.int cx1), .val (.int cy1), .val (.int cx2), .val (.int cy2), .val (.ref so0), .val (.ref so1), .val (.ref so2), .val (.ref ta), .val (.ref ob11), .val (.int fr), .val (.int tt), .val (.ref ob28), .val (.int (ixR (g3 (eL sl0 (cx0.toInt8.toInt32) (cy0.toInt8.toInt32)) (eL sl1 (cx1.toInt8.toInt32) (cy1.toInt8.toInt32)) (eL sl2 (cx2.toInt8.toInt32) (cy2.toInt8.toInt32))) (tt - fr) [y0_, y1_, y2_, y3_, y4_] fr.toNatClampNeg N.toNatClampNeg)), .val (.int (if (eN sl0 (cx0.toInt8.toInt32) (cy0.toInt8.toInt32)) = (tt - fr) ∧ Mt (eL sl0 (cx0.toInt8.toInt32) (cy0.toInt8.toInt32)) [y0_, y1_, y2_, y3_, y4_] fr.toNatClampNeg = true then (1 : Int32) else (0 : Int32))), .unset, .unset, .unset] [(.int (if (eN sl1 (cx1.toInt8.toInt32) (cy1.toInt8.toInt32)) = (tt - fr) ∧ Mt (eL sl1 (cx1.toInt8.toInt32) (cy1.toInt8.toInt32)) [y0_, y1_, y2_, y3_, y4_] fr.toNatClampNeg = true then (1 : Int32) else (0 : Int32)))])) t_ → Steps pg.tables ev below (T57.setTop (mkF mi 363 #[.val (.int shp), .val (.long chs), .second, .val (.long dat), .second, .val (.int fsd), .val (.int tsd), .val (.int N), .val (.int sl0), .val (.int sl1), .val (.int sl2), .val (.int cx0), .val (.int cy0), .val (.int cx1), .val (.int cy1), .val (.int cx2), .val (.int cy2), .val (.ref so0), .val (.ref so1), .val (.ref so2), .val (.ref ta), .val (.ref ob11), .val (.int fr), .val (.int tt), .val (.ref ob28), .val (.int (ixR (g3 (eL sl0 (cx0.toInt8.toInt32) (cy0.toInt8.toInt32)) (eL sl1 (cx1.toInt8.toInt32) (cy1.toInt8.toInt32)) (eL sl2 (cx2.toInt8.toInt32) (cy2.toInt8.toInt32))) (tt - fr) [y0_, y1_, y2_, y3_, y4_] fr.toNatClampNeg N.toNatClampNeg)), .val (.int (if (eN sl0 (cx0.toInt8.toInt32) (cy0.toInt8.toInt32)) = (tt - fr) ∧ Mt (eL sl0 (cx0.toInt8.toInt32) (cy0.toInt8.toInt32)) [y0_, y1_, y2_, y3_, y4_] fr.toNatClampNeg = true then (1 : Int32) else (0 : Int32))), .unset, .unset, .unset] [(.int (if (eN sl1 (cx1.toInt8.toInt32) (cy1.toInt8.toInt32)) = (tt - fr) ∧ Mt (eL sl1 (cx1.toInt8.toInt32) (cy1.toInt8.toInt32)) [y0_, y1_, y2_, y3_, y4_] fr.toNatClampNeg = true then (1 : Int32) else (0 : Int32)))])) t_ := by
          intro t_ k_
          by_cases hd : (eN sl1 (cx1.toInt8.toInt32) (cy1.toInt8.toInt32)) = (tt - fr) ∧ Mt (eL sl1 (cx1.toInt8.toInt32) (cy1.toInt8.toInt32)) [y0_, y1_, y2_, y3_, y4_] fr.toNatClampNeg = true
          · refine XS.ifNo X57.here hx rfl (hb hby at_363) rfl ((if0 _ _).trans (feq (show ¬ ((if (eN sl1 (cx1.toInt8.toInt32) (cy1.toInt8.toInt32)) = (tt - fr) ∧ Mt (eL sl1 (cx1.toInt8.toInt32) (cy1.toInt8.toInt32)) [y0_, y1_, y2_, y3_, y4_] fr.toNatClampNeg = true then (1 : Int32) else (0 : Int32)) = (0 : Int32)) from (by rw [if_pos hd] <;> decide))).1) ?_
            refine XS.iconst X57.here hx rfl (hb hby at_366) ?_
            refine XS.goto X57.here hx rfl (pc0 := 367) (pc' := 371) rfl (hb hby at_367) (by decide) (by decide) ?_
            show Steps _ _ _ (T57.setTop (mkF mi 371 #[.val (.int shp), .val (.long chs), .second, .val (.long dat), .second, .val (.int fsd), .val (.int tsd), .val (.int N), .val (.int sl0), .val (.int sl1), .val (.int sl2), .val (.int cx0), .val (.int cy0), .val (.int cx1), .val (.int cy1), .val (.int cx2), .val (.int cy2), .val (.ref so0), .val (.ref so1), .val (.ref so2), .val (.ref ta), .val (.ref ob11), .val (.int fr), .val (.int tt), .val (.ref ob28), .val (.int (ixR (g3 (eL sl0 (cx0.toInt8.toInt32) (cy0.toInt8.toInt32)) (eL sl1 (cx1.toInt8.toInt32) (cy1.toInt8.toInt32)) (eL sl2 (cx2.toInt8.toInt32) (cy2.toInt8.toInt32))) (tt - fr) [y0_, y1_, y2_, y3_, y4_] fr.toNatClampNeg N.toNatClampNeg)), .val (.int (if (eN sl0 (cx0.toInt8.toInt32) (cy0.toInt8.toInt32)) = (tt - fr) ∧ Mt (eL sl0 (cx0.toInt8.toInt32) (cy0.toInt8.toInt32)) [y0_, y1_, y2_, y3_, y4_] fr.toNatClampNeg = true then (1 : Int32) else (0 : Int32))), .unset, .unset, .unset] [(.int 1)])) t_
            exact own_cst (if_pos hd) k_
          · refine XS.ifYes X57.here hx rfl (pc0 := 363) (pc' := 370) rfl (hb hby at_363) rfl ((if0 _ _).trans (teq (show (if (eN sl1 (cx1.toInt8.toInt32) (cy1.toInt8.toInt32)) = (tt - fr) ∧ Mt (eL sl1 (cx1.toInt8.toInt32) (cy1.toInt8.toInt32)) [y0_, y1_, y2_, y3_, y4_] fr.toNatClampNeg = true then (1 : Int32) else (0 : Int32)) = (0 : Int32) from (by rw [if_neg hd] <;> decide))).1) (by decide) (by decide) ?_
            refine XS.iconst X57.here hx rfl (hb hby at_370) ?_
            show Steps _ _ _ (T57.setTop (mkF mi 371 #[.val (.int shp), .val (.long chs), .second, .val (.long dat), .second, .val (.int fsd), .val (.int tsd), .val (.int N), .val (.int sl0), .val (.int sl1), .val (.int sl2), .val (.int cx0), .val (.int cy0), .val (.int cx1), .val (.int cy1), .val (.int cx2), .val (.int cy2), .val (.ref so0), .val (.ref so1), .val (.ref so2), .val (.ref ta), .val (.ref ob11), .val (.int fr), .val (.int tt), .val (.ref ob28), .val (.int (ixR (g3 (eL sl0 (cx0.toInt8.toInt32) (cy0.toInt8.toInt32)) (eL sl1 (cx1.toInt8.toInt32) (cy1.toInt8.toInt32)) (eL sl2 (cx2.toInt8.toInt32) (cy2.toInt8.toInt32))) (tt - fr) [y0_, y1_, y2_, y3_, y4_] fr.toNatClampNeg N.toNatClampNeg)), .val (.int (if (eN sl0 (cx0.toInt8.toInt32) (cy0.toInt8.toInt32)) = (tt - fr) ∧ Mt (eL sl0 (cx0.toInt8.toInt32) (cy0.toInt8.toInt32)) [y0_, y1_, y2_, y3_, y4_] fr.toNatClampNeg = true then (1 : Int32) else (0 : Int32))), .unset, .unset, .unset] [(.int 0)])) t_
            exact own_cst (if_neg hd) k_
        refine Go.st dm60 ?_
        show Go _ _ _ (T57.setTop (mkF mi 371 #[.val (.int shp), .val (.long chs), .second, .val (.long dat), .second, .val (.int fsd), .val (.int tsd), .val (.int N), .val (.int sl0), .val (.int sl1), .val (.int sl2), .val (.int cx0), .val (.int cy0), .val (.int cx1), .val (.int cy1), .val (.int cx2), .val (.int cy2), .val (.ref so0), .val (.ref so1), .val (.ref so2), .val (.ref ta), .val (.ref ob11), .val (.int fr), .val (.int tt), .val (.ref ob28), .val (.int (ixR (g3 (eL sl0 (cx0.toInt8.toInt32) (cy0.toInt8.toInt32)) (eL sl1 (cx1.toInt8.toInt32) (cy1.toInt8.toInt32)) (eL sl2 (cx2.toInt8.toInt32) (cy2.toInt8.toInt32))) (tt - fr) [y0_, y1_, y2_, y3_, y4_] fr.toNatClampNeg N.toNatClampNeg)), .val (.int (if (eN sl0 (cx0.toInt8.toInt32) (cy0.toInt8.toInt32)) = (tt - fr) ∧ Mt (eL sl0 (cx0.toInt8.toInt32) (cy0.toInt8.toInt32)) [y0_, y1_, y2_, y3_, y4_] fr.toNatClampNeg = true then (1 : Int32) else (0 : Int32))), .unset, .unset, .unset] [(.int (if (eN sl1 (cx1.toInt8.toInt32) (cy1.toInt8.toInt32)) = (tt - fr) ∧ Mt (eL sl1 (cx1.toInt8.toInt32) (cy1.toInt8.toInt32)) [y0_, y1_, y2_, y3_, y4_] fr.toNatClampNeg = true then (1 : Int32) else (0 : Int32)))])) _
        refine g_istore X57 hx hby at_371 (l' := #[.val (.int shp), .val (.long chs), .second, .val (.long dat), .second, .val (.int fsd), .val (.int tsd), .val (.int N), .val (.int sl0), .val (.int sl1), .val (.int sl2), .val (.int cx0), .val (.int cy0), .val (.int cx1), .val (.int cy1), .val (.int cx2), .val (.int cy2), .val (.ref so0), .val (.ref so1), .val (.ref so2), .val (.ref ta), .val (.ref ob11), .val (.int fr), .val (.int tt), .val (.ref ob28), .val (.int (ixR (g3 (eL sl0 (cx0.toInt8.toInt32) (cy0.toInt8.toInt32)) (eL sl1 (cx1.toInt8.toInt32) (cy1.toInt8.toInt32)) (eL sl2 (cx2.toInt8.toInt32) (cy2.toInt8.toInt32))) (tt - fr) [y0_, y1_, y2_, y3_, y4_] fr.toNatClampNeg N.toNatClampNeg)), .val (.int (if (eN sl0 (cx0.toInt8.toInt32) (cy0.toInt8.toInt32)) = (tt - fr) ∧ Mt (eL sl0 (cx0.toInt8.toInt32) (cy0.toInt8.toInt32)) [y0_, y1_, y2_, y3_, y4_] fr.toNatClampNeg = true then (1 : Int32) else (0 : Int32))), .val (.int (if (eN sl1 (cx1.toInt8.toInt32) (cy1.toInt8.toInt32)) = (tt - fr) ∧ Mt (eL sl1 (cx1.toInt8.toInt32) (cy1.toInt8.toInt32)) [y0_, y1_, y2_, y3_, y4_] fr.toNatClampNeg = true then (1 : Int32) else (0 : Int32))), .unset, .unset]) rfl ?_
        refine g_iload X57 hx hby at_373 rfl ?_
        refine g_iconst X57 hx hby at_375 (v := 3) rfl ?_
        by_cases hc376_4 : N < (3 : Int32)
        · refine g_icmpYes X57 hx hby at_376 (tlt hc376_4).1 (pc0 := 376) (pc' := 401) rfl (by decide) (by decide) ?_
          refine g_iconst X57 hx hby at_401 (v := 0) rfl ?_
          refine g_istore X57 hx hby at_402 (l' := #[.val (.int shp), .val (.long chs), .second, .val (.long dat), .second, .val (.int fsd), .val (.int tsd), .val (.int N), .val (.int sl0), .val (.int sl1), .val (.int sl2), .val (.int cx0), .val (.int cy0), .val (.int cx1), .val (.int cy1), .val (.int cx2), .val (.int cy2), .val (.ref so0), .val (.ref so1), .val (.ref so2), .val (.ref ta), .val (.ref ob11), .val (.int fr), .val (.int tt), .val (.ref ob28), .val (.int (ixR (g3 (eL sl0 (cx0.toInt8.toInt32) (cy0.toInt8.toInt32)) (eL sl1 (cx1.toInt8.toInt32) (cy1.toInt8.toInt32)) (eL sl2 (cx2.toInt8.toInt32) (cy2.toInt8.toInt32))) (tt - fr) [y0_, y1_, y2_, y3_, y4_] fr.toNatClampNeg N.toNatClampNeg)), .val (.int (if (eN sl0 (cx0.toInt8.toInt32) (cy0.toInt8.toInt32)) = (tt - fr) ∧ Mt (eL sl0 (cx0.toInt8.toInt32) (cy0.toInt8.toInt32)) [y0_, y1_, y2_, y3_, y4_] fr.toNatClampNeg = true then (1 : Int32) else (0 : Int32))), .val (.int (if (eN sl1 (cx1.toInt8.toInt32) (cy1.toInt8.toInt32)) = (tt - fr) ∧ Mt (eL sl1 (cx1.toInt8.toInt32) (cy1.toInt8.toInt32)) [y0_, y1_, y2_, y3_, y4_] fr.toNatClampNeg = true then (1 : Int32) else (0 : Int32))), .val (.int 0), .unset]) rfl ?_
          refine g_iload X57 hx hby at_404 rfl ?_
          by_cases hc406_5 : (eN sl0 (cx0.toInt8.toInt32) (cy0.toInt8.toInt32)) = (tt - fr) ∧ Mt (eL sl0 (cx0.toInt8.toInt32) (cy0.toInt8.toInt32)) [y0_, y1_, y2_, y3_, y4_] fr.toNatClampNeg = true
          · refine g_ifNo X57 hx hby at_406 ((if0 _ _).trans (feq (show ¬ ((if (eN sl0 (cx0.toInt8.toInt32) (cy0.toInt8.toInt32)) = (tt - fr) ∧ Mt (eL sl0 (cx0.toInt8.toInt32) (cy0.toInt8.toInt32)) [y0_, y1_, y2_, y3_, y4_] fr.toNatClampNeg = true then (1 : Int32) else (0 : Int32)) = (0 : Int32)) from (by rw [if_pos hc406_5] <;> decide))).1) ?_
            refine g_iconst X57 hx hby at_409 (v := 0) rfl ?_
            refine g_goto X57 hx hby at_410 (pc0 := 410) (pc' := 432) rfl (by decide) (by decide) ?_
            refine g_istore X57 hx hby at_432 (l' := #[.val (.int shp), .val (.long chs), .second, .val (.long dat), .second, .val (.int fsd), .val (.int tsd), .val (.int N), .val (.int sl0), .val (.int sl1), .val (.int sl2), .val (.int cx0), .val (.int cy0), .val (.int cx1), .val (.int cy1), .val (.int cx2), .val (.int cy2), .val (.ref so0), .val (.ref so1), .val (.ref so2), .val (.ref ta), .val (.ref ob11), .val (.int fr), .val (.int tt), .val (.ref ob28), .val (.int (ixR (g3 (eL sl0 (cx0.toInt8.toInt32) (cy0.toInt8.toInt32)) (eL sl1 (cx1.toInt8.toInt32) (cy1.toInt8.toInt32)) (eL sl2 (cx2.toInt8.toInt32) (cy2.toInt8.toInt32))) (tt - fr) [y0_, y1_, y2_, y3_, y4_] fr.toNatClampNeg N.toNatClampNeg)), .val (.int (if (eN sl0 (cx0.toInt8.toInt32) (cy0.toInt8.toInt32)) = (tt - fr) ∧ Mt (eL sl0 (cx0.toInt8.toInt32) (cy0.toInt8.toInt32)) [y0_, y1_, y2_, y3_, y4_] fr.toNatClampNeg = true then (1 : Int32) else (0 : Int32))), .val (.int (if (eN sl1 (cx1.toInt8.toInt32) (cy1.toInt8.toInt32)) = (tt - fr) ∧ Mt (eL sl1 (cx1.toInt8.toInt32) (cy1.toInt8.toInt32)) [y0_, y1_, y2_, y3_, y4_] fr.toNatClampNeg = true then (1 : Int32) else (0 : Int32))), .val (.int 0), .val (.int 0)]) rfl ?_
            refine g_iload X57 hx hby at_434 rfl ?_
            refine g_iload X57 hx hby at_436 rfl ?_
            refine g_icmpNo X57 hx hby at_438 (teq (show (ixR (g3 (eL sl0 (cx0.toInt8.toInt32) (cy0.toInt8.toInt32)) (eL sl1 (cx1.toInt8.toInt32) (cy1.toInt8.toInt32)) (eL sl2 (cx2.toInt8.toInt32) (cy2.toInt8.toInt32))) (tt - fr) [y0_, y1_, y2_, y3_, y4_] fr.toNatClampNeg N.toNatClampNeg) = (0 : Int32) from by rw [own_Nk (k := 2) (a := (2 : Int32)) (b := (3 : Int32)) hN (by decide +kernel) (by decide +kernel) hc345_2 hc376_4, own_ix2] <;> exact (if_pos hc406_5))).2 ?_
            refine g_iconst X57 hx hby at_441 (v := 1) rfl ?_
            refine g_goto X57 hx hby at_442 (pc0 := 442) (pc' := 446) rfl (by decide) (by decide) ?_
            show Go _ _ _ (T57.setTop (mkF mi 446 #[.val (.int shp), .val (.long chs), .second, .val (.long dat), .second, .val (.int fsd), .val (.int tsd), .val (.int N), .val (.int sl0), .val (.int sl1), .val (.int sl2), .val (.int cx0), .val (.int cy0), .val (.int cx1), .val (.int cy1), .val (.int cx2), .val (.int cy2), .val (.ref so0), .val (.ref so1), .val (.ref so2), .val (.ref ta), .val (.ref ob11), .val (.int fr), .val (.int tt), .val (.ref ob28), .val (.int (ixR (g3 (eL sl0 (cx0.toInt8.toInt32) (cy0.toInt8.toInt32)) (eL sl1 (cx1.toInt8.toInt32) (cy1.toInt8.toInt32)) (eL sl2 (cx2.toInt8.toInt32) (cy2.toInt8.toInt32))) (tt - fr) [y0_, y1_, y2_, y3_, y4_] fr.toNatClampNeg N.toNatClampNeg)), .val (.int (if (eN sl0 (cx0.toInt8.toInt32) (cy0.toInt8.toInt32)) = (tt - fr) ∧ Mt (eL sl0 (cx0.toInt8.toInt32) (cy0.toInt8.toInt32)) [y0_, y1_, y2_, y3_, y4_] fr.toNatClampNeg = true then (1 : Int32) else (0 : Int32))), .val (.int (if (eN sl1 (cx1.toInt8.toInt32) (cy1.toInt8.toInt32)) = (tt - fr) ∧ Mt (eL sl1 (cx1.toInt8.toInt32) (cy1.toInt8.toInt32)) [y0_, y1_, y2_, y3_, y4_] fr.toNatClampNeg = true then (1 : Int32) else (0 : Int32))), .val (.int 0), .val (.int 0)] [(.int 1)])) _
            obtain ⟨fs, hr, hrun, hended, -, hW, hpr, hsame⟩ := Stand.leaveW (v := some (.int 1)) X57 hS6 (by show T6.heap.size ≤ T57.heap.size; rw [hkk, e57]; exact ZK59) (fun h => by rw [Bd.returns] at h; cases h) (BodyLoose.notSynchronized Bd)
            refine ⟨_, _, ?_, hP _ _ ⟨hrun, hended, _, _, rfl, ?_, ⟨_, rfl⟩, hW, hpr, hsame.mono (by decide) (by decide)⟩⟩
            · exact retN X57 hx (t := .boolean) Bd.returns (by simp) (hb hby at_446) hr
            · show (some (.int 1) : Option Value) = some (.int 1) ∧ Fr n0 _
              exact ⟨rfl, N57⟩
          · refine g_ifYes X57 hx hby at_406 ((if0 _ _).trans (teq (show (if (eN sl0 (cx0.toInt8.toInt32) (cy0.toInt8.toInt32)) = (tt - fr) ∧ Mt (eL sl0 (cx0.toInt8.toInt32) (cy0.toInt8.toInt32)) [y0_, y1_, y2_, y3_, y4_] fr.toNatClampNeg = true then (1 : Int32) else (0 : Int32)) = (0 : Int32) from (by rw [if_neg hc406_5] <;> decide))).1) (pc0 := 406) (pc' := 413) rfl (by decide) (by decide) ?_
            refine g_iload X57 hx hby at_413 rfl ?_
            by_cases hc415_6 : (eN sl1 (cx1.toInt8.toInt32) (cy1.toInt8.toInt32)) = (tt - fr) ∧ Mt (eL sl1 (cx1.toInt8.toInt32) (cy1.toInt8.toInt32)) [y0_, y1_, y2_, y3_, y4_] fr.toNatClampNeg = true
            · refine g_ifNo X57 hx hby at_415 ((if0 _ _).trans (feq (show ¬ ((if (eN sl1 (cx1.toInt8.toInt32) (cy1.toInt8.toInt32)) = (tt - fr) ∧ Mt (eL sl1 (cx1.toInt8.toInt32) (cy1.toInt8.toInt32)) [y0_, y1_, y2_, y3_, y4_] fr.toNatClampNeg = true then (1 : Int32) else (0 : Int32)) = (0 : Int32)) from (by rw [if_pos hc415_6] <;> decide))).1) ?_
              refine g_iconst X57 hx hby at_418 (v := 1) rfl ?_
              refine g_goto X57 hx hby at_419 (pc0 := 419) (pc' := 432) rfl (by decide) (by decide) ?_
              refine g_istore X57 hx hby at_432 (l' := #[.val (.int shp), .val (.long chs), .second, .val (.long dat), .second, .val (.int fsd), .val (.int tsd), .val (.int N), .val (.int sl0), .val (.int sl1), .val (.int sl2), .val (.int cx0), .val (.int cy0), .val (.int cx1), .val (.int cy1), .val (.int cx2), .val (.int cy2), .val (.ref so0), .val (.ref so1), .val (.ref so2), .val (.ref ta), .val (.ref ob11), .val (.int fr), .val (.int tt), .val (.ref ob28), .val (.int (ixR (g3 (eL sl0 (cx0.toInt8.toInt32) (cy0.toInt8.toInt32)) (eL sl1 (cx1.toInt8.toInt32) (cy1.toInt8.toInt32)) (eL sl2 (cx2.toInt8.toInt32) (cy2.toInt8.toInt32))) (tt - fr) [y0_, y1_, y2_, y3_, y4_] fr.toNatClampNeg N.toNatClampNeg)), .val (.int (if (eN sl0 (cx0.toInt8.toInt32) (cy0.toInt8.toInt32)) = (tt - fr) ∧ Mt (eL sl0 (cx0.toInt8.toInt32) (cy0.toInt8.toInt32)) [y0_, y1_, y2_, y3_, y4_] fr.toNatClampNeg = true then (1 : Int32) else (0 : Int32))), .val (.int (if (eN sl1 (cx1.toInt8.toInt32) (cy1.toInt8.toInt32)) = (tt - fr) ∧ Mt (eL sl1 (cx1.toInt8.toInt32) (cy1.toInt8.toInt32)) [y0_, y1_, y2_, y3_, y4_] fr.toNatClampNeg = true then (1 : Int32) else (0 : Int32))), .val (.int 0), .val (.int 1)]) rfl ?_
              refine g_iload X57 hx hby at_434 rfl ?_
              refine g_iload X57 hx hby at_436 rfl ?_
              refine g_icmpNo X57 hx hby at_438 (teq (show (ixR (g3 (eL sl0 (cx0.toInt8.toInt32) (cy0.toInt8.toInt32)) (eL sl1 (cx1.toInt8.toInt32) (cy1.toInt8.toInt32)) (eL sl2 (cx2.toInt8.toInt32) (cy2.toInt8.toInt32))) (tt - fr) [y0_, y1_, y2_, y3_, y4_] fr.toNatClampNeg N.toNatClampNeg) = (1 : Int32) from by rw [own_Nk (k := 2) (a := (2 : Int32)) (b := (3 : Int32)) hN (by decide +kernel) (by decide +kernel) hc345_2 hc376_4, own_ix2] <;> exact ((if_neg hc406_5).trans (if_pos hc415_6)))).2 ?_
              refine g_iconst X57 hx hby at_441 (v := 1) rfl ?_
              refine g_goto X57 hx hby at_442 (pc0 := 442) (pc' := 446) rfl (by decide) (by decide) ?_
              show Go _ _ _ (T57.setTop (mkF mi 446 #[.val (.int shp), .val (.long chs), .second, .val (.long dat), .second, .val (.int fsd), .val (.int tsd), .val (.int N), .val (.int sl0), .val (.int sl1), .val (.int sl2), .val (.int cx0), .val (.int cy0), .val (.int cx1), .val (.int cy1), .val (.int cx2), .val (.int cy2), .val (.ref so0), .val (.ref so1), .val (.ref so2), .val (.ref ta), .val (.ref ob11), .val (.int fr), .val (.int tt), .val (.ref ob28), .val (.int (ixR (g3 (eL sl0 (cx0.toInt8.toInt32) (cy0.toInt8.toInt32)) (eL sl1 (cx1.toInt8.toInt32) (cy1.toInt8.toInt32)) (eL sl2 (cx2.toInt8.toInt32) (cy2.toInt8.toInt32))) (tt - fr) [y0_, y1_, y2_, y3_, y4_] fr.toNatClampNeg N.toNatClampNeg)), .val (.int (if (eN sl0 (cx0.toInt8.toInt32) (cy0.toInt8.toInt32)) = (tt - fr) ∧ Mt (eL sl0 (cx0.toInt8.toInt32) (cy0.toInt8.toInt32)) [y0_, y1_, y2_, y3_, y4_] fr.toNatClampNeg = true then (1 : Int32) else (0 : Int32))), .val (.int (if (eN sl1 (cx1.toInt8.toInt32) (cy1.toInt8.toInt32)) = (tt - fr) ∧ Mt (eL sl1 (cx1.toInt8.toInt32) (cy1.toInt8.toInt32)) [y0_, y1_, y2_, y3_, y4_] fr.toNatClampNeg = true then (1 : Int32) else (0 : Int32))), .val (.int 0), .val (.int 1)] [(.int 1)])) _
              obtain ⟨fs, hr, hrun, hended, -, hW, hpr, hsame⟩ := Stand.leaveW (v := some (.int 1)) X57 hS6 (by show T6.heap.size ≤ T57.heap.size; rw [hkk, e57]; exact ZK59) (fun h => by rw [Bd.returns] at h; cases h) (BodyLoose.notSynchronized Bd)
              refine ⟨_, _, ?_, hP _ _ ⟨hrun, hended, _, _, rfl, ?_, ⟨_, rfl⟩, hW, hpr, hsame.mono (by decide) (by decide)⟩⟩
              · exact retN X57 hx (t := .boolean) Bd.returns (by simp) (hb hby at_446) hr
              · show (some (.int 1) : Option Value) = some (.int 1) ∧ Fr n0 _
                exact ⟨rfl, N57⟩
            · refine g_ifYes X57 hx hby at_415 ((if0 _ _).trans (teq (show (if (eN sl1 (cx1.toInt8.toInt32) (cy1.toInt8.toInt32)) = (tt - fr) ∧ Mt (eL sl1 (cx1.toInt8.toInt32) (cy1.toInt8.toInt32)) [y0_, y1_, y2_, y3_, y4_] fr.toNatClampNeg = true then (1 : Int32) else (0 : Int32)) = (0 : Int32) from (by rw [if_neg hc415_6] <;> decide))).1) (pc0 := 415) (pc' := 422) rfl (by decide) (by decide) ?_
              refine g_iload X57 hx hby at_422 rfl ?_
              refine g_ifYes X57 hx hby at_424 ((if0 _ _).trans (teq rfl).1) (pc0 := 424) (pc' := 431) rfl (by decide) (by decide) ?_
              refine g_iconst X57 hx hby at_431 (v := (-1)) rfl ?_
              refine g_istore X57 hx hby at_432 (l' := #[.val (.int shp), .val (.long chs), .second, .val (.long dat), .second, .val (.int fsd), .val (.int tsd), .val (.int N), .val (.int sl0), .val (.int sl1), .val (.int sl2), .val (.int cx0), .val (.int cy0), .val (.int cx1), .val (.int cy1), .val (.int cx2), .val (.int cy2), .val (.ref so0), .val (.ref so1), .val (.ref so2), .val (.ref ta), .val (.ref ob11), .val (.int fr), .val (.int tt), .val (.ref ob28), .val (.int (ixR (g3 (eL sl0 (cx0.toInt8.toInt32) (cy0.toInt8.toInt32)) (eL sl1 (cx1.toInt8.toInt32) (cy1.toInt8.toInt32)) (eL sl2 (cx2.toInt8.toInt32) (cy2.toInt8.toInt32))) (tt - fr) [y0_, y1_, y2_, y3_, y4_] fr.toNatClampNeg N.toNatClampNeg)), .val (.int (if (eN sl0 (cx0.toInt8.toInt32) (cy0.toInt8.toInt32)) = (tt - fr) ∧ Mt (eL sl0 (cx0.toInt8.toInt32) (cy0.toInt8.toInt32)) [y0_, y1_, y2_, y3_, y4_] fr.toNatClampNeg = true then (1 : Int32) else (0 : Int32))), .val (.int (if (eN sl1 (cx1.toInt8.toInt32) (cy1.toInt8.toInt32)) = (tt - fr) ∧ Mt (eL sl1 (cx1.toInt8.toInt32) (cy1.toInt8.toInt32)) [y0_, y1_, y2_, y3_, y4_] fr.toNatClampNeg = true then (1 : Int32) else (0 : Int32))), .val (.int 0), .val (.int (-1))]) rfl ?_
              refine g_iload X57 hx hby at_434 rfl ?_
              refine g_iload X57 hx hby at_436 rfl ?_
              refine g_icmpNo X57 hx hby at_438 (teq (show (ixR (g3 (eL sl0 (cx0.toInt8.toInt32) (cy0.toInt8.toInt32)) (eL sl1 (cx1.toInt8.toInt32) (cy1.toInt8.toInt32)) (eL sl2 (cx2.toInt8.toInt32) (cy2.toInt8.toInt32))) (tt - fr) [y0_, y1_, y2_, y3_, y4_] fr.toNatClampNeg N.toNatClampNeg) = (-1 : Int32) from by rw [own_Nk (k := 2) (a := (2 : Int32)) (b := (3 : Int32)) hN (by decide +kernel) (by decide +kernel) hc345_2 hc376_4, own_ix2] <;> exact ((if_neg hc406_5).trans ((if_neg hc415_6).trans rfl)))).2 ?_
              refine g_iconst X57 hx hby at_441 (v := 1) rfl ?_
              refine g_goto X57 hx hby at_442 (pc0 := 442) (pc' := 446) rfl (by decide) (by decide) ?_
              show Go _ _ _ (T57.setTop (mkF mi 446 #[.val (.int shp), .val (.long chs), .second, .val (.long dat), .second, .val (.int fsd), .val (.int tsd), .val (.int N), .val (.int sl0), .val (.int sl1), .val (.int sl2), .val (.int cx0), .val (.int cy0), .val (.int cx1), .val (.int cy1), .val (.int cx2), .val (.int cy2), .val (.ref so0), .val (.ref so1), .val (.ref so2), .val (.ref ta), .val (.ref ob11), .val (.int fr), .val (.int tt), .val (.ref ob28), .val (.int (ixR (g3 (eL sl0 (cx0.toInt8.toInt32) (cy0.toInt8.toInt32)) (eL sl1 (cx1.toInt8.toInt32) (cy1.toInt8.toInt32)) (eL sl2 (cx2.toInt8.toInt32) (cy2.toInt8.toInt32))) (tt - fr) [y0_, y1_, y2_, y3_, y4_] fr.toNatClampNeg N.toNatClampNeg)), .val (.int (if (eN sl0 (cx0.toInt8.toInt32) (cy0.toInt8.toInt32)) = (tt - fr) ∧ Mt (eL sl0 (cx0.toInt8.toInt32) (cy0.toInt8.toInt32)) [y0_, y1_, y2_, y3_, y4_] fr.toNatClampNeg = true then (1 : Int32) else (0 : Int32))), .val (.int (if (eN sl1 (cx1.toInt8.toInt32) (cy1.toInt8.toInt32)) = (tt - fr) ∧ Mt (eL sl1 (cx1.toInt8.toInt32) (cy1.toInt8.toInt32)) [y0_, y1_, y2_, y3_, y4_] fr.toNatClampNeg = true then (1 : Int32) else (0 : Int32))), .val (.int 0), .val (.int (-1))] [(.int 1)])) _
              obtain ⟨fs, hr, hrun, hended, -, hW, hpr, hsame⟩ := Stand.leaveW (v := some (.int 1)) X57 hS6 (by show T6.heap.size ≤ T57.heap.size; rw [hkk, e57]; exact ZK59) (fun h => by rw [Bd.returns] at h; cases h) (BodyLoose.notSynchronized Bd)
              refine ⟨_, _, ?_, hP _ _ ⟨hrun, hended, _, _, rfl, ?_, ⟨_, rfl⟩, hW, hpr, hsame.mono (by decide) (by decide)⟩⟩
              · exact retN X57 hx (t := .boolean) Bd.returns (by simp) (hb hby at_446) hr
              · show (some (.int 1) : Option Value) = some (.int 1) ∧ Fr n0 _
                exact ⟨rfl, N57⟩
        · refine g_icmpNo X57 hx hby at_376 (flt hc376_4).1 ?_
          refine g_iload X57 hx hby at_379 rfl ?_
          refine g_iload X57 hx hby at_381 rfl ?_
          refine g_iload X57 hx hby at_383 rfl ?_
          refine g_aload X57 hx hby at_385 rfl rfl ?_
          refine g_iload X57 hx hby at_387 rfl ?_
          refine g_iload X57 hx hby at_389 rfl ?_
          have f62 := (f58.keep K57 nin0)
          obtain ⟨_, _, ⟨T61, L61, k61, n61⟩, -, X61, ⟨Lc61, hQ61, l61, y61, z61⟩, st61⟩ := Jvm.LawKit.callS X57 hx (y := (⟨"com/example/crossbook/crossbook/venue/TextsIndexOfPinLaw", "matches", "(ICC[BII)Z"⟩ : MethodName)) hown (mvT hZ (hw _ (own_m 92 rfl))) (mvT hZ (hw _ (own_m 93 rfl))) (mvT hZ (hw _ (own_m 3 rfl))) (mvT hZ (hw _ (own_m 94 rfl))) (by decide) (backOf (W := 0) (rmMa l Z a0 hw [] sl2 cx2 cy2 ob11 fr tt k11 y0_ y1_ y2_ y3_ y4_ h57 n0 Zs59 f62 hl_2 hb_cx2.1 hb_cx2.2 hb_cy2.1 hb_cy2.2 hf0 hft) hZ (hw _ (own_m 94 rfl)) (hw _ (own_m 3 rfl)) (by decide) (by decide)) (g := (mkF mi 391 #[.val (.int shp), .val (.long chs), .second, .val (.long dat), .second, .val (.int fsd), .val (.int tsd), .val (.int N), .val (.int sl0), .val (.int sl1), .val (.int sl2), .val (.int cx0), .val (.int cy0), .val (.int cx1), .val (.int cy1), .val (.int cx2), .val (.int cy2), .val (.ref so0), .val (.ref so1), .val (.ref so2), .val (.ref ta), .val (.ref ob11), .val (.int fr), .val (.int tt), .val (.ref ob28), .val (.int (ixR (g3 (eL sl0 (cx0.toInt8.toInt32) (cy0.toInt8.toInt32)) (eL sl1 (cx1.toInt8.toInt32) (cy1.toInt8.toInt32)) (eL sl2 (cx2.toInt8.toInt32) (cy2.toInt8.toInt32))) (tt - fr) [y0_, y1_, y2_, y3_, y4_] fr.toNatClampNeg N.toNatClampNeg)), .val (.int (if (eN sl0 (cx0.toInt8.toInt32) (cy0.toInt8.toInt32)) = (tt - fr) ∧ Mt (eL sl0 (cx0.toInt8.toInt32) (cy0.toInt8.toInt32)) [y0_, y1_, y2_, y3_, y4_] fr.toNatClampNeg = true then (1 : Int32) else (0 : Int32))), .val (.int (if (eN sl1 (cx1.toInt8.toInt32) (cy1.toInt8.toInt32)) = (tt - fr) ∧ Mt (eL sl1 (cx1.toInt8.toInt32) (cy1.toInt8.toInt32)) [y0_, y1_, y2_, y3_, y4_] fr.toNatClampNeg = true then (1 : Int32) else (0 : Int32))), .unset, .unset] [(.int tt), (.int fr), (.ref ob11), (.int cy2), (.int cx2), (.int sl2)])) rfl (by rw [hml]; rfl) (argsL := [(.int sl2), (.int cx2), (.int cy2), (.ref ob11), (.int fr), (.int tt)]) (rest := []) (lenOf pd_22 rfl) rfl (by show 2 * 0 + _ ≤ _; exact Nat.le_of_eq rfl) (hb hby at_391) (fun _ _ => ⟨rfl, e57, (by decide : 28 + 1 ≤ _), (by decide : 90 + 4 ≤ _)⟩)
          dsimp only [Pt.U, Pt.locs, Pt.cells, Pt.slots] at X61 l61 y61 z61 st61 hQ61
          subst l61 y61 z61
          have X61 := own_cs X61 (cells' := 29) (slots' := 94) rfl rfl
          obtain ⟨h61, e61⟩ : ∃ z, T61.heap = z := ⟨_, rfl⟩
          rw [e61] at hQ61
          obtain ⟨rfl, N61q, K61⟩ := hQ61
          have N61 := Fr.app N57 N61q
          have Zs63 : n0 ≤ h61.size := Nat.le_trans Zs59 K61.1
          have ZK63 : kk ≤ h61.size := Nat.le_trans ZK59 K61.1
          refine Go.st st61 ?_
          have dm64 : ∀ t_, Steps pg.tables ev below (T61.setTop (mkF mi 402 #[.val (.int shp), .val (.long chs), .second, .val (.long dat), .second, .val (.int fsd), .val (.int tsd), .val (.int N), .val (.int sl0), .val (.int sl1), .val (.int sl2), .val (.int cx0), .val (.int cy0), .val (.int cx1), .val (.int cy1), .val (.int cx2), .val (.int cy2), .val (.ref so0), .val (.ref so1), .val (.ref so2), .val (.ref ta), .val (.ref ob11), .val (.int fr), .val (.int tt), .val (.ref ob28), .val (.int (ixR (g3 (eL sl0 (cx0.toInt8.toInt32) (cy0.toInt8.toInt32)) (eL sl1 (cx1.toInt8.toInt32) (cy1.toInt8.toInt32)) (eL sl2 (cx2.toInt8.toInt32) (cy2.toInt8.toInt32))) (tt - fr) [y0_, y1_, y2_, y3_, y4_] fr.toNatClampNeg N.toNatClampNeg)), .val (.int (if (eN sl0 (cx0.toInt8.toInt32) (cy0.toInt8.toInt32)) = (tt - fr) ∧ Mt (eL sl0 (cx0.toInt8.toInt32) (cy0.toInt8.toInt32)) [y0_, y1_, y2_, y3_, y4_] fr.toNatClampNeg = true then (1 : Int32) else (0 : Int32))), .val (.int (if (eN sl1 (cx1.toInt8.toInt32) (cy1.toInt8.toInt32)) = (tt - fr) ∧ Mt (eL sl1 (cx1.toInt8.toInt32) (cy1.toInt8.toInt32)) [y0_, y1_, y2_, y3_, y4_] fr.toNatClampNeg = true then (1 : Int32) else (0 : Int32))), .unset, .unset] [(.int (if (eN sl2 (cx2.toInt8.toInt32) (cy2.toInt8.toInt32)) = (tt - fr) ∧ Mt (eL sl2 (cx2.toInt8.toInt32) (cy2.toInt8.toInt32)) [y0_, y1_, y2_, y3_, y4_] fr.toNatClampNeg = true then (1 : Int32) else (0 : Int32)))])) t_ → Steps pg.tables ev below (T61.setTop (mkF mi 394 #[.val (.int shp), .val (.long chs), .second, .val (.long dat), .second, .val (.int fsd), .val (.int tsd), .val (.int N), .val (.int sl0), .val (.int sl1), .val (.int sl2), .val (.int cx0), .val (.int cy0), .val (.int cx1), .val (.int cy1), .val (.int cx2), .val (.int cy2), .val (.ref so0), .val (.ref so1), .val (.ref so2), .val (.ref ta), .val (.ref ob11), .val (.int fr), .val (.int tt), .val (.ref ob28), .val (.int (ixR (g3 (eL sl0 (cx0.toInt8.toInt32) (cy0.toInt8.toInt32)) (eL sl1 (cx1.toInt8.toInt32) (cy1.toInt8.toInt32)) (eL sl2 (cx2.toInt8.toInt32) (cy2.toInt8.toInt32))) (tt - fr) [y0_, y1_, y2_, y3_, y4_] fr.toNatClampNeg N.toNatClampNeg)), .val (.int (if (eN sl0 (cx0.toInt8.toInt32) (cy0.toInt8.toInt32)) = (tt - fr) ∧ Mt (eL sl0 (cx0.toInt8.toInt32) (cy0.toInt8.toInt32)) [y0_, y1_, y2_, y3_, y4_] fr.toNatClampNeg = true then (1 : Int32) else (0 : Int32))), .val (.int (if (eN sl1 (cx1.toInt8.toInt32) (cy1.toInt8.toInt32)) = (tt - fr) ∧ Mt (eL sl1 (cx1.toInt8.toInt32) (cy1.toInt8.toInt32)) [y0_, y1_, y2_, y3_, y4_] fr.toNatClampNeg = true then (1 : Int32) else (0 : Int32))), .unset, .unset] [(.int (if (eN sl2 (cx2.toInt8.toInt32) (cy2.toInt8.toInt32)) = (tt - fr) ∧ Mt (eL sl2 (cx2.toInt8.toInt32) (cy2.toInt8.toInt32)) [y0_, y1_, y2_, y3_, y4_] fr.toNatClampNeg = true then (1 : Int32) else (0 : Int32)))])) t_ := by
            intro t_ k_
            by_cases hd : (eN sl2 (cx2.toInt8.toInt32) (cy2.toInt8.toInt32)) = (tt - fr) ∧ Mt (eL sl2 (cx2.toInt8.toInt32) (cy2.toInt8.toInt32)) [y0_, y1_, y2_, y3_, y4_] fr.toNatClampNeg = true
            · refine XS.ifNo X61.here hx rfl (hb hby at_394) rfl ((if0 _ _).trans (feq (show ¬ ((if (eN sl2 (cx2.toInt8.toInt32) (cy2.toInt8.toInt32)) = (tt - fr) ∧ Mt (eL sl2 (cx2.toInt8.toInt32) (cy2.toInt8.toInt32)) [y0_, y1_, y2_, y3_, y4_] fr.toNatClampNeg = true then (1 : Int32) else (0 : Int32)) = (0 : Int32)) from (by rw [if_pos hd] <;> decide))).1) ?_
              refine XS.iconst X61.here hx rfl (hb hby at_397) ?_
              refine XS.goto X61.here hx rfl (pc0 := 398) (pc' := 402) rfl (hb hby at_398) (by decide) (by decide) ?_
              show Steps _ _ _ (T61.setTop (mkF mi 402 #[.val (.int shp), .val (.long chs), .second, .val (.long dat), .second, .val (.int fsd), .val (.int tsd), .val (.int N), .val (.int sl0), .val (.int sl1), .val (.int sl2), .val (.int cx0), .val (.int cy0), .val (.int cx1), .val (.int cy1), .val (.int cx2), .val (.int cy2), .val (.ref so0), .val (.ref so1), .val (.ref so2), .val (.ref ta), .val (.ref ob11), .val (.int fr), .val (.int tt), .val (.ref ob28), .val (.int (ixR (g3 (eL sl0 (cx0.toInt8.toInt32) (cy0.toInt8.toInt32)) (eL sl1 (cx1.toInt8.toInt32) (cy1.toInt8.toInt32)) (eL sl2 (cx2.toInt8.toInt32) (cy2.toInt8.toInt32))) (tt - fr) [y0_, y1_, y2_, y3_, y4_] fr.toNatClampNeg N.toNatClampNeg)), .val (.int (if (eN sl0 (cx0.toInt8.toInt32) (cy0.toInt8.toInt32)) = (tt - fr) ∧ Mt (eL sl0 (cx0.toInt8.toInt32) (cy0.toInt8.toInt32)) [y0_, y1_, y2_, y3_, y4_] fr.toNatClampNeg = true then (1 : Int32) else (0 : Int32))), .val (.int (if (eN sl1 (cx1.toInt8.toInt32) (cy1.toInt8.toInt32)) = (tt - fr) ∧ Mt (eL sl1 (cx1.toInt8.toInt32) (cy1.toInt8.toInt32)) [y0_, y1_, y2_, y3_, y4_] fr.toNatClampNeg = true then (1 : Int32) else (0 : Int32))), .unset, .unset] [(.int 1)])) t_
              exact own_cst (if_pos hd) k_
            · refine XS.ifYes X61.here hx rfl (pc0 := 394) (pc' := 401) rfl (hb hby at_394) rfl ((if0 _ _).trans (teq (show (if (eN sl2 (cx2.toInt8.toInt32) (cy2.toInt8.toInt32)) = (tt - fr) ∧ Mt (eL sl2 (cx2.toInt8.toInt32) (cy2.toInt8.toInt32)) [y0_, y1_, y2_, y3_, y4_] fr.toNatClampNeg = true then (1 : Int32) else (0 : Int32)) = (0 : Int32) from (by rw [if_neg hd] <;> decide))).1) (by decide) (by decide) ?_
              refine XS.iconst X61.here hx rfl (hb hby at_401) ?_
              show Steps _ _ _ (T61.setTop (mkF mi 402 #[.val (.int shp), .val (.long chs), .second, .val (.long dat), .second, .val (.int fsd), .val (.int tsd), .val (.int N), .val (.int sl0), .val (.int sl1), .val (.int sl2), .val (.int cx0), .val (.int cy0), .val (.int cx1), .val (.int cy1), .val (.int cx2), .val (.int cy2), .val (.ref so0), .val (.ref so1), .val (.ref so2), .val (.ref ta), .val (.ref ob11), .val (.int fr), .val (.int tt), .val (.ref ob28), .val (.int (ixR (g3 (eL sl0 (cx0.toInt8.toInt32) (cy0.toInt8.toInt32)) (eL sl1 (cx1.toInt8.toInt32) (cy1.toInt8.toInt32)) (eL sl2 (cx2.toInt8.toInt32) (cy2.toInt8.toInt32))) (tt - fr) [y0_, y1_, y2_, y3_, y4_] fr.toNatClampNeg N.toNatClampNeg)), .val (.int (if (eN sl0 (cx0.toInt8.toInt32) (cy0.toInt8.toInt32)) = (tt - fr) ∧ Mt (eL sl0 (cx0.toInt8.toInt32) (cy0.toInt8.toInt32)) [y0_, y1_, y2_, y3_, y4_] fr.toNatClampNeg = true then (1 : Int32) else (0 : Int32))), .val (.int (if (eN sl1 (cx1.toInt8.toInt32) (cy1.toInt8.toInt32)) = (tt - fr) ∧ Mt (eL sl1 (cx1.toInt8.toInt32) (cy1.toInt8.toInt32)) [y0_, y1_, y2_, y3_, y4_] fr.toNatClampNeg = true then (1 : Int32) else (0 : Int32))), .unset, .unset] [(.int 0)])) t_
              exact own_cst (if_neg hd) k_
          refine Go.st dm64 ?_
          show Go _ _ _ (T61.setTop (mkF mi 402 #[.val (.int shp), .val (.long chs), .second, .val (.long dat), .second, .val (.int fsd), .val (.int tsd), .val (.int N), .val (.int sl0), .val (.int sl1), .val (.int sl2), .val (.int cx0), .val (.int cy0), .val (.int cx1), .val (.int cy1), .val (.int cx2), .val (.int cy2), .val (.ref so0), .val (.ref so1), .val (.ref so2), .val (.ref ta), .val (.ref ob11), .val (.int fr), .val (.int tt), .val (.ref ob28), .val (.int (ixR (g3 (eL sl0 (cx0.toInt8.toInt32) (cy0.toInt8.toInt32)) (eL sl1 (cx1.toInt8.toInt32) (cy1.toInt8.toInt32)) (eL sl2 (cx2.toInt8.toInt32) (cy2.toInt8.toInt32))) (tt - fr) [y0_, y1_, y2_, y3_, y4_] fr.toNatClampNeg N.toNatClampNeg)), .val (.int (if (eN sl0 (cx0.toInt8.toInt32) (cy0.toInt8.toInt32)) = (tt - fr) ∧ Mt (eL sl0 (cx0.toInt8.toInt32) (cy0.toInt8.toInt32)) [y0_, y1_, y2_, y3_, y4_] fr.toNatClampNeg = true then (1 : Int32) else (0 : Int32))), .val (.int (if (eN sl1 (cx1.toInt8.toInt32) (cy1.toInt8.toInt32)) = (tt - fr) ∧ Mt (eL sl1 (cx1.toInt8.toInt32) (cy1.toInt8.toInt32)) [y0_, y1_, y2_, y3_, y4_] fr.toNatClampNeg = true then (1 : Int32) else (0 : Int32))), .unset, .unset] [(.int (if (eN sl2 (cx2.toInt8.toInt32) (cy2.toInt8.toInt32)) = (tt - fr) ∧ Mt (eL sl2 (cx2.toInt8.toInt32) (cy2.toInt8.toInt32)) [y0_, y1_, y2_, y3_, y4_] fr.toNatClampNeg = true then (1 : Int32) else (0 : Int32)))])) _
          refine g_istore X61 hx hby at_402 (l' := #[.val (.int shp), .val (.long chs), .second, .val (.long dat), .second, .val (.int fsd), .val (.int tsd), .val (.int N), .val (.int sl0), .val (.int sl1), .val (.int sl2), .val (.int cx0), .val (.int cy0), .val (.int cx1), .val (.int cy1), .val (.int cx2), .val (.int cy2), .val (.ref so0), .val (.ref so1), .val (.ref so2), .val (.ref ta), .val (.ref ob11), .val (.int fr), .val (.int tt), .val (.ref ob28), .val (.int (ixR (g3 (eL sl0 (cx0.toInt8.toInt32) (cy0.toInt8.toInt32)) (eL sl1 (cx1.toInt8.toInt32) (cy1.toInt8.toInt32)) (eL sl2 (cx2.toInt8.toInt32) (cy2.toInt8.toInt32))) (tt - fr) [y0_, y1_, y2_, y3_, y4_] fr.toNatClampNeg N.toNatClampNeg)), .val (.int (if (eN sl0 (cx0.toInt8.toInt32) (cy0.toInt8.toInt32)) = (tt - fr) ∧ Mt (eL sl0 (cx0.toInt8.toInt32) (cy0.toInt8.toInt32)) [y0_, y1_, y2_, y3_, y4_] fr.toNatClampNeg = true then (1 : Int32) else (0 : Int32))), .val (.int (if (eN sl1 (cx1.toInt8.toInt32) (cy1.toInt8.toInt32)) = (tt - fr) ∧ Mt (eL sl1 (cx1.toInt8.toInt32) (cy1.toInt8.toInt32)) [y0_, y1_, y2_, y3_, y4_] fr.toNatClampNeg = true then (1 : Int32) else (0 : Int32))), .val (.int (if (eN sl2 (cx2.toInt8.toInt32) (cy2.toInt8.toInt32)) = (tt - fr) ∧ Mt (eL sl2 (cx2.toInt8.toInt32) (cy2.toInt8.toInt32)) [y0_, y1_, y2_, y3_, y4_] fr.toNatClampNeg = true then (1 : Int32) else (0 : Int32))), .unset]) rfl ?_
          refine g_iload X61 hx hby at_404 rfl ?_
          by_cases hc406_7 : (eN sl0 (cx0.toInt8.toInt32) (cy0.toInt8.toInt32)) = (tt - fr) ∧ Mt (eL sl0 (cx0.toInt8.toInt32) (cy0.toInt8.toInt32)) [y0_, y1_, y2_, y3_, y4_] fr.toNatClampNeg = true
          · refine g_ifNo X61 hx hby at_406 ((if0 _ _).trans (feq (show ¬ ((if (eN sl0 (cx0.toInt8.toInt32) (cy0.toInt8.toInt32)) = (tt - fr) ∧ Mt (eL sl0 (cx0.toInt8.toInt32) (cy0.toInt8.toInt32)) [y0_, y1_, y2_, y3_, y4_] fr.toNatClampNeg = true then (1 : Int32) else (0 : Int32)) = (0 : Int32)) from (by rw [if_pos hc406_7] <;> decide))).1) ?_
            refine g_iconst X61 hx hby at_409 (v := 0) rfl ?_
            refine g_goto X61 hx hby at_410 (pc0 := 410) (pc' := 432) rfl (by decide) (by decide) ?_
            refine g_istore X61 hx hby at_432 (l' := #[.val (.int shp), .val (.long chs), .second, .val (.long dat), .second, .val (.int fsd), .val (.int tsd), .val (.int N), .val (.int sl0), .val (.int sl1), .val (.int sl2), .val (.int cx0), .val (.int cy0), .val (.int cx1), .val (.int cy1), .val (.int cx2), .val (.int cy2), .val (.ref so0), .val (.ref so1), .val (.ref so2), .val (.ref ta), .val (.ref ob11), .val (.int fr), .val (.int tt), .val (.ref ob28), .val (.int (ixR (g3 (eL sl0 (cx0.toInt8.toInt32) (cy0.toInt8.toInt32)) (eL sl1 (cx1.toInt8.toInt32) (cy1.toInt8.toInt32)) (eL sl2 (cx2.toInt8.toInt32) (cy2.toInt8.toInt32))) (tt - fr) [y0_, y1_, y2_, y3_, y4_] fr.toNatClampNeg N.toNatClampNeg)), .val (.int (if (eN sl0 (cx0.toInt8.toInt32) (cy0.toInt8.toInt32)) = (tt - fr) ∧ Mt (eL sl0 (cx0.toInt8.toInt32) (cy0.toInt8.toInt32)) [y0_, y1_, y2_, y3_, y4_] fr.toNatClampNeg = true then (1 : Int32) else (0 : Int32))), .val (.int (if (eN sl1 (cx1.toInt8.toInt32) (cy1.toInt8.toInt32)) = (tt - fr) ∧ Mt (eL sl1 (cx1.toInt8.toInt32) (cy1.toInt8.toInt32)) [y0_, y1_, y2_, y3_, y4_] fr.toNatClampNeg = true then (1 : Int32) else (0 : Int32))), .val (.int (if (eN sl2 (cx2.toInt8.toInt32) (cy2.toInt8.toInt32)) = (tt - fr) ∧ Mt (eL sl2 (cx2.toInt8.toInt32) (cy2.toInt8.toInt32)) [y0_, y1_, y2_, y3_, y4_] fr.toNatClampNeg = true then (1 : Int32) else (0 : Int32))), .val (.int 0)]) rfl ?_
            refine g_iload X61 hx hby at_434 rfl ?_
            refine g_iload X61 hx hby at_436 rfl ?_
            refine g_icmpNo X61 hx hby at_438 (teq (show (ixR (g3 (eL sl0 (cx0.toInt8.toInt32) (cy0.toInt8.toInt32)) (eL sl1 (cx1.toInt8.toInt32) (cy1.toInt8.toInt32)) (eL sl2 (cx2.toInt8.toInt32) (cy2.toInt8.toInt32))) (tt - fr) [y0_, y1_, y2_, y3_, y4_] fr.toNatClampNeg N.toNatClampNeg) = (0 : Int32) from by rw [own_N33 hN hN3 hc376_4, own_ix3] <;> exact (if_pos hc406_7))).2 ?_
            refine g_iconst X61 hx hby at_441 (v := 1) rfl ?_
            refine g_goto X61 hx hby at_442 (pc0 := 442) (pc' := 446) rfl (by decide) (by decide) ?_
            show Go _ _ _ (T61.setTop (mkF mi 446 #[.val (.int shp), .val (.long chs), .second, .val (.long dat), .second, .val (.int fsd), .val (.int tsd), .val (.int N), .val (.int sl0), .val (.int sl1), .val (.int sl2), .val (.int cx0), .val (.int cy0), .val (.int cx1), .val (.int cy1), .val (.int cx2), .val (.int cy2), .val (.ref so0), .val (.ref so1), .val (.ref so2), .val (.ref ta), .val (.ref ob11), .val (.int fr), .val (.int tt), .val (.ref ob28), .val (.int (ixR (g3 (eL sl0 (cx0.toInt8.toInt32) (cy0.toInt8.toInt32)) (eL sl1 (cx1.toInt8.toInt32) (cy1.toInt8.toInt32)) (eL sl2 (cx2.toInt8.toInt32) (cy2.toInt8.toInt32))) (tt - fr) [y0_, y1_, y2_, y3_, y4_] fr.toNatClampNeg N.toNatClampNeg)), .val (.int (if (eN sl0 (cx0.toInt8.toInt32) (cy0.toInt8.toInt32)) = (tt - fr) ∧ Mt (eL sl0 (cx0.toInt8.toInt32) (cy0.toInt8.toInt32)) [y0_, y1_, y2_, y3_, y4_] fr.toNatClampNeg = true then (1 : Int32) else (0 : Int32))), .val (.int (if (eN sl1 (cx1.toInt8.toInt32) (cy1.toInt8.toInt32)) = (tt - fr) ∧ Mt (eL sl1 (cx1.toInt8.toInt32) (cy1.toInt8.toInt32)) [y0_, y1_, y2_, y3_, y4_] fr.toNatClampNeg = true then (1 : Int32) else (0 : Int32))), .val (.int (if (eN sl2 (cx2.toInt8.toInt32) (cy2.toInt8.toInt32)) = (tt - fr) ∧ Mt (eL sl2 (cx2.toInt8.toInt32) (cy2.toInt8.toInt32)) [y0_, y1_, y2_, y3_, y4_] fr.toNatClampNeg = true then (1 : Int32) else (0 : Int32))), .val (.int 0)] [(.int 1)])) _
            obtain ⟨fs, hr, hrun, hended, -, hW, hpr, hsame⟩ := Stand.leaveW (v := some (.int 1)) X61 hS6 (by show T6.heap.size ≤ T61.heap.size; rw [hkk, e61]; exact ZK63) (fun h => by rw [Bd.returns] at h; cases h) (BodyLoose.notSynchronized Bd)
            refine ⟨_, _, ?_, hP _ _ ⟨hrun, hended, _, _, rfl, ?_, ⟨_, rfl⟩, hW, hpr, hsame.mono (by decide) (by decide)⟩⟩
            · exact retN X61 hx (t := .boolean) Bd.returns (by simp) (hb hby at_446) hr
            · show (some (.int 1) : Option Value) = some (.int 1) ∧ Fr n0 _
              exact ⟨rfl, N61⟩
          · refine g_ifYes X61 hx hby at_406 ((if0 _ _).trans (teq (show (if (eN sl0 (cx0.toInt8.toInt32) (cy0.toInt8.toInt32)) = (tt - fr) ∧ Mt (eL sl0 (cx0.toInt8.toInt32) (cy0.toInt8.toInt32)) [y0_, y1_, y2_, y3_, y4_] fr.toNatClampNeg = true then (1 : Int32) else (0 : Int32)) = (0 : Int32) from (by rw [if_neg hc406_7] <;> decide))).1) (pc0 := 406) (pc' := 413) rfl (by decide) (by decide) ?_
            refine g_iload X61 hx hby at_413 rfl ?_
            by_cases hc415_8 : (eN sl1 (cx1.toInt8.toInt32) (cy1.toInt8.toInt32)) = (tt - fr) ∧ Mt (eL sl1 (cx1.toInt8.toInt32) (cy1.toInt8.toInt32)) [y0_, y1_, y2_, y3_, y4_] fr.toNatClampNeg = true
            · refine g_ifNo X61 hx hby at_415 ((if0 _ _).trans (feq (show ¬ ((if (eN sl1 (cx1.toInt8.toInt32) (cy1.toInt8.toInt32)) = (tt - fr) ∧ Mt (eL sl1 (cx1.toInt8.toInt32) (cy1.toInt8.toInt32)) [y0_, y1_, y2_, y3_, y4_] fr.toNatClampNeg = true then (1 : Int32) else (0 : Int32)) = (0 : Int32)) from (by rw [if_pos hc415_8] <;> decide))).1) ?_
              refine g_iconst X61 hx hby at_418 (v := 1) rfl ?_
              refine g_goto X61 hx hby at_419 (pc0 := 419) (pc' := 432) rfl (by decide) (by decide) ?_
              refine g_istore X61 hx hby at_432 (l' := #[.val (.int shp), .val (.long chs), .second, .val (.long dat), .second, .val (.int fsd), .val (.int tsd), .val (.int N), .val (.int sl0), .val (.int sl1), .val (.int sl2), .val (.int cx0), .val (.int cy0), .val (.int cx1), .val (.int cy1), .val (.int cx2), .val (.int cy2), .val (.ref so0), .val (.ref so1), .val (.ref so2), .val (.ref ta), .val (.ref ob11), .val (.int fr), .val (.int tt), .val (.ref ob28), .val (.int (ixR (g3 (eL sl0 (cx0.toInt8.toInt32) (cy0.toInt8.toInt32)) (eL sl1 (cx1.toInt8.toInt32) (cy1.toInt8.toInt32)) (eL sl2 (cx2.toInt8.toInt32) (cy2.toInt8.toInt32))) (tt - fr) [y0_, y1_, y2_, y3_, y4_] fr.toNatClampNeg N.toNatClampNeg)), .val (.int (if (eN sl0 (cx0.toInt8.toInt32) (cy0.toInt8.toInt32)) = (tt - fr) ∧ Mt (eL sl0 (cx0.toInt8.toInt32) (cy0.toInt8.toInt32)) [y0_, y1_, y2_, y3_, y4_] fr.toNatClampNeg = true then (1 : Int32) else (0 : Int32))), .val (.int (if (eN sl1 (cx1.toInt8.toInt32) (cy1.toInt8.toInt32)) = (tt - fr) ∧ Mt (eL sl1 (cx1.toInt8.toInt32) (cy1.toInt8.toInt32)) [y0_, y1_, y2_, y3_, y4_] fr.toNatClampNeg = true then (1 : Int32) else (0 : Int32))), .val (.int (if (eN sl2 (cx2.toInt8.toInt32) (cy2.toInt8.toInt32)) = (tt - fr) ∧ Mt (eL sl2 (cx2.toInt8.toInt32) (cy2.toInt8.toInt32)) [y0_, y1_, y2_, y3_, y4_] fr.toNatClampNeg = true then (1 : Int32) else (0 : Int32))), .val (.int 1)]) rfl ?_
              refine g_iload X61 hx hby at_434 rfl ?_
              refine g_iload X61 hx hby at_436 rfl ?_
              refine g_icmpNo X61 hx hby at_438 (teq (show (ixR (g3 (eL sl0 (cx0.toInt8.toInt32) (cy0.toInt8.toInt32)) (eL sl1 (cx1.toInt8.toInt32) (cy1.toInt8.toInt32)) (eL sl2 (cx2.toInt8.toInt32) (cy2.toInt8.toInt32))) (tt - fr) [y0_, y1_, y2_, y3_, y4_] fr.toNatClampNeg N.toNatClampNeg) = (1 : Int32) from by rw [own_N33 hN hN3 hc376_4, own_ix3] <;> exact ((if_neg hc406_7).trans (if_pos hc415_8)))).2 ?_
              refine g_iconst X61 hx hby at_441 (v := 1) rfl ?_
              refine g_goto X61 hx hby at_442 (pc0 := 442) (pc' := 446) rfl (by decide) (by decide) ?_
              show Go _ _ _ (T61.setTop (mkF mi 446 #[.val (.int shp), .val (.long chs), .second, .val (.long dat), .second, .val (.int fsd), .val (.int tsd), .val (.int N), .val (.int sl0), .val (.int sl1), .val (.int sl2), .val (.int cx0), .val (.int cy0), .val (.int cx1), .val (.int cy1), .val (.int cx2), .val (.int cy2), .val (.ref so0), .val (.ref so1), .val (.ref so2), .val (.ref ta), .val (.ref ob11), .val (.int fr), .val (.int tt), .val (.ref ob28), .val (.int (ixR (g3 (eL sl0 (cx0.toInt8.toInt32) (cy0.toInt8.toInt32)) (eL sl1 (cx1.toInt8.toInt32) (cy1.toInt8.toInt32)) (eL sl2 (cx2.toInt8.toInt32) (cy2.toInt8.toInt32))) (tt - fr) [y0_, y1_, y2_, y3_, y4_] fr.toNatClampNeg N.toNatClampNeg)), .val (.int (if (eN sl0 (cx0.toInt8.toInt32) (cy0.toInt8.toInt32)) = (tt - fr) ∧ Mt (eL sl0 (cx0.toInt8.toInt32) (cy0.toInt8.toInt32)) [y0_, y1_, y2_, y3_, y4_] fr.toNatClampNeg = true then (1 : Int32) else (0 : Int32))), .val (.int (if (eN sl1 (cx1.toInt8.toInt32) (cy1.toInt8.toInt32)) = (tt - fr) ∧ Mt (eL sl1 (cx1.toInt8.toInt32) (cy1.toInt8.toInt32)) [y0_, y1_, y2_, y3_, y4_] fr.toNatClampNeg = true then (1 : Int32) else (0 : Int32))), .val (.int (if (eN sl2 (cx2.toInt8.toInt32) (cy2.toInt8.toInt32)) = (tt - fr) ∧ Mt (eL sl2 (cx2.toInt8.toInt32) (cy2.toInt8.toInt32)) [y0_, y1_, y2_, y3_, y4_] fr.toNatClampNeg = true then (1 : Int32) else (0 : Int32))), .val (.int 1)] [(.int 1)])) _
              obtain ⟨fs, hr, hrun, hended, -, hW, hpr, hsame⟩ := Stand.leaveW (v := some (.int 1)) X61 hS6 (by show T6.heap.size ≤ T61.heap.size; rw [hkk, e61]; exact ZK63) (fun h => by rw [Bd.returns] at h; cases h) (BodyLoose.notSynchronized Bd)
              refine ⟨_, _, ?_, hP _ _ ⟨hrun, hended, _, _, rfl, ?_, ⟨_, rfl⟩, hW, hpr, hsame.mono (by decide) (by decide)⟩⟩
              · exact retN X61 hx (t := .boolean) Bd.returns (by simp) (hb hby at_446) hr
              · show (some (.int 1) : Option Value) = some (.int 1) ∧ Fr n0 _
                exact ⟨rfl, N61⟩
            · refine g_ifYes X61 hx hby at_415 ((if0 _ _).trans (teq (show (if (eN sl1 (cx1.toInt8.toInt32) (cy1.toInt8.toInt32)) = (tt - fr) ∧ Mt (eL sl1 (cx1.toInt8.toInt32) (cy1.toInt8.toInt32)) [y0_, y1_, y2_, y3_, y4_] fr.toNatClampNeg = true then (1 : Int32) else (0 : Int32)) = (0 : Int32) from (by rw [if_neg hc415_8] <;> decide))).1) (pc0 := 415) (pc' := 422) rfl (by decide) (by decide) ?_
              refine g_iload X61 hx hby at_422 rfl ?_
              have dm65 : ∀ t_, Steps pg.tables ev below (T61.setTop (mkF mi 432 #[.val (.int shp), .val (.long chs), .second, .val (.long dat), .second, .val (.int fsd), .val (.int tsd), .val (.int N), .val (.int sl0), .val (.int sl1), .val (.int sl2), .val (.int cx0), .val (.int cy0), .val (.int cx1), .val (.int cy1), .val (.int cx2), .val (.int cy2), .val (.ref so0), .val (.ref so1), .val (.ref so2), .val (.ref ta), .val (.ref ob11), .val (.int fr), .val (.int tt), .val (.ref ob28), .val (.int (ixR (g3 (eL sl0 (cx0.toInt8.toInt32) (cy0.toInt8.toInt32)) (eL sl1 (cx1.toInt8.toInt32) (cy1.toInt8.toInt32)) (eL sl2 (cx2.toInt8.toInt32) (cy2.toInt8.toInt32))) (tt - fr) [y0_, y1_, y2_, y3_, y4_] fr.toNatClampNeg N.toNatClampNeg)), .val (.int (if (eN sl0 (cx0.toInt8.toInt32) (cy0.toInt8.toInt32)) = (tt - fr) ∧ Mt (eL sl0 (cx0.toInt8.toInt32) (cy0.toInt8.toInt32)) [y0_, y1_, y2_, y3_, y4_] fr.toNatClampNeg = true then (1 : Int32) else (0 : Int32))), .val (.int (if (eN sl1 (cx1.toInt8.toInt32) (cy1.toInt8.toInt32)) = (tt - fr) ∧ Mt (eL sl1 (cx1.toInt8.toInt32) (cy1.toInt8.toInt32)) [y0_, y1_, y2_, y3_, y4_] fr.toNatClampNeg = true then (1 : Int32) else (0 : Int32))), .val (.int (if (eN sl2 (cx2.toInt8.toInt32) (cy2.toInt8.toInt32)) = (tt - fr) ∧ Mt (eL sl2 (cx2.toInt8.toInt32) (cy2.toInt8.toInt32)) [y0_, y1_, y2_, y3_, y4_] fr.toNatClampNeg = true then (1 : Int32) else (0 : Int32))), .unset] [(.int (if (eN sl2 (cx2.toInt8.toInt32) (cy2.toInt8.toInt32)) = (tt - fr) ∧ Mt (eL sl2 (cx2.toInt8.toInt32) (cy2.toInt8.toInt32)) [y0_, y1_, y2_, y3_, y4_] fr.toNatClampNeg = true then (2 : Int32) else (-1 : Int32)))])) t_ → Steps pg.tables ev below (T61.setTop (mkF mi 424 #[.val (.int shp), .val (.long chs), .second, .val (.long dat), .second, .val (.int fsd), .val (.int tsd), .val (.int N), .val (.int sl0), .val (.int sl1), .val (.int sl2), .val (.int cx0), .val (.int cy0), .val (.int cx1), .val (.int cy1), .val (.int cx2), .val (.int cy2), .val (.ref so0), .val (.ref so1), .val (.ref so2), .val (.ref ta), .val (.ref ob11), .val (.int fr), .val (.int tt), .val (.ref ob28), .val (.int (ixR (g3 (eL sl0 (cx0.toInt8.toInt32) (cy0.toInt8.toInt32)) (eL sl1 (cx1.toInt8.toInt32) (cy1.toInt8.toInt32)) (eL sl2 (cx2.toInt8.toInt32) (cy2.toInt8.toInt32))) (tt - fr) [y0_, y1_, y2_, y3_, y4_] fr.toNatClampNeg N.toNatClampNeg)), .val (.int (if (eN sl0 (cx0.toInt8.toInt32) (cy0.toInt8.toInt32)) = (tt - fr) ∧ Mt (eL sl0 (cx0.toInt8.toInt32) (cy0.toInt8.toInt32)) [y0_, y1_, y2_, y3_, y4_] fr.toNatClampNeg = true then (1 : Int32) else (0 : Int32))), .val (.int (if (eN sl1 (cx1.toInt8.toInt32) (cy1.toInt8.toInt32)) = (tt - fr) ∧ Mt (eL sl1 (cx1.toInt8.toInt32) (cy1.toInt8.toInt32)) [y0_, y1_, y2_, y3_, y4_] fr.toNatClampNeg = true then (1 : Int32) else (0 : Int32))), .val (.int (if (eN sl2 (cx2.toInt8.toInt32) (cy2.toInt8.toInt32)) = (tt - fr) ∧ Mt (eL sl2 (cx2.toInt8.toInt32) (cy2.toInt8.toInt32)) [y0_, y1_, y2_, y3_, y4_] fr.toNatClampNeg = true then (1 : Int32) else (0 : Int32))), .unset] [(.int (if (eN sl2 (cx2.toInt8.toInt32) (cy2.toInt8.toInt32)) = (tt - fr) ∧ Mt (eL sl2 (cx2.toInt8.toInt32) (cy2.toInt8.toInt32)) [y0_, y1_, y2_, y3_, y4_] fr.toNatClampNeg = true then (1 : Int32) else (0 : Int32)))])) t_ := by
                intro t_ k_
                by_cases hd : (eN sl2 (cx2.toInt8.toInt32) (cy2.toInt8.toInt32)) = (tt - fr) ∧ Mt (eL sl2 (cx2.toInt8.toInt32) (cy2.toInt8.toInt32)) [y0_, y1_, y2_, y3_, y4_] fr.toNatClampNeg = true
                · refine XS.ifNo X61.here hx rfl (hb hby at_424) rfl ((if0 _ _).trans (feq (show ¬ ((if (eN sl2 (cx2.toInt8.toInt32) (cy2.toInt8.toInt32)) = (tt - fr) ∧ Mt (eL sl2 (cx2.toInt8.toInt32) (cy2.toInt8.toInt32)) [y0_, y1_, y2_, y3_, y4_] fr.toNatClampNeg = true then (1 : Int32) else (0 : Int32)) = (0 : Int32)) from (by rw [if_pos hd] <;> decide))).1) ?_
                  refine XS.iconst X61.here hx rfl (hb hby at_427) ?_
                  refine XS.goto X61.here hx rfl (pc0 := 428) (pc' := 432) rfl (hb hby at_428) (by decide) (by decide) ?_
                  show Steps _ _ _ (T61.setTop (mkF mi 432 #[.val (.int shp), .val (.long chs), .second, .val (.long dat), .second, .val (.int fsd), .val (.int tsd), .val (.int N), .val (.int sl0), .val (.int sl1), .val (.int sl2), .val (.int cx0), .val (.int cy0), .val (.int cx1), .val (.int cy1), .val (.int cx2), .val (.int cy2), .val (.ref so0), .val (.ref so1), .val (.ref so2), .val (.ref ta), .val (.ref ob11), .val (.int fr), .val (.int tt), .val (.ref ob28), .val (.int (ixR (g3 (eL sl0 (cx0.toInt8.toInt32) (cy0.toInt8.toInt32)) (eL sl1 (cx1.toInt8.toInt32) (cy1.toInt8.toInt32)) (eL sl2 (cx2.toInt8.toInt32) (cy2.toInt8.toInt32))) (tt - fr) [y0_, y1_, y2_, y3_, y4_] fr.toNatClampNeg N.toNatClampNeg)), .val (.int (if (eN sl0 (cx0.toInt8.toInt32) (cy0.toInt8.toInt32)) = (tt - fr) ∧ Mt (eL sl0 (cx0.toInt8.toInt32) (cy0.toInt8.toInt32)) [y0_, y1_, y2_, y3_, y4_] fr.toNatClampNeg = true then (1 : Int32) else (0 : Int32))), .val (.int (if (eN sl1 (cx1.toInt8.toInt32) (cy1.toInt8.toInt32)) = (tt - fr) ∧ Mt (eL sl1 (cx1.toInt8.toInt32) (cy1.toInt8.toInt32)) [y0_, y1_, y2_, y3_, y4_] fr.toNatClampNeg = true then (1 : Int32) else (0 : Int32))), .val (.int (if (eN sl2 (cx2.toInt8.toInt32) (cy2.toInt8.toInt32)) = (tt - fr) ∧ Mt (eL sl2 (cx2.toInt8.toInt32) (cy2.toInt8.toInt32)) [y0_, y1_, y2_, y3_, y4_] fr.toNatClampNeg = true then (1 : Int32) else (0 : Int32))), .unset] [(.int 2)])) t_
                  exact own_cst (if_pos hd) k_
                · refine XS.ifYes X61.here hx rfl (pc0 := 424) (pc' := 431) rfl (hb hby at_424) rfl ((if0 _ _).trans (teq (show (if (eN sl2 (cx2.toInt8.toInt32) (cy2.toInt8.toInt32)) = (tt - fr) ∧ Mt (eL sl2 (cx2.toInt8.toInt32) (cy2.toInt8.toInt32)) [y0_, y1_, y2_, y3_, y4_] fr.toNatClampNeg = true then (1 : Int32) else (0 : Int32)) = (0 : Int32) from (by rw [if_neg hd] <;> decide))).1) (by decide) (by decide) ?_
                  refine XS.iconst X61.here hx rfl (hb hby at_431) ?_
                  show Steps _ _ _ (T61.setTop (mkF mi 432 #[.val (.int shp), .val (.long chs), .second, .val (.long dat), .second, .val (.int fsd), .val (.int tsd), .val (.int N), .val (.int sl0), .val (.int sl1), .val (.int sl2), .val (.int cx0), .val (.int cy0), .val (.int cx1), .val (.int cy1), .val (.int cx2), .val (.int cy2), .val (.ref so0), .val (.ref so1), .val (.ref so2), .val (.ref ta), .val (.ref ob11), .val (.int fr), .val (.int tt), .val (.ref ob28), .val (.int (ixR (g3 (eL sl0 (cx0.toInt8.toInt32) (cy0.toInt8.toInt32)) (eL sl1 (cx1.toInt8.toInt32) (cy1.toInt8.toInt32)) (eL sl2 (cx2.toInt8.toInt32) (cy2.toInt8.toInt32))) (tt - fr) [y0_, y1_, y2_, y3_, y4_] fr.toNatClampNeg N.toNatClampNeg)), .val (.int (if (eN sl0 (cx0.toInt8.toInt32) (cy0.toInt8.toInt32)) = (tt - fr) ∧ Mt (eL sl0 (cx0.toInt8.toInt32) (cy0.toInt8.toInt32)) [y0_, y1_, y2_, y3_, y4_] fr.toNatClampNeg = true then (1 : Int32) else (0 : Int32))), .val (.int (if (eN sl1 (cx1.toInt8.toInt32) (cy1.toInt8.toInt32)) = (tt - fr) ∧ Mt (eL sl1 (cx1.toInt8.toInt32) (cy1.toInt8.toInt32)) [y0_, y1_, y2_, y3_, y4_] fr.toNatClampNeg = true then (1 : Int32) else (0 : Int32))), .val (.int (if (eN sl2 (cx2.toInt8.toInt32) (cy2.toInt8.toInt32)) = (tt - fr) ∧ Mt (eL sl2 (cx2.toInt8.toInt32) (cy2.toInt8.toInt32)) [y0_, y1_, y2_, y3_, y4_] fr.toNatClampNeg = true then (1 : Int32) else (0 : Int32))), .unset] [(.int (-1))])) t_
                  exact own_cst (if_neg hd) k_
              refine Go.st dm65 ?_
              show Go _ _ _ (T61.setTop (mkF mi 432 #[.val (.int shp), .val (.long chs), .second, .val (.long dat), .second, .val (.int fsd), .val (.int tsd), .val (.int N), .val (.int sl0), .val (.int sl1), .val (.int sl2), .val (.int cx0), .val (.int cy0), .val (.int cx1), .val (.int cy1), .val (.int cx2), .val (.int cy2), .val (.ref so0), .val (.ref so1), .val (.ref so2), .val (.ref ta), .val (.ref ob11), .val (.int fr), .val (.int tt), .val (.ref ob28), .val (.int (ixR (g3 (eL sl0 (cx0.toInt8.toInt32) (cy0.toInt8.toInt32)) (eL sl1 (cx1.toInt8.toInt32) (cy1.toInt8.toInt32)) (eL sl2 (cx2.toInt8.toInt32) (cy2.toInt8.toInt32))) (tt - fr) [y0_, y1_, y2_, y3_, y4_] fr.toNatClampNeg N.toNatClampNeg)), .val (.int (if (eN sl0 (cx0.toInt8.toInt32) (cy0.toInt8.toInt32)) = (tt - fr) ∧ Mt (eL sl0 (cx0.toInt8.toInt32) (cy0.toInt8.toInt32)) [y0_, y1_, y2_, y3_, y4_] fr.toNatClampNeg = true then (1 : Int32) else (0 : Int32))), .val (.int (if (eN sl1 (cx1.toInt8.toInt32) (cy1.toInt8.toInt32)) = (tt - fr) ∧ Mt (eL sl1 (cx1.toInt8.toInt32) (cy1.toInt8.toInt32)) [y0_, y1_, y2_, y3_, y4_] fr.toNatClampNeg = true then (1 : Int32) else (0 : Int32))), .val (.int (if (eN sl2 (cx2.toInt8.toInt32) (cy2.toInt8.toInt32)) = (tt - fr) ∧ Mt (eL sl2 (cx2.toInt8.toInt32) (cy2.toInt8.toInt32)) [y0_, y1_, y2_, y3_, y4_] fr.toNatClampNeg = true then (1 : Int32) else (0 : Int32))), .unset] [(.int (if (eN sl2 (cx2.toInt8.toInt32) (cy2.toInt8.toInt32)) = (tt - fr) ∧ Mt (eL sl2 (cx2.toInt8.toInt32) (cy2.toInt8.toInt32)) [y0_, y1_, y2_, y3_, y4_] fr.toNatClampNeg = true then (2 : Int32) else (-1 : Int32)))])) _
              refine g_istore X61 hx hby at_432 (l' := #[.val (.int shp), .val (.long chs), .second, .val (.long dat), .second, .val (.int fsd), .val (.int tsd), .val (.int N), .val (.int sl0), .val (.int sl1), .val (.int sl2), .val (.int cx0), .val (.int cy0), .val (.int cx1), .val (.int cy1), .val (.int cx2), .val (.int cy2), .val (.ref so0), .val (.ref so1), .val (.ref so2), .val (.ref ta), .val (.ref ob11), .val (.int fr), .val (.int tt), .val (.ref ob28), .val (.int (ixR (g3 (eL sl0 (cx0.toInt8.toInt32) (cy0.toInt8.toInt32)) (eL sl1 (cx1.toInt8.toInt32) (cy1.toInt8.toInt32)) (eL sl2 (cx2.toInt8.toInt32) (cy2.toInt8.toInt32))) (tt - fr) [y0_, y1_, y2_, y3_, y4_] fr.toNatClampNeg N.toNatClampNeg)), .val (.int (if (eN sl0 (cx0.toInt8.toInt32) (cy0.toInt8.toInt32)) = (tt - fr) ∧ Mt (eL sl0 (cx0.toInt8.toInt32) (cy0.toInt8.toInt32)) [y0_, y1_, y2_, y3_, y4_] fr.toNatClampNeg = true then (1 : Int32) else (0 : Int32))), .val (.int (if (eN sl1 (cx1.toInt8.toInt32) (cy1.toInt8.toInt32)) = (tt - fr) ∧ Mt (eL sl1 (cx1.toInt8.toInt32) (cy1.toInt8.toInt32)) [y0_, y1_, y2_, y3_, y4_] fr.toNatClampNeg = true then (1 : Int32) else (0 : Int32))), .val (.int (if (eN sl2 (cx2.toInt8.toInt32) (cy2.toInt8.toInt32)) = (tt - fr) ∧ Mt (eL sl2 (cx2.toInt8.toInt32) (cy2.toInt8.toInt32)) [y0_, y1_, y2_, y3_, y4_] fr.toNatClampNeg = true then (1 : Int32) else (0 : Int32))), .val (.int (if (eN sl2 (cx2.toInt8.toInt32) (cy2.toInt8.toInt32)) = (tt - fr) ∧ Mt (eL sl2 (cx2.toInt8.toInt32) (cy2.toInt8.toInt32)) [y0_, y1_, y2_, y3_, y4_] fr.toNatClampNeg = true then (2 : Int32) else (-1 : Int32)))]) rfl ?_
              refine g_iload X61 hx hby at_434 rfl ?_
              refine g_iload X61 hx hby at_436 rfl ?_
              refine g_icmpNo X61 hx hby at_438 (teq (show (ixR (g3 (eL sl0 (cx0.toInt8.toInt32) (cy0.toInt8.toInt32)) (eL sl1 (cx1.toInt8.toInt32) (cy1.toInt8.toInt32)) (eL sl2 (cx2.toInt8.toInt32) (cy2.toInt8.toInt32))) (tt - fr) [y0_, y1_, y2_, y3_, y4_] fr.toNatClampNeg N.toNatClampNeg) = (if (eN sl2 (cx2.toInt8.toInt32) (cy2.toInt8.toInt32)) = (tt - fr) ∧ Mt (eL sl2 (cx2.toInt8.toInt32) (cy2.toInt8.toInt32)) [y0_, y1_, y2_, y3_, y4_] fr.toNatClampNeg = true then (2 : Int32) else (-1 : Int32)) from by rw [own_N33 hN hN3 hc376_4, own_ix3] <;> exact ((if_neg hc406_7).trans ((if_neg hc415_8).trans rfl)))).2 ?_
              refine g_iconst X61 hx hby at_441 (v := 1) rfl ?_
              refine g_goto X61 hx hby at_442 (pc0 := 442) (pc' := 446) rfl (by decide) (by decide) ?_
              show Go _ _ _ (T61.setTop (mkF mi 446 #[.val (.int shp), .val (.long chs), .second, .val (.long dat), .second, .val (.int fsd), .val (.int tsd), .val (.int N), .val (.int sl0), .val (.int sl1), .val (.int sl2), .val (.int cx0), .val (.int cy0), .val (.int cx1), .val (.int cy1), .val (.int cx2), .val (.int cy2), .val (.ref so0), .val (.ref so1), .val (.ref so2), .val (.ref ta), .val (.ref ob11), .val (.int fr), .val (.int tt), .val (.ref ob28), .val (.int (ixR (g3 (eL sl0 (cx0.toInt8.toInt32) (cy0.toInt8.toInt32)) (eL sl1 (cx1.toInt8.toInt32) (cy1.toInt8.toInt32)) (eL sl2 (cx2.toInt8.toInt32) (cy2.toInt8.toInt32))) (tt - fr) [y0_, y1_, y2_, y3_, y4_] fr.toNatClampNeg N.toNatClampNeg)), .val (.int (if (eN sl0 (cx0.toInt8.toInt32) (cy0.toInt8.toInt32)) = (tt - fr) ∧ Mt (eL sl0 (cx0.toInt8.toInt32) (cy0.toInt8.toInt32)) [y0_, y1_, y2_, y3_, y4_] fr.toNatClampNeg = true then (1 : Int32) else (0 : Int32))), .val (.int (if (eN sl1 (cx1.toInt8.toInt32) (cy1.toInt8.toInt32)) = (tt - fr) ∧ Mt (eL sl1 (cx1.toInt8.toInt32) (cy1.toInt8.toInt32)) [y0_, y1_, y2_, y3_, y4_] fr.toNatClampNeg = true then (1 : Int32) else (0 : Int32))), .val (.int (if (eN sl2 (cx2.toInt8.toInt32) (cy2.toInt8.toInt32)) = (tt - fr) ∧ Mt (eL sl2 (cx2.toInt8.toInt32) (cy2.toInt8.toInt32)) [y0_, y1_, y2_, y3_, y4_] fr.toNatClampNeg = true then (1 : Int32) else (0 : Int32))), .val (.int (if (eN sl2 (cx2.toInt8.toInt32) (cy2.toInt8.toInt32)) = (tt - fr) ∧ Mt (eL sl2 (cx2.toInt8.toInt32) (cy2.toInt8.toInt32)) [y0_, y1_, y2_, y3_, y4_] fr.toNatClampNeg = true then (2 : Int32) else (-1 : Int32)))] [(.int 1)])) _
              obtain ⟨fs, hr, hrun, hended, -, hW, hpr, hsame⟩ := Stand.leaveW (v := some (.int 1)) X61 hS6 (by show T6.heap.size ≤ T61.heap.size; rw [hkk, e61]; exact ZK63) (fun h => by rw [Bd.returns] at h; cases h) (BodyLoose.notSynchronized Bd)
              refine ⟨_, _, ?_, hP _ _ ⟨hrun, hended, _, _, rfl, ?_, ⟨_, rfl⟩, hW, hpr, hsame.mono (by decide) (by decide)⟩⟩
              · exact retN X61 hx (t := .boolean) Bd.returns (by simp) (hb hby at_446) hr
              · show (some (.int 1) : Option Value) = some (.int 1) ∧ Fr n0 _
                exact ⟨rfl, N61⟩
  show Go _ _ _ (T6.setTop (mkF mi 135 #[.val (.int shp), .val (.long chs), .second, .val (.long dat), .second, .val (.int fsd), .val (.int tsd), .val (.int N), .val (.int sl0), .val (.int sl1), .val (.int sl2), .val (.int cx0), .val (.int cy0), .val (.int cx1), .val (.int cy1), .val (.int cx2), .val (.int cy2), .val (.ref so0), .val (.ref so1), .val (.ref so2), .unset, .unset, .unset, .unset, .unset, .unset, .unset, .unset, .unset, .unset] [])) _
  refine g_iload X6 hx hby at_135 rfl ?_
  by_cases hc137_9 : N = (0 : Int32)
  · refine g_ifNo X6 hx hby at_137 ((if0 _ _).trans (teq hc137_9).2) ?_
    refine g_iconst X6 hx hby at_140 (v := 0) rfl ?_
    obtain ⟨T66, h66, k66, X66, e66, E66, A66, EX66, O66, st66⟩ := own_newRE X6 hx hZ hown (hw _ (own_m 13 rfl)) (hw _ (own_m 14 rfl)) e6 (g := (mkF mi 141 #[.val (.int shp), .val (.long chs), .second, .val (.long dat), .second, .val (.int fsd), .val (.int tsd), .val (.int N), .val (.int sl0), .val (.int sl1), .val (.int sl2), .val (.int cx0), .val (.int cy0), .val (.int cx1), .val (.int cy1), .val (.int cx2), .val (.int cy2), .val (.ref so0), .val (.ref so1), .val (.ref so2), .unset, .unset, .unset, .unset, .unset, .unset, .unset, .unset, .unset, .unset] [(.int 0)])) rfl (hb hby at_141) rfl (by decide) (cap := 0) (by decide) (by decide) (by decide) (by decide) (ad := "[Ljava/lang/String;") (by decide)
    obtain ⟨ob66, g66⟩ : ∃ z, z = h6.size := ⟨_, rfl⟩
    rw [← g66] at A66 EX66 st66
    have Zs67 : n0 ≤ h66.size := Nat.le_trans Zs8 E66.1
    have ZK67 : kk ≤ h66.size := Nat.le_trans ZK0 E66.1
    have KC67 : Keep h6 h66 [] := (Keep.refl h6 []).ext E66
    have g_ob66 : n0 ≤ ob66 := Nat.le_trans Zs8 (Nat.le_of_eq g66.symm)
    have sz_ob66 : h6.size ≤ ob66 := Nat.le_trans (Keep.refl h6 []).1 (Nat.le_of_eq g66.symm)
    have V66 : Arv Z h66 ob66 k66 (.object "java/lang/String") (0 : Int32) [] .null := (Arv.new A66 (by decide)).pad (pad_rep [] .null 0)
    refine Go.st st66 ?_
    refine g_goto X66 hx hby at_144 (pc0 := 144) (pc' := 207) rfl (by decide) (by decide) ?_
    show Go _ _ _ (T66.setTop (mkF mi 207 #[.val (.int shp), .val (.long chs), .second, .val (.long dat), .second, .val (.int fsd), .val (.int tsd), .val (.int N), .val (.int sl0), .val (.int sl1), .val (.int sl2), .val (.int cx0), .val (.int cy0), .val (.int cx1), .val (.int cy1), .val (.int cx2), .val (.int cy2), .val (.ref so0), .val (.ref so1), .val (.ref so2), .unset, .unset, .unset, .unset, .unset, .unset, .unset, .unset, .unset, .unset] [(.ref ob66)])) _
    exact KJ _ _ _ ob66 k66 _ (X66.more (by decide) (by decide)) e66 N6 KC67 sz_ob66 g_ob66 (by rw [hc137_9]; exact V66) EX66 (fun q => absurd q (by rw [hc137_9]; decide)) (fun q => absurd q (by rw [hc137_9]; decide)) (fun q => absurd q (by rw [hc137_9]; decide))
  · refine g_ifYes X6 hx hby at_137 ((if0 _ _).trans (feq hc137_9).2) (pc0 := 137) (pc' := 147) rfl (by decide) (by decide) ?_
    refine g_iload X6 hx hby at_147 rfl ?_
    refine g_iconst X6 hx hby at_149 (v := 1) rfl ?_
    by_cases hc150_10 : N = (1 : Int32)
    · refine g_icmpNo X6 hx hby at_150 (teq hc150_10).2 ?_
      refine g_iconst X6 hx hby at_153 (v := 1) rfl ?_
      obtain ⟨T68, h68, k68, X68, e68, E68, A68, EX68, O68, st68⟩ := own_newRE X6 hx hZ hown (hw _ (own_m 13 rfl)) (hw _ (own_m 14 rfl)) e6 (g := (mkF mi 154 #[.val (.int shp), .val (.long chs), .second, .val (.long dat), .second, .val (.int fsd), .val (.int tsd), .val (.int N), .val (.int sl0), .val (.int sl1), .val (.int sl2), .val (.int cx0), .val (.int cy0), .val (.int cx1), .val (.int cy1), .val (.int cx2), .val (.int cy2), .val (.ref so0), .val (.ref so1), .val (.ref so2), .unset, .unset, .unset, .unset, .unset, .unset, .unset, .unset, .unset, .unset] [(.int 1)])) rfl (hb hby at_154) rfl (by decide) (cap := 1) (by decide) (by decide) (by decide) (by decide) (ad := "[Ljava/lang/String;") (by decide)
      obtain ⟨ob68, g68⟩ : ∃ z, z = h6.size := ⟨_, rfl⟩
      rw [← g68] at A68 EX68 st68
      have Zs69 : n0 ≤ h68.size := Nat.le_trans Zs8 E68.1
      have ZK69 : kk ≤ h68.size := Nat.le_trans ZK0 E68.1
      have KC69 : Keep h6 h68 [] := (Keep.refl h6 []).ext E68
      have g_ob68 : n0 ≤ ob68 := Nat.le_trans Zs8 (Nat.le_of_eq g68.symm)
      have sz_ob68 : h6.size ≤ ob68 := Nat.le_trans (Keep.refl h6 []).1 (Nat.le_of_eq g68.symm)
      have V68 : Arv Z h68 ob68 k68 (.object "java/lang/String") (1 : Int32) [.null] .null := (Arv.new A68 (by decide)).pad (pad_rep [] .null 1)
      refine Go.st st68 ?_
      refine g_dup X68 hx hby at_157 rfl ?_
      refine g_iconst X68 hx hby at_158 (v := 0) rfl ?_
      refine g_aload X68 hx hby at_159 rfl rfl ?_
      have ov70 := V68
      obtain ⟨cl70, Ar70, q70, S70, M70, H70, G70⟩ := ov70
      have hin70 : ¬ ((0 : Int32) < 0 ∨ cl70.slots.size ≤ ((0 : Int32)).toNatClampNeg) := inb_of S70 ⟨by decide, by decide⟩
      have f71 := (((A_1.keep K3).keep K6).ext E68)
      obtain ⟨T72, h72, X72, e72, W72, st72⟩ := stR X68 hx hZ e68 Ar70 (j := (0 : Int32)) hin70 rfl (Sto.ofV Ar70 q70 O68 (Ins.self f71)) (g := (mkF mi 161 #[.val (.int shp), .val (.long chs), .second, .val (.long dat), .second, .val (.int fsd), .val (.int tsd), .val (.int N), .val (.int sl0), .val (.int sl1), .val (.int sl2), .val (.int cx0), .val (.int cy0), .val (.int cx1), .val (.int cy1), .val (.int cx2), .val (.int cy2), .val (.ref so0), .val (.ref so1), .val (.ref so2), .unset, .unset, .unset, .unset, .unset, .unset, .unset, .unset, .unset, .unset] [(.ref so0), (.int 0), (.ref ob68), (.ref ob68)])) rfl rfl (hb hby at_161)
      have Zs73 : n0 ≤ h72.size := Nat.le_trans Zs69 (Keep.of_wr W72).1
      have ZK73 : kk ≤ h72.size := Nat.le_trans ZK69 (Keep.of_wr W72).1
      have KC73 : Keep h6 h72 [] := KC69.wr W72 (Or.inr sz_ob68)
      have N73 := Fr.snoc X72 N6 g_ob68
      have V72 : Arv Z h72 ob68 k68 (.object "java/lang/String") (1 : Int32) [(.ref so0)] .null := Arv.set Ar70 q70 S70 M70 H70 G70 rfl W72 0 rfl (Nat.le_of_ble_eq_true rfl)
      refine Go.st st72 ?_
      refine g_goto X72 hx hby at_162 (pc0 := 162) (pc' := 207) rfl (by decide) (by decide) ?_
      show Go _ _ _ (T72.setTop (mkF mi 207 #[.val (.int shp), .val (.long chs), .second, .val (.long dat), .second, .val (.int fsd), .val (.int tsd), .val (.int N), .val (.int sl0), .val (.int sl1), .val (.int sl2), .val (.int cx0), .val (.int cy0), .val (.int cx1), .val (.int cy1), .val (.int cx2), .val (.int cy2), .val (.ref so0), .val (.ref so1), .val (.ref so2), .unset, .unset, .unset, .unset, .unset, .unset, .unset, .unset, .unset, .unset] [(.ref ob68)])) _
      have f74 := (EX68.wr W72)
      exact KJ _ _ _ ob68 k68 _ (X72.more (by decide) (by decide)) e72 N73 KC73 sz_ob68 g_ob68 (by rw [hc150_10]; exact V72) f74 (fun _ => rfl) (fun q => absurd q (by rw [hc150_10]; decide)) (fun q => absurd q (by rw [hc150_10]; decide))
    · refine g_icmpYes X6 hx hby at_150 (feq hc150_10).2 (pc0 := 150) (pc' := 165) rfl (by decide) (by decide) ?_
      refine g_iload X6 hx hby at_165 rfl ?_
      refine g_iconst X6 hx hby at_167 (v := 2) rfl ?_
      by_cases hc168_11 : N = (2 : Int32)
      · refine g_icmpNo X6 hx hby at_168 (teq hc168_11).2 ?_
        refine g_iconst X6 hx hby at_171 (v := 2) rfl ?_
        obtain ⟨T75, h75, k75, X75, e75, E75, A75, EX75, O75, st75⟩ := own_newRE X6 hx hZ hown (hw _ (own_m 13 rfl)) (hw _ (own_m 14 rfl)) e6 (g := (mkF mi 172 #[.val (.int shp), .val (.long chs), .second, .val (.long dat), .second, .val (.int fsd), .val (.int tsd), .val (.int N), .val (.int sl0), .val (.int sl1), .val (.int sl2), .val (.int cx0), .val (.int cy0), .val (.int cx1), .val (.int cy1), .val (.int cx2), .val (.int cy2), .val (.ref so0), .val (.ref so1), .val (.ref so2), .unset, .unset, .unset, .unset, .unset, .unset, .unset, .unset, .unset, .unset] [(.int 2)])) rfl (hb hby at_172) rfl (by decide) (cap := 2) (by decide) (by decide) (by decide) (by decide) (ad := "[Ljava/lang/String;") (by decide)
        obtain ⟨ob75, g75⟩ : ∃ z, z = h6.size := ⟨_, rfl⟩
        rw [← g75] at A75 EX75 st75
        have Zs76 : n0 ≤ h75.size := Nat.le_trans Zs8 E75.1
        have ZK76 : kk ≤ h75.size := Nat.le_trans ZK0 E75.1
        have KC76 : Keep h6 h75 [] := (Keep.refl h6 []).ext E75
        have g_ob75 : n0 ≤ ob75 := Nat.le_trans Zs8 (Nat.le_of_eq g75.symm)
        have sz_ob75 : h6.size ≤ ob75 := Nat.le_trans (Keep.refl h6 []).1 (Nat.le_of_eq g75.symm)
        have V75 : Arv Z h75 ob75 k75 (.object "java/lang/String") (2 : Int32) [.null, .null] .null := (Arv.new A75 (by decide)).pad (pad_rep [] .null 2)
        refine Go.st st75 ?_
        refine g_dup X75 hx hby at_175 rfl ?_
        refine g_iconst X75 hx hby at_176 (v := 0) rfl ?_
        refine g_aload X75 hx hby at_177 rfl rfl ?_
        have ov77 := V75
        obtain ⟨cl77, Ar77, q77, S77, M77, H77, G77⟩ := ov77
        have hin77 : ¬ ((0 : Int32) < 0 ∨ cl77.slots.size ≤ ((0 : Int32)).toNatClampNeg) := inb_of S77 ⟨by decide, by decide⟩
        have f78 := (((A_1.keep K3).keep K6).ext E75)
        obtain ⟨T79, h79, X79, e79, W79, st79⟩ := stR X75 hx hZ e75 Ar77 (j := (0 : Int32)) hin77 rfl (Sto.ofV Ar77 q77 O75 (Ins.self f78)) (g := (mkF mi 179 #[.val (.int shp), .val (.long chs), .second, .val (.long dat), .second, .val (.int fsd), .val (.int tsd), .val (.int N), .val (.int sl0), .val (.int sl1), .val (.int sl2), .val (.int cx0), .val (.int cy0), .val (.int cx1), .val (.int cy1), .val (.int cx2), .val (.int cy2), .val (.ref so0), .val (.ref so1), .val (.ref so2), .unset, .unset, .unset, .unset, .unset, .unset, .unset, .unset, .unset, .unset] [(.ref so0), (.int 0), (.ref ob75), (.ref ob75)])) rfl rfl (hb hby at_179)
        have Zs80 : n0 ≤ h79.size := Nat.le_trans Zs76 (Keep.of_wr W79).1
        have ZK80 : kk ≤ h79.size := Nat.le_trans ZK76 (Keep.of_wr W79).1
        have KC80 : Keep h6 h79 [] := KC76.wr W79 (Or.inr sz_ob75)
        have N80 := Fr.snoc X79 N6 g_ob75
        have V79 : Arv Z h79 ob75 k75 (.object "java/lang/String") (2 : Int32) [(.ref so0), .null] .null := Arv.set Ar77 q77 S77 M77 H77 G77 rfl W79 0 rfl (Nat.le_of_ble_eq_true rfl)
        refine Go.st st79 ?_
        refine g_dup X79 hx hby at_180 rfl ?_
        refine g_iconst X79 hx hby at_181 (v := 1) rfl ?_
        refine g_aload X79 hx hby at_182 rfl rfl ?_
        have ov81 := V79
        obtain ⟨cl81, Ar81, q81, S81, M81, H81, G81⟩ := ov81
        have hin81 : ¬ ((1 : Int32) < 0 ∨ cl81.slots.size ≤ ((1 : Int32)).toNatClampNeg) := inb_of S81 ⟨by decide, by decide⟩
        have f82 := (((A_3.keep K6).ext E75).wr W79)
        obtain ⟨T83, h83, X83, e83, W83, st83⟩ := stR X79 hx hZ e79 Ar81 (j := (1 : Int32)) hin81 rfl (Sto.ofV Ar81 q81 O75 (Ins.self f82)) (g := (mkF mi 184 #[.val (.int shp), .val (.long chs), .second, .val (.long dat), .second, .val (.int fsd), .val (.int tsd), .val (.int N), .val (.int sl0), .val (.int sl1), .val (.int sl2), .val (.int cx0), .val (.int cy0), .val (.int cx1), .val (.int cy1), .val (.int cx2), .val (.int cy2), .val (.ref so0), .val (.ref so1), .val (.ref so2), .unset, .unset, .unset, .unset, .unset, .unset, .unset, .unset, .unset, .unset] [(.ref so1), (.int 1), (.ref ob75), (.ref ob75)])) rfl rfl (hb hby at_184)
        have Zs84 : n0 ≤ h83.size := Nat.le_trans Zs80 (Keep.of_wr W83).1
        have ZK84 : kk ≤ h83.size := Nat.le_trans ZK80 (Keep.of_wr W83).1
        have KC84 : Keep h6 h83 [] := KC80.wr W83 (Or.inr sz_ob75)
        have N84 := Fr.snoc X83 N80 g_ob75
        have V83 : Arv Z h83 ob75 k75 (.object "java/lang/String") (2 : Int32) [(.ref so0), (.ref so1)] .null := Arv.set Ar81 q81 S81 M81 H81 G81 rfl W83 1 rfl (Nat.le_of_ble_eq_true rfl)
        refine Go.st st83 ?_
        refine g_goto X83 hx hby at_185 (pc0 := 185) (pc' := 207) rfl (by decide) (by decide) ?_
        show Go _ _ _ (T83.setTop (mkF mi 207 #[.val (.int shp), .val (.long chs), .second, .val (.long dat), .second, .val (.int fsd), .val (.int tsd), .val (.int N), .val (.int sl0), .val (.int sl1), .val (.int sl2), .val (.int cx0), .val (.int cy0), .val (.int cx1), .val (.int cy1), .val (.int cx2), .val (.int cy2), .val (.ref so0), .val (.ref so1), .val (.ref so2), .unset, .unset, .unset, .unset, .unset, .unset, .unset, .unset, .unset, .unset] [(.ref ob75)])) _
        have f85 := ((EX75.wr W79).wr W83)
        exact KJ _ _ _ ob75 k75 _ (X83.more (by decide) (by decide)) e83 N84 KC84 sz_ob75 g_ob75 (by rw [hc168_11]; exact V83) f85 (fun _ => rfl) (fun _ => rfl) (fun q => absurd q (by rw [hc168_11]; decide))
      · refine g_icmpYes X6 hx hby at_168 (feq hc168_11).2 (pc0 := 168) (pc' := 188) rfl (by decide) (by decide) ?_
        refine g_iconst X6 hx hby at_188 (v := 3) rfl ?_
        obtain ⟨T86, h86, k86, X86, e86, E86, A86, EX86, O86, st86⟩ := own_newRE X6 hx hZ hown (hw _ (own_m 13 rfl)) (hw _ (own_m 14 rfl)) e6 (g := (mkF mi 189 #[.val (.int shp), .val (.long chs), .second, .val (.long dat), .second, .val (.int fsd), .val (.int tsd), .val (.int N), .val (.int sl0), .val (.int sl1), .val (.int sl2), .val (.int cx0), .val (.int cy0), .val (.int cx1), .val (.int cy1), .val (.int cx2), .val (.int cy2), .val (.ref so0), .val (.ref so1), .val (.ref so2), .unset, .unset, .unset, .unset, .unset, .unset, .unset, .unset, .unset, .unset] [(.int 3)])) rfl (hb hby at_189) rfl (by decide) (cap := 3) (by decide) (by decide) (by decide) (by decide) (ad := "[Ljava/lang/String;") (by decide)
        obtain ⟨ob86, g86⟩ : ∃ z, z = h6.size := ⟨_, rfl⟩
        rw [← g86] at A86 EX86 st86
        have Zs87 : n0 ≤ h86.size := Nat.le_trans Zs8 E86.1
        have ZK87 : kk ≤ h86.size := Nat.le_trans ZK0 E86.1
        have KC87 : Keep h6 h86 [] := (Keep.refl h6 []).ext E86
        have g_ob86 : n0 ≤ ob86 := Nat.le_trans Zs8 (Nat.le_of_eq g86.symm)
        have sz_ob86 : h6.size ≤ ob86 := Nat.le_trans (Keep.refl h6 []).1 (Nat.le_of_eq g86.symm)
        have V86 : Arv Z h86 ob86 k86 (.object "java/lang/String") (3 : Int32) [.null, .null, .null] .null := (Arv.new A86 (by decide)).pad (pad_rep [] .null 3)
        refine Go.st st86 ?_
        refine g_dup X86 hx hby at_192 rfl ?_
        refine g_iconst X86 hx hby at_193 (v := 0) rfl ?_
        refine g_aload X86 hx hby at_194 rfl rfl ?_
        have ov88 := V86
        obtain ⟨cl88, Ar88, q88, S88, M88, H88, G88⟩ := ov88
        have hin88 : ¬ ((0 : Int32) < 0 ∨ cl88.slots.size ≤ ((0 : Int32)).toNatClampNeg) := inb_of S88 ⟨by decide, by decide⟩
        have f89 := (((A_1.keep K3).keep K6).ext E86)
        obtain ⟨T90, h90, X90, e90, W90, st90⟩ := stR X86 hx hZ e86 Ar88 (j := (0 : Int32)) hin88 rfl (Sto.ofV Ar88 q88 O86 (Ins.self f89)) (g := (mkF mi 196 #[.val (.int shp), .val (.long chs), .second, .val (.long dat), .second, .val (.int fsd), .val (.int tsd), .val (.int N), .val (.int sl0), .val (.int sl1), .val (.int sl2), .val (.int cx0), .val (.int cy0), .val (.int cx1), .val (.int cy1), .val (.int cx2), .val (.int cy2), .val (.ref so0), .val (.ref so1), .val (.ref so2), .unset, .unset, .unset, .unset, .unset, .unset, .unset, .unset, .unset, .unset] [(.ref so0), (.int 0), (.ref ob86), (.ref ob86)])) rfl rfl (hb hby at_196)
        have Zs91 : n0 ≤ h90.size := Nat.le_trans Zs87 (Keep.of_wr W90).1
        have ZK91 : kk ≤ h90.size := Nat.le_trans ZK87 (Keep.of_wr W90).1
        have KC91 : Keep h6 h90 [] := KC87.wr W90 (Or.inr sz_ob86)
        have N91 := Fr.snoc X90 N6 g_ob86
        have V90 : Arv Z h90 ob86 k86 (.object "java/lang/String") (3 : Int32) [(.ref so0), .null, .null] .null := Arv.set Ar88 q88 S88 M88 H88 G88 rfl W90 0 rfl (Nat.le_of_ble_eq_true rfl)
        refine Go.st st90 ?_
        refine g_dup X90 hx hby at_197 rfl ?_
        refine g_iconst X90 hx hby at_198 (v := 1) rfl ?_
        refine g_aload X90 hx hby at_199 rfl rfl ?_
        have ov92 := V90
        obtain ⟨cl92, Ar92, q92, S92, M92, H92, G92⟩ := ov92
        have hin92 : ¬ ((1 : Int32) < 0 ∨ cl92.slots.size ≤ ((1 : Int32)).toNatClampNeg) := inb_of S92 ⟨by decide, by decide⟩
        have f93 := (((A_3.keep K6).ext E86).wr W90)
        obtain ⟨T94, h94, X94, e94, W94, st94⟩ := stR X90 hx hZ e90 Ar92 (j := (1 : Int32)) hin92 rfl (Sto.ofV Ar92 q92 O86 (Ins.self f93)) (g := (mkF mi 201 #[.val (.int shp), .val (.long chs), .second, .val (.long dat), .second, .val (.int fsd), .val (.int tsd), .val (.int N), .val (.int sl0), .val (.int sl1), .val (.int sl2), .val (.int cx0), .val (.int cy0), .val (.int cx1), .val (.int cy1), .val (.int cx2), .val (.int cy2), .val (.ref so0), .val (.ref so1), .val (.ref so2), .unset, .unset, .unset, .unset, .unset, .unset, .unset, .unset, .unset, .unset] [(.ref so1), (.int 1), (.ref ob86), (.ref ob86)])) rfl rfl (hb hby at_201)
        have Zs95 : n0 ≤ h94.size := Nat.le_trans Zs91 (Keep.of_wr W94).1
        have ZK95 : kk ≤ h94.size := Nat.le_trans ZK91 (Keep.of_wr W94).1
        have KC95 : Keep h6 h94 [] := KC91.wr W94 (Or.inr sz_ob86)
        have N95 := Fr.snoc X94 N91 g_ob86
        have V94 : Arv Z h94 ob86 k86 (.object "java/lang/String") (3 : Int32) [(.ref so0), (.ref so1), .null] .null := Arv.set Ar92 q92 S92 M92 H92 G92 rfl W94 1 rfl (Nat.le_of_ble_eq_true rfl)
        refine Go.st st94 ?_
        refine g_dup X94 hx hby at_202 rfl ?_
        refine g_iconst X94 hx hby at_203 (v := 2) rfl ?_
        refine g_aload X94 hx hby at_204 rfl rfl ?_
        have ov96 := V94
        obtain ⟨cl96, Ar96, q96, S96, M96, H96, G96⟩ := ov96
        have hin96 : ¬ ((2 : Int32) < 0 ∨ cl96.slots.size ≤ ((2 : Int32)).toNatClampNeg) := inb_of S96 ⟨by decide, by decide⟩
        have f97 := (((A_6.ext E86).wr W90).wr W94)
        obtain ⟨T98, h98, X98, e98, W98, st98⟩ := stR X94 hx hZ e94 Ar96 (j := (2 : Int32)) hin96 rfl (Sto.ofV Ar96 q96 O86 (Ins.self f97)) (g := (mkF mi 206 #[.val (.int shp), .val (.long chs), .second, .val (.long dat), .second, .val (.int fsd), .val (.int tsd), .val (.int N), .val (.int sl0), .val (.int sl1), .val (.int sl2), .val (.int cx0), .val (.int cy0), .val (.int cx1), .val (.int cy1), .val (.int cx2), .val (.int cy2), .val (.ref so0), .val (.ref so1), .val (.ref so2), .unset, .unset, .unset, .unset, .unset, .unset, .unset, .unset, .unset, .unset] [(.ref so2), (.int 2), (.ref ob86), (.ref ob86)])) rfl rfl (hb hby at_206)
        have Zs99 : n0 ≤ h98.size := Nat.le_trans Zs95 (Keep.of_wr W98).1
        have ZK99 : kk ≤ h98.size := Nat.le_trans ZK95 (Keep.of_wr W98).1
        have KC99 : Keep h6 h98 [] := KC95.wr W98 (Or.inr sz_ob86)
        have N99 := Fr.snoc X98 N95 g_ob86
        have V98 : Arv Z h98 ob86 k86 (.object "java/lang/String") (3 : Int32) [(.ref so0), (.ref so1), (.ref so2)] .null := Arv.set Ar96 q96 S96 M96 H96 G96 rfl W98 2 rfl (Nat.le_of_ble_eq_true rfl)
        refine Go.st st98 ?_
        show Go _ _ _ (T98.setTop (mkF mi 207 #[.val (.int shp), .val (.long chs), .second, .val (.long dat), .second, .val (.int fsd), .val (.int tsd), .val (.int N), .val (.int sl0), .val (.int sl1), .val (.int sl2), .val (.int cx0), .val (.int cy0), .val (.int cx1), .val (.int cy1), .val (.int cx2), .val (.int cy2), .val (.ref so0), .val (.ref so1), .val (.ref so2), .unset, .unset, .unset, .unset, .unset, .unset, .unset, .unset, .unset, .unset] [(.ref ob86)])) _
        have hc3 := own_N3 hN hN3 hc137_9 hc150_10 hc168_11
        have f100 := (((EX86.wr W90).wr W94).wr W98)
        exact KJ _ _ _ ob86 k86 _ (X98.more (by decide) (by decide)) e98 N99 KC99 sz_ob86 g_ob86 (by rw [hc3]; exact V98) f100 (fun _ => rfl) (fun _ => rfl) (fun _ => rfl)
set_option maxRecDepth 65536 in
set_option maxHeartbeats 40000000 in
theorem comes_1 {Post : Tables → Env → Array Value → State → Outcome → State → Prop} (hpost : ∀ tb e args s v u, (limb_1_1.after args s (.returned v) u = true ∧ limb_1_2.after args s (.returned v) u = true ∧ True) → ReturnedEndW s (.returned v) u (Jvm.fieldLocs frame_1_writes args s ++ Jvm.arrayLocs frame_1_arrays args s ++ Jvm.staticLocs frame_1_statics s) 64 1280 → Post tb e args s (.returned v) u) :
    ArmFor flags0 classFile x code maxLocals ret World_1 tables_1 room_1 Calls_1 rest_1 Pre_1 Post := by
  intro l hfl _ _ p e ha hc hk s m args below hf hA hF happ hP
  obtain ⟨hcalls, hrest, hpre⟩ := hP
  obtain ⟨-, -, -, hnamed, -, -, -, hat⟩ := (Spec.applies_iff hf).mp happ
  obtain ⟨hg, hn⟩ := and_e (Cond.before_iff.mp (show (Jvm.Cond.and given_1 narrow_1).before args s = true from hpre))
  obtain ⟨g1, g2⟩ := and_e hg
  obtain ⟨g3, g4⟩ := and_e g2
  obtain ⟨g5, g6⟩ := and_e g4
  obtain ⟨g7, g8⟩ := and_e g6
  obtain ⟨g9, g10⟩ := and_e g8
  obtain ⟨w0, w1, w2, w3, w4, rfl⟩ : ∃ w0 w1 w2 w3 w4 : Value, args = #[w0, w1, w2, w3, w4] := by
    have hs : args.size = 5 := by simpa [Cond.value, given_1] using g1
    obtain ⟨L⟩ := args
    match L, hs with
    | [w0, w1, w2, w3, w4], _ => exact ⟨w0, w1, w2, w3, w4, rfl⟩
  have hw := fun d (hd : d ∈ tables_1) => atoms_spec (ws := Jvm.Cond.code x code maxLocals ret :: tables_1) hat d (List.mem_cons_of_mem _ hd)
  have hfit : Fit s := fun {y c} hc i hi => by
    obtain ⟨ha, rfl⟩ := Array.getElem?_eq_some_iff.mp hc
    have q := List.all_eq_true.mp ((Array.all_eq_true_iff_forall_mem.mp hF) _ (Array.getElem_mem ha)) i (List.mem_range.mpr hi)
    simpa [Array.getElem?_eq_getElem hi] using q
  obtain ⟨hsets, hown0⟩ := atoms_of _ (rest_1_c_eq ▸ (show rest_1_c.before _ s = true from hrest))
  have hr0 := Cond.before_iff.mp hown0
  obtain ⟨i0, ei0⟩ := is_v g3
  obtain rfl : w0 = (.int i0) := Option.some.inj ei0
  obtain ⟨i1, ei1⟩ := isL_v g5
  obtain rfl : w1 = (.long i1) := Option.some.inj ei1
  obtain ⟨i2, ei2⟩ := isL_v g7
  obtain rfl : w2 = (.long i2) := Option.some.inj ei2
  obtain ⟨i3, ei3⟩ := is_v g9
  obtain rfl : w3 = (.int i3) := Option.some.inj ei3
  obtain ⟨i4, ei4⟩ := is_v g10
  obtain rfl : w4 = (.int i4) := Option.some.inj ei4
  obtain ⟨cz, ecz⟩ := is_v (Cond.before_iff.mp (hsets _ (own_m 7 rfl)))
  have SC : Sta s s.heap "java/lang/String" "COMPACT_STRINGS" "Z" (.int cz) := Sta.start ecz (Or.inl (hsets _ (own_m 6 rfl)))
  have n5 := not_v (Cond.before_iff.mp (hsets _ (own_m 8 rfl)))
  have hcz : ¬ (cz = (0 : Int32)) := gotF (Cond.eq_ints ecz (Term.int_eval (0))) n5
  obtain ⟨cs, -, -, -, u1, -⟩ := Cond.exactly_spec (hsets _ (own_m 5 rfl))
  obtain ⟨cu, -, -, -, u2, -⟩ := Cond.exactly_spec (hsets _ (own_m 17 rfl))
  have u3 := gotT (eq_R u1 u2 rfl rfl) (Cond.before_iff.mp (hsets _ (own_m 4 rfl)))
  cases u3
  have S1 : Sta s s.heap "java/nio/charset/StandardCharsets" "UTF_8" "Ljava/nio/charset/Charset;" (.ref cs) := Sta.start u1 (Or.inl (hsets _ (own_m 1 rfl)))
  have S2 : Sta s s.heap "sun/nio/cs/UTF_8" "INSTANCE" "Lsun/nio/cs/UTF_8;" (.ref cs) := Sta.start u2 (Or.inl (hsets _ (own_m 3 rfl)))
  have hEL : EW s _ own_EL := EW.cons (hw _ (own_m 5 rfl)) (by decide) EW.nil
  obtain ⟨n, o, h1, h2, h3, _, L, rfl, ⟨rfl, N⟩, hq⟩ := rm0 l s _ hw tables_1 i0 i1 i2 i3 i4 cz cs s.heap s.heap.size (Nat.le_refl _) hEL SC hcz S1 S2 p e ha hc hk s m _ below hf ((Spec.applies_iff_loose hf).mp happ).1 ⟨rfl, State.Warmed39.refl s, rfl, CHv.start hEL (fun p hp => by cases List.mem_singleton.mp hp; exact hcalls.1 ("com/example/crossbook/crossbook/venue/TextsIndexOfPinLaw", 31) (by simp [consts_1])) (hsets _ (own_m 8 rfl)) (hw _ (own_m 8 rfl)) (hw _ (own_m 7 rfl))⟩ trivial
  refine ⟨n, _, h1, h2, h3, hpost _ _ _ _ _ _ ⟨Cond.after_iff.mpr rfl, Cond.after_iff.mpr (eq_i res_at (Term.int_eval (1)) rfl), trivial⟩ ⟨hq.1, hq.2.1, hq.2.2.1, (hq.2.2.2.sift fun y hy => Or.inr (N y hy)).mono (by decide) (by decide)⟩⟩
theorem main_1_1 : Claimed_1_1 := comes_1 fun _ _ _ _ _ _ h hF => ⟨h.1, hF⟩
theorem main_1_2 : Claimed_1_2 := comes_1 fun _ _ _ _ _ _ h hF => ⟨h.2.1, hF⟩
end Jvm.Pilot.@@N@@
namespace Jvm.Pilot.@@N@@
open Jvm Jvm.ClassFile Sem Op Lib Jvm.Free Jvm.Stand Jvm.Pilot.@@N@@.Jvm.D
/-! MADE BY PROGRAM (witnessworld.py) out of the Statement's table words and the real class files: 30 classes; the members and pool entries that the words name. The judged class is class 1, her method 1. -/
namespace start1
open Jvm.ClassFile
def u (s : String) : CpInfo := .utf8 (stringToUtf16 s)
/-- a pool by its gaps: so many unusable entries, then the entry; so many at the end -/
def gap : Nat → List CpInfo → List CpInfo
  | 0, r => r
  | n + 1, r => .unusable :: gap n r
def poolList (es : List (Nat × CpInfo)) (last : Nat) : List CpInfo := es.foldr (fun e r => gap e.1 (e.2 :: r)) (gap last [])
def pool (es : List (Nat × CpInfo)) (last : Nat) : Array CpInfo := ⟨poolList es last⟩
def fileOf (pool : Array CpInfo) (this : Nat) (attrs : Array Attribute := #[]) (ms : Array MethodInfo := #[]) (fl : Nat := 33) (sup : Nat := 0) (ifs : Array Nat := #[]) (fds : Array FieldInfo := #[]) : ClassFile where
  minorVersion := 0
  majorVersion := 65
  constantPool := pool
  accessFlags := fl
  thisClass := this
  superClass := sup
  interfaces := ifs
  fields := fds
  methods := ms
  attributes := attrs
def plain (name : String) (sup : Option ClassId) : Class where
  name := name
  kind := .ordinary
  loader := none
  accessFlags := 33
  super := sup
  interfaces := #[]
  cf := none
  fields := #[]
  methods := #[]
  instanceTypes := #[]
  staticTypes := #[]
  resolved := #[]
  callSites := []
  init := .initialized
  statics := none
  mirror := none

def pool0 : Array CpInfo := pool [(5, u "<init>"), (0, u "()V"), (1, .class_ 10), (1, u "java/lang/Object"), (85, u "clone"), (0, u "()Ljava/lang/Object;")] 26

def k0c0 : Code := { maxStack := 0, maxLocals := 1, code := object_method_1_code, exceptionTable := #[], attributes := #[] }
def k0m0 : Method := { name := "<init>", desc := "()V", sig := { parameters := [], returnType := none }, accessFlags := 1, code := some k0c0 }
def k0m1 : Method := { name := "clone", desc := "()Ljava/lang/Object;", sig := { parameters := [], returnType := some (.object "java/lang/Object") }, accessFlags := 260, code := none }
/-- java/lang/Object -/
def k0 : Class := { plain "java/lang/Object" none with
  accessFlags := 33
  interfaces := #[]
  cf := some (fileOf pool0 8 #[] #[{ accessFlags := 1, nameIndex := 5, descriptorIndex := 6, attributes := #[] }, { accessFlags := 260, nameIndex := 96, descriptorIndex := 97, attributes := #[] }] 33 0 #[] #[])
  fields := #[]
  methods := #[k0m0, k0m1]
  instanceTypes := #[]
  staticTypes := #[]
  resolved := Array.replicate 124 none
  statics := none }

def pool1 : Array CpInfo := pool [(2, .class_ 4), (1, u "java/lang/Object"), (0, u "<init>"), (0, u "()V"), (0, .long 255), (1, .methodref 10 11), (0, .class_ 12), (0, .nameAndType 13 14), (0, u "com/example/crossbook/crossbook/venue/TextsIndexOfPinLaw"), (0, u "text"), (0, u "(ICC)Ljava/lang/String;"), (0, .class_ 16), (0, u "java/lang/String"), (0, .integer 2147483647), (0, .class_ 19), (0, u "com/example/crossbook/crossbook/venue/JsonFields$Texts"), (0, .methodref 18 21), (0, .nameAndType 5 22), (0, u "([Ljava/lang/String;)V"), (0, .methodref 18 24), (0, .nameAndType 25 26), (0, u "indexOf"), (0, u "([BII)I"), (0, .methodref 10 28), (0, .nameAndType 29 30), (0, u "matches"), (0, u "(ICC[BII)Z"), (0, .string 32), (0, u ""), (0, .methodref 15 34), (0, .nameAndType 35 36), (0, u "valueOf"), (0, u "(C)Ljava/lang/String;"), (0, .methodref 15 38), (0, .nameAndType 5 39), (0, u "([C)V"), (0, .methodref 10 41), (0, .nameAndType 42 43), (0, u "put"), (0, u "([BIC)I"), (2, u "law"), (0, u "(IJJII)Z")] 11

def k1m0 : Method := { name := "<init>", desc := "()V", sig := { parameters := [], returnType := none }, accessFlags := 1, code := none }
def k1c1 : Code := { maxStack := 6, maxLocals := 30, code := code, exceptionTable := #[], attributes := #[] }
def k1m1 : Method := { name := "law", desc := "(IJJII)Z", sig := { parameters := [.int, .long, .long, .int, .int], returnType := some .boolean }, accessFlags := 9, code := some k1c1 }
def k1c2 : Code := { maxStack := 6, maxLocals := 3, code := method_3_code, exceptionTable := #[], attributes := #[] }
def k1m2 : Method := { name := "text", desc := "(ICC)Ljava/lang/String;", sig := { parameters := [.int, .char, .char], returnType := some (.object "java/lang/String") }, accessFlags := 10, code := some k1c2 }
def k1c3 : Code := { maxStack := 5, maxLocals := 3, code := method_4_code, exceptionTable := #[], attributes := #[] }
def k1m3 : Method := { name := "put", desc := "([BIC)I", sig := { parameters := [(.array .byte), .int, .char], returnType := some .int }, accessFlags := 10, code := some k1c3 }
def k1c4 : Code := { maxStack := 4, maxLocals := 8, code := method_5_code, exceptionTable := #[], attributes := #[] }
def k1m4 : Method := { name := "matches", desc := "(ICC[BII)Z", sig := { parameters := [.int, .char, .char, (.array .byte), .int, .int], returnType := some .boolean }, accessFlags := 10, code := some k1c4 }
/-- com/example/crossbook/crossbook/venue/TextsIndexOfPinLaw -/
def k1 : Class := { plain "com/example/crossbook/crossbook/venue/TextsIndexOfPinLaw" (some 0) with
  accessFlags := 49
  interfaces := #[]
  cf := some (fileOf pool1 10 #[] #[{ accessFlags := 1, nameIndex := 5, descriptorIndex := 6, attributes := #[] }, { accessFlags := 9, nameIndex := 46, descriptorIndex := 47, attributes := #[] }, { accessFlags := 10, nameIndex := 13, descriptorIndex := 14, attributes := #[] }, { accessFlags := 10, nameIndex := 42, descriptorIndex := 43, attributes := #[] }, { accessFlags := 10, nameIndex := 29, descriptorIndex := 30, attributes := #[] }] 49 2 #[] #[])
  fields := #[]
  methods := #[k1m0, k1m1, k1m2, k1m3, k1m4]
  instanceTypes := #[]
  staticTypes := #[]
  resolved := Array.replicate 59 none
  statics := none }

def pool2 : Array CpInfo := pool [(1, .class_ 2), (0, u "java/io/Serializable"), (0, .class_ 4), (0, u "java/lang/Object")] 2

/-- java/io/Serializable -/
def k2 : Class := { plain "java/io/Serializable" (some 0) with
  accessFlags := 1537
  interfaces := #[]
  cf := some (fileOf pool2 1 #[] #[] 1537 3 #[] #[])
  fields := #[]
  methods := #[]
  instanceTypes := #[]
  staticTypes := #[]
  resolved := Array.replicate 7 none
  statics := none }

def pool3 : Array CpInfo := pool [(1, .class_ 2), (0, u "java/lang/Comparable"), (0, .class_ 4), (0, u "java/lang/Object")] 7

/-- java/lang/Comparable -/
def k3 : Class := { plain "java/lang/Comparable" (some 0) with
  accessFlags := 1537
  interfaces := #[]
  cf := some (fileOf pool3 1 #[] #[] 1537 3 #[] #[])
  fields := #[]
  methods := #[]
  instanceTypes := #[]
  staticTypes := #[]
  resolved := Array.replicate 12 none
  statics := none }

def pool4 : Array CpInfo := pool [(2, .class_ 4), (1, u "java/lang/CharSequence"), (42, .class_ 48), (0, u "java/lang/CharSequence$1CodePointIterator"), (10, .class_ 60), (0, u "java/lang/CharSequence$1CharIterator"), (5, .class_ 67), (0, u "java/lang/Object")] 63

/-- java/lang/CharSequence -/
def k4 : Class := { plain "java/lang/CharSequence" (some 0) with
  accessFlags := 1537
  interfaces := #[]
  cf := some (fileOf pool4 2 #[.nestMembers #[47, 59]] #[] 1537 66 #[] #[])
  fields := #[]
  methods := #[]
  instanceTypes := #[]
  staticTypes := #[]
  resolved := Array.replicate 131 none
  statics := none }

def pool5 : Array CpInfo := pool [(1, .class_ 2), (0, u "java/lang/constant/Constable"), (0, .class_ 4), (0, u "java/lang/Object")] 6

/-- java/lang/constant/Constable -/
def k5 : Class := { plain "java/lang/constant/Constable" (some 0) with
  accessFlags := 1537
  interfaces := #[]
  cf := some (fileOf pool5 1 #[] #[] 1537 3 #[] #[])
  fields := #[]
  methods := #[]
  instanceTypes := #[]
  staticTypes := #[]
  resolved := Array.replicate 11 none
  statics := none }

def pool6 : Array CpInfo := pool [(1, .class_ 2), (0, u "java/lang/constant/ConstantDesc"), (0, .class_ 4), (0, u "java/lang/Object")] 32

/-- java/lang/constant/ConstantDesc -/
def k6 : Class := { plain "java/lang/constant/ConstantDesc" (some 0) with
  accessFlags := 1537
  interfaces := #[]
  cf := some (fileOf pool6 1 #[] #[] 1537 3 #[] #[])
  fields := #[]
  methods := #[]
  instanceTypes := #[]
  staticTypes := #[]
  resolved := Array.replicate 37 none
  statics := none }

def pool7 : Array CpInfo := pool [(1, .methodref 2 3), (0, .class_ 4), (0, .nameAndType 5 6), (0, u "java/lang/Object"), (0, u "<init>"), (0, u "()V"), (2, .fieldref 10 11), (0, .class_ 12), (0, .nameAndType 13 14), (0, u "java/lang/String"), (0, u "value"), (0, u "[B"), (0, .fieldref 10 16), (0, .nameAndType 17 18), (0, u "coder"), (0, u "B"), (2, u "hash"), (0, u "I"), (2, u "hashIsZero"), (0, u "Z"), (0, .methodref 10 28), (0, .nameAndType 5 29), (0, u "([CIILjava/lang/Void;)V"), (8, .fieldref 10 39), (0, .nameAndType 40 26), (0, u "COMPACT_STRINGS"), (1, .class_ 44), (1, u "java/lang/StringUTF16"), (0, u "compress"), (1, .methodref 42 48), (0, .nameAndType 49 50), (0, u "coderFromArrayLen"), (0, u "([BI)B"), (2, u "toBytes"), (1, .class_ 57), (1, u "java/util/Arrays"), (2, .methodref 42 61), (0, .nameAndType 62 63), (0, u "newBytesFor"), (0, u "(I)[B"), (22, .fieldref 87 88), (0, .class_ 89), (0, .nameAndType 90 91), (0, u "sun/nio/cs/UTF_8"), (0, u "INSTANCE"), (0, u "Lsun/nio/cs/UTF_8;"), (1, .class_ 95), (1, u "java/lang/StringCoding"), (6, .methodref 55 103), (0, .nameAndType 104 105), (0, u "copyOf"), (0, u "([BI)[B"), (1, .class_ 109), (1, u "java/lang/StringLatin1"), (18, .methodref 93 129), (0, .nameAndType 130 131), (0, u "hasNegatives"), (0, u "([BII)Z"), (45, .methodref 42 178), (0, .nameAndType 45 179), (0, u "([CII)[B"), (29, .methodref 10 210), (0, .nameAndType 5 211), (0, u "([BB)V"), (40, .methodref 10 253), (0, .nameAndType 254 255), (0, u "encodeUTF8"), (0, u "(B[BZ)[B"), (23, .methodref 280 281), (0, .class_ 14), (0, .nameAndType 282 283), (0, u "clone"), (0, u "()Ljava/lang/Object;"), (33, u "encode"), (17, .methodref 10 336), (0, .nameAndType 17 337), (0, u "()B"), (31, u "(C)Z"), (162, u "getBytes"), (2, .methodref 10 536), (0, .nameAndType 317 537), (0, u "(Ljava/nio/charset/Charset;B[B)[B"), (37, .class_ 576), (0, u "java/lang/CharSequence"), (22, u "CASE_INSENSITIVE_ORDER"), (0, u "Ljava/util/Comparator;"), (181, u "valueOf"), (0, u "(C)Ljava/lang/String;"), (226, u "([C)V"), (4, .methodref 107 1016), (0, .nameAndType 1017 369), (0, u "canEncode"), (0, .methodref 107 1019), (0, .nameAndType 53 1020), (0, u "(C)[B"), (80, u "serialPersistentFields"), (0, u "[Ljava/io/ObjectStreamField;"), (0, .class_ 1104), (0, u "java/lang/String$CaseInsensitiveComparator"), (1, .class_ 1107), (0, u "java/io/Serializable"), (0, .class_ 1109), (0, u "java/lang/Comparable"), (0, .class_ 1111), (0, u "java/lang/constant/Constable"), (0, .class_ 1113), (0, u "java/lang/constant/ConstantDesc"), (2, u "serialVersionUID"), (0, u "J"), (3, u "REPL"), (0, u "C"), (2, u "LATIN1"), (1, u "UTF16"), (117, u "(Ljava/nio/charset/Charset;)[B")] 205

def k7m0 : Method := { name := "<init>", desc := "()V", sig := { parameters := [], returnType := none }, accessFlags := 1, code := none }
def k7c1 : Code := { maxStack := 5, maxLocals := 2, code := jdk_42_method_3_code, exceptionTable := #[], attributes := #[] }
def k7m1 : Method := { name := "<init>", desc := "([C)V", sig := { parameters := [(.array .char)], returnType := none }, accessFlags := 1, code := some k7c1 }
def k7c2 : Code := { maxStack := 4, maxLocals := 3, code := jdk_42_method_18_code, exceptionTable := #[], attributes := #[] }
def k7m2 : Method := { name := "encode", desc := "(Ljava/nio/charset/Charset;B[B)[B", sig := { parameters := [(.object "java/nio/charset/Charset"), .byte, (.array .byte)], returnType := some (.array .byte) }, accessFlags := 10, code := some k7c2 }
def k7c3 : Code := { maxStack := 5, maxLocals := 9, code := jdk_42_method_46_code, exceptionTable := #[], attributes := #[] }
def k7m3 : Method := { name := "encodeUTF8", desc := "(B[BZ)[B", sig := { parameters := [.byte, (.array .byte), .boolean], returnType := some (.array .byte) }, accessFlags := 10, code := some k7c3 }
def k7c4 : Code := { maxStack := 3, maxLocals := 2, code := jdk_42_method_64_code, exceptionTable := #[], attributes := #[] }
def k7m4 : Method := { name := "getBytes", desc := "(Ljava/nio/charset/Charset;)[B", sig := { parameters := [(.object "java/nio/charset/Charset")], returnType := some (.array .byte) }, accessFlags := 1, code := some k7c4 }
def k7c5 : Code := { maxStack := 4, maxLocals := 1, code := jdk_42_method_139_code, exceptionTable := #[], attributes := #[] }
def k7m5 : Method := { name := "valueOf", desc := "(C)Ljava/lang/String;", sig := { parameters := [.char], returnType := some (.object "java/lang/String") }, accessFlags := 9, code := some k7c5 }
def k7c6 : Code := { maxStack := 4, maxLocals := 6, code := jdk_42_method_149_code, exceptionTable := #[], attributes := #[] }
def k7m6 : Method := { name := "<init>", desc := "([CIILjava/lang/Void;)V", sig := { parameters := [(.array .char), .int, .int, (.object "java/lang/Void")], returnType := none }, accessFlags := 2, code := some k7c6 }
def k7c7 : Code := { maxStack := 2, maxLocals := 3, code := jdk_42_method_151_code, exceptionTable := #[], attributes := #[] }
def k7m7 : Method := { name := "<init>", desc := "([BB)V", sig := { parameters := [(.array .byte), .byte], returnType := none }, accessFlags := 0, code := some k7c7 }
def k7c8 : Code := { maxStack := 1, maxLocals := 1, code := jdk_42_method_152_code, exceptionTable := #[], attributes := #[] }
def k7m8 : Method := { name := "coder", desc := "()B", sig := { parameters := [], returnType := some .byte }, accessFlags := 0, code := some k7c8 }
/-- java/lang/String -/
def k7 : Class := { plain "java/lang/String" (some 0) with
  accessFlags := 49
  interfaces := #[2, 3, 4, 5, 6]
  cf := some (fileOf pool7 10 #[.nestMembers #[1103]] #[{ accessFlags := 1, nameIndex := 5, descriptorIndex := 6, attributes := #[] }, { accessFlags := 1, nameIndex := 5, descriptorIndex := 1010, attributes := #[] }, { accessFlags := 10, nameIndex := 317, descriptorIndex := 537, attributes := #[] }, { accessFlags := 10, nameIndex := 254, descriptorIndex := 255, attributes := #[] }, { accessFlags := 1, nameIndex := 532, descriptorIndex := 1245, attributes := #[] }, { accessFlags := 9, nameIndex := 782, descriptorIndex := 783, attributes := #[] }, { accessFlags := 2, nameIndex := 5, descriptorIndex := 29, attributes := #[] }, { accessFlags := 0, nameIndex := 5, descriptorIndex := 211, attributes := #[] }, { accessFlags := 0, nameIndex := 17, descriptorIndex := 337, attributes := #[] }] 49 2 #[1106, 1108, 575, 1110, 1112] #[{ accessFlags := 18, nameIndex := 13, descriptorIndex := 14, attributes := #[] }, { accessFlags := 18, nameIndex := 17, descriptorIndex := 18, attributes := #[] }, { accessFlags := 2, nameIndex := 21, descriptorIndex := 22, attributes := #[] }, { accessFlags := 2, nameIndex := 25, descriptorIndex := 26, attributes := #[] }, { accessFlags := 26, nameIndex := 1116, descriptorIndex := 1117, attributes := #[] }, { accessFlags := 24, nameIndex := 40, descriptorIndex := 26, attributes := #[] }, { accessFlags := 26, nameIndex := 1101, descriptorIndex := 1102, attributes := #[] }, { accessFlags := 26, nameIndex := 1121, descriptorIndex := 1122, attributes := #[] }, { accessFlags := 25, nameIndex := 599, descriptorIndex := 600, attributes := #[] }, { accessFlags := 24, nameIndex := 1125, descriptorIndex := 18, attributes := #[] }, { accessFlags := 24, nameIndex := 1127, descriptorIndex := 18, attributes := #[] }])
  fields := #[{ name := "value", type := (.array .byte), accessFlags := 18, slot := 0, constantValue := 0 }, { name := "coder", type := .byte, accessFlags := 18, slot := 1, constantValue := 0 }, { name := "hash", type := .int, accessFlags := 2, slot := 2, constantValue := 0 }, { name := "hashIsZero", type := .boolean, accessFlags := 2, slot := 3, constantValue := 0 }, { name := "serialVersionUID", type := .long, accessFlags := 26, slot := 0, constantValue := 0 }, { name := "COMPACT_STRINGS", type := .boolean, accessFlags := 24, slot := 1, constantValue := 0 }, { name := "serialPersistentFields", type := (.array (.object "java/io/ObjectStreamField")), accessFlags := 26, slot := 2, constantValue := 0 }, { name := "REPL", type := .char, accessFlags := 26, slot := 3, constantValue := 0 }, { name := "CASE_INSENSITIVE_ORDER", type := (.object "java/util/Comparator"), accessFlags := 25, slot := 4, constantValue := 0 }, { name := "LATIN1", type := .byte, accessFlags := 24, slot := 5, constantValue := 0 }, { name := "UTF16", type := .byte, accessFlags := 24, slot := 6, constantValue := 0 }]
  methods := #[k7m0, k7m1, k7m2, k7m3, k7m4, k7m5, k7m6, k7m7, k7m8]
  instanceTypes := #[(.array .byte), .byte, .int, .boolean]
  staticTypes := #[.long, .boolean, (.array (.object "java/io/ObjectStreamField")), .char, (.object "java/util/Comparator"), .byte, .byte]
  resolved := Array.replicate 1451 none
  statics := some 0 }

def pool8 : Array CpInfo := pool [(1, .methodref 2 3), (0, .class_ 4), (0, .nameAndType 5 6), (0, u "java/lang/Object"), (0, u "<init>"), (0, u "()V"), (0, .methodref 8 9), (0, .class_ 10), (0, .nameAndType 11 12), (0, u "[Ljava/lang/String;"), (0, u "clone"), (0, u "()Ljava/lang/Object;"), (0, .fieldref 14 15), (0, .class_ 16), (0, .nameAndType 17 10), (0, u "com/example/crossbook/crossbook/venue/JsonFields$Texts"), (0, u "texts"), (0, .class_ 19), (0, u "[B"), (0, .fieldref 14 21), (0, .nameAndType 22 23), (0, u "encoded"), (0, u "[[B"), (0, .fieldref 25 26), (0, .class_ 27), (0, .nameAndType 28 29), (0, u "java/nio/charset/StandardCharsets"), (0, u "UTF_8"), (0, u "Ljava/nio/charset/Charset;"), (0, .methodref 31 32), (0, .class_ 33), (0, .nameAndType 34 35), (0, u "java/lang/String"), (0, u "getBytes"), (0, u "(Ljava/nio/charset/Charset;)[B"), (0, .methodref 37 38), (0, .class_ 39), (0, .nameAndType 40 41), (0, u "java/lang/Math"), (0, u "max"), (0, u "(II)I"), (0, .class_ 43), (0, u "[I"), (0, .fieldref 14 45), (0, .nameAndType 46 47), (0, u "byLength"), (0, u "[[I"), (4, u "([Ljava/lang/String;)V"), (4, u "indexOf"), (0, u "([BII)I"), (4, .class_ 64), (0, u "com/example/crossbook/crossbook/venue/JsonFields")] 2

def k8c0 : Code := { maxStack := 4, maxLocals := 9, code := prog_163_method_1_code, exceptionTable := #[], attributes := #[] }
def k8m0 : Method := { name := "<init>", desc := "([Ljava/lang/String;)V", sig := { parameters := [(.array (.object "java/lang/String"))], returnType := none }, accessFlags := 128, code := some k8c0 }
def k8c1 : Code := { maxStack := 4, maxLocals := 12, code := prog_163_method_2_code, exceptionTable := #[], attributes := #[] }
def k8m1 : Method := { name := "indexOf", desc := "([BII)I", sig := { parameters := [(.array .byte), .int, .int], returnType := some .int }, accessFlags := 0, code := some k8c1 }
/-- com/example/crossbook/crossbook/venue/JsonFields$Texts -/
def k8 : Class := { plain "com/example/crossbook/crossbook/venue/JsonFields$Texts" (some 0) with
  accessFlags := 32
  interfaces := #[]
  cf := some (fileOf pool8 14 #[.nestHost 63] #[{ accessFlags := 128, nameIndex := 5, descriptorIndex := 52, attributes := #[] }, { accessFlags := 0, nameIndex := 57, descriptorIndex := 58, attributes := #[] }] 32 2 #[] #[{ accessFlags := 18, nameIndex := 17, descriptorIndex := 10, attributes := #[] }, { accessFlags := 18, nameIndex := 22, descriptorIndex := 23, attributes := #[] }, { accessFlags := 18, nameIndex := 46, descriptorIndex := 47, attributes := #[] }])
  fields := #[{ name := "texts", type := (.array (.object "java/lang/String")), accessFlags := 18, slot := 0, constantValue := 0 }, { name := "encoded", type := (.array (.array .byte)), accessFlags := 18, slot := 1, constantValue := 0 }, { name := "byLength", type := (.array (.array .int)), accessFlags := 18, slot := 2, constantValue := 0 }]
  methods := #[k8m0, k8m1]
  instanceTypes := #[(.array (.object "java/lang/String")), (.array (.array .byte)), (.array (.array .int))]
  staticTypes := #[]
  resolved := Array.replicate 67 none
  statics := none }

def pool9 : Array CpInfo := pool [(1, .class_ 2), (0, u "java/lang/Cloneable"), (0, .class_ 4), (0, u "java/lang/Object")] 2

/-- java/lang/Cloneable -/
def k9 : Class := { plain "java/lang/Cloneable" (some 0) with
  accessFlags := 1537
  interfaces := #[]
  cf := some (fileOf pool9 1 #[] #[] 1537 3 #[] #[])
  fields := #[]
  methods := #[]
  instanceTypes := #[]
  staticTypes := #[]
  resolved := Array.replicate 7 none
  statics := none }

def pool10 : Array CpInfo := pool [(2, .class_ 4), (1, u "java/lang/Object"), (0, u "<init>"), (0, u "()V"), (14, .class_ 23), (1, u "java/nio/charset/StandardCharsets"), (0, u "US_ASCII"), (0, u "Ljava/nio/charset/Charset;"), (7, u "ISO_8859_1"), (7, u "UTF_8"), (5, u "UTF_16BE"), (5, u "UTF_16LE"), (5, u "UTF_16")] 8

def k10m0 : Method := { name := "<init>", desc := "()V", sig := { parameters := [], returnType := none }, accessFlags := 2, code := none }
/-- java/nio/charset/StandardCharsets -/
def k10 : Class := { plain "java/nio/charset/StandardCharsets" (some 0) with
  accessFlags := 49
  interfaces := #[]
  cf := some (fileOf pool10 21 #[] #[{ accessFlags := 2, nameIndex := 5, descriptorIndex := 6, attributes := #[] }] 49 2 #[] #[{ accessFlags := 25, nameIndex := 24, descriptorIndex := 25, attributes := #[] }, { accessFlags := 25, nameIndex := 33, descriptorIndex := 25, attributes := #[] }, { accessFlags := 25, nameIndex := 41, descriptorIndex := 25, attributes := #[] }, { accessFlags := 25, nameIndex := 47, descriptorIndex := 25, attributes := #[] }, { accessFlags := 25, nameIndex := 53, descriptorIndex := 25, attributes := #[] }, { accessFlags := 25, nameIndex := 59, descriptorIndex := 25, attributes := #[] }])
  fields := #[{ name := "US_ASCII", type := (.object "java/nio/charset/Charset"), accessFlags := 25, slot := 0, constantValue := 0 }, { name := "ISO_8859_1", type := (.object "java/nio/charset/Charset"), accessFlags := 25, slot := 1, constantValue := 0 }, { name := "UTF_8", type := (.object "java/nio/charset/Charset"), accessFlags := 25, slot := 2, constantValue := 0 }, { name := "UTF_16BE", type := (.object "java/nio/charset/Charset"), accessFlags := 25, slot := 3, constantValue := 0 }, { name := "UTF_16LE", type := (.object "java/nio/charset/Charset"), accessFlags := 25, slot := 4, constantValue := 0 }, { name := "UTF_16", type := (.object "java/nio/charset/Charset"), accessFlags := 25, slot := 5, constantValue := 0 }]
  methods := #[k10m0]
  instanceTypes := #[]
  staticTypes := #[(.object "java/nio/charset/Charset"), (.object "java/nio/charset/Charset"), (.object "java/nio/charset/Charset"), (.object "java/nio/charset/Charset"), (.object "java/nio/charset/Charset"), (.object "java/nio/charset/Charset")]
  resolved := Array.replicate 68 none
  statics := some 1 }

def pool11 : Array CpInfo := pool [(18, .class_ 20), (1, u "java/nio/charset/Charset"), (0, u "cache1"), (0, u "[Ljava/lang/Object;"), (2, u "cache2"), (0, .class_ 27), (0, u "java/lang/Object"), (0, .class_ 29), (0, u "java/nio/charset/Charset$1"), (4, .class_ 36), (1, u "java/nio/charset/Charset$ThreadTrackHolder"), (21, .class_ 59), (0, u "java/nio/charset/Charset$2"), (11, .class_ 73), (1, u "java/nio/charset/Charset$ExtendedProviderHolder"), (22, u "standardProvider"), (0, u "Ljava/nio/charset/spi/CharsetProvider;"), (29, u "name"), (7, .class_ 136), (0, u "java/nio/charset/Charset$3"), (5, u "defaultCharset"), (0, u "Ljava/nio/charset/Charset;"), (14, u "zeroAliases"), (0, u "[Ljava/lang/String;"), (29, u "Ljava/lang/String;"), (2, u "aliases"), (2, u "aliasSet"), (0, u "Ljava/util/Set;"), (82, .class_ 280), (0, u "java/lang/Comparable"), (84, .class_ 366), (0, u "java/nio/charset/Charset$ExtendedProviderHolder$1")] 3

/-- java/nio/charset/Charset -/
def k11 : Class := { plain "java/nio/charset/Charset" (some 0) with
  accessFlags := 1057
  interfaces := #[3]
  cf := some (fileOf pool11 18 #[.nestMembers #[71, 365, 34, 135, 58, 28]] #[] 1057 26 #[279] #[{ accessFlags := 26, nameIndex := 96, descriptorIndex := 97, attributes := #[] }, { accessFlags := 26, nameIndex := 158, descriptorIndex := 159, attributes := #[] }, { accessFlags := 74, nameIndex := 21, descriptorIndex := 22, attributes := #[] }, { accessFlags := 74, nameIndex := 25, descriptorIndex := 22, attributes := #[] }, { accessFlags := 10, nameIndex := 142, descriptorIndex := 143, attributes := #[] }, { accessFlags := 18, nameIndex := 127, descriptorIndex := 189, attributes := #[] }, { accessFlags := 18, nameIndex := 192, descriptorIndex := 159, attributes := #[] }, { accessFlags := 2, nameIndex := 195, descriptorIndex := 196, attributes := #[] }])
  fields := #[{ name := "standardProvider", type := (.object "java/nio/charset/spi/CharsetProvider"), accessFlags := 26, slot := 0, constantValue := 0 }, { name := "zeroAliases", type := (.array (.object "java/lang/String")), accessFlags := 26, slot := 1, constantValue := 0 }, { name := "cache1", type := (.array (.object "java/lang/Object")), accessFlags := 74, slot := 2, constantValue := 0 }, { name := "cache2", type := (.array (.object "java/lang/Object")), accessFlags := 74, slot := 3, constantValue := 0 }, { name := "defaultCharset", type := (.object "java/nio/charset/Charset"), accessFlags := 10, slot := 4, constantValue := 0 }, { name := "name", type := (.object "java/lang/String"), accessFlags := 18, slot := 0, constantValue := 0 }, { name := "aliases", type := (.array (.object "java/lang/String")), accessFlags := 18, slot := 1, constantValue := 0 }, { name := "aliasSet", type := (.object "java/util/Set"), accessFlags := 2, slot := 2, constantValue := 0 }]
  methods := #[]
  instanceTypes := #[(.object "java/lang/String"), (.array (.object "java/lang/String")), (.object "java/util/Set")]
  staticTypes := #[(.object "java/nio/charset/spi/CharsetProvider"), (.array (.object "java/lang/String")), (.array (.object "java/lang/Object")), (.array (.object "java/lang/Object")), (.object "java/nio/charset/Charset")]
  resolved := Array.replicate 370 none
  statics := none }

def pool12 : Array CpInfo := pool [(1, .class_ 2), (0, u "sun/nio/cs/HistoricallyNamedCharset"), (0, .class_ 4), (0, u "java/lang/Object")] 4

/-- sun/nio/cs/HistoricallyNamedCharset -/
def k12 : Class := { plain "sun/nio/cs/HistoricallyNamedCharset" (some 0) with
  accessFlags := 1537
  interfaces := #[]
  cf := some (fileOf pool12 1 #[] #[] 1537 3 #[] #[])
  fields := #[]
  methods := #[]
  instanceTypes := #[]
  staticTypes := #[]
  resolved := Array.replicate 9 none
  statics := none }

def pool13 : Array CpInfo := pool [(2, .class_ 4), (1, u "java/nio/charset/Charset"), (130, .class_ 136), (0, u "sun/nio/cs/Unicode"), (0, .class_ 138), (0, u "sun/nio/cs/HistoricallyNamedCharset")] 15

/-- sun/nio/cs/Unicode -/
def k13 : Class := { plain "sun/nio/cs/Unicode" (some 11) with
  accessFlags := 1056
  interfaces := #[12]
  cf := some (fileOf pool13 135 #[] #[] 1056 2 #[137] #[])
  fields := #[]
  methods := #[]
  instanceTypes := #[(.object "java/lang/String"), (.array (.object "java/lang/String")), (.object "java/util/Set")]
  staticTypes := #[]
  resolved := Array.replicate 154 none
  statics := none }

def pool14 : Array CpInfo := pool [(10, .class_ 12), (1, u "sun/nio/cs/Unicode"), (0, u "<init>"), (3, .class_ 18), (0, u "sun/nio/cs/UTF_8$Decoder"), (3, .class_ 23), (0, u "sun/nio/cs/UTF_8$Encoder"), (15, .class_ 40), (0, u "sun/nio/cs/UTF_8"), (2, u "()V"), (2, u "INSTANCE"), (0, u "Lsun/nio/cs/UTF_8;"), (8, u "JLA"), (0, u "Ljdk/internal/access/JavaLangAccess;")] 26

def k14m0 : Method := { name := "<init>", desc := "()V", sig := { parameters := [], returnType := none }, accessFlags := 1, code := none }
/-- sun/nio/cs/UTF_8 -/
def k14 : Class := { plain "sun/nio/cs/UTF_8" (some 13) with
  accessFlags := 49
  interfaces := #[]
  cf := some (fileOf pool14 39 #[.nestMembers #[22, 17]] #[{ accessFlags := 1, nameIndex := 13, descriptorIndex := 43, attributes := #[] }] 49 10 #[] #[{ accessFlags := 25, nameIndex := 46, descriptorIndex := 47, attributes := #[] }, { accessFlags := 26, nameIndex := 56, descriptorIndex := 57, attributes := #[] }])
  fields := #[{ name := "INSTANCE", type := (.object "sun/nio/cs/UTF_8"), accessFlags := 25, slot := 0, constantValue := 0 }, { name := "JLA", type := (.object "jdk/internal/access/JavaLangAccess"), accessFlags := 26, slot := 1, constantValue := 0 }]
  methods := #[k14m0]
  instanceTypes := #[(.object "java/lang/String"), (.array (.object "java/lang/String")), (.object "java/util/Set")]
  staticTypes := #[(.object "sun/nio/cs/UTF_8"), (.object "jdk/internal/access/JavaLangAccess")]
  resolved := Array.replicate 84 none
  statics := some 2 }

def pool15 : Array CpInfo := pool [(2, .class_ 4), (1, u "java/lang/Object"), (0, u "<init>"), (0, u "()V"), (0, .methodref 8 9), (0, .class_ 10), (0, .nameAndType 11 12), (0, u "java/lang/StringCoding"), (0, u "countPositives"), (0, u "([BII)I"), (11, u "hasNegatives"), (0, u "([BII)Z")] 23

def k15m0 : Method := { name := "<init>", desc := "()V", sig := { parameters := [], returnType := none }, accessFlags := 2, code := none }
def k15c1 : Code := { maxStack := 3, maxLocals := 3, code := jdk_123_method_2_code, exceptionTable := #[], attributes := #[] }
def k15m1 : Method := { name := "hasNegatives", desc := "([BII)Z", sig := { parameters := [(.array .byte), .int, .int], returnType := some .boolean }, accessFlags := 9, code := some k15c1 }
def k15c2 : Code := { maxStack := 2, maxLocals := 5, code := jdk_123_method_3_code, exceptionTable := #[], attributes := #[] }
def k15m2 : Method := { name := "countPositives", desc := "([BII)I", sig := { parameters := [(.array .byte), .int, .int], returnType := some .int }, accessFlags := 9, code := some k15c2 }
/-- java/lang/StringCoding -/
def k15 : Class := { plain "java/lang/StringCoding" (some 0) with
  accessFlags := 32
  interfaces := #[]
  cf := some (fileOf pool15 8 #[] #[{ accessFlags := 2, nameIndex := 5, descriptorIndex := 6, attributes := #[] }, { accessFlags := 9, nameIndex := 24, descriptorIndex := 25, attributes := #[] }, { accessFlags := 9, nameIndex := 11, descriptorIndex := 12, attributes := #[] }] 32 2 #[] #[])
  fields := #[]
  methods := #[k15m0, k15m1, k15m2]
  instanceTypes := #[]
  staticTypes := #[]
  resolved := Array.replicate 49 none
  statics := none }

def pool16 : Array CpInfo := pool [(1, .class_ 2), (0, u "java/lang/Math"), (1, .class_ 6), (1, u "java/lang/Object"), (0, u "<init>"), (0, u "()V"), (89, .class_ 100), (1, u "java/lang/Math$RandomNumberGeneratorHolder"), (71, u "negativeZeroFloatBits"), (0, u "J"), (2, u "negativeZeroDoubleBits"), (21, u "max"), (2, u "min"), (43, u "$assertionsDisabled"), (0, u "Z"), (88, u "(II)I"), (2, u "twoToTheDoubleScaleDown"), (0, u "D"), (4, u "twoToTheDoubleScaleUp"), (9, u "E"), (3, u "PI"), (2, u "TAU"), (2, u "DEGREES_TO_RADIANS"), (0, u "RADIANS_TO_DEGREES")] 94

def k16m0 : Method := { name := "<init>", desc := "()V", sig := { parameters := [], returnType := none }, accessFlags := 2, code := none }
def k16c1 : Code := { maxStack := 2, maxLocals := 2, code := jdk_29_method_65_code, exceptionTable := #[], attributes := #[] }
def k16m1 : Method := { name := "max", desc := "(II)I", sig := { parameters := [.int, .int], returnType := some .int }, accessFlags := 9, code := some k16c1 }
def k16c2 : Code := { maxStack := 2, maxLocals := 2, code := jdk_29_method_69_code, exceptionTable := #[], attributes := #[] }
def k16m2 : Method := { name := "min", desc := "(II)I", sig := { parameters := [.int, .int], returnType := some .int }, accessFlags := 9, code := some k16c2 }
/-- java/lang/Math -/
def k16 : Class := { plain "java/lang/Math" (some 0) with
  accessFlags := 49
  interfaces := #[]
  cf := some (fileOf pool16 1 #[.nestMembers #[98]] #[{ accessFlags := 2, nameIndex := 7, descriptorIndex := 8, attributes := #[] }, { accessFlags := 9, nameIndex := 198, descriptorIndex := 335, attributes := #[] }, { accessFlags := 9, nameIndex := 201, descriptorIndex := 335, attributes := #[] }] 49 4 #[] #[{ accessFlags := 25, nameIndex := 354, descriptorIndex := 339, attributes := #[] }, { accessFlags := 25, nameIndex := 358, descriptorIndex := 339, attributes := #[] }, { accessFlags := 25, nameIndex := 361, descriptorIndex := 339, attributes := #[] }, { accessFlags := 26, nameIndex := 364, descriptorIndex := 339, attributes := #[] }, { accessFlags := 26, nameIndex := 365, descriptorIndex := 339, attributes := #[] }, { accessFlags := 26, nameIndex := 172, descriptorIndex := 173, attributes := #[] }, { accessFlags := 26, nameIndex := 176, descriptorIndex := 173, attributes := #[] }, { accessFlags := 8, nameIndex := 344, descriptorIndex := 339, attributes := #[] }, { accessFlags := 8, nameIndex := 338, descriptorIndex := 339, attributes := #[] }, { accessFlags := 4120, nameIndex := 245, descriptorIndex := 246, attributes := #[] }])
  fields := #[{ name := "E", type := .double, accessFlags := 25, slot := 0, constantValue := 0 }, { name := "PI", type := .double, accessFlags := 25, slot := 1, constantValue := 0 }, { name := "TAU", type := .double, accessFlags := 25, slot := 2, constantValue := 0 }, { name := "DEGREES_TO_RADIANS", type := .double, accessFlags := 26, slot := 3, constantValue := 0 }, { name := "RADIANS_TO_DEGREES", type := .double, accessFlags := 26, slot := 4, constantValue := 0 }, { name := "negativeZeroFloatBits", type := .long, accessFlags := 26, slot := 5, constantValue := 0 }, { name := "negativeZeroDoubleBits", type := .long, accessFlags := 26, slot := 6, constantValue := 0 }, { name := "twoToTheDoubleScaleUp", type := .double, accessFlags := 8, slot := 7, constantValue := 0 }, { name := "twoToTheDoubleScaleDown", type := .double, accessFlags := 8, slot := 8, constantValue := 0 }, { name := "$assertionsDisabled", type := .boolean, accessFlags := 4120, slot := 9, constantValue := 0 }]
  methods := #[k16m0, k16m1, k16m2]
  instanceTypes := #[]
  staticTypes := #[.double, .double, .double, .double, .double, .long, .long, .double, .double, .boolean]
  resolved := Array.replicate 460 none
  statics := none }

def pool17 : Array CpInfo := pool [(6, .class_ 8), (1, u "java/lang/Object"), (0, u "<init>"), (0, u "()V"), (0, .methodref 12 13), (0, .class_ 14), (0, .nameAndType 15 16), (0, u "java/lang/StringUTF16"), (0, u "newBytesLength"), (0, u "(I)I"), (3, .integer 1073741823), (25, u "$assertionsDisabled"), (0, u "Z"), (13, u "HI_BYTE_SHIFT"), (0, u "I"), (2, u "LO_BYTE_SHIFT"), (43, u "newBytesFor"), (0, u "(I)[B"), (4, .methodref 12 116), (0, .nameAndType 117 118), (0, u "compress"), (0, u "([CI[BII)I"), (3, u "([CII)[B"), (138, u "coderFromArrayLen"), (0, u "([BI)B"), (106, .class_ 371), (1, u "java/lang/StringUTF16$LinesSpliterator"), (58, u "MAX_LENGTH"), (196, .class_ 628), (0, u "java/lang/StringUTF16$CodePointsSpliterator"), (0, .class_ 630), (0, u "java/lang/StringUTF16$CharsSpliterator")] 4

def k17m0 : Method := { name := "<init>", desc := "()V", sig := { parameters := [], returnType := none }, accessFlags := 0, code := none }
def k17c1 : Code := { maxStack := 1, maxLocals := 1, code := jdk_52_method_2_code, exceptionTable := #[], attributes := #[] }
def k17m1 : Method := { name := "newBytesFor", desc := "(I)[B", sig := { parameters := [.int], returnType := some (.array .byte) }, accessFlags := 9, code := some k17c1 }
def k17c2 : Code := { maxStack := 4, maxLocals := 1, code := jdk_52_method_3_code, exceptionTable := #[], attributes := #[] }
def k17m2 : Method := { name := "newBytesLength", desc := "(I)I", sig := { parameters := [.int], returnType := some .int }, accessFlags := 9, code := some k17c2 }
def k17c3 : Code := { maxStack := 2, maxLocals := 2, code := jdk_52_method_15_code, exceptionTable := #[], attributes := #[] }
def k17m3 : Method := { name := "coderFromArrayLen", desc := "([BI)B", sig := { parameters := [(.array .byte), .int], returnType := some .byte }, accessFlags := 8, code := some k17c3 }
def k17c4 : Code := { maxStack := 5, maxLocals := 6, code := jdk_52_method_16_code, exceptionTable := #[], attributes := #[] }
def k17m4 : Method := { name := "compress", desc := "([CII)[B", sig := { parameters := [(.array .char), .int, .int], returnType := some (.array .byte) }, accessFlags := 9, code := some k17c4 }
def k17c5 : Code := { maxStack := 3, maxLocals := 7, code := jdk_52_method_21_code, exceptionTable := #[], attributes := #[] }
def k17m5 : Method := { name := "compress", desc := "([CI[BII)I", sig := { parameters := [(.array .char), .int, (.array .byte), .int, .int], returnType := some .int }, accessFlags := 9, code := some k17c5 }
/-- java/lang/StringUTF16 -/
def k17 : Class := { plain "java/lang/StringUTF16" (some 0) with
  accessFlags := 48
  interfaces := #[]
  cf := some (fileOf pool17 12 #[.nestMembers #[627, 629, 369]] #[{ accessFlags := 0, nameIndex := 9, descriptorIndex := 10, attributes := #[] }, { accessFlags := 9, nameIndex := 109, descriptorIndex := 110, attributes := #[] }, { accessFlags := 9, nameIndex := 15, descriptorIndex := 16, attributes := #[] }, { accessFlags := 8, nameIndex := 261, descriptorIndex := 262, attributes := #[] }, { accessFlags := 9, nameIndex := 117, descriptorIndex := 122, attributes := #[] }, { accessFlags := 9, nameIndex := 117, descriptorIndex := 118, attributes := #[] }] 48 6 #[] #[{ accessFlags := 26, nameIndex := 61, descriptorIndex := 62, attributes := #[] }, { accessFlags := 26, nameIndex := 65, descriptorIndex := 62, attributes := #[] }, { accessFlags := 24, nameIndex := 430, descriptorIndex := 62, attributes := #[] }, { accessFlags := 4120, nameIndex := 46, descriptorIndex := 47, attributes := #[] }])
  fields := #[{ name := "HI_BYTE_SHIFT", type := .int, accessFlags := 26, slot := 0, constantValue := 0 }, { name := "LO_BYTE_SHIFT", type := .int, accessFlags := 26, slot := 1, constantValue := 0 }, { name := "MAX_LENGTH", type := .int, accessFlags := 24, slot := 2, constantValue := 0 }, { name := "$assertionsDisabled", type := .boolean, accessFlags := 4120, slot := 3, constantValue := 0 }]
  methods := #[k17m0, k17m1, k17m2, k17m3, k17m4, k17m5]
  instanceTypes := #[]
  staticTypes := #[.int, .int, .int, .boolean]
  resolved := Array.replicate 635 none
  statics := none }

def pool18 : Array CpInfo := pool [(4, .class_ 6), (1, u "java/lang/Object"), (0, u "<init>"), (0, u "()V"), (5, .class_ 16), (1, u "java/lang/StringLatin1"), (73, u "canEncode"), (14, u "(C)Z"), (15, u "$assertionsDisabled"), (0, u "Z"), (98, .class_ 223), (1, u "java/lang/StringLatin1$LinesSpliterator"), (156, u "toBytes"), (1, u "(C)[B"), (7, .class_ 391), (0, u "java/lang/StringLatin1$CharsSpliterator")] 3

def k18m0 : Method := { name := "<init>", desc := "()V", sig := { parameters := [], returnType := none }, accessFlags := 0, code := none }
def k18c1 : Code := { maxStack := 2, maxLocals := 1, code := jdk_43_method_3_code, exceptionTable := #[], attributes := #[] }
def k18m1 : Method := { name := "canEncode", desc := "(C)Z", sig := { parameters := [.char], returnType := some .boolean }, accessFlags := 9, code := some k18c1 }
def k18c2 : Code := { maxStack := 4, maxLocals := 1, code := jdk_43_method_46_code, exceptionTable := #[], attributes := #[] }
def k18m2 : Method := { name := "toBytes", desc := "(C)[B", sig := { parameters := [.char], returnType := some (.array .byte) }, accessFlags := 9, code := some k18c2 }
/-- java/lang/StringLatin1 -/
def k18 : Class := { plain "java/lang/StringLatin1" (some 0) with
  accessFlags := 48
  interfaces := #[]
  cf := some (fileOf pool18 14 #[.nestMembers #[390, 221]] #[{ accessFlags := 0, nameIndex := 7, descriptorIndex := 8, attributes := #[] }, { accessFlags := 9, nameIndex := 90, descriptorIndex := 105, attributes := #[] }, { accessFlags := 9, nameIndex := 380, descriptorIndex := 382, attributes := #[] }] 48 4 #[] #[{ accessFlags := 4120, nameIndex := 121, descriptorIndex := 122, attributes := #[] }])
  fields := #[{ name := "$assertionsDisabled", type := .boolean, accessFlags := 4120, slot := 0, constantValue := 0 }]
  methods := #[k18m0, k18m1, k18m2]
  instanceTypes := #[]
  staticTypes := #[.boolean]
  resolved := Array.replicate 395 none
  statics := none }

def pool19 : Array CpInfo := pool [(2, .class_ 4), (1, u "java/lang/Object"), (0, u "<init>"), (0, u "()V"), (7, .class_ 16), (1, u "java/util/Arrays"), (57, .class_ 76), (1, u "java/util/Arrays$NaturalOrder"), (36, .class_ 115), (1, u "java/util/Arrays$LegacyMergeSort"), (1, u "Z"), (32, .methodref 151 152), (0, .class_ 153), (0, .nameAndType 154 155), (0, u "java/lang/System"), (0, u "arraycopy"), (0, u "(Ljava/lang/Object;ILjava/lang/Object;II)V"), (146, u "copyOf"), (1, .methodref 305 306), (0, .class_ 307), (0, .nameAndType 308 309), (0, u "java/lang/Math"), (0, u "min"), (0, u "(II)I"), (65, .class_ 376), (0, u "java/util/Arrays$ArrayList"), (68, u "$assertionsDisabled"), (269, u "MIN_ARRAY_SORT_GRAN"), (0, u "I"), (2, u "INSERTIONSORT_THRESHOLD"), (149, u "([BI)[B"), (105, .class_ 976), (0, u "java/util/Arrays$ArrayItr")] 52

def k19m0 : Method := { name := "<init>", desc := "()V", sig := { parameters := [], returnType := none }, accessFlags := 2, code := none }
def k19c1 : Code := { maxStack := 6, maxLocals := 3, code := jdk_65_method_121_code, exceptionTable := #[], attributes := #[] }
def k19m1 : Method := { name := "copyOf", desc := "([BI)[B", sig := { parameters := [(.array .byte), .int], returnType := some (.array .byte) }, accessFlags := 9, code := some k19c1 }
/-- java/util/Arrays -/
def k19 : Class := { plain "java/util/Arrays" (some 0) with
  accessFlags := 49
  interfaces := #[]
  cf := some (fileOf pool19 14 #[.nestMembers #[975, 375, 113, 74]] #[{ accessFlags := 2, nameIndex := 5, descriptorIndex := 6, attributes := #[] }, { accessFlags := 9, nameIndex := 302, descriptorIndex := 869, attributes := #[] }] 49 2 #[] #[{ accessFlags := 26, nameIndex := 715, descriptorIndex := 716, attributes := #[] }, { accessFlags := 26, nameIndex := 719, descriptorIndex := 716, attributes := #[] }, { accessFlags := 4120, nameIndex := 445, descriptorIndex := 117, attributes := #[] }])
  fields := #[{ name := "MIN_ARRAY_SORT_GRAN", type := .int, accessFlags := 26, slot := 0, constantValue := 0 }, { name := "INSERTIONSORT_THRESHOLD", type := .int, accessFlags := 26, slot := 1, constantValue := 0 }, { name := "$assertionsDisabled", type := .boolean, accessFlags := 4120, slot := 2, constantValue := 0 }]
  methods := #[k19m0, k19m1]
  instanceTypes := #[]
  staticTypes := #[.int, .int, .boolean]
  resolved := Array.replicate 1029 none
  statics := none }

def pool20 : Array CpInfo := pool [(2, .class_ 4), (1, u "java/lang/Object"), (0, u "<init>"), (0, u "()V"), (1, .class_ 10), (1, u "java/lang/System"), (0, u "allowSecurityManager"), (0, u "I"), (16, u "cons"), (0, u "Ljava/io/Console;"), (77, .class_ 110), (1, u "java/lang/System$CallersHolder"), (43, u "initialErrStream"), (0, u "Ljava/io/PrintStream;"), (19, u "security"), (0, u "Ljava/lang/SecurityManager;"), (31, .class_ 209), (0, u "java/lang/System$1"), (7, u "props"), (0, u "Ljava/util/Properties;"), (2, u "lineSeparator"), (0, u "Ljava/lang/String;"), (96, .class_ 321), (1, u "java/lang/System$LoggerFinder"), (5, .class_ 328), (0, u "java/lang/System$Logger"), (67, u "err"), (2, u "out"), (91, u "notSupportedJnuEncoding"), (15, u "in"), (17, u "initialIn"), (0, u "Ljava/io/InputStream;"), (35, u "bootLayer"), (0, u "Ljava/lang/ModuleLayer;"), (99, .class_ 664), (0, u "java/lang/System$2"), (9, u "NEVER"), (2, u "MAYBE"), (49, u "arraycopy"), (0, u "(Ljava/lang/Object;ILjava/lang/Object;II)V"), (72, .class_ 802), (0, u "java/lang/System$Logger$Level")] 31

def k20m0 : Method := { name := "<init>", desc := "()V", sig := { parameters := [], returnType := none }, accessFlags := 2, code := none }
def k20m1 : Method := { name := "arraycopy", desc := "(Ljava/lang/Object;ILjava/lang/Object;II)V", sig := { parameters := [(.object "java/lang/Object"), .int, (.object "java/lang/Object"), .int, .int], returnType := none }, accessFlags := 265, code := none }
/-- java/lang/System -/
def k20 : Class := { plain "java/lang/System" (some 0) with
  accessFlags := 49
  interfaces := #[]
  cf := some (fileOf pool20 8 #[.nestMembers #[319, 327, 801, 108, 663, 208]] #[{ accessFlags := 2, nameIndex := 5, descriptorIndex := 6, attributes := #[] }, { accessFlags := 265, nameIndex := 727, descriptorIndex := 728, attributes := #[] }] 49 2 #[] #[{ accessFlags := 25, nameIndex := 507, descriptorIndex := 526, attributes := #[] }, { accessFlags := 25, nameIndex := 399, descriptorIndex := 155, attributes := #[] }, { accessFlags := 25, nameIndex := 396, descriptorIndex := 155, attributes := #[] }, { accessFlags := 10, nameIndex := 525, descriptorIndex := 526, attributes := #[] }, { accessFlags := 26, nameIndex := 674, descriptorIndex := 12, attributes := #[] }, { accessFlags := 26, nameIndex := 677, descriptorIndex := 12, attributes := #[] }, { accessFlags := 10, nameIndex := 11, descriptorIndex := 12, attributes := #[] }, { accessFlags := 74, nameIndex := 175, descriptorIndex := 176, attributes := #[] }, { accessFlags := 10, nameIndex := 491, descriptorIndex := 222, attributes := #[] }, { accessFlags := 74, nameIndex := 29, descriptorIndex := 30, attributes := #[] }, { accessFlags := 74, nameIndex := 154, descriptorIndex := 155, attributes := #[] }, { accessFlags := 10, nameIndex := 217, descriptorIndex := 218, attributes := #[] }, { accessFlags := 10, nameIndex := 221, descriptorIndex := 222, attributes := #[] }, { accessFlags := 8, nameIndex := 562, descriptorIndex := 563, attributes := #[] }])
  fields := #[{ name := "in", type := (.object "java/io/InputStream"), accessFlags := 25, slot := 0, constantValue := 0 }, { name := "out", type := (.object "java/io/PrintStream"), accessFlags := 25, slot := 1, constantValue := 0 }, { name := "err", type := (.object "java/io/PrintStream"), accessFlags := 25, slot := 2, constantValue := 0 }, { name := "initialIn", type := (.object "java/io/InputStream"), accessFlags := 10, slot := 3, constantValue := 0 }, { name := "NEVER", type := .int, accessFlags := 26, slot := 4, constantValue := 0 }, { name := "MAYBE", type := .int, accessFlags := 26, slot := 5, constantValue := 0 }, { name := "allowSecurityManager", type := .int, accessFlags := 10, slot := 6, constantValue := 0 }, { name := "security", type := (.object "java/lang/SecurityManager"), accessFlags := 74, slot := 7, constantValue := 0 }, { name := "notSupportedJnuEncoding", type := (.object "java/lang/String"), accessFlags := 10, slot := 8, constantValue := 0 }, { name := "cons", type := (.object "java/io/Console"), accessFlags := 74, slot := 9, constantValue := 0 }, { name := "initialErrStream", type := (.object "java/io/PrintStream"), accessFlags := 74, slot := 10, constantValue := 0 }, { name := "props", type := (.object "java/util/Properties"), accessFlags := 10, slot := 11, constantValue := 0 }, { name := "lineSeparator", type := (.object "java/lang/String"), accessFlags := 10, slot := 12, constantValue := 0 }, { name := "bootLayer", type := (.object "java/lang/ModuleLayer"), accessFlags := 8, slot := 13, constantValue := 0 }]
  methods := #[k20m0, k20m1]
  instanceTypes := #[]
  staticTypes := #[(.object "java/io/InputStream"), (.object "java/io/PrintStream"), (.object "java/io/PrintStream"), (.object "java/io/InputStream"), .int, .int, .int, (.object "java/lang/SecurityManager"), (.object "java/lang/String"), (.object "java/io/Console"), (.object "java/io/PrintStream"), (.object "java/util/Properties"), (.object "java/lang/String"), (.object "java/lang/ModuleLayer")]
  resolved := Array.replicate 834 none
  statics := none }

def pool21 : Array CpInfo := pool [(2, .class_ 4), (1, u "java/lang/Object"), (0, u "<init>"), (0, u "()V"), (17, .class_ 26), (1, u "jdk/internal/util/Preconditions"), (28, .class_ 56), (0, u "jdk/internal/util/Preconditions$4"), (57, .class_ 115), (0, u "jdk/internal/util/Preconditions$1"), (7, u "SIOOBE_FORMATTER"), (0, u "Ljava/util/function/BiFunction;"), (0, .class_ 126), (0, u "jdk/internal/util/Preconditions$2"), (3, u "AIOOBE_FORMATTER"), (0, .class_ 132), (0, u "jdk/internal/util/Preconditions$3"), (3, u "IOOBE_FORMATTER")] 57

def k21m0 : Method := { name := "<init>", desc := "()V", sig := { parameters := [], returnType := none }, accessFlags := 1, code := none }
/-- jdk/internal/util/Preconditions -/
def k21 : Class := { plain "jdk/internal/util/Preconditions" (some 0) with
  accessFlags := 33
  interfaces := #[]
  cf := some (fileOf pool21 24 #[.nestMembers #[55, 131, 125, 114]] #[{ accessFlags := 1, nameIndex := 5, descriptorIndex := 6, attributes := #[] }] 33 2 #[] #[{ accessFlags := 25, nameIndex := 123, descriptorIndex := 124, attributes := #[] }, { accessFlags := 25, nameIndex := 130, descriptorIndex := 124, attributes := #[] }, { accessFlags := 25, nameIndex := 136, descriptorIndex := 124, attributes := #[] }])
  fields := #[{ name := "SIOOBE_FORMATTER", type := (.object "java/util/function/BiFunction"), accessFlags := 25, slot := 0, constantValue := 0 }, { name := "AIOOBE_FORMATTER", type := (.object "java/util/function/BiFunction"), accessFlags := 25, slot := 1, constantValue := 0 }, { name := "IOOBE_FORMATTER", type := (.object "java/util/function/BiFunction"), accessFlags := 25, slot := 2, constantValue := 0 }]
  methods := #[k21m0]
  instanceTypes := #[]
  staticTypes := #[(.object "java/util/function/BiFunction"), (.object "java/util/function/BiFunction"), (.object "java/util/function/BiFunction")]
  resolved := Array.replicate 194 none
  statics := some 3 }

def pool22 : Array CpInfo := pool [(9, u "<init>"), (6, .class_ 18), (1, u "java/lang/Object"), (0, u "()V"), (1, .class_ 23), (1, u "jdk/internal/util/ArraysSupport"), (0, u "LOG2_ARRAY_LONG_INDEX_SCALE"), (0, u "I"), (2, u "U"), (0, u "Ljdk/internal/misc/Unsafe;"), (8, u "BIG_ENDIAN"), (0, u "Z"), (8, u "LOG2_BYTE_BIT_SIZE"), (4, u "LOG2_ARRAY_INT_INDEX_SCALE"), (54, u "JLA"), (0, u "Ljdk/internal/access/JavaLangAccess;"), (11, u "LOG2_ARRAY_BOOLEAN_INDEX_SCALE"), (9, u "LOG2_ARRAY_BYTE_INDEX_SCALE"), (5, u "LOG2_ARRAY_CHAR_INDEX_SCALE"), (5, u "LOG2_ARRAY_SHORT_INDEX_SCALE"), (18, u "LOG2_ARRAY_FLOAT_INDEX_SCALE"), (24, u "LOG2_ARRAY_DOUBLE_INDEX_SCALE"), (89, u "T_BOOLEAN"), (2, u "T_CHAR"), (1, u "T_FLOAT"), (1, u "T_DOUBLE"), (1, u "T_BYTE"), (1, u "T_SHORT"), (1, u "T_INT"), (1, u "T_LONG"), (1, u "SOFT_MAX_ARRAY_LENGTH")] 83

def k22m0 : Method := { name := "<init>", desc := "()V", sig := { parameters := [], returnType := none }, accessFlags := 2, code := none }
/-- jdk/internal/util/ArraysSupport -/
def k22 : Class := { plain "jdk/internal/util/ArraysSupport" (some 0) with
  accessFlags := 33
  interfaces := #[]
  cf := some (fileOf pool22 21 #[] #[{ accessFlags := 2, nameIndex := 9, descriptorIndex := 19, attributes := #[] }] 33 16 #[] #[{ accessFlags := 24, nameIndex := 28, descriptorIndex := 29, attributes := #[] }, { accessFlags := 26, nameIndex := 38, descriptorIndex := 39, attributes := #[] }, { accessFlags := 25, nameIndex := 121, descriptorIndex := 25, attributes := #[] }, { accessFlags := 25, nameIndex := 131, descriptorIndex := 25, attributes := #[] }, { accessFlags := 25, nameIndex := 137, descriptorIndex := 25, attributes := #[] }, { accessFlags := 25, nameIndex := 143, descriptorIndex := 25, attributes := #[] }, { accessFlags := 25, nameIndex := 53, descriptorIndex := 25, attributes := #[] }, { accessFlags := 25, nameIndex := 24, descriptorIndex := 25, attributes := #[] }, { accessFlags := 25, nameIndex := 162, descriptorIndex := 25, attributes := #[] }, { accessFlags := 25, nameIndex := 187, descriptorIndex := 25, attributes := #[] }, { accessFlags := 26, nameIndex := 48, descriptorIndex := 25, attributes := #[] }, { accessFlags := 25, nameIndex := 277, descriptorIndex := 25, attributes := #[] }, { accessFlags := 25, nameIndex := 280, descriptorIndex := 25, attributes := #[] }, { accessFlags := 25, nameIndex := 282, descriptorIndex := 25, attributes := #[] }, { accessFlags := 25, nameIndex := 284, descriptorIndex := 25, attributes := #[] }, { accessFlags := 25, nameIndex := 286, descriptorIndex := 25, attributes := #[] }, { accessFlags := 25, nameIndex := 288, descriptorIndex := 25, attributes := #[] }, { accessFlags := 25, nameIndex := 290, descriptorIndex := 25, attributes := #[] }, { accessFlags := 25, nameIndex := 292, descriptorIndex := 25, attributes := #[] }, { accessFlags := 26, nameIndex := 108, descriptorIndex := 109, attributes := #[] }, { accessFlags := 25, nameIndex := 294, descriptorIndex := 25, attributes := #[] }])
  fields := #[{ name := "U", type := (.object "jdk/internal/misc/Unsafe"), accessFlags := 24, slot := 0, constantValue := 0 }, { name := "BIG_ENDIAN", type := .boolean, accessFlags := 26, slot := 1, constantValue := 0 }, { name := "LOG2_ARRAY_BOOLEAN_INDEX_SCALE", type := .int, accessFlags := 25, slot := 2, constantValue := 0 }, { name := "LOG2_ARRAY_BYTE_INDEX_SCALE", type := .int, accessFlags := 25, slot := 3, constantValue := 0 }, { name := "LOG2_ARRAY_CHAR_INDEX_SCALE", type := .int, accessFlags := 25, slot := 4, constantValue := 0 }, { name := "LOG2_ARRAY_SHORT_INDEX_SCALE", type := .int, accessFlags := 25, slot := 5, constantValue := 0 }, { name := "LOG2_ARRAY_INT_INDEX_SCALE", type := .int, accessFlags := 25, slot := 6, constantValue := 0 }, { name := "LOG2_ARRAY_LONG_INDEX_SCALE", type := .int, accessFlags := 25, slot := 7, constantValue := 0 }, { name := "LOG2_ARRAY_FLOAT_INDEX_SCALE", type := .int, accessFlags := 25, slot := 8, constantValue := 0 }, { name := "LOG2_ARRAY_DOUBLE_INDEX_SCALE", type := .int, accessFlags := 25, slot := 9, constantValue := 0 }, { name := "LOG2_BYTE_BIT_SIZE", type := .int, accessFlags := 26, slot := 10, constantValue := 0 }, { name := "T_BOOLEAN", type := .int, accessFlags := 25, slot := 11, constantValue := 0 }, { name := "T_CHAR", type := .int, accessFlags := 25, slot := 12, constantValue := 0 }, { name := "T_FLOAT", type := .int, accessFlags := 25, slot := 13, constantValue := 0 }, { name := "T_DOUBLE", type := .int, accessFlags := 25, slot := 14, constantValue := 0 }, { name := "T_BYTE", type := .int, accessFlags := 25, slot := 15, constantValue := 0 }, { name := "T_SHORT", type := .int, accessFlags := 25, slot := 16, constantValue := 0 }, { name := "T_INT", type := .int, accessFlags := 25, slot := 17, constantValue := 0 }, { name := "T_LONG", type := .int, accessFlags := 25, slot := 18, constantValue := 0 }, { name := "JLA", type := (.object "jdk/internal/access/JavaLangAccess"), accessFlags := 26, slot := 19, constantValue := 0 }, { name := "SOFT_MAX_ARRAY_LENGTH", type := .int, accessFlags := 25, slot := 20, constantValue := 0 }]
  methods := #[k22m0]
  instanceTypes := #[]
  staticTypes := #[(.object "jdk/internal/misc/Unsafe"), .boolean, .int, .int, .int, .int, .int, .int, .int, .int, .int, .int, .int, .int, .int, .int, .int, .int, .int, (.object "jdk/internal/access/JavaLangAccess"), .int]
  resolved := Array.replicate 378 none
  statics := none }

/-- the primitive byte -/
def k23 : Class := { plain "byte" none with kind := .primitive 'B', accessFlags := 0x411 }
/-- [B -/
def k24 : Class := { plain "[B" (some 0) with kind := .array 23 .byte, interfaces := #[9, 2], accessFlags := 1041 }

/-- the primitive char -/
def k25 : Class := { plain "char" none with kind := .primitive 'C', accessFlags := 0x411 }
/-- [C -/
def k26 : Class := { plain "[C" (some 0) with kind := .array 25 .char, interfaces := #[9, 2], accessFlags := 1041 }

/-- the primitive int -/
def k27 : Class := { plain "int" none with kind := .primitive 'I', accessFlags := 0x411 }
/-- [I -/
def k28 : Class := { plain "[I" (some 0) with kind := .array 27 .int, interfaces := #[9, 2], accessFlags := 1041 }

/-- [Ljava/lang/String; -/
def k29 : Class := { plain "[Ljava/lang/String;" (some 0) with kind := .array 7 (.object "java/lang/String"), interfaces := #[9, 2], accessFlags := 1041 }

def k30 : Class := { plain "[[B" (some 0) with kind := .array 24 (.array .byte), interfaces := #[9, 2], accessFlags := 1041 }
def k31 : Class := { plain "[[I" (some 0) with kind := .array 28 (.array .int), interfaces := #[9, 2], accessFlags := 1041 }
def heap : Heap := #[{ cls := 7, slots := #[.long 0, .int 1, .null, .int 0, .null, .int 0, .int 0], vm := .statics 7 },
  { cls := 10, slots := #[.null, .null, .ref 4, .null, .null, .null], vm := .statics 10 },
  { cls := 14, slots := #[.ref 4, .null], vm := .statics 14 },
  { cls := 21, slots := #[.null, .null, .null], vm := .statics 21 },
  { cls := 14, slots := #[.null, .null, .null], vm := .none }]
def classes : Array Class := #[k0, k1, k2, k3, k4, k5, k6, k7, k8, k9, k10, k11, k12, k13, k14, k15, k16, k17, k18, k19, k20, k21, k22, k23, k24, k25, k26, k27, k28, k29, k30, k31]
def interned : List (Array UInt16 × Addr) := []
def slotsUsed : Nat := 21
def theMethod : MethodId := ⟨1, 1⟩
def args0 : Array Value := #[.int 27, .long 8421504, .long 77, .int 3, .int 4]
def aboutOver (below : List Frame) : State where
  vm := { classes := classes, interned := interned.toArray }
  heap := heap
  slotsUsed := slotsUsed
  threads := #[{ frames := .invoking theMethod args0 :: below }]
def below0 : List Frame := [.native { method := ⟨0, 0⟩, args := #[] }]
def about1 : State := aboutOver below0
def p0 : Program := .bare "" "" ""
def e0 : Env := launch0.env 0 0 0
theorem w_frames : about1.frames = Frame.invoking theMethod args0 :: below0 := rfl
set_option maxRecDepth 65536 in
theorem w_args : argsFit about1.vm theMethod args0 = true := by decide +kernel
set_option maxRecDepth 65536 in
theorem w_heap : heapFits about1 = true := by decide +kernel
set_option maxRecDepth 65536 in
theorem w_runnable : about1.curStatus? = some .runnable := by decide +kernel
set_option maxRecDepth 65536 in
theorem w_alone : about1.alone = true := by decide +kernel
set_option maxRecDepth 65536 in
theorem w_named : about1.methodNamed? x = some theMethod := by decide +kernel
set_option maxRecDepth 65536 in
theorem w_hears : about1.hears theMethod below0 = true := by decide +kernel
set_option maxRecDepth 65536 in
theorem w_ripe : about1.ripe theMethod args0 below0 = true := by decide +kernel
theorem w_running : about1.status = .running := rfl
set_option maxRecDepth 65536 in
theorem w_room : about1.hasRoom e0.platform room_1 = true :=
  launch0.hasRoom_least _ room_1 (by decide +kernel) (by decide +kernel) (by decide +kernel) (by decide +kernel) (by decide +kernel) (by decide +kernel)
theorem allAtoms_all (ts : List Jvm.Cond) (a : Array Jvm.Value) (st : Jvm.State) : (allAtoms ts).before a st = ts.all (fun c => c.before a st) := by
  induction ts with
  | nil => rfl
  | cons c t ih =>
    show (Jvm.Cond.and c (allAtoms t)).before a st = _
    rw [Jvm.Cond.before_and, ih, List.all_cons]
def words1 : List Jvm.Cond := Jvm.Cond.code x code maxLocals ret :: tables_1
/-- a 'code' word, met by the world's own term for the bytes: nothing is compared byte by byte -/
theorem code_word {y : MethodName} {bytes : ByteArray} {mx : Nat} {rt : Option FieldType} {a : Array Value} {s : State} {m : MethodId} {meth : Method} {c : Code} (h1 : s.methodNamed? y = some m) (h2 : s.vm.method? m = some meth) (h3 : meth.code = some c) (h4 : c.code = bytes)
    (h5 : (c.maxLocals == mx && c.exceptionTable.isEmpty && decide (c.maxStack ≤ mostOperands) && decide (meth.sig.returnType = rt) && !meth.locks && decide (parseMethodDescriptor y.desc = some meth.sig)) = true) : (Jvm.Cond.code y bytes mx rt).before a s = true := by
  simp only [Bool.and_eq_true, beq_iff_eq, Bool.not_eq_true', decide_eq_true_eq] at h5
  obtain ⟨⟨⟨⟨⟨g1, g2⟩, g3⟩, g4⟩, g5⟩, g6⟩ := h5
  simp [Cond.before, Cond.holds, Cond.value, h1, h2, h3, h4, g1, g2, g3, g4, g5, g6]
def isCode : Jvm.Cond → Bool
  | .code _ _ _ _ => true
  | _ => false
theorem all_split {L : List Jvm.Cond} {P : Jvm.Cond → Bool} (h1 : L.all (fun c => isCode c || P c) = true) (h2 : ∀ c ∈ L.filter isCode, P c = true) : L.all P = true := by
  refine List.all_eq_true.mpr fun c hc => ?_
  have h := List.all_eq_true.mp h1 c hc
  rcases Bool.eq_false_or_eq_true (isCode c) with hi | hi
  · exact h2 c (List.mem_filter.mpr ⟨hc, hi⟩)
  · simpa [hi] using h
set_option maxRecDepth 65536 in
theorem w_c0 : (Jvm.Cond.code x code maxLocals ret).before args0 about1 = true := code_word (m := ⟨1, 1⟩) (meth := k1m1) (c := k1c1) (by decide +kernel) rfl rfl rfl (by decide +kernel)
set_option maxRecDepth 65536 in
theorem w_c1 : (Jvm.Cond.code ({ cls := "com/example/crossbook/crossbook/venue/TextsIndexOfPinLaw", name := "text", desc := "(ICC)Ljava/lang/String;" } : Jvm.MethodName) method_3_code (3 : Nat) (Option.some (Jvm.ClassFile.FieldType.object "java/lang/String"))).before args0 about1 = true := code_word (m := ⟨1, 2⟩) (meth := k1m2) (c := k1c2) (by decide +kernel) rfl rfl rfl (by decide +kernel)
set_option maxRecDepth 65536 in
theorem w_c2 : (Jvm.Cond.code ({ cls := "com/example/crossbook/crossbook/venue/JsonFields$Texts", name := "<init>", desc := "([Ljava/lang/String;)V" } : Jvm.MethodName) prog_163_method_1_code (9 : Nat) (Option.none : Option Jvm.ClassFile.FieldType)).before args0 about1 = true := code_word (m := ⟨8, 0⟩) (meth := k8m0) (c := k8c0) (by decide +kernel) rfl rfl rfl (by decide +kernel)
set_option maxRecDepth 65536 in
theorem w_c3 : (Jvm.Cond.code ({ cls := "java/lang/Object", name := "<init>", desc := "()V" } : Jvm.MethodName) object_method_1_code (1 : Nat) (Option.none : Option Jvm.ClassFile.FieldType)).before args0 about1 = true := code_word (m := ⟨0, 0⟩) (meth := k0m0) (c := k0c0) (by decide +kernel) rfl rfl rfl (by decide +kernel)
set_option maxRecDepth 65536 in
theorem w_c4 : (Jvm.Cond.code ({ cls := "com/example/crossbook/crossbook/venue/JsonFields$Texts", name := "indexOf", desc := "([BII)I" } : Jvm.MethodName) prog_163_method_2_code (12 : Nat) (Option.some Jvm.ClassFile.FieldType.int)).before args0 about1 = true := code_word (m := ⟨8, 1⟩) (meth := k8m1) (c := k8c1) (by decide +kernel) rfl rfl rfl (by decide +kernel)
set_option maxRecDepth 65536 in
theorem w_c5 : (Jvm.Cond.code ({ cls := "java/lang/String", name := "getBytes", desc := "(Ljava/nio/charset/Charset;)[B" } : Jvm.MethodName) jdk_42_method_64_code (2 : Nat) (Option.some (Jvm.ClassFile.FieldType.array Jvm.ClassFile.FieldType.byte))).before args0 about1 = true := code_word (m := ⟨7, 4⟩) (meth := k7m4) (c := k7c4) (by decide +kernel) rfl rfl rfl (by decide +kernel)
set_option maxRecDepth 65536 in
theorem w_c6 : (Jvm.Cond.code ({ cls := "java/lang/String", name := "coder", desc := "()B" } : Jvm.MethodName) jdk_42_method_152_code (1 : Nat) (Option.some Jvm.ClassFile.FieldType.byte)).before args0 about1 = true := code_word (m := ⟨7, 8⟩) (meth := k7m8) (c := k7c8) (by decide +kernel) rfl rfl rfl (by decide +kernel)
set_option maxRecDepth 65536 in
theorem w_c7 : (Jvm.Cond.code ({ cls := "java/lang/String", name := "encode", desc := "(Ljava/nio/charset/Charset;B[B)[B" } : Jvm.MethodName) jdk_42_method_18_code (3 : Nat) (Option.some (Jvm.ClassFile.FieldType.array Jvm.ClassFile.FieldType.byte))).before args0 about1 = true := code_word (m := ⟨7, 2⟩) (meth := k7m2) (c := k7c2) (by decide +kernel) rfl rfl rfl (by decide +kernel)
set_option maxRecDepth 65536 in
theorem w_c8 : (Jvm.Cond.code ({ cls := "java/lang/String", name := "encodeUTF8", desc := "(B[BZ)[B" } : Jvm.MethodName) jdk_42_method_46_code (9 : Nat) (Option.some (Jvm.ClassFile.FieldType.array Jvm.ClassFile.FieldType.byte))).before args0 about1 = true := code_word (m := ⟨7, 3⟩) (meth := k7m3) (c := k7c3) (by decide +kernel) rfl rfl rfl (by decide +kernel)
set_option maxRecDepth 65536 in
theorem w_c9 : (Jvm.Cond.code ({ cls := "java/lang/StringCoding", name := "hasNegatives", desc := "([BII)Z" } : Jvm.MethodName) jdk_123_method_2_code (3 : Nat) (Option.some Jvm.ClassFile.FieldType.boolean)).before args0 about1 = true := code_word (m := ⟨15, 1⟩) (meth := k15m1) (c := k15c1) (by decide +kernel) rfl rfl rfl (by decide +kernel)
set_option maxRecDepth 65536 in
theorem w_c10 : (Jvm.Cond.code ({ cls := "java/lang/StringCoding", name := "countPositives", desc := "([BII)I" } : Jvm.MethodName) jdk_123_method_3_code (5 : Nat) (Option.some Jvm.ClassFile.FieldType.int)).before args0 about1 = true := code_word (m := ⟨15, 2⟩) (meth := k15m2) (c := k15c2) (by decide +kernel) rfl rfl rfl (by decide +kernel)
set_option maxRecDepth 65536 in
theorem w_c11 : (Jvm.Cond.code ({ cls := "java/lang/Math", name := "max", desc := "(II)I" } : Jvm.MethodName) jdk_29_method_65_code (2 : Nat) (Option.some Jvm.ClassFile.FieldType.int)).before args0 about1 = true := code_word (m := ⟨16, 1⟩) (meth := k16m1) (c := k16c1) (by decide +kernel) rfl rfl rfl (by decide +kernel)
set_option maxRecDepth 65536 in
theorem w_c12 : (Jvm.Cond.code ({ cls := "com/example/crossbook/crossbook/venue/TextsIndexOfPinLaw", name := "matches", desc := "(ICC[BII)Z" } : Jvm.MethodName) method_5_code (8 : Nat) (Option.some Jvm.ClassFile.FieldType.boolean)).before args0 about1 = true := code_word (m := ⟨1, 4⟩) (meth := k1m4) (c := k1c4) (by decide +kernel) rfl rfl rfl (by decide +kernel)
set_option maxRecDepth 65536 in
theorem w_c13 : (Jvm.Cond.code ({ cls := "java/lang/String", name := "<init>", desc := "([C)V" } : Jvm.MethodName) jdk_42_method_3_code (2 : Nat) (Option.none : Option Jvm.ClassFile.FieldType)).before args0 about1 = true := code_word (m := ⟨7, 1⟩) (meth := k7m1) (c := k7c1) (by decide +kernel) rfl rfl rfl (by decide +kernel)
set_option maxRecDepth 65536 in
theorem w_c14 : (Jvm.Cond.code ({ cls := "java/lang/String", name := "<init>", desc := "([CIILjava/lang/Void;)V" } : Jvm.MethodName) jdk_42_method_149_code (6 : Nat) (Option.none : Option Jvm.ClassFile.FieldType)).before args0 about1 = true := code_word (m := ⟨7, 6⟩) (meth := k7m6) (c := k7c6) (by decide +kernel) rfl rfl rfl (by decide +kernel)
set_option maxRecDepth 65536 in
theorem w_c15 : (Jvm.Cond.code ({ cls := "java/lang/StringUTF16", name := "compress", desc := "([CII)[B" } : Jvm.MethodName) jdk_52_method_16_code (6 : Nat) (Option.some (Jvm.ClassFile.FieldType.array Jvm.ClassFile.FieldType.byte))).before args0 about1 = true := code_word (m := ⟨17, 4⟩) (meth := k17m4) (c := k17c4) (by decide +kernel) rfl rfl rfl (by decide +kernel)
set_option maxRecDepth 65536 in
theorem w_c16 : (Jvm.Cond.code ({ cls := "java/lang/StringUTF16", name := "compress", desc := "([CI[BII)I" } : Jvm.MethodName) jdk_52_method_21_code (7 : Nat) (Option.some Jvm.ClassFile.FieldType.int)).before args0 about1 = true := code_word (m := ⟨17, 5⟩) (meth := k17m5) (c := k17c5) (by decide +kernel) rfl rfl rfl (by decide +kernel)
set_option maxRecDepth 65536 in
theorem w_c17 : (Jvm.Cond.code ({ cls := "java/lang/StringUTF16", name := "coderFromArrayLen", desc := "([BI)B" } : Jvm.MethodName) jdk_52_method_15_code (2 : Nat) (Option.some Jvm.ClassFile.FieldType.byte)).before args0 about1 = true := code_word (m := ⟨17, 3⟩) (meth := k17m3) (c := k17c3) (by decide +kernel) rfl rfl rfl (by decide +kernel)
set_option maxRecDepth 65536 in
theorem w_c18 : (Jvm.Cond.code ({ cls := "java/lang/String", name := "valueOf", desc := "(C)Ljava/lang/String;" } : Jvm.MethodName) jdk_42_method_139_code (1 : Nat) (Option.some (Jvm.ClassFile.FieldType.object "java/lang/String"))).before args0 about1 = true := code_word (m := ⟨7, 5⟩) (meth := k7m5) (c := k7c5) (by decide +kernel) rfl rfl rfl (by decide +kernel)
set_option maxRecDepth 65536 in
theorem w_c19 : (Jvm.Cond.code ({ cls := "java/lang/StringLatin1", name := "canEncode", desc := "(C)Z" } : Jvm.MethodName) jdk_43_method_3_code (1 : Nat) (Option.some Jvm.ClassFile.FieldType.boolean)).before args0 about1 = true := code_word (m := ⟨18, 1⟩) (meth := k18m1) (c := k18c1) (by decide +kernel) rfl rfl rfl (by decide +kernel)
set_option maxRecDepth 65536 in
theorem w_c20 : (Jvm.Cond.code ({ cls := "java/lang/StringLatin1", name := "toBytes", desc := "(C)[B" } : Jvm.MethodName) jdk_43_method_46_code (1 : Nat) (Option.some (Jvm.ClassFile.FieldType.array Jvm.ClassFile.FieldType.byte))).before args0 about1 = true := code_word (m := ⟨18, 2⟩) (meth := k18m2) (c := k18c2) (by decide +kernel) rfl rfl rfl (by decide +kernel)
set_option maxRecDepth 65536 in
theorem w_c21 : (Jvm.Cond.code ({ cls := "java/lang/String", name := "<init>", desc := "([BB)V" } : Jvm.MethodName) jdk_42_method_151_code (3 : Nat) (Option.none : Option Jvm.ClassFile.FieldType)).before args0 about1 = true := code_word (m := ⟨7, 7⟩) (meth := k7m7) (c := k7c7) (by decide +kernel) rfl rfl rfl (by decide +kernel)
set_option maxRecDepth 65536 in
theorem w_c22 : (Jvm.Cond.code ({ cls := "java/lang/StringUTF16", name := "newBytesFor", desc := "(I)[B" } : Jvm.MethodName) jdk_52_method_2_code (1 : Nat) (Option.some (Jvm.ClassFile.FieldType.array Jvm.ClassFile.FieldType.byte))).before args0 about1 = true := code_word (m := ⟨17, 1⟩) (meth := k17m1) (c := k17c1) (by decide +kernel) rfl rfl rfl (by decide +kernel)
set_option maxRecDepth 65536 in
theorem w_c23 : (Jvm.Cond.code ({ cls := "java/lang/StringUTF16", name := "newBytesLength", desc := "(I)I" } : Jvm.MethodName) jdk_52_method_3_code (1 : Nat) (Option.some Jvm.ClassFile.FieldType.int)).before args0 about1 = true := code_word (m := ⟨17, 2⟩) (meth := k17m2) (c := k17c2) (by decide +kernel) rfl rfl rfl (by decide +kernel)
set_option maxRecDepth 65536 in
theorem w_c24 : (Jvm.Cond.code ({ cls := "java/util/Arrays", name := "copyOf", desc := "([BI)[B" } : Jvm.MethodName) jdk_65_method_121_code (3 : Nat) (Option.some (Jvm.ClassFile.FieldType.array Jvm.ClassFile.FieldType.byte))).before args0 about1 = true := code_word (m := ⟨19, 1⟩) (meth := k19m1) (c := k19c1) (by decide +kernel) rfl rfl rfl (by decide +kernel)
set_option maxRecDepth 65536 in
theorem w_c25 : (Jvm.Cond.code ({ cls := "java/lang/Math", name := "min", desc := "(II)I" } : Jvm.MethodName) jdk_29_method_69_code (2 : Nat) (Option.some Jvm.ClassFile.FieldType.int)).before args0 about1 = true := code_word (m := ⟨16, 2⟩) (meth := k16m2) (c := k16c2) (by decide +kernel) rfl rfl rfl (by decide +kernel)
set_option maxRecDepth 65536 in
theorem w_c26 : (Jvm.Cond.code ({ cls := "com/example/crossbook/crossbook/venue/TextsIndexOfPinLaw", name := "put", desc := "([BIC)I" } : Jvm.MethodName) method_4_code (3 : Nat) (Option.some Jvm.ClassFile.FieldType.int)).before args0 about1 = true := code_word (m := ⟨1, 3⟩) (meth := k1m3) (c := k1c3) (by decide +kernel) rfl rfl rfl (by decide +kernel)
def codes1 : List Jvm.Cond := [Jvm.Cond.code x code maxLocals ret, Jvm.Cond.code ({ cls := "com/example/crossbook/crossbook/venue/TextsIndexOfPinLaw", name := "text", desc := "(ICC)Ljava/lang/String;" } : Jvm.MethodName) method_3_code (3 : Nat) (Option.some (Jvm.ClassFile.FieldType.object "java/lang/String")), Jvm.Cond.code ({ cls := "com/example/crossbook/crossbook/venue/JsonFields$Texts", name := "<init>", desc := "([Ljava/lang/String;)V" } : Jvm.MethodName) prog_163_method_1_code (9 : Nat) (Option.none : Option Jvm.ClassFile.FieldType), Jvm.Cond.code ({ cls := "java/lang/Object", name := "<init>", desc := "()V" } : Jvm.MethodName) object_method_1_code (1 : Nat) (Option.none : Option Jvm.ClassFile.FieldType), Jvm.Cond.code ({ cls := "com/example/crossbook/crossbook/venue/JsonFields$Texts", name := "indexOf", desc := "([BII)I" } : Jvm.MethodName) prog_163_method_2_code (12 : Nat) (Option.some Jvm.ClassFile.FieldType.int), Jvm.Cond.code ({ cls := "java/lang/String", name := "getBytes", desc := "(Ljava/nio/charset/Charset;)[B" } : Jvm.MethodName) jdk_42_method_64_code (2 : Nat) (Option.some (Jvm.ClassFile.FieldType.array Jvm.ClassFile.FieldType.byte)), Jvm.Cond.code ({ cls := "java/lang/String", name := "coder", desc := "()B" } : Jvm.MethodName) jdk_42_method_152_code (1 : Nat) (Option.some Jvm.ClassFile.FieldType.byte), Jvm.Cond.code ({ cls := "java/lang/String", name := "encode", desc := "(Ljava/nio/charset/Charset;B[B)[B" } : Jvm.MethodName) jdk_42_method_18_code (3 : Nat) (Option.some (Jvm.ClassFile.FieldType.array Jvm.ClassFile.FieldType.byte)), Jvm.Cond.code ({ cls := "java/lang/String", name := "encodeUTF8", desc := "(B[BZ)[B" } : Jvm.MethodName) jdk_42_method_46_code (9 : Nat) (Option.some (Jvm.ClassFile.FieldType.array Jvm.ClassFile.FieldType.byte)), Jvm.Cond.code ({ cls := "java/lang/StringCoding", name := "hasNegatives", desc := "([BII)Z" } : Jvm.MethodName) jdk_123_method_2_code (3 : Nat) (Option.some Jvm.ClassFile.FieldType.boolean), Jvm.Cond.code ({ cls := "java/lang/StringCoding", name := "countPositives", desc := "([BII)I" } : Jvm.MethodName) jdk_123_method_3_code (5 : Nat) (Option.some Jvm.ClassFile.FieldType.int), Jvm.Cond.code ({ cls := "java/lang/Math", name := "max", desc := "(II)I" } : Jvm.MethodName) jdk_29_method_65_code (2 : Nat) (Option.some Jvm.ClassFile.FieldType.int), Jvm.Cond.code ({ cls := "com/example/crossbook/crossbook/venue/TextsIndexOfPinLaw", name := "matches", desc := "(ICC[BII)Z" } : Jvm.MethodName) method_5_code (8 : Nat) (Option.some Jvm.ClassFile.FieldType.boolean), Jvm.Cond.code ({ cls := "java/lang/String", name := "<init>", desc := "([C)V" } : Jvm.MethodName) jdk_42_method_3_code (2 : Nat) (Option.none : Option Jvm.ClassFile.FieldType), Jvm.Cond.code ({ cls := "java/lang/String", name := "<init>", desc := "([CIILjava/lang/Void;)V" } : Jvm.MethodName) jdk_42_method_149_code (6 : Nat) (Option.none : Option Jvm.ClassFile.FieldType), Jvm.Cond.code ({ cls := "java/lang/StringUTF16", name := "compress", desc := "([CII)[B" } : Jvm.MethodName) jdk_52_method_16_code (6 : Nat) (Option.some (Jvm.ClassFile.FieldType.array Jvm.ClassFile.FieldType.byte)), Jvm.Cond.code ({ cls := "java/lang/StringUTF16", name := "compress", desc := "([CI[BII)I" } : Jvm.MethodName) jdk_52_method_21_code (7 : Nat) (Option.some Jvm.ClassFile.FieldType.int), Jvm.Cond.code ({ cls := "java/lang/StringUTF16", name := "coderFromArrayLen", desc := "([BI)B" } : Jvm.MethodName) jdk_52_method_15_code (2 : Nat) (Option.some Jvm.ClassFile.FieldType.byte), Jvm.Cond.code ({ cls := "java/lang/String", name := "valueOf", desc := "(C)Ljava/lang/String;" } : Jvm.MethodName) jdk_42_method_139_code (1 : Nat) (Option.some (Jvm.ClassFile.FieldType.object "java/lang/String")), Jvm.Cond.code ({ cls := "java/lang/StringLatin1", name := "canEncode", desc := "(C)Z" } : Jvm.MethodName) jdk_43_method_3_code (1 : Nat) (Option.some Jvm.ClassFile.FieldType.boolean), Jvm.Cond.code ({ cls := "java/lang/StringLatin1", name := "toBytes", desc := "(C)[B" } : Jvm.MethodName) jdk_43_method_46_code (1 : Nat) (Option.some (Jvm.ClassFile.FieldType.array Jvm.ClassFile.FieldType.byte)), Jvm.Cond.code ({ cls := "java/lang/String", name := "<init>", desc := "([BB)V" } : Jvm.MethodName) jdk_42_method_151_code (3 : Nat) (Option.none : Option Jvm.ClassFile.FieldType), Jvm.Cond.code ({ cls := "java/lang/StringUTF16", name := "newBytesFor", desc := "(I)[B" } : Jvm.MethodName) jdk_52_method_2_code (1 : Nat) (Option.some (Jvm.ClassFile.FieldType.array Jvm.ClassFile.FieldType.byte)), Jvm.Cond.code ({ cls := "java/lang/StringUTF16", name := "newBytesLength", desc := "(I)I" } : Jvm.MethodName) jdk_52_method_3_code (1 : Nat) (Option.some Jvm.ClassFile.FieldType.int), Jvm.Cond.code ({ cls := "java/util/Arrays", name := "copyOf", desc := "([BI)[B" } : Jvm.MethodName) jdk_65_method_121_code (3 : Nat) (Option.some (Jvm.ClassFile.FieldType.array Jvm.ClassFile.FieldType.byte)), Jvm.Cond.code ({ cls := "java/lang/Math", name := "min", desc := "(II)I" } : Jvm.MethodName) jdk_29_method_69_code (2 : Nat) (Option.some Jvm.ClassFile.FieldType.int), Jvm.Cond.code ({ cls := "com/example/crossbook/crossbook/venue/TextsIndexOfPinLaw", name := "put", desc := "([BIC)I" } : Jvm.MethodName) method_4_code (3 : Nat) (Option.some Jvm.ClassFile.FieldType.int)]
set_option maxRecDepth 65536 in
theorem codes_eq : words1.filter isCode = codes1 := rfl
theorem w_codes : ∀ c ∈ words1.filter isCode, c.before args0 about1 = true := by
  rw [codes_eq]
  intro c hc
  simp only [codes1, List.mem_cons, List.not_mem_nil, or_false] at hc
  rcases hc with rfl | rfl | rfl | rfl | rfl | rfl | rfl | rfl | rfl | rfl | rfl | rfl | rfl | rfl | rfl | rfl | rfl | rfl | rfl | rfl | rfl | rfl | rfl | rfl | rfl | rfl | rfl
  · exact w_c0
  · exact w_c1
  · exact w_c2
  · exact w_c3
  · exact w_c4
  · exact w_c5
  · exact w_c6
  · exact w_c7
  · exact w_c8
  · exact w_c9
  · exact w_c10
  · exact w_c11
  · exact w_c12
  · exact w_c13
  · exact w_c14
  · exact w_c15
  · exact w_c16
  · exact w_c17
  · exact w_c18
  · exact w_c19
  · exact w_c20
  · exact w_c21
  · exact w_c22
  · exact w_c23
  · exact w_c24
  · exact w_c25
  · exact w_c26
set_option maxRecDepth 65536 in
theorem w_t1 : (words1.take 24).all (fun c => isCode c || c.before args0 about1) = true := by decide +kernel
set_option maxRecDepth 65536 in
theorem w_t2 : ((words1.drop 24).take 24).all (fun c => isCode c || c.before args0 about1) = true := by decide +kernel
set_option maxRecDepth 65536 in
theorem w_t3 : (((words1.drop 24).drop 24).take 24).all (fun c => isCode c || c.before args0 about1) = true := by decide +kernel
set_option maxRecDepth 65536 in
theorem w_t4 : ((((words1.drop 24).drop 24).drop 24).take 24).all (fun c => isCode c || c.before args0 about1) = true := by decide +kernel
set_option maxRecDepth 65536 in
theorem w_t5 : (((((words1.drop 24).drop 24).drop 24).drop 24).take 24).all (fun c => isCode c || c.before args0 about1) = true := by decide +kernel
set_option maxRecDepth 65536 in
theorem w_t6 : ((((((words1.drop 24).drop 24).drop 24).drop 24).drop 24).take 24).all (fun c => isCode c || c.before args0 about1) = true := by decide +kernel
set_option maxRecDepth 65536 in
theorem w_t7 : ((((((words1.drop 24).drop 24).drop 24).drop 24).drop 24).drop 24).all (fun c => isCode c || c.before args0 about1) = true := by decide +kernel
theorem w_tables : (allAtoms (Jvm.Cond.code x code maxLocals ret :: tables_1)).before args0 about1 = true := by
  rw [allAtoms_all]
  show words1.all (fun c => c.before args0 about1) = true
  refine all_split ?_ w_codes
  rw [← List.take_append_drop 24 words1, List.all_append, w_t1, ← List.take_append_drop 24 (words1.drop 24), List.all_append, w_t2, ← List.take_append_drop 24 ((words1.drop 24).drop 24), List.all_append, w_t3, ← List.take_append_drop 24 (((words1.drop 24).drop 24).drop 24), List.all_append, w_t4, ← List.take_append_drop 24 ((((words1.drop 24).drop 24).drop 24).drop 24), List.all_append, w_t5, ← List.take_append_drop 24 (((((words1.drop 24).drop 24).drop 24).drop 24).drop 24), List.all_append, w_t6, w_t7]
  rfl
set_option maxRecDepth 65536 in
theorem w_rest : rest_1_c.before args0 about1 = true := by decide +kernel
set_option maxRecDepth 65536 in
theorem w_case : (Jvm.Cond.and given_1 narrow_1).before args0 about1 = true := by decide +kernel
set_option maxRecDepth 65536 in
theorem w_consts : constsHeld consts_1 about1 := Jvm.Lit.constsHeldB_iff.mp (by decide +kernel)
theorem w_applies : (headSpec (Jvm.Cond.code x code maxLocals ret :: tables_1) room_1).applies x e0.platform about1 = true :=
  (Spec.applies_iff w_frames).mpr ⟨w_running, w_runnable, w_alone, w_named, w_hears, w_ripe, w_room, w_tables⟩
theorem atStart : AtStart classFile x code maxLocals ret World_1 tables_1 room_1 Calls_1 rest_1 Pre_1 launch0 p0 e0 about1 theMethod args0 below0 :=
  ⟨lists_1, trivial, launch0.admits_env _ _ _, launch0.least_env, fairChoices_fair.cas, fairChoices_fair.clock, w_frames, w_args, w_heap, w_applies, ⟨w_consts, trivial⟩, w_rest, w_case⟩
end start1
theorem witness_1 : WitnessClaimed_1 := ⟨start1.p0, start1.e0, start1.about1, start1.theMethod, start1.args0, start1.below0, start1.atStart⟩
end Jvm.Pilot.@@N@@
