import JvmDerived
import JvmDerived.Pilot.@@N@@Statement
import JvmDerived.Pilot.@@N@@Code
set_option linter.unusedVariables false
set_option linter.unusedSimpArgs false
namespace Jvm.RoadKit
open Sem ClassFile Op Lib Jvm.Stand Jvm.Free Jvm.LawKit
section New
variable {p : Program} {l : Launch} {e : Env} {R : Room} {s : State} {m : MethodId} {args : Array Value} {below : List Frame} {meth : Method} {c : Code} {T : State} {locs : List Loc} {cells slots : Nat}
theorem retI (X : Stand p l e R s m args below meth c T locs cells slots) (hx : p.tables.exec = Jvm.exec) {pc : Nat} {Ls : Array Slot} {z : Int32} {rest : List Value} (hret : meth.sig.returnType = some .int) (hd : decode c.code pc = .ok (.ireturn, 1)) {fs : List Frame}
    (hl : ∀ (f : JFrame) (acts : List Action), f.method = m → f.locked = none → f.entered = [] → (doReturn e (T.setTop f) acts (some (.int z))).1 = T.setFrames fs) : Steps p.tables e below (T.setTop (mkF m pc Ls (.int z :: rest))) (T.setFrames fs) := by
  have hm' : T.vm.method? m = some meth := X.method'
  have hn : narrow .int (.int z) = .int z := rfl
  show Steps p.tables e below (T.setTop { method := m, pc := pc, locals := Ls, stack := _ :: rest, locked := none }) _
  jvm_step X.here [X.here.top, hx, hd, hm', hret, hn]
  first | (intro acts; rw [hl _ acts rfl rfl rfl]) | rw [hl _ _ rfl rfl rfl]
  exact Steps.refl _
theorem own_nb {t : FieldType} {c : Prop} [Decidable c] {a b : Int32} (ha : nar t a = a) (hb : nar t b = b) : nar t (if c then a else b) = (if c then a else b) := by
  by_cases h : c
  · rw [if_pos h]; exact ha
  · rw [if_neg h]; exact hb
theorem own_retN (X : Stand p l e R s m args below meth c T locs cells slots) (hx : p.tables.exec = Jvm.exec) {pc : Nat} {Ls : Array Slot} {z : Int32} {t : FieldType} {rest : List Value} (hret : meth.sig.returnType = some t) (ht : t = .boolean ∨ t = .byte ∨ t = .char ∨ t = .short) (hz : nar t z = z)
    (hd : decode c.code pc = .ok (.ireturn, 1)) {fs : List Frame} (hl : ∀ (f : JFrame) (acts : List Action), f.method = m → f.locked = none → f.entered = [] → (doReturn e (T.setTop f) acts (some (.int z))).1 = T.setFrames fs) :
    Steps p.tables e below (T.setTop (mkF m pc Ls (.int z :: rest))) (T.setFrames fs) := retN X hx hret ht hd (by rw [hz]; exact hl)
end New
end Jvm.RoadKit
namespace Jvm.Pilot.@@N@@
open Jvm Jvm.ClassFile Sem Op Lib Jvm.Free Jvm.Stand Jvm.LawKit Jvm.RoadKit Bundle Jvm.Pilot.@@N@@.Jvm.D
theorem own_m {α : Type} {l : List α} {a : α} (i : Nat) (h : l[i]? = some a) : a ∈ l := List.mem_of_getElem? h
def Go (tb : Tables) (e : Env) (below : List Frame) (A : State) (P : State → Outcome → Prop) : Prop := ∃ t o, Steps tb e below A t ∧ P t o
theorem Go.st {tb : Tables} {e : Env} {below : List Frame} {A B : State} {P : State → Outcome → Prop} (h : ∀ t, Steps tb e below A t → Steps tb e below B t) (k : Go tb e below A P) : Go tb e below B P := by
  obtain ⟨t, o, h1, h2⟩ := k; exact ⟨t, o, h t h1, h2⟩
theorem Go.s {tb : Tables} {e : Env} {below : List Frame} {A B : State} {P : State → Outcome → Prop} (h : ∀ {t}, Steps tb e below A t → Steps tb e below B t) (k : Go tb e below A P) : Go tb e below B P := Go.st (fun _ q => h q) k
theorem Go.tr {tb : Tables} {e : Env} {below : List Frame} {A B : State} {P : State → Outcome → Prop} (h : Steps tb e below B A) (k : Go tb e below A P) : Go tb e below B P := by
  obtain ⟨t, o, h1, h2⟩ := k; exact ⟨t, o, h.trans h1, h2⟩
theorem Go.start {tb : Tables} {e : Env} {below : List Frame} {A : State} {P0 : State → Outcome → Prop} (h : ∀ P : State → Outcome → Prop, (∀ t o, P0 t o → P t o) → Go tb e below A P) : ∃ t o, Steps tb e below A t ∧ P0 t o := h P0 (fun _ _ q => q)
theorem own_cs {p : Program} {l : Launch} {e : Env} {R : Room} {s : State} {m : MethodId} {args : Array Value} {below : List Frame} {meth : Method} {c : Code} {T : State} {locs : List Loc} {cells slots cells' slots' : Nat} (X : Stand p l e R s m args below meth c T locs cells slots) (h1 : cells = cells') (h2 : slots = slots') : Stand p l e R s m args below meth c T locs cells' slots' := h1 ▸ h2 ▸ X
theorem own_sta_keep {Z : State} {h h' : Heap} {C n d : String} {v : Value} {ws : List Addr} (F : Sta Z h C n d v) (K : Keep h h' ws) (q : ∀ x ∈ ws, ∀ cell : Cell, h[x]? = some cell → cell.vm.isStatics = false) : Sta Z h' C n d v := by
  obtain ⟨cf, i, k, f, st, cell, h1, h2, h3, h4, h5, h6, h7⟩ := F
  exact ⟨cf, i, k, f, st, cell, h1, h2, h3, h4, K.2.1 st cell h5 (fun hm => by rw [q st hm cell h5] at h6; cases h6), h6, h7⟩
theorem own_fr {k : Nat} {L L' : List Loc} (h : L = L') (N : Fr k L') : Fr k L := h ▸ N
theorem own_cat {v : Value} (h : v.isRef = true) : v.category = 1 := by rcases ref_cases h with rfl | ⟨_, rfl⟩ <;> rfl
theorem own_cst {tb : Tables} {e : Env} {below : List Frame} {T : State} {m : MethodId} {J : Nat} {Ls : Array Slot} {a b : Int32} {rest : List Value} {t : State} (h : a = b) (k : Steps tb e below (T.setTop (mkF m J Ls (.int a :: rest))) t) : Steps tb e below (T.setTop (mkF m J Ls (.int b :: rest))) t := h ▸ k
theorem own_lt {x y : Int64} (h : x < y) : lcmpW x y < 0 := (lw_lt x y).mpr h
theorem own_nlt {x y : Int64} (h : ¬ x < y) : ¬ lcmpW x y < 0 := fun q => h ((lw_lt x y).mp q)
theorem own_gt {x y : Int64} (h : y < x) : 0 < lcmpW x y := (lw_gt x y).mpr h
theorem own_ngt {x y : Int64} (h : ¬ y < x) : ¬ 0 < lcmpW x y := fun q => h ((lw_gt x y).mp q)
theorem own_eq {x y : Int64} (h : x = y) : lcmpW x y = 0 := (lw_eq x y).mpr h
theorem own_neq {x y : Int64} (h : ¬ x = y) : ¬ lcmpW x y = 0 := fun q => h ((lw_eq x y).mp q)
section G
variable {p : Program} {l : Launch} {e : Env} {R : Room} {s : State} {m : MethodId} {args : Array Value} {below : List Frame} {meth : Method} {c : Code} {T : State} {locs : List Loc} {cells slots : Nat} {bytes : ByteArray} {pc : Nat} {Ls : Array Slot} {S : List Value} {P : State → Outcome → Prop}
theorem g_iload (X : Stand p l e R s m args below meth c T locs cells slots) (hx : p.tables.exec = Jvm.exec) (hby : c.code = bytes) {k : Nat} {v : Int32} (hd : decode bytes pc = .ok (.iload k, 2)) (hl : Ls[k]? = some (.val (.int v))) (q : Go p.tables e below (T.setTop (mkF m (pc + 2) Ls (.int v :: S))) P) : Go p.tables e below (T.setTop (mkF m pc Ls S)) P := Go.s (XS.iload X.here hx rfl (hb hby hd) hl) q
theorem g_iloadN (X : Stand p l e R s m args below meth c T locs cells slots) (hx : p.tables.exec = Jvm.exec) (hby : c.code = bytes) {k : Fin 4} {v : Int32} (hd : decode bytes pc = .ok (.iload_n k, 1)) (hl : Ls[k.val]? = some (.val (.int v))) (q : Go p.tables e below (T.setTop (mkF m (pc + 1) Ls (.int v :: S))) P) : Go p.tables e below (T.setTop (mkF m pc Ls S)) P := Go.s (XS.iloadN X.here hx rfl (hb hby hd) hl) q
theorem g_lload (X : Stand p l e R s m args below meth c T locs cells slots) (hx : p.tables.exec = Jvm.exec) (hby : c.code = bytes) {k : Nat} {v : Int64} (hd : decode bytes pc = .ok (.lload k, 2)) (hl : Ls[k]? = some (.val (.long v))) (q : Go p.tables e below (T.setTop (mkF m (pc + 2) Ls (.long v :: S))) P) : Go p.tables e below (T.setTop (mkF m pc Ls S)) P := Go.s (XS.lload X.here hx rfl (hb hby hd) hl) q
theorem g_lloadN (X : Stand p l e R s m args below meth c T locs cells slots) (hx : p.tables.exec = Jvm.exec) (hby : c.code = bytes) {k : Fin 4} {v : Int64} (hd : decode bytes pc = .ok (.lload_n k, 1)) (hl : Ls[k.val]? = some (.val (.long v))) (q : Go p.tables e below (T.setTop (mkF m (pc + 1) Ls (.long v :: S))) P) : Go p.tables e below (T.setTop (mkF m pc Ls S)) P := Go.s (XS.lloadN X.here hx rfl (hb hby hd) hl) q
theorem g_aload (X : Stand p l e R s m args below meth c T locs cells slots) (hx : p.tables.exec = Jvm.exec) (hby : c.code = bytes) {k : Nat} {v : Value} (hd : decode bytes pc = .ok (.aload k, 2)) (hl : Ls[k]? = some (.val v)) (hv : v.isRef = true) (q : Go p.tables e below (T.setTop (mkF m (pc + 2) Ls (v :: S))) P) : Go p.tables e below (T.setTop (mkF m pc Ls S)) P := Go.s (XS.aload X.here hx rfl (hb hby hd) hl hv) q
theorem g_aloadN (X : Stand p l e R s m args below meth c T locs cells slots) (hx : p.tables.exec = Jvm.exec) (hby : c.code = bytes) {k : Fin 4} {v : Value} (hd : decode bytes pc = .ok (.aload_n k, 1)) (hl : Ls[k.val]? = some (.val v)) (hv : v.isRef = true) (q : Go p.tables e below (T.setTop (mkF m (pc + 1) Ls (v :: S))) P) : Go p.tables e below (T.setTop (mkF m pc Ls S)) P := Go.s (XS.aloadN X.here hx rfl (hb hby hd) hl hv) q
theorem g_istore (X : Stand p l e R s m args below meth c T locs cells slots) (hx : p.tables.exec = Jvm.exec) (hby : c.code = bytes) {k : Nat} {x : Int32} {l' : Array Slot} (hd : decode bytes pc = .ok (.istore k, 2)) (hl : storeLocals Ls k (.int x) = some l') (q : Go p.tables e below (T.setTop (mkF m (pc + 2) l' S)) P) : Go p.tables e below (T.setTop (mkF m pc Ls (.int x :: S))) P := Go.s (XS.istore X.here hx rfl (hb hby hd) rfl hl) q
theorem g_istoreN (X : Stand p l e R s m args below meth c T locs cells slots) (hx : p.tables.exec = Jvm.exec) (hby : c.code = bytes) {k : Fin 4} {x : Int32} {l' : Array Slot} (hd : decode bytes pc = .ok (.istore_n k, 1)) (hl : storeLocals Ls k.val (.int x) = some l') (q : Go p.tables e below (T.setTop (mkF m (pc + 1) l' S)) P) : Go p.tables e below (T.setTop (mkF m pc Ls (.int x :: S))) P := Go.s (XS.istoreN X.here hx rfl (hb hby hd) rfl hl) q
theorem g_astore (X : Stand p l e R s m args below meth c T locs cells slots) (hx : p.tables.exec = Jvm.exec) (hby : c.code = bytes) {k : Nat} {x : Value} {l' : Array Slot} (hd : decode bytes pc = .ok (.astore k, 2)) (hv : x.isRef = true) (hl : storeLocals Ls k x = some l') (q : Go p.tables e below (T.setTop (mkF m (pc + 2) l' S)) P) : Go p.tables e below (T.setTop (mkF m pc Ls (x :: S))) P := Go.s (XS.astore X.here hx rfl (hb hby hd) rfl hv hl) q
theorem g_astoreN (X : Stand p l e R s m args below meth c T locs cells slots) (hx : p.tables.exec = Jvm.exec) (hby : c.code = bytes) {k : Fin 4} {x : Value} {l' : Array Slot} (hd : decode bytes pc = .ok (.astore_n k, 1)) (hv : x.isRef = true) (hl : storeLocals Ls k.val x = some l') (q : Go p.tables e below (T.setTop (mkF m (pc + 1) l' S)) P) : Go p.tables e below (T.setTop (mkF m pc Ls (x :: S))) P := Go.s (XS.astoreN X.here hx rfl (hb hby hd) rfl hv hl) q
theorem g_iconst (X : Stand p l e R s m args below meth c T locs cells slots) (hx : p.tables.exec = Jvm.exec) (hby : c.code = bytes) {i : Int} {v : Int32} (hd : decode bytes pc = .ok (.iconst i, 1)) (hv : Int32.ofInt i = v) (q : Go p.tables e below (T.setTop (mkF m (pc + 1) Ls (.int v :: S))) P) : Go p.tables e below (T.setTop (mkF m pc Ls S)) P := by subst hv; exact Go.s (XS.iconst X.here hx rfl (hb hby hd)) q
theorem g_bipush (X : Stand p l e R s m args below meth c T locs cells slots) (hx : p.tables.exec = Jvm.exec) (hby : c.code = bytes) {i : Int} {v : Int32} (hd : decode bytes pc = .ok (.bipush i, 2)) (hv : (Int8.ofInt i).toInt32 = v) (q : Go p.tables e below (T.setTop (mkF m (pc + 2) Ls (.int v :: S))) P) : Go p.tables e below (T.setTop (mkF m pc Ls S)) P := by subst hv; exact Go.s (XS.bipush X.here hx rfl (hb hby hd)) q
theorem g_sipush (X : Stand p l e R s m args below meth c T locs cells slots) (hx : p.tables.exec = Jvm.exec) (hby : c.code = bytes) {i : Int} {v : Int32} (hd : decode bytes pc = .ok (.sipush i, 3)) (hv : (Int16.ofInt i).toInt32 = v) (q : Go p.tables e below (T.setTop (mkF m (pc + 3) Ls (.int v :: S))) P) : Go p.tables e below (T.setTop (mkF m pc Ls S)) P := by subst hv; exact Go.s (XS.sipush X.here hx rfl (hb hby hd)) q
theorem g_iadd (X : Stand p l e R s m args below meth c T locs cells slots) (hx : p.tables.exec = Jvm.exec) (hby : c.code = bytes) {x y z : Int32} (hd : decode bytes pc = .ok (.iadd, 1)) (hz : x + y = z) (q : Go p.tables e below (T.setTop (mkF m (pc + 1) Ls (.int z :: S))) P) : Go p.tables e below (T.setTop (mkF m pc Ls (.int y :: .int x :: S))) P := by subst hz; exact Go.s (XS.iadd X.here hx rfl (hb hby hd) rfl) q
theorem g_isub (X : Stand p l e R s m args below meth c T locs cells slots) (hx : p.tables.exec = Jvm.exec) (hby : c.code = bytes) {x y z : Int32} (hd : decode bytes pc = .ok (.isub, 1)) (hz : x - y = z) (q : Go p.tables e below (T.setTop (mkF m (pc + 1) Ls (.int z :: S))) P) : Go p.tables e below (T.setTop (mkF m pc Ls (.int y :: .int x :: S))) P := by subst hz; exact Go.s (XS.isub X.here hx rfl (hb hby hd) rfl) q
theorem g_imul (X : Stand p l e R s m args below meth c T locs cells slots) (hx : p.tables.exec = Jvm.exec) (hby : c.code = bytes) {x y z : Int32} (hd : decode bytes pc = .ok (.imul, 1)) (hz : x * y = z) (q : Go p.tables e below (T.setTop (mkF m (pc + 1) Ls (.int z :: S))) P) : Go p.tables e below (T.setTop (mkF m pc Ls (.int y :: .int x :: S))) P := by subst hz; exact Go.s (XS.imul X.here hx rfl (hb hby hd) rfl) q
theorem g_iand (X : Stand p l e R s m args below meth c T locs cells slots) (hx : p.tables.exec = Jvm.exec) (hby : c.code = bytes) {x y z : Int32} (hd : decode bytes pc = .ok (.iand, 1)) (hz : x &&& y = z) (q : Go p.tables e below (T.setTop (mkF m (pc + 1) Ls (.int z :: S))) P) : Go p.tables e below (T.setTop (mkF m pc Ls (.int y :: .int x :: S))) P := by subst hz; exact Go.s (XS.iand X.here hx rfl (hb hby hd) rfl) q
theorem g_ior (X : Stand p l e R s m args below meth c T locs cells slots) (hx : p.tables.exec = Jvm.exec) (hby : c.code = bytes) {x y z : Int32} (hd : decode bytes pc = .ok (.ior, 1)) (hz : x ||| y = z) (q : Go p.tables e below (T.setTop (mkF m (pc + 1) Ls (.int z :: S))) P) : Go p.tables e below (T.setTop (mkF m pc Ls (.int y :: .int x :: S))) P := by subst hz; exact Go.s (XS.ior X.here hx rfl (hb hby hd) rfl) q
theorem g_ixor (X : Stand p l e R s m args below meth c T locs cells slots) (hx : p.tables.exec = Jvm.exec) (hby : c.code = bytes) {x y z : Int32} (hd : decode bytes pc = .ok (.ixor, 1)) (hz : x ^^^ y = z) (q : Go p.tables e below (T.setTop (mkF m (pc + 1) Ls (.int z :: S))) P) : Go p.tables e below (T.setTop (mkF m pc Ls (.int y :: .int x :: S))) P := by subst hz; exact Go.s (XS.ixor X.here hx rfl (hb hby hd) rfl) q
theorem g_i2b (X : Stand p l e R s m args below meth c T locs cells slots) (hx : p.tables.exec = Jvm.exec) (hby : c.code = bytes) {x z : Int32} (hd : decode bytes pc = .ok (.i2b, 1)) (hz : x.toInt8.toInt32 = z) (q : Go p.tables e below (T.setTop (mkF m (pc + 1) Ls (.int z :: S))) P) : Go p.tables e below (T.setTop (mkF m pc Ls (.int x :: S))) P := by subst hz; exact Go.s (XS.i2b X.here hx rfl (hb hby hd) rfl) q
theorem g_i2c (X : Stand p l e R s m args below meth c T locs cells slots) (hx : p.tables.exec = Jvm.exec) (hby : c.code = bytes) {x z : Int32} (hd : decode bytes pc = .ok (.i2c, 1)) (hz : x.toUInt32.toUInt16.toUInt32.toInt32 = z) (q : Go p.tables e below (T.setTop (mkF m (pc + 1) Ls (.int z :: S))) P) : Go p.tables e below (T.setTop (mkF m pc Ls (.int x :: S))) P := by subst hz; exact Go.s (XS.i2c X.here hx rfl (hb hby hd) rfl) q
theorem g_dup (X : Stand p l e R s m args below meth c T locs cells slots) (hx : p.tables.exec = Jvm.exec) (hby : c.code = bytes) {x : Value} (hd : decode bytes pc = .ok (.dup, 1)) (hc : x.category = 1) (q : Go p.tables e below (T.setTop (mkF m (pc + 1) Ls (x :: x :: S))) P) : Go p.tables e below (T.setTop (mkF m pc Ls (x :: S))) P := Go.s (XS.dup X.here hx rfl (hb hby hd) rfl hc) q
theorem g_goto (X : Stand p l e R s m args below meth c T locs cells slots) (hx : p.tables.exec = Jvm.exec) (hby : c.code = bytes) {o : Int} {pc0 pc' : Nat} (hd : decode bytes pc = .ok (.goto o, 3)) (hpc : pc = pc0) (ho : 0 ≤ (pc0 : Int) + o) (hp : ((pc0 : Int) + o).toNat = pc') (q : Go p.tables e below (T.setTop (mkF m pc' Ls S)) P) : Go p.tables e below (T.setTop (mkF m pc Ls S)) P := by subst hpc; exact Go.s (XS.goto X.here hx rfl rfl (hb hby hd) ho hp) q
theorem g_iinc (X : Stand p l e R s m args below meth c T locs cells slots) (hx : p.tables.exec = Jvm.exec) (hby : c.code = bytes) {k : Nat} {cst : Int} {x x' : Int32} {l' : Array Slot} (hd : decode bytes pc = .ok (.iinc k cst, 3)) (hl : Ls[k]? = some (.val (.int x))) (hx' : x + Int32.ofInt cst = x') (hl' : storeLocals Ls k (.int x') = some l') (q : Go p.tables e below (T.setTop (mkF m (pc + 3) l' S)) P) : Go p.tables e below (T.setTop (mkF m pc Ls S)) P := by subst hx'; exact Go.s (XS.iinc X.here hx rfl (hb hby hd) hl hl') q
theorem g_icmpYes (X : Stand p l e R s m args below meth c T locs cells slots) (hx : p.tables.exec = Jvm.exec) (hby : c.code = bytes) {cd : ClassFile.Cond} {x y : Int32} {o : Int} {pc0 pc' : Nat} (hd : decode bytes pc = .ok (.if_icmp cd o, 3)) (hc : if_icmp.holds cd x y = true) (hpc : pc = pc0) (ho : 0 ≤ (pc0 : Int) + o) (hp : ((pc0 : Int) + o).toNat = pc') (q : Go p.tables e below (T.setTop (mkF m pc' Ls S)) P) : Go p.tables e below (T.setTop (mkF m pc Ls (.int y :: .int x :: S))) P := by subst hpc; exact Go.s (XS.icmpYes X.here hx rfl rfl (hb hby hd) rfl hc ho hp) q
theorem g_icmpNo (X : Stand p l e R s m args below meth c T locs cells slots) (hx : p.tables.exec = Jvm.exec) (hby : c.code = bytes) {cd : ClassFile.Cond} {x y : Int32} {o : Int} (hd : decode bytes pc = .ok (.if_icmp cd o, 3)) (hc : if_icmp.holds cd x y = false) (q : Go p.tables e below (T.setTop (mkF m (pc + 3) Ls S)) P) : Go p.tables e below (T.setTop (mkF m pc Ls (.int y :: .int x :: S))) P := Go.s (XS.icmpNo X.here hx rfl (hb hby hd) rfl hc) q
theorem g_ifYes (X : Stand p l e R s m args below meth c T locs cells slots) (hx : p.tables.exec = Jvm.exec) (hby : c.code = bytes) {cd : ClassFile.Cond} {x : Int32} {o : Int} {pc0 pc' : Nat} (hd : decode bytes pc = .ok (.ifCond cd o, 3)) (hc : ifCond.holds cd x = true) (hpc : pc = pc0) (ho : 0 ≤ (pc0 : Int) + o) (hp : ((pc0 : Int) + o).toNat = pc') (q : Go p.tables e below (T.setTop (mkF m pc' Ls S)) P) : Go p.tables e below (T.setTop (mkF m pc Ls (.int x :: S))) P := by subst hpc; exact Go.s (XS.ifYes X.here hx rfl rfl (hb hby hd) rfl hc ho hp) q
theorem g_ifNo (X : Stand p l e R s m args below meth c T locs cells slots) (hx : p.tables.exec = Jvm.exec) (hby : c.code = bytes) {cd : ClassFile.Cond} {x : Int32} {o : Int} (hd : decode bytes pc = .ok (.ifCond cd o, 3)) (hc : ifCond.holds cd x = false) (q : Go p.tables e below (T.setTop (mkF m (pc + 3) Ls S)) P) : Go p.tables e below (T.setTop (mkF m pc Ls (.int x :: S))) P := Go.s (XS.ifNo X.here hx rfl (hb hby hd) rfl hc) q
end G
theorem own_nfB {s : State} {args : Array Value} {K : String} {y z z' : MethodName} (w : (Jvm.Cond.selects K z' z).before args s = true) (e : z.cls = y.cls) : NotFace s y := fun r0 h0 => by
  obtain ⟨c2, r2, m2, q1, q2, q3, q4, kP, hkP, hkPi⟩ := Cond.selects_spec w
  have h1 := findClass_of_methodNamed h0
  have h2 := findClass_of_methodNamed q3
  rw [e, h1] at h2
  exact ⟨kP, by rw [Option.some.inj h2]; exact hkP, hkPi⟩
theorem own_selB {Z : State} {a0 : Array Value} {K : String} {y : MethodName} (w : (Jvm.Cond.selects K y y).before a0 Z = true) (wp : (Jvm.Cond.privateMethod y).before a0 Z = true) (wm : (Jvm.Cond.instanceMethod y).before a0 Z = true) (hy : y.cls ≠ "java/lang/invoke/MethodHandle" ∧ y.cls ≠ "java/lang/invoke/VarHandle" := by decide) : (Jvm.Cond.selects y.cls y y).before a0 Z = true := by
  obtain ⟨c2, r2, m2, q1, q2, q3, q4, kP, hkP, hkPi⟩ := Cond.selects_spec w
  exact selects_self_of_private (findClass_of_methodNamed q3) hkP hkPi (Cond.privateMethod_at wp) wm hy
theorem own_sameB {Z : State} {a0 : Array Value} {K : String} {y z z' : MethodName} (wm : (Jvm.Cond.instanceMethod y).before a0 Z = true) (w : (Jvm.Cond.selects K z' z).before a0 Z = true) (e : z.cls = y.cls) (hy : y.cls ≠ "java/lang/invoke/MethodHandle" ∧ y.cls ≠ "java/lang/invoke/VarHandle" := by decide) : (Jvm.Cond.sameMethod y.cls y.cls y.name y.desc).before a0 Z = true := by
  obtain ⟨c2, r2, m2, q1, q2, q3, q4, kP, hkP, hkPi⟩ := Cond.selects_spec w
  obtain ⟨mk, methM, hnamed, hmethM, -, -⟩ := Cond.instanceMethod_spec wm
  have hf : Z.methodFound? y.cls y.name y.desc = some mk := State.methodFound?_of_named hnamed hy
  have h1 := findClass_of_methodNamed hnamed
  have h2 := findClass_of_methodNamed q3
  rw [e, h1] at h2
  have h3 : mk.cls = m2.cls := Option.some.inj h2
  have hn : Z.methodNamed? ⟨y.cls, y.name, y.desc⟩ = some mk := hnamed
  simp only [Cond.before, Cond.holds, Cond.value, h1, hf, hn, h3, hkP]
  simp; exact hkPi
theorem own_sh0 (n : Int32) : (n >>> ((0 : Int32) &&& 31)) = n := by
  apply Int32.toInt_inj.mp; have := c_ishr n 0 0 (by decide); rw [this]; simp
theorem own_shl0 (n : Int32) : (n <<< ((0 : Int32) &&& 31)) = n := by
  rw [show ((0 : Int32) &&& 31) = 0 from by decide]; apply Int32.toBitVec_inj.mp; simp
theorem own_gm (E : List Int32) (k : Nat) : (E.map Value.int).getD k (.int (0 : Int32)) = .int (E.getD k 0) := by
  rw [List.getD_eq_getElem?_getD, List.getElem?_map, List.getD_eq_getElem?_getD]
  cases E[k]? <;> rfl
theorem dc0_0 : decode jdk_42_method_152_code 0 = .ok (.getstatic 38, 3) := by decide +kernel
theorem dc0_3 : decode jdk_42_method_152_code 3 = .ok (.ifCond .eq 10, 3) := by decide +kernel
theorem dc0_6 : decode jdk_42_method_152_code 6 = .ok (.aload_n 0, 1) := by decide +kernel
theorem dc0_7 : decode jdk_42_method_152_code 7 = .ok (.getfield 15, 3) := by decide +kernel
theorem dc0_10 : decode jdk_42_method_152_code 10 = .ok (.goto 4, 3) := by decide +kernel
theorem dc0_14 : decode jdk_42_method_152_code 14 = .ok (.ireturn, 1) := by decide +kernel
theorem pn_0 : plainName "java/lang/String" = true := by first | (simp [plainName, overriddenIn]; done) | decide +kernel
theorem ef_rmCd (mi : MethodId) (o : Addr) (cz : Int32) : entryFrame mi #[(.ref o)] 1 = mkF mi 0 #[.val (.ref o)] [] := by first | (simp [entryFrame, mkF, argsToLocals, Value.category]; done) | rfl
def Q_rmCd (Z : State) (o : Addr) (cz : Int32) (h0 : Heap) (n0 : Nat) (vv_ : Option Value) (hh_ : Heap) (LL_ : List Loc) : Prop := vv_ = some (.int (0 : Int32)) ∧ Fr n0 LL_ ∧ hh_ = h0
set_option maxRecDepth 65536 in
set_option maxHeartbeats 40000000 in
theorem rmCd (l : Launch) (Z : State) (a0 : Array Value) (hw : ∀ d ∈ tables_1, d.before a0 Z = true) (ws : List Jvm.Cond) (o : Addr) (cz : Int32) (h0 : Heap) (n0 : Nat) (Z0 : n0 ≤ h0.size) (SCo : Fld Z h0 o "java/lang/String" "coder" "B" (.int (0 : Int32))) (SC : Sta Z h0 "java/lang/String" "COMPACT_STRINGS" "Z" (.int cz)) (hcz : ¬ (cz = (0 : Int32))) :
    MetFree l (⟨"java/lang/String", "coder", "()B"⟩ : MethodName) (head1 (Jvm.Cond.code (⟨"java/lang/String", "coder", "()B"⟩ : MethodName) jdk_42_method_152_code 1 (some .byte) :: ws) ({ frames := 0, cells := 0, slots := 0, locals := 0 } : Room)) (fun aa_ U => aa_ = #[(.ref o)] ∧ Z.Warmed39 U.vm ∧ U.heap = h0) (fun _ _ _ _ _ => True) (fun _ U oo_ UV_ => ∃ vv_ LL_, oo_ = .returned vv_ ∧ Q_rmCd Z o cz h0 n0 vv_ UV_.heap LL_ ∧ FrameEnd U oo_ UV_ LL_ ({ frames := 0, cells := 0, slots := 0, locals := 0 } : Room).cells ({ frames := 0, cells := 0, slots := 0, locals := 0 } : Room).slots) := by
  refine MetFree.of_bodySF (plainFor_of_name pn_0) hisR ?_
  intro pg ev si mi args below meth ci s₁ Bd hml0 hP0 hK
  obtain ⟨rfl, hZ, hh⟩ := hP0
  have hx := Bd.exec
  have hby := Bd.bytes
  have hml : ci.maxLocals = 1 := hml0
  have hown : si.vm.findClass "java/lang/String" = some mi.cls := findClass_of_methodNamed Bd.named
  have hnm := (name_of_methodNamed Bd.named Bd.method).1
  have X0 : Stand pg l ev ({ frames := 0, cells := 0, slots := 0, locals := 0 } : Room) si mi #[(.ref o)] below meth ci s₁ [] 0 0 := Stand.of_body Bd
  have e0 : s₁.heap = h0 := by rw [← hh, Bd.state]; rfl
  have N0 := Fr.nil n0
  refine Go.start (fun P hP => ?_)
  refine Go.st (fun t_ k_ => castTop (ef_rmCd mi o cz) k_) (A := s₁.setTop (mkF mi 0 #[.val (.ref o)] [])) ?_
  show Go _ _ _ (s₁.setTop (mkF mi 0 #[.val (.ref o)] [])) _
  obtain ⟨T1, X1, e1, st1⟩ := getS2 X0 hx hZ hown (host := "") (Or.inl (hw _ (own_m 46 rfl))) Via.refl e0 SC (g := (mkF mi 0 #[.val (.ref o)] [])) rfl (hb hby dc0_0)
  refine Go.st st1 ?_
  refine g_ifNo X1 hx hby dc0_3 ((if0 _ _).trans (feq hcz).1) ?_
  refine g_aloadN X1 hx hby dc0_6 rfl rfl ?_
  obtain ⟨T2, X2, e2, st2⟩ := getF X1 hx hZ hown (host := "") (Or.inl (hw _ (own_m 47 rfl))) Via.refl e1 SCo (g := (mkF mi 7 #[.val (.ref o)] [(.ref o)])) rfl rfl (hb hby dc0_7)
  refine Go.st st2 ?_
  refine g_goto X2 hx hby dc0_10 (pc0 := 10) (pc' := 14) rfl (by decide) (by decide) ?_
  obtain ⟨fs, hr, hrun, hended, hW, hsame⟩ := X2.leave (v := some (.int 0)) (fun h => by rw [Bd.returns] at h; cases h) (BodyLoose.notSynchronized Bd)
  refine ⟨_, _, ?_, hP _ _ ⟨hrun, hended, _, _, rfl, ?_, ⟨_, rfl⟩, hW, hsame.mono (by decide) (by decide)⟩⟩
  · exact retN X2 hx (t := .byte) Bd.returns (by simp) (hb hby dc0_14) hr
  · show (some (.int 0) : Option Value) = some (.int (0 : Int32)) ∧ Fr n0 _ ∧ T2.heap = h0
    rw [e2]
    exact ⟨rfl, N0, rfl⟩
theorem dc1_0 : decode jdk_42_method_54_code 0 = .ok (.aload_n 0, 1) := by decide +kernel
theorem dc1_1 : decode jdk_42_method_54_code 1 = .ok (.getfield 9, 3) := by decide +kernel
theorem dc1_4 : decode jdk_42_method_54_code 4 = .ok (.arraylength, 1) := by decide +kernel
theorem dc1_5 : decode jdk_42_method_54_code 5 = .ok (.aload_n 0, 1) := by decide +kernel
theorem dc1_6 : decode jdk_42_method_54_code 6 = .ok (.invokevirtual 335, 3) := by decide +kernel
theorem pd_0 : parseMethodDescriptor "()B" = some ⟨[], some .byte⟩ := by decide +kernel
theorem dc1_9 : decode jdk_42_method_54_code 9 = .ok (.ishr, 1) := by decide +kernel
theorem dc1_10 : decode jdk_42_method_54_code 10 = .ok (.ireturn, 1) := by decide +kernel
theorem ef_rmLn (mi : MethodId) (o : Addr) (b : Addr) (kb : ClassId) (n : Int32) (E : List Int32) (cz : Int32) : entryFrame mi #[(.ref o)] 1 = mkF mi 0 #[.val (.ref o)] [] := by first | (simp [entryFrame, mkF, argsToLocals, Value.category]; done) | rfl
def Q_rmLn (Z : State) (o : Addr) (b : Addr) (kb : ClassId) (n : Int32) (E : List Int32) (cz : Int32) (h0 : Heap) (n0 : Nat) (vv_ : Option Value) (hh_ : Heap) (LL_ : List Loc) : Prop := vv_ = some (.int n) ∧ Fr n0 LL_ ∧ hh_ = h0
set_option maxRecDepth 65536 in
set_option maxHeartbeats 40000000 in
theorem rmLn (l : Launch) (Z : State) (a0 : Array Value) (hw : ∀ d ∈ tables_1, d.before a0 Z = true) (ws : List Jvm.Cond) (o : Addr) (b : Addr) (kb : ClassId) (n : Int32) (E : List Int32) (cz : Int32) (h0 : Heap) (n0 : Nat) (Z0 : n0 ≤ h0.size) (SE : Exa Z h0 o "java/lang/String") (SCo : Fld Z h0 o "java/lang/String" "coder" "B" (.int (0 : Int32))) (SVa : Fld Z h0 o "java/lang/String" "value" "[B" (.ref b)) (SAr : Arv Z h0 b kb .byte n (E.map Value.int) (.int (0 : Int32))) (SEb : Exa Z h0 b "[B") (SC : Sta Z h0 "java/lang/String" "COMPACT_STRINGS" "Z" (.int cz)) (hcz : ¬ (cz = (0 : Int32))) :
    MetFree l (⟨"java/lang/String", "length", "()I"⟩ : MethodName) (head1 (Jvm.Cond.code (⟨"java/lang/String", "length", "()I"⟩ : MethodName) jdk_42_method_54_code 1 (some .int) :: ws) ({ frames := 1, cells := 0, slots := 0, locals := 13 } : Room)) (fun aa_ U => aa_ = #[(.ref o)] ∧ Z.Warmed39 U.vm ∧ U.heap = h0) (fun _ _ _ _ _ => True) (fun _ U oo_ UV_ => ∃ vv_ LL_, oo_ = .returned vv_ ∧ Q_rmLn Z o b kb n E cz h0 n0 vv_ UV_.heap LL_ ∧ FrameEnd U oo_ UV_ LL_ ({ frames := 1, cells := 0, slots := 0, locals := 13 } : Room).cells ({ frames := 1, cells := 0, slots := 0, locals := 13 } : Room).slots) := by
  refine MetFree.of_bodySF (plainFor_of_name pn_0) hisR ?_
  intro pg ev si mi args below meth ci s₁ Bd hml0 hP0 hK
  obtain ⟨rfl, hZ, hh⟩ := hP0
  have hx := Bd.exec
  have hby := Bd.bytes
  have hml : ci.maxLocals = 1 := hml0
  have hown : si.vm.findClass "java/lang/String" = some mi.cls := findClass_of_methodNamed Bd.named
  have hnm := (name_of_methodNamed Bd.named Bd.method).1
  have X0 : Stand pg l ev ({ frames := 1, cells := 0, slots := 0, locals := 13 } : Room) si mi #[(.ref o)] below meth ci s₁ [] 0 0 := Stand.of_body Bd
  have e0 : s₁.heap = h0 := by rw [← hh, Bd.state]; rfl
  have N0 := Fr.nil n0
  refine Go.start (fun P hP => ?_)
  refine Go.st (fun t_ k_ => castTop (ef_rmLn mi o b kb n E cz) k_) (A := s₁.setTop (mkF mi 0 #[.val (.ref o)] [])) ?_
  show Go _ _ _ (s₁.setTop (mkF mi 0 #[.val (.ref o)] [])) _
  refine g_aloadN X0 hx hby dc1_0 rfl rfl ?_
  obtain ⟨T1, X1, e1, st1⟩ := getF X0 hx hZ hown (host := "") (Or.inl (hw _ (own_m 48 rfl))) Via.refl e0 SVa (g := (mkF mi 1 #[.val (.ref o)] [(.ref o)])) rfl rfl (hb hby dc1_1)
  refine Go.st st1 ?_
  have ov2 := SAr
  obtain ⟨cl2, Ar2, q2, S2, M2, H2, G2⟩ := ov2
  refine Go.st (X1.arraylength hx (by rw [e1]; exact Ar2.1) (State.isArrayOf_alike hZ.alike Ar2.2.1) (g := (mkF mi 4 #[.val (.ref o)] [(.ref b)])) rfl rfl (hb hby dc1_4)) ?_
  rw [len_of S2 M2]
  refine g_aloadN X1 hx hby dc1_5 rfl rfl ?_
  obtain ⟨cq3, kq3, q3a, q3b, q3c⟩ := isOf hZ e1 SE
  obtain ⟨_, _, ⟨T3, L3, k3, n3⟩, -, X3, ⟨Lc3, hQ3, l3, y3, z3⟩, st3⟩ := X1.virtualBack hx (y := (⟨"java/lang/String", "coder", "()B"⟩ : MethodName)) (z := (⟨"java/lang/String", "coder", "()B"⟩ : MethodName)) hown (mvT hZ (hw _ (own_m 69 rfl))) (mvT hZ (hw _ (own_m 70 rfl))) (notFace_of_selects (args := #[]) (mvT hZ (hw _ (own_m 72 rfl)))) (mvT hZ (hw _ (own_m 72 rfl))) (mvT hZ (hw _ (own_m 71 rfl))) (by decide) (backOf (W := 1) (rmCd l Z a0 hw [] o cz h0 n0 Z0 SCo SC hcz) hZ (hw _ (own_m 73 rfl)) (hw _ (own_m 7 rfl)) (by decide) (by decide)) q3a q3c (g := (mkF mi 6 #[.val (.ref o)] [(.ref o), (.int n)])) rfl (by rw [hml]; rfl) (Steps.refl _) (argsL := []) (rest := [(.int n)]) (lenOf pd_0 rfl) rfl (by show 2 * 0 + _ ≤ _; exact Nat.le_of_eq rfl) (hb hby dc1_6) (fun _ _ => ⟨rfl, e1, (by decide : 0 + 0 ≤ _), (by decide : 0 + 0 ≤ _)⟩)
  dsimp only [Pt.U, Pt.locs, Pt.cells, Pt.slots] at X3 l3 y3 z3 st3 hQ3
  subst y3 z3
  have X3 := own_cs X3 (cells' := 0) (slots' := 0) rfl rfl
  obtain ⟨rfl, N3q, e3⟩ := hQ3
  have N3 := own_fr l3 (Fr.app N0 N3q)
  refine Go.tr st3 ?_
  refine Go.s (XS.ishr X3.here hx rfl (hb hby dc1_9) rfl) ?_
  show Go _ _ _ (T3.setTop (mkF mi 10 #[.val (.ref o)] [(.int (n >>> ((0 : Int32) &&& 31)))])) _
  rw [own_sh0]
  show Go _ _ _ (T3.setTop (mkF mi 10 #[.val (.ref o)] [(.int n)])) _
  obtain ⟨fs, hr, hrun, hended, hW, hsame⟩ := X3.leave (v := some (.int n)) (fun h => by rw [Bd.returns] at h; cases h) (BodyLoose.notSynchronized Bd)
  refine ⟨_, _, ?_, hP _ _ ⟨hrun, hended, _, _, rfl, ?_, ⟨_, rfl⟩, hW, hsame.mono (by decide) (by decide)⟩⟩
  · exact retI X3 hx Bd.returns (hb hby dc1_10) hr
  · show (some (.int n) : Option Value) = some (.int n) ∧ Fr n0 _ ∧ T3.heap = h0
    rw [e3]
    exact ⟨rfl, N3, rfl⟩
theorem dc2_0 : decode jdk_42_method_154_code 0 = .ok (.getstatic 38, 3) := by decide +kernel
theorem dc2_3 : decode jdk_42_method_154_code 3 = .ok (.ifCond .eq 14, 3) := by decide +kernel
theorem dc2_6 : decode jdk_42_method_154_code 6 = .ok (.aload_n 0, 1) := by decide +kernel
theorem dc2_7 : decode jdk_42_method_154_code 7 = .ok (.getfield 15, 3) := by decide +kernel
theorem dc2_10 : decode jdk_42_method_154_code 10 = .ok (.ifCond .ne 7, 3) := by decide +kernel
theorem dc2_13 : decode jdk_42_method_154_code 13 = .ok (.iconst 1, 1) := by decide +kernel
theorem dc2_14 : decode jdk_42_method_154_code 14 = .ok (.goto 4, 3) := by decide +kernel
theorem dc2_18 : decode jdk_42_method_154_code 18 = .ok (.ireturn, 1) := by decide +kernel
theorem ef_rmL1 (mi : MethodId) (o : Addr) (cz : Int32) : entryFrame mi #[(.ref o)] 1 = mkF mi 0 #[.val (.ref o)] [] := by first | (simp [entryFrame, mkF, argsToLocals, Value.category]; done) | rfl
def Q_rmL1 (Z : State) (o : Addr) (cz : Int32) (h0 : Heap) (n0 : Nat) (vv_ : Option Value) (hh_ : Heap) (LL_ : List Loc) : Prop := vv_ = some (.int (1 : Int32)) ∧ Fr n0 LL_ ∧ hh_ = h0
set_option maxRecDepth 65536 in
set_option maxHeartbeats 40000000 in
theorem rmL1 (l : Launch) (Z : State) (a0 : Array Value) (hw : ∀ d ∈ tables_1, d.before a0 Z = true) (ws : List Jvm.Cond) (o : Addr) (cz : Int32) (h0 : Heap) (n0 : Nat) (Z0 : n0 ≤ h0.size) (SCo : Fld Z h0 o "java/lang/String" "coder" "B" (.int (0 : Int32))) (SC : Sta Z h0 "java/lang/String" "COMPACT_STRINGS" "Z" (.int cz)) (hcz : ¬ (cz = (0 : Int32))) :
    MetFree l (⟨"java/lang/String", "isLatin1", "()Z"⟩ : MethodName) (head1 (Jvm.Cond.code (⟨"java/lang/String", "isLatin1", "()Z"⟩ : MethodName) jdk_42_method_154_code 1 (some .boolean) :: ws) ({ frames := 0, cells := 0, slots := 0, locals := 0 } : Room)) (fun aa_ U => aa_ = #[(.ref o)] ∧ Z.Warmed39 U.vm ∧ U.heap = h0) (fun _ _ _ _ _ => True) (fun _ U oo_ UV_ => ∃ vv_ LL_, oo_ = .returned vv_ ∧ Q_rmL1 Z o cz h0 n0 vv_ UV_.heap LL_ ∧ FrameEnd U oo_ UV_ LL_ ({ frames := 0, cells := 0, slots := 0, locals := 0 } : Room).cells ({ frames := 0, cells := 0, slots := 0, locals := 0 } : Room).slots) := by
  refine MetFree.of_bodySF (plainFor_of_name pn_0) hisR ?_
  intro pg ev si mi args below meth ci s₁ Bd hml0 hP0 hK
  obtain ⟨rfl, hZ, hh⟩ := hP0
  have hx := Bd.exec
  have hby := Bd.bytes
  have hml : ci.maxLocals = 1 := hml0
  have hown : si.vm.findClass "java/lang/String" = some mi.cls := findClass_of_methodNamed Bd.named
  have hnm := (name_of_methodNamed Bd.named Bd.method).1
  have X0 : Stand pg l ev ({ frames := 0, cells := 0, slots := 0, locals := 0 } : Room) si mi #[(.ref o)] below meth ci s₁ [] 0 0 := Stand.of_body Bd
  have e0 : s₁.heap = h0 := by rw [← hh, Bd.state]; rfl
  have N0 := Fr.nil n0
  refine Go.start (fun P hP => ?_)
  refine Go.st (fun t_ k_ => castTop (ef_rmL1 mi o cz) k_) (A := s₁.setTop (mkF mi 0 #[.val (.ref o)] [])) ?_
  show Go _ _ _ (s₁.setTop (mkF mi 0 #[.val (.ref o)] [])) _
  obtain ⟨T1, X1, e1, st1⟩ := getS2 X0 hx hZ hown (host := "") (Or.inl (hw _ (own_m 46 rfl))) Via.refl e0 SC (g := (mkF mi 0 #[.val (.ref o)] [])) rfl (hb hby dc2_0)
  refine Go.st st1 ?_
  refine g_ifNo X1 hx hby dc2_3 ((if0 _ _).trans (feq hcz).1) ?_
  refine g_aloadN X1 hx hby dc2_6 rfl rfl ?_
  obtain ⟨T2, X2, e2, st2⟩ := getF X1 hx hZ hown (host := "") (Or.inl (hw _ (own_m 47 rfl))) Via.refl e1 SCo (g := (mkF mi 7 #[.val (.ref o)] [(.ref o)])) rfl rfl (hb hby dc2_7)
  refine Go.st st2 ?_
  refine g_ifNo X2 hx hby dc2_10 ((if0 _ _).trans (teq rfl).2) ?_
  refine g_iconst X2 hx hby dc2_13 (v := 1) rfl ?_
  refine g_goto X2 hx hby dc2_14 (pc0 := 14) (pc' := 18) rfl (by decide) (by decide) ?_
  obtain ⟨fs, hr, hrun, hended, hW, hsame⟩ := X2.leave (v := some (.int 1)) (fun h => by rw [Bd.returns] at h; cases h) (BodyLoose.notSynchronized Bd)
  refine ⟨_, _, ?_, hP _ _ ⟨hrun, hended, _, _, rfl, ?_, ⟨_, rfl⟩, hW, hsame.mono (by decide) (by decide)⟩⟩
  · exact retN X2 hx (t := .boolean) Bd.returns (by simp) (hb hby dc2_18) hr
  · show (some (.int 1) : Option Value) = some (.int (1 : Int32)) ∧ Fr n0 _ ∧ T2.heap = h0
    rw [e2]
    exact ⟨rfl, N0, rfl⟩
theorem dc3_0 : decode jdk_41_method_11_code 0 = .ok (.iload_n 0, 1) := by decide +kernel
theorem dc3_1 : decode jdk_41_method_11_code 1 = .ok (.ifCond .lt 8, 3) := by decide +kernel
theorem dc3_4 : decode jdk_41_method_11_code 4 = .ok (.iload_n 0, 1) := by decide +kernel
theorem dc3_5 : decode jdk_41_method_11_code 5 = .ok (.iload_n 1, 1) := by decide +kernel
theorem dc3_6 : decode jdk_41_method_11_code 6 = .ok (.if_icmp .lt 10, 3) := by decide +kernel
theorem dc3_16 : decode jdk_41_method_11_code 16 = .ok (.iload_n 0, 1) := by decide +kernel
theorem dc3_17 : decode jdk_41_method_11_code 17 = .ok (.ireturn, 1) := by decide +kernel
theorem pn_1 : plainName "jdk/internal/util/Preconditions" = true := by first | (simp [plainName, overriddenIn]; done) | decide +kernel
theorem ef_rmPC (mi : MethodId) (i : Int32) (n : Int32) (fm : Value) (hr_fm : fm.isRef = true) : entryFrame mi #[(.int i), (.int n), fm] 3 = mkF mi 0 #[.val (.int i), .val (.int n), .val fm] [] := by rcases ref_cases hr_fm with rfl | ⟨_, rfl⟩ <;> first | (simp [entryFrame, mkF, argsToLocals, Value.category]; done) | rfl
def Q_rmPC (Z : State) (i : Int32) (n : Int32) (fm : Value) (h0 : Heap) (n0 : Nat) (vv_ : Option Value) (hh_ : Heap) (LL_ : List Loc) : Prop := vv_ = some (.int i) ∧ Fr n0 LL_ ∧ hh_ = h0
set_option maxRecDepth 65536 in
set_option maxHeartbeats 40000000 in
theorem rmPC (l : Launch) (Z : State) (a0 : Array Value) (hw : ∀ d ∈ tables_1, d.before a0 Z = true) (ws : List Jvm.Cond) (i : Int32) (n : Int32) (fm : Value) (h0 : Heap) (n0 : Nat) (Z0 : n0 ≤ h0.size) (hfm : fm.isRef = true) (h1 : ¬ (i < (0 : Int32))) (h2 : i < n) :
    MetFree l (⟨"jdk/internal/util/Preconditions", "checkIndex", "(IILjava/util/function/BiFunction;)I"⟩ : MethodName) (head1 (Jvm.Cond.code (⟨"jdk/internal/util/Preconditions", "checkIndex", "(IILjava/util/function/BiFunction;)I"⟩ : MethodName) jdk_41_method_11_code 3 (some .int) :: ws) ({ frames := 0, cells := 0, slots := 0, locals := 0 } : Room)) (fun aa_ U => aa_ = #[(.int i), (.int n), fm] ∧ Z.Warmed39 U.vm ∧ U.heap = h0) (fun _ _ _ _ _ => True) (fun _ U oo_ UV_ => ∃ vv_ LL_, oo_ = .returned vv_ ∧ Q_rmPC Z i n fm h0 n0 vv_ UV_.heap LL_ ∧ FrameEnd U oo_ UV_ LL_ ({ frames := 0, cells := 0, slots := 0, locals := 0 } : Room).cells ({ frames := 0, cells := 0, slots := 0, locals := 0 } : Room).slots) := by
  refine MetFree.of_bodySF (plainFor_of_name pn_1) hisR ?_
  intro pg ev si mi args below meth ci s₁ Bd hml0 hP0 hK
  obtain ⟨rfl, hZ, hh⟩ := hP0
  have hx := Bd.exec
  have hby := Bd.bytes
  have hml : ci.maxLocals = 3 := hml0
  have hown : si.vm.findClass "jdk/internal/util/Preconditions" = some mi.cls := findClass_of_methodNamed Bd.named
  have hnm := (name_of_methodNamed Bd.named Bd.method).1
  have X0 : Stand pg l ev ({ frames := 0, cells := 0, slots := 0, locals := 0 } : Room) si mi #[(.int i), (.int n), fm] below meth ci s₁ [] 0 0 := Stand.of_body Bd
  have e0 : s₁.heap = h0 := by rw [← hh, Bd.state]; rfl
  have N0 := Fr.nil n0
  refine Go.start (fun P hP => ?_)
  refine Go.st (fun t_ k_ => castTop (ef_rmPC mi i n fm hfm) k_) (A := s₁.setTop (mkF mi 0 #[.val (.int i), .val (.int n), .val fm] [])) ?_
  show Go _ _ _ (s₁.setTop (mkF mi 0 #[.val (.int i), .val (.int n), .val fm] [])) _
  refine g_iloadN X0 hx hby dc3_0 rfl ?_
  refine g_ifNo X0 hx hby dc3_1 ((if0 _ _).trans (flt h1).1) ?_
  refine g_iloadN X0 hx hby dc3_4 rfl ?_
  refine g_iloadN X0 hx hby dc3_5 rfl ?_
  refine g_icmpYes X0 hx hby dc3_6 (tlt h2).1 (pc0 := 6) (pc' := 16) rfl (by decide) (by decide) ?_
  refine g_iloadN X0 hx hby dc3_16 rfl ?_
  obtain ⟨fs, hr, hrun, hended, hW, hsame⟩ := X0.leave (v := some (.int i)) (fun h => by rw [Bd.returns] at h; cases h) (BodyLoose.notSynchronized Bd)
  refine ⟨_, _, ?_, hP _ _ ⟨hrun, hended, _, _, rfl, ?_, ⟨_, rfl⟩, hW, hsame.mono (by decide) (by decide)⟩⟩
  · exact retI X0 hx Bd.returns (hb hby dc3_17) hr
  · show (some (.int i) : Option Value) = some (.int i) ∧ Fr n0 _ ∧ s₁.heap = h0
    rw [e0]
    exact ⟨rfl, N0, rfl⟩
theorem dc4_0 : decode jdk_42_method_155_code 0 = .ok (.iload_n 0, 1) := by decide +kernel
theorem dc4_1 : decode jdk_42_method_155_code 1 = .ok (.iload_n 1, 1) := by decide +kernel
theorem dc4_2 : decode jdk_42_method_155_code 2 = .ok (.getstatic 1053, 3) := by decide +kernel
theorem dc4_5 : decode jdk_42_method_155_code 5 = .ok (.invokestatic 1059, 3) := by decide +kernel
theorem pd_1 : parseMethodDescriptor "(IILjava/util/function/BiFunction;)I" = some ⟨[.int, .int, (.object "java/util/function/BiFunction")], some .int⟩ := by decide +kernel
theorem dc4_8 : decode jdk_42_method_155_code 8 = .ok (.pop, 1) := by decide +kernel
theorem dc4_9 : decode jdk_42_method_155_code 9 = .ok (.return_, 1) := by decide +kernel
theorem ef_rmCI (mi : MethodId) (i : Int32) (n : Int32) (fm : Value) : entryFrame mi #[(.int i), (.int n)] 2 = mkF mi 0 #[.val (.int i), .val (.int n)] [] := by first | (simp [entryFrame, mkF, argsToLocals, Value.category]; done) | rfl
def Q_rmCI (Z : State) (i : Int32) (n : Int32) (fm : Value) (h0 : Heap) (n0 : Nat) (vv_ : Option Value) (hh_ : Heap) (LL_ : List Loc) : Prop := vv_ = none ∧ Fr n0 LL_ ∧ hh_ = h0
set_option maxRecDepth 65536 in
set_option maxHeartbeats 40000000 in
theorem rmCI (l : Launch) (Z : State) (a0 : Array Value) (hw : ∀ d ∈ tables_1, d.before a0 Z = true) (ws : List Jvm.Cond) (i : Int32) (n : Int32) (fm : Value) (h0 : Heap) (n0 : Nat) (Z0 : n0 ≤ h0.size) (SF : Sta Z h0 "jdk/internal/util/Preconditions" "SIOOBE_FORMATTER" "Ljava/util/function/BiFunction;" fm) (hfm : fm.isRef = true) (h1 : ¬ (i < (0 : Int32))) (h2 : i < n) :
    MetFree l (⟨"java/lang/String", "checkIndex", "(II)V"⟩ : MethodName) (head1 (Jvm.Cond.code (⟨"java/lang/String", "checkIndex", "(II)V"⟩ : MethodName) jdk_42_method_155_code 2 none :: ws) ({ frames := 1, cells := 0, slots := 0, locals := 14 } : Room)) (fun aa_ U => aa_ = #[(.int i), (.int n)] ∧ Z.Warmed39 U.vm ∧ U.heap = h0) (fun _ _ _ _ _ => True) (fun _ U oo_ UV_ => ∃ vv_ LL_, oo_ = .returned vv_ ∧ Q_rmCI Z i n fm h0 n0 vv_ UV_.heap LL_ ∧ FrameEnd U oo_ UV_ LL_ ({ frames := 1, cells := 0, slots := 0, locals := 14 } : Room).cells ({ frames := 1, cells := 0, slots := 0, locals := 14 } : Room).slots) := by
  refine MetFree.of_bodySF (plainFor_of_name pn_0) hisR ?_
  intro pg ev si mi args below meth ci s₁ Bd hml0 hP0 hK
  obtain ⟨rfl, hZ, hh⟩ := hP0
  have hx := Bd.exec
  have hby := Bd.bytes
  have hml : ci.maxLocals = 2 := hml0
  have hown : si.vm.findClass "java/lang/String" = some mi.cls := findClass_of_methodNamed Bd.named
  have hnm := (name_of_methodNamed Bd.named Bd.method).1
  have X0 : Stand pg l ev ({ frames := 1, cells := 0, slots := 0, locals := 14 } : Room) si mi #[(.int i), (.int n)] below meth ci s₁ [] 0 0 := Stand.of_body Bd
  have e0 : s₁.heap = h0 := by rw [← hh, Bd.state]; rfl
  have N0 := Fr.nil n0
  refine Go.start (fun P hP => ?_)
  refine Go.st (fun t_ k_ => castTop (ef_rmCI mi i n fm) k_) (A := s₁.setTop (mkF mi 0 #[.val (.int i), .val (.int n)] [])) ?_
  show Go _ _ _ (s₁.setTop (mkF mi 0 #[.val (.int i), .val (.int n)] [])) _
  refine g_iloadN X0 hx hby dc4_0 rfl ?_
  refine g_iloadN X0 hx hby dc4_1 rfl ?_
  obtain ⟨T1, X1, e1, st1⟩ := getS2 X0 hx hZ hown (host := "") (Or.inl (hw _ (own_m 56 rfl))) Via.refl e0 SF (g := (mkF mi 2 #[.val (.int i), .val (.int n)] [(.int n), (.int i)])) rfl (hb hby dc4_2)
  refine Go.st st1 ?_
  obtain ⟨_, _, ⟨T2, L2, k2, n2⟩, -, X2, ⟨Lc2, hQ2, l2, y2, z2⟩, st2⟩ := Jvm.LawKit.callS X1 hx (y := (⟨"jdk/internal/util/Preconditions", "checkIndex", "(IILjava/util/function/BiFunction;)I"⟩ : MethodName)) hown (mvT hZ (hw _ (own_m 58 rfl))) (mvT hZ (hw _ (own_m 59 rfl))) (mvT hZ (hw _ (own_m 57 rfl))) (mvT hZ (hw _ (own_m 60 rfl))) (by decide) (backOf (W := 0) (rmPC l Z a0 hw [] i n fm h0 n0 Z0 hfm h1 h2) hZ (hw _ (own_m 60 rfl)) (hw _ (own_m 57 rfl)) (by decide) (by decide)) (g := (mkF mi 5 #[.val (.int i), .val (.int n)] [fm, (.int n), (.int i)])) rfl (by rw [hml]; rfl) (argsL := [(.int i), (.int n), fm]) (rest := []) (lenOf pd_1 rfl) rfl (by show 2 * 0 + _ ≤ _; exact Nat.le_of_eq rfl) (hb hby dc4_5) (fun _ _ => ⟨rfl, e1, (by decide : 0 + 0 ≤ _), (by decide : 0 + 0 ≤ _)⟩)
  dsimp only [Pt.U, Pt.locs, Pt.cells, Pt.slots] at X2 l2 y2 z2 st2 hQ2
  subst y2 z2
  have X2 := own_cs X2 (cells' := 0) (slots' := 0) rfl rfl
  obtain ⟨rfl, N2q, e2⟩ := hQ2
  have N2 := own_fr l2 (Fr.app N0 N2q)
  refine Go.st st2 ?_
  refine Go.s (XS.pop X2.here hx rfl (hb hby dc4_8) rfl rfl) ?_
  obtain ⟨fs, hr, hrun, hended, hW, hsame⟩ := X2.leave (v := none) (fun _ => rfl) (BodyLoose.notSynchronized Bd)
  refine ⟨_, _, ?_, hP _ _ ⟨hrun, hended, _, _, rfl, ?_, ⟨_, rfl⟩, hW, hsame.mono (by decide) (by decide)⟩⟩
  · exact X2.returnOut hx Bd.returns (hb hby dc4_9) hr
  · show (none : Option Value) = none ∧ Fr n0 _ ∧ T2.heap = h0
    rw [e2]
    exact ⟨rfl, N2, rfl⟩
theorem dc5_0 : decode jdk_43_method_2_code 0 = .ok (.iload_n 1, 1) := by decide +kernel
theorem dc5_1 : decode jdk_43_method_2_code 1 = .ok (.aload_n 0, 1) := by decide +kernel
theorem dc5_2 : decode jdk_43_method_2_code 2 = .ok (.arraylength, 1) := by decide +kernel
theorem dc5_3 : decode jdk_43_method_2_code 3 = .ok (.invokestatic 9, 3) := by decide +kernel
theorem pd_2 : parseMethodDescriptor "(II)V" = some ⟨[.int, .int], none⟩ := by decide +kernel
theorem dc5_6 : decode jdk_43_method_2_code 6 = .ok (.aload_n 0, 1) := by decide +kernel
theorem dc5_7 : decode jdk_43_method_2_code 7 = .ok (.iload_n 1, 1) := by decide +kernel
theorem dc5_8 : decode jdk_43_method_2_code 8 = .ok (.baload, 1) := by decide +kernel
theorem dc5_9 : decode jdk_43_method_2_code 9 = .ok (.sipush 255, 3) := by decide +kernel
theorem dc5_12 : decode jdk_43_method_2_code 12 = .ok (.iand, 1) := by decide +kernel
theorem dc5_13 : decode jdk_43_method_2_code 13 = .ok (.i2c, 1) := by decide +kernel
theorem dc5_14 : decode jdk_43_method_2_code 14 = .ok (.ireturn, 1) := by decide +kernel
theorem pn_2 : plainName "java/lang/StringLatin1" = true := by first | (simp [plainName, overriddenIn]; done) | decide +kernel
theorem ef_rmLC (mi : MethodId) (b : Addr) (i : Int32) (kb : ClassId) (n : Int32) (E : List Int32) (fm : Value) : entryFrame mi #[(.ref b), (.int i)] 2 = mkF mi 0 #[.val (.ref b), .val (.int i)] [] := by first | (simp [entryFrame, mkF, argsToLocals, Value.category]; done) | rfl
def Q_rmLC (Z : State) (b : Addr) (i : Int32) (kb : ClassId) (n : Int32) (E : List Int32) (fm : Value) (h0 : Heap) (n0 : Nat) (vv_ : Option Value) (hh_ : Heap) (LL_ : List Loc) : Prop := vv_ = some (.int ((E.getD i.toNatClampNeg 0) &&& (255 : Int32))) ∧ Fr n0 LL_ ∧ hh_ = h0
set_option maxRecDepth 65536 in
set_option maxHeartbeats 40000000 in
theorem rmLC (l : Launch) (Z : State) (a0 : Array Value) (hw : ∀ d ∈ tables_1, d.before a0 Z = true) (ws : List Jvm.Cond) (b : Addr) (i : Int32) (kb : ClassId) (n : Int32) (E : List Int32) (fm : Value) (h0 : Heap) (n0 : Nat) (Z0 : n0 ≤ h0.size) (SAr : Arv Z h0 b kb .byte n (E.map Value.int) (.int (0 : Int32))) (SF : Sta Z h0 "jdk/internal/util/Preconditions" "SIOOBE_FORMATTER" "Ljava/util/function/BiFunction;" fm) (hfm : fm.isRef = true) (h1 : ¬ (i < (0 : Int32))) (h2 : i < n) :
    MetFree l (⟨"java/lang/StringLatin1", "charAt", "([BI)C"⟩ : MethodName) (head1 (Jvm.Cond.code (⟨"java/lang/StringLatin1", "charAt", "([BI)C"⟩ : MethodName) jdk_43_method_2_code 2 (some .char) :: ws) ({ frames := 2, cells := 0, slots := 0, locals := 27 } : Room)) (fun aa_ U => aa_ = #[(.ref b), (.int i)] ∧ Z.Warmed39 U.vm ∧ U.heap = h0) (fun _ _ _ _ _ => True) (fun _ U oo_ UV_ => ∃ vv_ LL_, oo_ = .returned vv_ ∧ Q_rmLC Z b i kb n E fm h0 n0 vv_ UV_.heap LL_ ∧ FrameEnd U oo_ UV_ LL_ ({ frames := 2, cells := 0, slots := 0, locals := 27 } : Room).cells ({ frames := 2, cells := 0, slots := 0, locals := 27 } : Room).slots) := by
  refine MetFree.of_bodySF (plainFor_of_name pn_2) hisR ?_
  intro pg ev si mi args below meth ci s₁ Bd hml0 hP0 hK
  obtain ⟨rfl, hZ, hh⟩ := hP0
  have hx := Bd.exec
  have hby := Bd.bytes
  have hml : ci.maxLocals = 2 := hml0
  have hown : si.vm.findClass "java/lang/StringLatin1" = some mi.cls := findClass_of_methodNamed Bd.named
  have hnm := (name_of_methodNamed Bd.named Bd.method).1
  have X0 : Stand pg l ev ({ frames := 2, cells := 0, slots := 0, locals := 27 } : Room) si mi #[(.ref b), (.int i)] below meth ci s₁ [] 0 0 := Stand.of_body Bd
  have e0 : s₁.heap = h0 := by rw [← hh, Bd.state]; rfl
  have N0 := Fr.nil n0
  refine Go.start (fun P hP => ?_)
  refine Go.st (fun t_ k_ => castTop (ef_rmLC mi b i kb n E fm) k_) (A := s₁.setTop (mkF mi 0 #[.val (.ref b), .val (.int i)] [])) ?_
  show Go _ _ _ (s₁.setTop (mkF mi 0 #[.val (.ref b), .val (.int i)] [])) _
  refine g_iloadN X0 hx hby dc5_0 rfl ?_
  refine g_aloadN X0 hx hby dc5_1 rfl rfl ?_
  have ov1 := SAr
  obtain ⟨cl1, Ar1, q1, S1, M1, H1, G1⟩ := ov1
  refine Go.st (X0.arraylength hx (by rw [e0]; exact Ar1.1) (State.isArrayOf_alike hZ.alike Ar1.2.1) (g := (mkF mi 2 #[.val (.ref b), .val (.int i)] [(.ref b), (.int i)])) rfl rfl (hb hby dc5_2)) ?_
  rw [len_of S1 M1]
  obtain ⟨_, _, ⟨T2, L2, k2, n2⟩, -, X2, ⟨Lc2, hQ2, l2, y2, z2⟩, st2⟩ := Jvm.LawKit.callS X0 hx (y := (⟨"java/lang/String", "checkIndex", "(II)V"⟩ : MethodName)) hown (mvT hZ (hw _ (own_m 53 rfl))) (mvT hZ (hw _ (own_m 54 rfl))) (mvT hZ (hw _ (own_m 7 rfl))) (mvT hZ (hw _ (own_m 55 rfl))) (by decide) (backOf (W := 0) (rmCI l Z a0 hw [] i n fm h0 n0 Z0 SF hfm h1 h2) hZ (hw _ (own_m 55 rfl)) (hw _ (own_m 7 rfl)) (by decide) (by decide)) (g := (mkF mi 3 #[.val (.ref b), .val (.int i)] [(.int n), (.int i)])) rfl (by rw [hml]; rfl) (argsL := [(.int i), (.int n)]) (rest := []) (lenOf pd_2 rfl) rfl (by show 2 * 0 + _ ≤ _; exact Nat.le_of_eq rfl) (hb hby dc5_3) (fun _ _ => ⟨rfl, e0, (by decide : 0 + 0 ≤ _), (by decide : 0 + 0 ≤ _)⟩)
  dsimp only [Pt.U, Pt.locs, Pt.cells, Pt.slots] at X2 l2 y2 z2 st2 hQ2
  subst y2 z2
  have X2 := own_cs X2 (cells' := 0) (slots' := 0) rfl rfl
  obtain ⟨rfl, N2q, e2⟩ := hQ2
  have N2 := own_fr l2 (Fr.app N0 N2q)
  refine Go.st st2 ?_
  refine g_aloadN X2 hx hby dc5_6 rfl rfl ?_
  refine g_iloadN X2 hx hby dc5_7 rfl ?_
  have ov3 := SAr
  obtain ⟨cl3, Ar3, q3, S3, M3, H3, G3⟩ := ov3
  have hin3 : ¬ (i < 0 ∨ cl3.slots.size ≤ (i).toNatClampNeg) := inb_of S3 ⟨h1, h2⟩
  have hat3 : cl3.slots[(i).toNatClampNeg]? = some (.int (E.getD i.toNatClampNeg 0)) := Has.at H3 hin3 (own_gm E _)
  refine Go.st (X2.baloadBytes hx (j := i) (v := (.int (E.getD i.toNatClampNeg 0))) (by rw [e2]; exact Ar3.1) (State.isArrayOf_alike hZ.alike Ar3.2.1) Ar3.2.2 hin3 hat3 (g := (mkF mi 8 #[.val (.ref b), .val (.int i)] [(.int i), (.ref b)])) rfl rfl (hb hby dc5_8)) ?_
  refine g_sipush X2 hx hby dc5_9 (v := 255) rfl ?_
  refine g_iand X2 hx hby dc5_12 rfl ?_
  refine g_i2c X2 hx hby dc5_13 rfl ?_
  show Go _ _ _ (T2.setTop (mkF mi 14 #[.val (.ref b), .val (.int i)] [(.int (((E.getD i.toNatClampNeg 0) &&& (255 : Int32)).toUInt32.toUInt16.toUInt32.toInt32))])) _
  rw [i2c_mask]
  show Go _ _ _ (T2.setTop (mkF mi 14 #[.val (.ref b), .val (.int i)] [(.int ((E.getD i.toNatClampNeg 0) &&& (255 : Int32)))])) _
  obtain ⟨fs, hr, hrun, hended, hW, hsame⟩ := X2.leave (v := some (.int ((E.getD i.toNatClampNeg 0) &&& (255 : Int32)))) (fun h => by rw [Bd.returns] at h; cases h) (BodyLoose.notSynchronized Bd)
  refine ⟨_, _, ?_, hP _ _ ⟨hrun, hended, _, _, rfl, ?_, ⟨_, rfl⟩, hW, hsame.mono (by decide) (by decide)⟩⟩
  · exact own_retN X2 hx (t := .char) Bd.returns (by simp) (i2c_mask _) (hb hby dc5_14) hr
  · show (some (.int ((E.getD i.toNatClampNeg 0) &&& (255 : Int32))) : Option Value) = some (.int ((E.getD i.toNatClampNeg 0) &&& (255 : Int32))) ∧ Fr n0 _ ∧ T2.heap = h0
    rw [e2]
    exact ⟨rfl, N2, rfl⟩
theorem dc6_0 : decode jdk_42_method_56_code 0 = .ok (.aload_n 0, 1) := by decide +kernel
theorem dc6_1 : decode jdk_42_method_56_code 1 = .ok (.invokevirtual 492, 3) := by decide +kernel
theorem pd_3 : parseMethodDescriptor "()Z" = some ⟨[], some .boolean⟩ := by decide +kernel
theorem dc6_4 : decode jdk_42_method_56_code 4 = .ok (.ifCond .eq 12, 3) := by decide +kernel
theorem dc6_7 : decode jdk_42_method_56_code 7 = .ok (.aload_n 0, 1) := by decide +kernel
theorem dc6_8 : decode jdk_42_method_56_code 8 = .ok (.getfield 9, 3) := by decide +kernel
theorem dc6_11 : decode jdk_42_method_56_code 11 = .ok (.iload_n 1, 1) := by decide +kernel
theorem dc6_12 : decode jdk_42_method_56_code 12 = .ok (.invokestatic 495, 3) := by decide +kernel
theorem pd_4 : parseMethodDescriptor "([BI)C" = some ⟨[(.array .byte), .int], some .char⟩ := by decide +kernel
theorem dc6_15 : decode jdk_42_method_56_code 15 = .ok (.ireturn, 1) := by decide +kernel
theorem ef_rmCA (mi : MethodId) (o : Addr) (i : Int32) (b : Addr) (kb : ClassId) (n : Int32) (E : List Int32) (cz : Int32) (fm : Value) : entryFrame mi #[(.ref o), (.int i)] 2 = mkF mi 0 #[.val (.ref o), .val (.int i)] [] := by first | (simp [entryFrame, mkF, argsToLocals, Value.category]; done) | rfl
def Q_rmCA (Z : State) (o : Addr) (i : Int32) (b : Addr) (kb : ClassId) (n : Int32) (E : List Int32) (cz : Int32) (fm : Value) (h0 : Heap) (n0 : Nat) (vv_ : Option Value) (hh_ : Heap) (LL_ : List Loc) : Prop := vv_ = some (.int ((E.getD i.toNatClampNeg 0) &&& (255 : Int32))) ∧ Fr n0 LL_ ∧ hh_ = h0
set_option maxRecDepth 65536 in
set_option maxHeartbeats 40000000 in
theorem rmCA (l : Launch) (Z : State) (a0 : Array Value) (hw : ∀ d ∈ tables_1, d.before a0 Z = true) (ws : List Jvm.Cond) (o : Addr) (i : Int32) (b : Addr) (kb : ClassId) (n : Int32) (E : List Int32) (cz : Int32) (fm : Value) (h0 : Heap) (n0 : Nat) (Z0 : n0 ≤ h0.size) (SE : Exa Z h0 o "java/lang/String") (SCo : Fld Z h0 o "java/lang/String" "coder" "B" (.int (0 : Int32))) (SVa : Fld Z h0 o "java/lang/String" "value" "[B" (.ref b)) (SAr : Arv Z h0 b kb .byte n (E.map Value.int) (.int (0 : Int32))) (SEb : Exa Z h0 b "[B") (SC : Sta Z h0 "java/lang/String" "COMPACT_STRINGS" "Z" (.int cz)) (hcz : ¬ (cz = (0 : Int32))) (SF : Sta Z h0 "jdk/internal/util/Preconditions" "SIOOBE_FORMATTER" "Ljava/util/function/BiFunction;" fm) (hfm : fm.isRef = true) (h1 : ¬ (i < (0 : Int32))) (h2 : i < n) :
    MetFree l (⟨"java/lang/String", "charAt", "(I)C"⟩ : MethodName) (head1 (Jvm.Cond.code (⟨"java/lang/String", "charAt", "(I)C"⟩ : MethodName) jdk_42_method_56_code 2 (some .char) :: ws) ({ frames := 3, cells := 0, slots := 0, locals := 40 } : Room)) (fun aa_ U => aa_ = #[(.ref o), (.int i)] ∧ Z.Warmed39 U.vm ∧ U.heap = h0) (fun _ _ _ _ _ => True) (fun _ U oo_ UV_ => ∃ vv_ LL_, oo_ = .returned vv_ ∧ Q_rmCA Z o i b kb n E cz fm h0 n0 vv_ UV_.heap LL_ ∧ FrameEnd U oo_ UV_ LL_ ({ frames := 3, cells := 0, slots := 0, locals := 40 } : Room).cells ({ frames := 3, cells := 0, slots := 0, locals := 40 } : Room).slots) := by
  refine MetFree.of_bodySF (plainFor_of_name pn_0) hisR ?_
  intro pg ev si mi args below meth ci s₁ Bd hml0 hP0 hK
  obtain ⟨rfl, hZ, hh⟩ := hP0
  have hx := Bd.exec
  have hby := Bd.bytes
  have hml : ci.maxLocals = 2 := hml0
  have hown : si.vm.findClass "java/lang/String" = some mi.cls := findClass_of_methodNamed Bd.named
  have hnm := (name_of_methodNamed Bd.named Bd.method).1
  have X0 : Stand pg l ev ({ frames := 3, cells := 0, slots := 0, locals := 40 } : Room) si mi #[(.ref o), (.int i)] below meth ci s₁ [] 0 0 := Stand.of_body Bd
  have e0 : s₁.heap = h0 := by rw [← hh, Bd.state]; rfl
  have N0 := Fr.nil n0
  refine Go.start (fun P hP => ?_)
  refine Go.st (fun t_ k_ => castTop (ef_rmCA mi o i b kb n E cz fm) k_) (A := s₁.setTop (mkF mi 0 #[.val (.ref o), .val (.int i)] [])) ?_
  show Go _ _ _ (s₁.setTop (mkF mi 0 #[.val (.ref o), .val (.int i)] [])) _
  refine g_aloadN X0 hx hby dc6_0 rfl rfl ?_
  obtain ⟨cq1, kq1, q1a, q1b, q1c⟩ := isOf hZ e0 SE
  obtain ⟨_, _, ⟨T1, L1, k1, n1⟩, -, X1, ⟨Lc1, hQ1, l1, y1, z1⟩, st1⟩ := X0.virtualBack hx (y := (⟨"java/lang/String", "isLatin1", "()Z"⟩ : MethodName)) (z := (⟨"java/lang/String", "isLatin1", "()Z"⟩ : MethodName)) hown (mvT hZ (hw _ (own_m 41 rfl))) (mvT hZ (hw _ (own_m 42 rfl))) (notFace_of_selects (args := #[]) (mvT hZ (hw _ (own_m 44 rfl)))) (mvT hZ (hw _ (own_m 44 rfl))) (mvT hZ (hw _ (own_m 43 rfl))) (by decide) (backOf (W := 0) (rmL1 l Z a0 hw [] o cz h0 n0 Z0 SCo SC hcz) hZ (hw _ (own_m 45 rfl)) (hw _ (own_m 7 rfl)) (by decide) (by decide)) q1a q1c (g := (mkF mi 1 #[.val (.ref o), .val (.int i)] [(.ref o)])) rfl (by rw [hml]; rfl) (Steps.refl _) (argsL := []) (rest := []) (lenOf pd_3 rfl) rfl (by show 2 * 0 + _ ≤ _; exact Nat.le_of_eq rfl) (hb hby dc6_1) (fun _ _ => ⟨rfl, e0, (by decide : 0 + 0 ≤ _), (by decide : 0 + 0 ≤ _)⟩)
  dsimp only [Pt.U, Pt.locs, Pt.cells, Pt.slots] at X1 l1 y1 z1 st1 hQ1
  subst y1 z1
  have X1 := own_cs X1 (cells' := 0) (slots' := 0) rfl rfl
  obtain ⟨rfl, N1q, e1⟩ := hQ1
  have N1 := own_fr l1 (Fr.app N0 N1q)
  refine Go.tr st1 ?_
  refine g_ifNo X1 hx hby dc6_4 ((if0 _ _).trans (feq (by decide)).1) ?_
  refine g_aloadN X1 hx hby dc6_7 rfl rfl ?_
  obtain ⟨T2, X2, e2, st2⟩ := getF X1 hx hZ hown (host := "") (Or.inl (hw _ (own_m 48 rfl))) Via.refl e1 SVa (g := (mkF mi 8 #[.val (.ref o), .val (.int i)] [(.ref o)])) rfl rfl (hb hby dc6_8)
  refine Go.st st2 ?_
  refine g_iloadN X2 hx hby dc6_11 rfl ?_
  obtain ⟨_, _, ⟨T3, L3, k3, n3⟩, -, X3, ⟨Lc3, hQ3, l3, y3, z3⟩, st3⟩ := Jvm.LawKit.callS X2 hx (y := (⟨"java/lang/StringLatin1", "charAt", "([BI)C"⟩ : MethodName)) hown (mvT hZ (hw _ (own_m 49 rfl))) (mvT hZ (hw _ (own_m 50 rfl))) (mvT hZ (hw _ (own_m 51 rfl))) (mvT hZ (hw _ (own_m 52 rfl))) (by decide) (backOf (W := 0) (rmLC l Z a0 hw [] b i kb n E fm h0 n0 Z0 SAr SF hfm h1 h2) hZ (hw _ (own_m 52 rfl)) (hw _ (own_m 51 rfl)) (by decide) (by decide)) (g := (mkF mi 12 #[.val (.ref o), .val (.int i)] [(.int i), (.ref b)])) rfl (by rw [hml]; rfl) (argsL := [(.ref b), (.int i)]) (rest := []) (lenOf pd_4 rfl) rfl (by show 2 * 0 + _ ≤ _; exact Nat.le_of_eq rfl) (hb hby dc6_12) (fun _ _ => ⟨rfl, e2, (by decide : 0 + 0 ≤ _), (by decide : 0 + 0 ≤ _)⟩)
  dsimp only [Pt.U, Pt.locs, Pt.cells, Pt.slots] at X3 l3 y3 z3 st3 hQ3
  subst y3 z3
  have X3 := own_cs X3 (cells' := 0) (slots' := 0) rfl rfl
  obtain ⟨rfl, N3q, e3⟩ := hQ3
  have N3 := own_fr l3 (Fr.app N1 N3q)
  refine Go.st st3 ?_
  obtain ⟨fs, hr, hrun, hended, hW, hsame⟩ := X3.leave (v := some (.int ((E.getD i.toNatClampNeg 0) &&& (255 : Int32)))) (fun h => by rw [Bd.returns] at h; cases h) (BodyLoose.notSynchronized Bd)
  refine ⟨_, _, ?_, hP _ _ ⟨hrun, hended, _, _, rfl, ?_, ⟨_, rfl⟩, hW, hsame.mono (by decide) (by decide)⟩⟩
  · exact own_retN X3 hx (t := .char) Bd.returns (by simp) (i2c_mask _) (hb hby dc6_15) hr
  · show (some (.int ((E.getD i.toNatClampNeg 0) &&& (255 : Int32))) : Option Value) = some (.int ((E.getD i.toNatClampNeg 0) &&& (255 : Int32))) ∧ Fr n0 _ ∧ T3.heap = h0
    rw [e3]
    exact ⟨rfl, N3, rfl⟩
theorem dc7_0 : decode jdk_29_method_65_code 0 = .ok (.iload_n 0, 1) := by decide +kernel
theorem dc7_1 : decode jdk_29_method_65_code 1 = .ok (.iload_n 1, 1) := by decide +kernel
theorem dc7_2 : decode jdk_29_method_65_code 2 = .ok (.if_icmp .lt 7, 3) := by decide +kernel
theorem dc7_9 : decode jdk_29_method_65_code 9 = .ok (.iload_n 1, 1) := by decide +kernel
theorem dc7_10 : decode jdk_29_method_65_code 10 = .ok (.ireturn, 1) := by decide +kernel
theorem dc7_5 : decode jdk_29_method_65_code 5 = .ok (.iload_n 0, 1) := by decide +kernel
theorem dc7_6 : decode jdk_29_method_65_code 6 = .ok (.goto 4, 3) := by decide +kernel
theorem ef_rmMax (mi : MethodId) (a : Int32) (b : Int32) : entryFrame mi #[(.int a), (.int b)] 2 = mkF mi 0 #[.val (.int a), .val (.int b)] [] := by first | (simp [entryFrame, mkF, argsToLocals, Value.category]; done) | rfl
def fMax (a : Int32) (b : Int32) : Int32 := (if a < b then b else a)
def Q_rmMax (Z : State) (a : Int32) (b : Int32) (h0 : Heap) (n0 : Nat) (vv_ : Option Value) (hh_ : Heap) (LL_ : List Loc) : Prop := vv_ = some (.int (fMax a b)) ∧ Fr n0 LL_ ∧ hh_ = h0
set_option maxRecDepth 65536 in
set_option maxHeartbeats 40000000 in
theorem rmMax (l : Launch) (Z : State) (a0 : Array Value) (hw : ∀ d ∈ tables_1, d.before a0 Z = true) (ws : List Jvm.Cond) (a : Int32) (b : Int32) (h0 : Heap) (n0 : Nat) (Z0 : n0 ≤ h0.size) :
    MetFree l (⟨"java/lang/Math", "max", "(II)I"⟩ : MethodName) (head1 (Jvm.Cond.code (⟨"java/lang/Math", "max", "(II)I"⟩ : MethodName) jdk_29_method_65_code 2 (some .int) :: ws) ({ frames := 0, cells := 0, slots := 0, locals := 0 } : Room)) (fun aa_ U => aa_ = #[(.int a), (.int b)] ∧ Z.Warmed39 U.vm ∧ U.heap = h0) (fun _ _ _ _ _ => True) (fun _ U oo_ UV_ => ∃ vv_ LL_, oo_ = .returned vv_ ∧ Q_rmMax Z a b h0 n0 vv_ UV_.heap LL_ ∧ FrameEnd U oo_ UV_ LL_ ({ frames := 0, cells := 0, slots := 0, locals := 0 } : Room).cells ({ frames := 0, cells := 0, slots := 0, locals := 0 } : Room).slots) := by
  refine MetFree.of_bodySF (Jvm.Free.JP.mathPlain rfl (by decide +kernel)) hisR ?_
  intro pg ev si mi args below meth ci s₁ Bd hml0 hP0 hK
  obtain ⟨rfl, hZ, hh⟩ := hP0
  have hx := Bd.exec
  have hby := Bd.bytes
  have hml : ci.maxLocals = 2 := hml0
  have hown : si.vm.findClass "java/lang/Math" = some mi.cls := findClass_of_methodNamed Bd.named
  have hnm := (name_of_methodNamed Bd.named Bd.method).1
  have X0 : Stand pg l ev ({ frames := 0, cells := 0, slots := 0, locals := 0 } : Room) si mi #[(.int a), (.int b)] below meth ci s₁ [] 0 0 := Stand.of_body Bd
  have e0 : s₁.heap = h0 := by rw [← hh, Bd.state]; rfl
  have N0 := Fr.nil n0
  refine Go.start (fun P hP => ?_)
  refine Go.st (fun t_ k_ => castTop (ef_rmMax mi a b) k_) (A := s₁.setTop (mkF mi 0 #[.val (.int a), .val (.int b)] [])) ?_
  show Go _ _ _ (s₁.setTop (mkF mi 0 #[.val (.int a), .val (.int b)] [])) _
  refine g_iloadN X0 hx hby dc7_0 rfl ?_
  refine g_iloadN X0 hx hby dc7_1 rfl ?_
  by_cases hc2_1 : a < b
  · refine g_icmpYes X0 hx hby dc7_2 (tlt hc2_1).1 (pc0 := 2) (pc' := 9) rfl (by decide) (by decide) ?_
    refine g_iloadN X0 hx hby dc7_9 rfl ?_
    obtain ⟨fs, hr, hrun, hended, hW, hsame⟩ := X0.leave (v := some (.int b)) (fun h => by rw [Bd.returns] at h; cases h) (BodyLoose.notSynchronized Bd)
    refine ⟨_, _, ?_, hP _ _ ⟨hrun, hended, _, _, rfl, ?_, ⟨_, rfl⟩, hW, hsame.mono (by decide) (by decide)⟩⟩
    · exact retI X0 hx Bd.returns (hb hby dc7_10) hr
    · show (some (.int b) : Option Value) = some (.int (fMax a b)) ∧ Fr n0 _ ∧ s₁.heap = h0
      rw [e0]
      exact ⟨by rw [show fMax a b = b from ((if_pos hc2_1).trans rfl)], N0, rfl⟩
  · refine g_icmpNo X0 hx hby dc7_2 (flt hc2_1).1 ?_
    refine g_iloadN X0 hx hby dc7_5 rfl ?_
    refine g_goto X0 hx hby dc7_6 (pc0 := 6) (pc' := 10) rfl (by decide) (by decide) ?_
    obtain ⟨fs, hr, hrun, hended, hW, hsame⟩ := X0.leave (v := some (.int a)) (fun h => by rw [Bd.returns] at h; cases h) (BodyLoose.notSynchronized Bd)
    refine ⟨_, _, ?_, hP _ _ ⟨hrun, hended, _, _, rfl, ?_, ⟨_, rfl⟩, hW, hsame.mono (by decide) (by decide)⟩⟩
    · exact retI X0 hx Bd.returns (hb hby dc7_10) hr
    · show (some (.int a) : Option Value) = some (.int (fMax a b)) ∧ Fr n0 _ ∧ s₁.heap = h0
      rw [e0]
      exact ⟨by rw [show fMax a b = a from ((if_neg hc2_1).trans rfl)], N0, rfl⟩
theorem dc8_0 : decode jdk_43_method_3_code 0 = .ok (.iload_n 0, 1) := by decide +kernel
theorem dc8_1 : decode jdk_43_method_3_code 1 = .ok (.sipush 255, 3) := by decide +kernel
theorem dc8_4 : decode jdk_43_method_3_code 4 = .ok (.if_icmp .gt 7, 3) := by decide +kernel
theorem dc8_11 : decode jdk_43_method_3_code 11 = .ok (.iconst 0, 1) := by decide +kernel
theorem dc8_7 : decode jdk_43_method_3_code 7 = .ok (.iconst 1, 1) := by decide +kernel
theorem dc8_8 : decode jdk_43_method_3_code 8 = .ok (.goto 4, 3) := by decide +kernel
theorem dc8_12 : decode jdk_43_method_3_code 12 = .ok (.ireturn, 1) := by decide +kernel
theorem ef_rmCan (mi : MethodId) (c : Int32) : entryFrame mi #[(.int c)] 1 = mkF mi 0 #[.val (.int c)] [] := by first | (simp [entryFrame, mkF, argsToLocals, Value.category]; done) | rfl
def fCan (c : Int32) : Int32 := (if (255 : Int32) < c then (0 : Int32) else (1 : Int32))
def Q_rmCan (Z : State) (c : Int32) (h0 : Heap) (n0 : Nat) (vv_ : Option Value) (hh_ : Heap) (LL_ : List Loc) : Prop := vv_ = some (.int (fCan c)) ∧ Fr n0 LL_ ∧ hh_ = h0
set_option maxRecDepth 65536 in
set_option maxHeartbeats 40000000 in
theorem rmCan (l : Launch) (Z : State) (a0 : Array Value) (hw : ∀ d ∈ tables_1, d.before a0 Z = true) (ws : List Jvm.Cond) (c : Int32) (h0 : Heap) (n0 : Nat) (Z0 : n0 ≤ h0.size) :
    MetFree l (⟨"java/lang/StringLatin1", "canEncode", "(C)Z"⟩ : MethodName) (head1 (Jvm.Cond.code (⟨"java/lang/StringLatin1", "canEncode", "(C)Z"⟩ : MethodName) jdk_43_method_3_code 1 (some .boolean) :: ws) ({ frames := 0, cells := 0, slots := 0, locals := 0 } : Room)) (fun aa_ U => aa_ = #[(.int c)] ∧ Z.Warmed39 U.vm ∧ U.heap = h0) (fun _ _ _ _ _ => True) (fun _ U oo_ UV_ => ∃ vv_ LL_, oo_ = .returned vv_ ∧ Q_rmCan Z c h0 n0 vv_ UV_.heap LL_ ∧ FrameEnd U oo_ UV_ LL_ ({ frames := 0, cells := 0, slots := 0, locals := 0 } : Room).cells ({ frames := 0, cells := 0, slots := 0, locals := 0 } : Room).slots) := by
  refine MetFree.of_bodySF (plainFor_of_name pn_2) hisR ?_
  intro pg ev si mi args below meth ci s₁ Bd hml0 hP0 hK
  obtain ⟨rfl, hZ, hh⟩ := hP0
  have hx := Bd.exec
  have hby := Bd.bytes
  have hml : ci.maxLocals = 1 := hml0
  have hown : si.vm.findClass "java/lang/StringLatin1" = some mi.cls := findClass_of_methodNamed Bd.named
  have hnm := (name_of_methodNamed Bd.named Bd.method).1
  have X0 : Stand pg l ev ({ frames := 0, cells := 0, slots := 0, locals := 0 } : Room) si mi #[(.int c)] below meth ci s₁ [] 0 0 := Stand.of_body Bd
  have e0 : s₁.heap = h0 := by rw [← hh, Bd.state]; rfl
  have N0 := Fr.nil n0
  refine Go.start (fun P hP => ?_)
  refine Go.st (fun t_ k_ => castTop (ef_rmCan mi c) k_) (A := s₁.setTop (mkF mi 0 #[.val (.int c)] [])) ?_
  show Go _ _ _ (s₁.setTop (mkF mi 0 #[.val (.int c)] [])) _
  refine g_iloadN X0 hx hby dc8_0 rfl ?_
  refine g_sipush X0 hx hby dc8_1 (v := 255) rfl ?_
  have dm1 : ∀ t_, Steps pg.tables ev below (s₁.setTop (mkF mi 12 #[.val (.int c)] [(.int (if (255 : Int32) < c then (0 : Int32) else (1 : Int32)))])) t_ → Steps pg.tables ev below (s₁.setTop (mkF mi 4 #[.val (.int c)] [(.int 255), (.int c)])) t_ := by
    intro t_ k_
    by_cases hd : (255 : Int32) < c
    · refine XS.icmpYes X0.here hx rfl (pc0 := 4) (pc' := 11) rfl (hb hby dc8_4) rfl (tlt hd).2.2.1 (by decide) (by decide) ?_
      refine XS.iconst X0.here hx rfl (hb hby dc8_11) ?_
      show Steps _ _ _ (s₁.setTop (mkF mi 12 #[.val (.int c)] [(.int 0)])) t_
      exact own_cst (if_pos hd) k_
    · refine XS.icmpNo X0.here hx rfl (hb hby dc8_4) rfl (flt hd).2.2.1 ?_
      refine XS.iconst X0.here hx rfl (hb hby dc8_7) ?_
      refine XS.goto X0.here hx rfl (pc0 := 8) (pc' := 12) rfl (hb hby dc8_8) (by decide) (by decide) ?_
      show Steps _ _ _ (s₁.setTop (mkF mi 12 #[.val (.int c)] [(.int 1)])) t_
      exact own_cst (if_neg hd) k_
  refine Go.st dm1 ?_
  show Go _ _ _ (s₁.setTop (mkF mi 12 #[.val (.int c)] [(.int (if (255 : Int32) < c then (0 : Int32) else (1 : Int32)))])) _
  obtain ⟨fs, hr, hrun, hended, hW, hsame⟩ := X0.leave (v := some (.int (if (255 : Int32) < c then (0 : Int32) else (1 : Int32)))) (fun h => by rw [Bd.returns] at h; cases h) (BodyLoose.notSynchronized Bd)
  refine ⟨_, _, ?_, hP _ _ ⟨hrun, hended, _, _, rfl, ?_, ⟨_, rfl⟩, hW, hsame.mono (by decide) (by decide)⟩⟩
  · exact own_retN X0 hx (t := .boolean) Bd.returns (by simp) (own_nb rfl rfl) (hb hby dc8_12) hr
  · show (some (.int (if (255 : Int32) < c then (0 : Int32) else (1 : Int32))) : Option Value) = some (.int (fCan c)) ∧ Fr n0 _ ∧ s₁.heap = h0
    rw [e0]
    exact ⟨by rw [show fCan c = (if (255 : Int32) < c then (0 : Int32) else (1 : Int32)) from rfl], N0, rfl⟩
theorem dc9_0 : decode method_3_code 0 = .ok (.bipush 48, 2) := by decide +kernel
theorem dc9_2 : decode method_3_code 2 = .ok (.iload_n 0, 1) := by decide +kernel
theorem dc9_3 : decode method_3_code 3 = .ok (.iadd, 1) := by decide +kernel
theorem dc9_4 : decode method_3_code 4 = .ok (.i2c, 1) := by decide +kernel
theorem dc9_5 : decode method_3_code 5 = .ok (.ireturn, 1) := by decide +kernel
theorem pn_3 : plainName "com/example/hoarfrost/hoarfrost/IdFormDecimalPinLaw" = true := by first | (simp [plainName, overriddenIn]; done) | decide +kernel
theorem ef_rmDg (mi : MethodId) (d : Int32) : entryFrame mi #[(.int d)] 1 = mkF mi 0 #[.val (.int d)] [] := by first | (simp [entryFrame, mkF, argsToLocals, Value.category]; done) | rfl
def fDg (d : Int32) : Int32 := ((((48 : Int32) + d).toUInt32.toUInt16.toUInt32.toInt32).toUInt32.toUInt16.toUInt32.toInt32)
def Q_rmDg (Z : State) (d : Int32) (h0 : Heap) (n0 : Nat) (vv_ : Option Value) (hh_ : Heap) (LL_ : List Loc) : Prop := vv_ = some (.int (fDg d)) ∧ Fr n0 LL_ ∧ hh_ = h0
set_option maxRecDepth 65536 in
set_option maxHeartbeats 40000000 in
theorem rmDg (l : Launch) (Z : State) (a0 : Array Value) (hw : ∀ d ∈ tables_1, d.before a0 Z = true) (ws : List Jvm.Cond) (d : Int32) (h0 : Heap) (n0 : Nat) (Z0 : n0 ≤ h0.size) :
    MetFree l (⟨"com/example/hoarfrost/hoarfrost/IdFormDecimalPinLaw", "digit", "(I)C"⟩ : MethodName) (head1 (Jvm.Cond.code (⟨"com/example/hoarfrost/hoarfrost/IdFormDecimalPinLaw", "digit", "(I)C"⟩ : MethodName) method_3_code 1 (some .char) :: ws) ({ frames := 0, cells := 0, slots := 0, locals := 0 } : Room)) (fun aa_ U => aa_ = #[(.int d)] ∧ Z.Warmed39 U.vm ∧ U.heap = h0) (fun _ _ _ _ _ => True) (fun _ U oo_ UV_ => ∃ vv_ LL_, oo_ = .returned vv_ ∧ Q_rmDg Z d h0 n0 vv_ UV_.heap LL_ ∧ FrameEnd U oo_ UV_ LL_ ({ frames := 0, cells := 0, slots := 0, locals := 0 } : Room).cells ({ frames := 0, cells := 0, slots := 0, locals := 0 } : Room).slots) := by
  refine MetFree.of_bodySF (plainFor_of_name pn_3) hisR ?_
  intro pg ev si mi args below meth ci s₁ Bd hml0 hP0 hK
  obtain ⟨rfl, hZ, hh⟩ := hP0
  have hx := Bd.exec
  have hby := Bd.bytes
  have hml : ci.maxLocals = 1 := hml0
  have hown : si.vm.findClass "com/example/hoarfrost/hoarfrost/IdFormDecimalPinLaw" = some mi.cls := findClass_of_methodNamed Bd.named
  have hnm := (name_of_methodNamed Bd.named Bd.method).1
  have X0 : Stand pg l ev ({ frames := 0, cells := 0, slots := 0, locals := 0 } : Room) si mi #[(.int d)] below meth ci s₁ [] 0 0 := Stand.of_body Bd
  have e0 : s₁.heap = h0 := by rw [← hh, Bd.state]; rfl
  have N0 := Fr.nil n0
  refine Go.start (fun P hP => ?_)
  refine Go.st (fun t_ k_ => castTop (ef_rmDg mi d) k_) (A := s₁.setTop (mkF mi 0 #[.val (.int d)] [])) ?_
  show Go _ _ _ (s₁.setTop (mkF mi 0 #[.val (.int d)] [])) _
  refine g_bipush X0 hx hby dc9_0 (v := 48) rfl ?_
  refine g_iloadN X0 hx hby dc9_2 rfl ?_
  refine g_iadd X0 hx hby dc9_3 rfl ?_
  refine g_i2c X0 hx hby dc9_4 rfl ?_
  obtain ⟨fs, hr, hrun, hended, hW, hsame⟩ := X0.leave (v := some (.int ((((48 : Int32) + d).toUInt32.toUInt16.toUInt32.toInt32).toUInt32.toUInt16.toUInt32.toInt32))) (fun h => by rw [Bd.returns] at h; cases h) (BodyLoose.notSynchronized Bd)
  refine ⟨_, _, ?_, hP _ _ ⟨hrun, hended, _, _, rfl, ?_, ⟨_, rfl⟩, hW, hsame.mono (by decide) (by decide)⟩⟩
  · exact retN X0 hx (t := .char) Bd.returns (by simp) (hb hby dc9_5) hr
  · show (some (.int ((((48 : Int32) + d).toUInt32.toUInt16.toUInt32.toInt32).toUInt32.toUInt16.toUInt32.toInt32)) : Option Value) = some (.int (fDg d)) ∧ Fr n0 _ ∧ s₁.heap = h0
    rw [e0]
    exact ⟨by rw [show fDg d = ((((48 : Int32) + d).toUInt32.toUInt16.toUInt32.toInt32).toUInt32.toUInt16.toUInt32.toInt32) from rfl], N0, rfl⟩
theorem dc10_0 : decode jdk_68_method_2_code 0 = .ok (.aload_n 0, 1) := by decide +kernel
theorem dc10_1 : decode jdk_68_method_2_code 1 = .ok (.invokespecial 3, 3) := by decide +kernel
theorem dc10_4 : decode jdk_68_method_2_code 4 = .ok (.getstatic 18, 3) := by decide +kernel
theorem dc10_7 : decode jdk_68_method_2_code 7 = .ok (.ifCond .eq 18, 3) := by decide +kernel
theorem dc10_10 : decode jdk_68_method_2_code 10 = .ok (.aload_n 0, 1) := by decide +kernel
theorem dc10_11 : decode jdk_68_method_2_code 11 = .ok (.iload_n 1, 1) := by decide +kernel
theorem dc10_12 : decode jdk_68_method_2_code 12 = .ok (.newarray .byte, 2) := by decide +kernel
theorem dc10_14 : decode jdk_68_method_2_code 14 = .ok (.putfield 15, 3) := by decide +kernel
theorem dc10_17 : decode jdk_68_method_2_code 17 = .ok (.aload_n 0, 1) := by decide +kernel
theorem dc10_18 : decode jdk_68_method_2_code 18 = .ok (.iconst 0, 1) := by decide +kernel
theorem dc10_19 : decode jdk_68_method_2_code 19 = .ok (.putfield 22, 3) := by decide +kernel
theorem dc10_22 : decode jdk_68_method_2_code 22 = .ok (.goto 16, 3) := by decide +kernel
theorem dc10_38 : decode jdk_68_method_2_code 38 = .ok (.return_, 1) := by decide +kernel
theorem pn_4 : plainName "java/lang/AbstractStringBuilder" = true := by first | (simp [plainName, overriddenIn]; done) | decide +kernel
theorem ef_rmAI (mi : MethodId) (o : Addr) (c : Int32) (cz : Int32) : entryFrame mi #[(.ref o), (.int c)] 2 = mkF mi 0 #[.val (.ref o), .val (.int c)] [] := by first | (simp [entryFrame, mkF, argsToLocals, Value.category]; done) | rfl
def Q_rmAI (Z : State) (o : Addr) (c : Int32) (cz : Int32) (h0 : Heap) (n0 : Nat) (vv_ : Option Value) (hh_ : Heap) (LL_ : List Loc) : Prop := vv_ = none ∧ Fr n0 LL_ ∧ Keep h0 hh_ [o] ∧ ∃ (d : Addr) (kd : ClassId), h0.size ≤ d ∧ n0 ≤ d ∧ Exa Z hh_ o "java/lang/StringBuilder" ∧ Fld Z hh_ o "java/lang/AbstractStringBuilder" "value" "[B" (.ref d) ∧ Fld Z hh_ o "java/lang/AbstractStringBuilder" "coder" "B" (.int (0 : Int32)) ∧ Fld Z hh_ o "java/lang/AbstractStringBuilder" "count" "I" (.int (0 : Int32)) ∧ Arv Z hh_ d kd .byte c [] (.int (0 : Int32)) ∧ Exa Z hh_ d "[B"
set_option maxRecDepth 65536 in
set_option maxHeartbeats 40000000 in
theorem rmAI (l : Launch) (Z : State) (a0 : Array Value) (hw : ∀ d ∈ tables_1, d.before a0 Z = true) (ws : List Jvm.Cond) (o : Addr) (c : Int32) (cz : Int32) (h0 : Heap) (n0 : Nat) (Z0 : n0 ≤ h0.size) (E0 : Exa Z h0 o "java/lang/StringBuilder") (F1 : Fld Z h0 o "java/lang/AbstractStringBuilder" "value" "[B" .null) (F2 : Fld Z h0 o "java/lang/AbstractStringBuilder" "coder" "B" (.int (0 : Int32))) (F3 : Fld Z h0 o "java/lang/AbstractStringBuilder" "count" "I" (.int (0 : Int32))) (g_o : n0 ≤ o) (hc0 : ¬ c < 0) (hc19 : c.toNatClampNeg ≤ 19) (SC : Sta Z h0 "java/lang/String" "COMPACT_STRINGS" "Z" (.int cz)) (hcz : ¬ (cz = (0 : Int32))) :
    MetFree l (⟨"java/lang/AbstractStringBuilder", "<init>", "(I)V"⟩ : MethodName) (head1 (Jvm.Cond.code (⟨"java/lang/AbstractStringBuilder", "<init>", "(I)V"⟩ : MethodName) jdk_68_method_2_code 2 none :: ws) ({ frames := 1, cells := 1, slots := 19, locals := 12 } : Room)) (fun aa_ U => aa_ = #[(.ref o), (.int c)] ∧ Z.Warmed39 U.vm ∧ U.heap = h0) (fun _ _ _ _ _ => True) (fun _ U oo_ UV_ => ∃ vv_ LL_, oo_ = .returned vv_ ∧ Q_rmAI Z o c cz h0 n0 vv_ UV_.heap LL_ ∧ FrameEnd U oo_ UV_ LL_ ({ frames := 1, cells := 1, slots := 19, locals := 12 } : Room).cells ({ frames := 1, cells := 1, slots := 19, locals := 12 } : Room).slots) := by
  refine MetFree.of_bodySF (plainFor_of_name pn_4) hisR ?_
  intro pg ev si mi args below meth ci s₁ Bd hml0 hP0 hK
  obtain ⟨rfl, hZ, hh⟩ := hP0
  have hx := Bd.exec
  have hby := Bd.bytes
  have hml : ci.maxLocals = 2 := hml0
  have hown : si.vm.findClass "java/lang/AbstractStringBuilder" = some mi.cls := findClass_of_methodNamed Bd.named
  have hnm := (name_of_methodNamed Bd.named Bd.method).1
  have X0 : Stand pg l ev ({ frames := 1, cells := 1, slots := 19, locals := 12 } : Room) si mi #[(.ref o), (.int c)] below meth ci s₁ [] 0 0 := Stand.of_body Bd
  have e0 : s₁.heap = h0 := by rw [← hh, Bd.state]; rfl
  have N0 := Fr.nil n0
  refine Go.start (fun P hP => ?_)
  refine Go.st (fun t_ k_ => castTop (ef_rmAI mi o c cz) k_) (A := s₁.setTop (mkF mi 0 #[.val (.ref o), .val (.int c)] [])) ?_
  show Go _ _ _ (s₁.setTop (mkF mi 0 #[.val (.ref o), .val (.int c)] [])) _
  refine g_aloadN X0 hx hby dc10_0 rfl rfl ?_
  obtain ⟨T1, X1, e1, st1⟩ := initO X0 hx hZ hown (hw _ (own_m 87 rfl)) (hw _ (own_m 18 rfl)) (hw _ (own_m 19 rfl)) e0 (g := (mkF mi 1 #[.val (.ref o), .val (.int c)] [(.ref o)])) rfl (by rw [hml]; rfl) rfl (hb hby dc10_1) (by decide) (W := 0) (by show 2 * 0 + _ ≤ _; exact Nat.le_of_eq rfl) (by decide)
  refine Go.st st1 ?_
  obtain ⟨T2, X2, e2, st2⟩ := getS2 X1 hx hZ hown (host := "") (Or.inl (hw _ (own_m 88 rfl))) Via.refl e1 SC (g := (mkF mi 4 #[.val (.ref o), .val (.int c)] [])) rfl (hb hby dc10_4)
  refine Go.st st2 ?_
  refine g_ifNo X2 hx hby dc10_7 ((if0 _ _).trans (feq hcz).1) ?_
  refine g_aloadN X2 hx hby dc10_10 rfl rfl ?_
  refine g_iloadN X2 hx hby dc10_11 rfl ?_
  obtain ⟨T3, h3, k3, X3, e3, E3, A3, EX3, st3⟩ := newPE X2 hx hZ (hw _ (own_m 9 rfl)) e2 (g := (mkF mi 12 #[.val (.ref o), .val (.int c)] [(.int c), (.ref o)])) rfl (hb hby dc10_12) rfl hc0 (cap := 19) hc19 (by decide) (by decide) (by decide) (ad := "[B") (by decide)
  obtain ⟨ob3, g3⟩ : ∃ z, z = h0.size := ⟨_, rfl⟩
  rw [← g3] at A3 EX3 st3
  have Zs4 : n0 ≤ h3.size := Nat.le_trans Z0 E3.1
  have KC4 : Keep h0 h3 [o] := (Keep.refl h0 [o]).ext E3
  have g_ob3 : n0 ≤ ob3 := Nat.le_trans Z0 (Nat.le_of_eq g3.symm)
  have sz_ob3 : h0.size ≤ ob3 := Nat.le_trans (Keep.refl h0 [o]).1 (Nat.le_of_eq g3.symm)
  have V3 : Arv Z h3 ob3 k3 .byte c [] (.int (0 : Int32)) := Arv.new A3 hc0
  refine Go.st st3 ?_
  have f5 := (F1.ext E3)
  have f6 := (E0.ext E3)
  obtain ⟨T7, h7, X7, e7, W7, st7⟩ := putF X3 hx hZ hown (host := "") (Or.inl (hw _ (own_m 89 rfl))) Via.refl e3 f5 f6 (Or.inl (hw _ (own_m 90 rfl))) (hw _ (own_m 62 rfl)) (ty := (.array .byte)) (by decide) rfl rfl (g := (mkF mi 14 #[.val (.ref o), .val (.int c)] [(.ref ob3), (.ref o)])) rfl rfl (hb hby dc10_14)
  have Zs8 : n0 ≤ h7.size := Nat.le_trans Zs4 (Keep.of_wr W7).1
  have KC8 : Keep h0 h7 [o] := KC4.wr W7 (Or.inl (List.mem_of_getElem? (i := 0) rfl))
  have N8 := Fr.snoc X7 N0 g_o
  have F7 : Fld Z h7 o "java/lang/AbstractStringBuilder" "value" "[B" (.ref ob3) := f5.same W7
  refine Go.st st7 ?_
  refine g_aloadN X7 hx hby dc10_17 rfl rfl ?_
  refine g_iconst X7 hx hby dc10_18 (v := 0) rfl ?_
  have f9 := ((F2.ext E3).other W7 (Or.inr (slot_ne (Or.inl (hw _ (own_m 92 rfl))) (Or.inl (hw _ (own_m 90 rfl))) (by decide) (t := .byte) (t' := (.array .byte)) (by decide) (by decide))))
  have f10 := (f6.wr W7)
  obtain ⟨T11, h11, X11, e11, W11, st11⟩ := putFN X7 hx hZ hown (hw _ (own_m 91 rfl)) Via.refl e7 f9 f10 (Or.inl (hw _ (own_m 92 rfl))) (hw _ (own_m 62 rfl)) (ty := .byte) (v' := (.int 0)) (by decide) rfl (by decide) (g := (mkF mi 19 #[.val (.ref o), .val (.int c)] [(.int 0), (.ref o)])) rfl rfl (hb hby dc10_19)
  have Zs12 : n0 ≤ h11.size := Nat.le_trans Zs8 (Keep.of_wr W11).1
  have KC12 : Keep h0 h11 [o] := KC8.wr W11 (Or.inl (List.mem_of_getElem? (i := 0) rfl))
  have N12 := Fr.snoc X11 N8 g_o
  have F11 : Fld Z h11 o "java/lang/AbstractStringBuilder" "coder" "B" (.int 0) := f9.same W11
  refine Go.st st11 ?_
  refine g_goto X11 hx hby dc10_22 (pc0 := 22) (pc' := 38) rfl (by decide) (by decide) ?_
  obtain ⟨fs, hr, hrun, hended, hW, hsame⟩ := X11.leave (v := none) (fun _ => rfl) (BodyLoose.notSynchronized Bd)
  have f13 := (f10.wr W11)
  have f14 := (F7.other W11 (Or.inr (slot_ne (Or.inl (hw _ (own_m 90 rfl))) (Or.inl (hw _ (own_m 92 rfl))) (by decide) (t := (.array .byte)) (t' := .byte) (by decide) (by decide))))
  have f15 := (((F3.ext E3).other W7 (Or.inr (slot_ne (Or.inl (hw _ (own_m 105 rfl))) (Or.inl (hw _ (own_m 90 rfl))) (by decide) (t := .int) (t' := (.array .byte)) (by decide) (by decide)))).other W11 (Or.inr (slot_ne (Or.inl (hw _ (own_m 105 rfl))) (Or.inl (hw _ (own_m 92 rfl))) (by decide) (t := .int) (t' := .byte) (by decide) (by decide))))
  have ne_o_ob3 : o ≠ ob3 := Nat.ne_of_lt (Nat.lt_of_lt_of_le E0.lt (Nat.le_of_eq g3.symm))
  have f16 := ((V3.other W7 (Ne.symm ne_o_ob3)).other W11 (Ne.symm ne_o_ob3))
  have f17 := ((EX3.wr W7).wr W11)
  refine ⟨_, _, ?_, hP _ _ ⟨hrun, hended, _, _, rfl, ?_, ⟨_, rfl⟩, hW, hsame.mono (by decide) (by decide)⟩⟩
  · exact X11.returnOut hx Bd.returns (hb hby dc10_38) hr
  · show (none : Option Value) = none ∧ Fr n0 _ ∧ Keep h0 T11.heap [o] ∧ ∃ (d : Addr) (kd : ClassId), h0.size ≤ d ∧ n0 ≤ d ∧ Exa Z T11.heap o "java/lang/StringBuilder" ∧ Fld Z T11.heap o "java/lang/AbstractStringBuilder" "value" "[B" (.ref d) ∧ Fld Z T11.heap o "java/lang/AbstractStringBuilder" "coder" "B" (.int (0 : Int32)) ∧ Fld Z T11.heap o "java/lang/AbstractStringBuilder" "count" "I" (.int (0 : Int32)) ∧ Arv Z T11.heap d kd .byte c [] (.int (0 : Int32)) ∧ Exa Z T11.heap d "[B"
    rw [e11]
    exact ⟨rfl, N12, KC12, ob3, k3, sz_ob3, g_ob3, f13, f14, F11, f15, f16, f17⟩
theorem dc11_0 : decode jdk_67_method_2_code 0 = .ok (.aload_n 0, 1) := by decide +kernel
theorem dc11_1 : decode jdk_67_method_2_code 1 = .ok (.iload_n 1, 1) := by decide +kernel
theorem dc11_2 : decode jdk_67_method_2_code 2 = .ok (.invokespecial 1, 3) := by decide +kernel
theorem pd_5 : parseMethodDescriptor "(I)V" = some ⟨[.int], none⟩ := by decide +kernel
theorem dc11_5 : decode jdk_67_method_2_code 5 = .ok (.return_, 1) := by decide +kernel
theorem pn_5 : plainName "java/lang/StringBuilder" = true := by first | (simp [plainName, overriddenIn]; done) | decide +kernel
theorem ef_rmBI (mi : MethodId) (o : Addr) (c : Int32) (cz : Int32) : entryFrame mi #[(.ref o), (.int c)] 2 = mkF mi 0 #[.val (.ref o), .val (.int c)] [] := by first | (simp [entryFrame, mkF, argsToLocals, Value.category]; done) | rfl
def Q_rmBI (Z : State) (o : Addr) (c : Int32) (cz : Int32) (h0 : Heap) (n0 : Nat) (vv_ : Option Value) (hh_ : Heap) (LL_ : List Loc) : Prop := vv_ = none ∧ Fr n0 LL_ ∧ Keep h0 hh_ [o] ∧ ∃ (d : Addr) (kd : ClassId), h0.size ≤ d ∧ n0 ≤ d ∧ Exa Z hh_ o "java/lang/StringBuilder" ∧ Fld Z hh_ o "java/lang/AbstractStringBuilder" "value" "[B" (.ref d) ∧ Fld Z hh_ o "java/lang/AbstractStringBuilder" "coder" "B" (.int (0 : Int32)) ∧ Fld Z hh_ o "java/lang/AbstractStringBuilder" "count" "I" (.int (0 : Int32)) ∧ Arv Z hh_ d kd .byte c [] (.int (0 : Int32)) ∧ Exa Z hh_ d "[B"
set_option maxRecDepth 65536 in
set_option maxHeartbeats 40000000 in
theorem rmBI (l : Launch) (Z : State) (a0 : Array Value) (hw : ∀ d ∈ tables_1, d.before a0 Z = true) (ws : List Jvm.Cond) (o : Addr) (c : Int32) (cz : Int32) (h0 : Heap) (n0 : Nat) (Z0 : n0 ≤ h0.size) (E0 : Exa Z h0 o "java/lang/StringBuilder") (F1 : Fld Z h0 o "java/lang/AbstractStringBuilder" "value" "[B" .null) (F2 : Fld Z h0 o "java/lang/AbstractStringBuilder" "coder" "B" (.int (0 : Int32))) (F3 : Fld Z h0 o "java/lang/AbstractStringBuilder" "count" "I" (.int (0 : Int32))) (g_o : n0 ≤ o) (hc0 : ¬ c < 0) (hc19 : c.toNatClampNeg ≤ 19) (SC : Sta Z h0 "java/lang/String" "COMPACT_STRINGS" "Z" (.int cz)) (hcz : ¬ (cz = (0 : Int32))) :
    MetFree l (⟨"java/lang/StringBuilder", "<init>", "(I)V"⟩ : MethodName) (head1 (Jvm.Cond.code (⟨"java/lang/StringBuilder", "<init>", "(I)V"⟩ : MethodName) jdk_67_method_2_code 2 none :: ws) ({ frames := 2, cells := 1, slots := 19, locals := 25 } : Room)) (fun aa_ U => aa_ = #[(.ref o), (.int c)] ∧ Z.Warmed39 U.vm ∧ U.heap = h0) (fun _ _ _ _ _ => True) (fun _ U oo_ UV_ => ∃ vv_ LL_, oo_ = .returned vv_ ∧ Q_rmBI Z o c cz h0 n0 vv_ UV_.heap LL_ ∧ FrameEnd U oo_ UV_ LL_ ({ frames := 2, cells := 1, slots := 19, locals := 25 } : Room).cells ({ frames := 2, cells := 1, slots := 19, locals := 25 } : Room).slots) := by
  refine MetFree.of_bodySF (plainFor_of_name pn_5) hisR ?_
  intro pg ev si mi args below meth ci s₁ Bd hml0 hP0 hK
  obtain ⟨rfl, hZ, hh⟩ := hP0
  have hx := Bd.exec
  have hby := Bd.bytes
  have hml : ci.maxLocals = 2 := hml0
  have hown : si.vm.findClass "java/lang/StringBuilder" = some mi.cls := findClass_of_methodNamed Bd.named
  have hnm := (name_of_methodNamed Bd.named Bd.method).1
  have X0 : Stand pg l ev ({ frames := 2, cells := 1, slots := 19, locals := 25 } : Room) si mi #[(.ref o), (.int c)] below meth ci s₁ [] 0 0 := Stand.of_body Bd
  have e0 : s₁.heap = h0 := by rw [← hh, Bd.state]; rfl
  have N0 := Fr.nil n0
  refine Go.start (fun P hP => ?_)
  refine Go.st (fun t_ k_ => castTop (ef_rmBI mi o c cz) k_) (A := s₁.setTop (mkF mi 0 #[.val (.ref o), .val (.int c)] [])) ?_
  show Go _ _ _ (s₁.setTop (mkF mi 0 #[.val (.ref o), .val (.int c)] [])) _
  refine g_aloadN X0 hx hby dc11_0 rfl rfl ?_
  refine g_iloadN X0 hx hby dc11_1 rfl ?_
  obtain ⟨_, _, ⟨T1, L1, k1, n1⟩, -, X1, ⟨Lc1, hQ1, l1, y1, z1⟩, st1⟩ := X0.specialBack hx (y := (⟨"java/lang/AbstractStringBuilder", "<init>", "(I)V"⟩ : MethodName)) rfl hown (mvT hZ (hw _ (own_m 81 rfl))) (mvT hZ (hw _ (own_m 82 rfl))) (mvT hZ (hw _ (own_m 86 rfl))) (by decide) (backOf (W := 0) (rmAI l Z a0 hw [] o c cz h0 n0 Z0 E0 F1 F2 F3 g_o hc0 hc19 SC hcz) hZ (hw _ (own_m 86 rfl)) (hw _ (own_m 85 rfl)) (by decide) (by decide)) (g := (mkF mi 2 #[.val (.ref o), .val (.int c)] [(.int c), (.ref o)])) rfl (by rw [hml]; rfl) (Steps.refl _) (a := o) (argsL := [(.int c)]) (rest := []) (lenOf pd_5 rfl) rfl (by show 2 * 0 + _ ≤ _; exact Nat.le_of_eq rfl) (hb hby dc11_2) (fun _ _ => ⟨rfl, e0, (by decide : 0 + 1 ≤ _), (by decide : 0 + 19 ≤ _)⟩)
  dsimp only [Pt.U, Pt.locs, Pt.cells, Pt.slots] at X1 l1 y1 z1 st1 hQ1
  subst y1 z1
  have X1 := own_cs X1 (cells' := 1) (slots' := 19) rfl rfl
  obtain ⟨h1, e1⟩ : ∃ z, T1.heap = z := ⟨_, rfl⟩
  rw [e1] at hQ1
  obtain ⟨rfl, N1q, K1, d1, kd1, z_d1, g_d1, BE1, BV1, BC1, BN1, BA1, BB1⟩ := hQ1
  have N1 := own_fr l1 (Fr.app N0 N1q)
  have Zs2 : n0 ≤ h1.size := Nat.le_trans Z0 K1.1
  have KC2 : Keep h0 h1 [o] := (Keep.refl h0 [o]).trans K1 (allS (P := fun x => x ∈ [o] ∨ h0.size ≤ x) (Or.inl (List.mem_of_getElem? (i := 0) rfl)) all0)
  have sz_d1 : h0.size ≤ d1 := Nat.le_trans (Keep.refl h0 [o]).1 z_d1
  refine Go.tr st1 ?_
  obtain ⟨fs, hr, hrun, hended, hW, hsame⟩ := X1.leave (v := none) (fun _ => rfl) (BodyLoose.notSynchronized Bd)
  refine ⟨_, _, ?_, hP _ _ ⟨hrun, hended, _, _, rfl, ?_, ⟨_, rfl⟩, hW, hsame.mono (by decide) (by decide)⟩⟩
  · exact X1.returnOut hx Bd.returns (hb hby dc11_5) hr
  · show (none : Option Value) = none ∧ Fr n0 _ ∧ Keep h0 T1.heap [o] ∧ ∃ (d : Addr) (kd : ClassId), h0.size ≤ d ∧ n0 ≤ d ∧ Exa Z T1.heap o "java/lang/StringBuilder" ∧ Fld Z T1.heap o "java/lang/AbstractStringBuilder" "value" "[B" (.ref d) ∧ Fld Z T1.heap o "java/lang/AbstractStringBuilder" "coder" "B" (.int (0 : Int32)) ∧ Fld Z T1.heap o "java/lang/AbstractStringBuilder" "count" "I" (.int (0 : Int32)) ∧ Arv Z T1.heap d kd .byte c [] (.int (0 : Int32)) ∧ Exa Z T1.heap d "[B"
    rw [e1]
    exact ⟨rfl, N1, KC2, d1, kd1, sz_d1, g_d1, BE1, BV1, BC1, BN1, BA1, BB1⟩
theorem dc12_0 : decode jdk_68_method_9_code 0 = .ok (.aload_n 0, 1) := by decide +kernel
theorem dc12_1 : decode jdk_68_method_9_code 1 = .ok (.getfield 15, 3) := by decide +kernel
theorem dc12_4 : decode jdk_68_method_9_code 4 = .ok (.arraylength, 1) := by decide +kernel
theorem dc12_5 : decode jdk_68_method_9_code 5 = .ok (.aload_n 0, 1) := by decide +kernel
theorem dc12_6 : decode jdk_68_method_9_code 6 = .ok (.getfield 22, 3) := by decide +kernel
theorem dc12_9 : decode jdk_68_method_9_code 9 = .ok (.ishr, 1) := by decide +kernel
theorem dc12_10 : decode jdk_68_method_9_code 10 = .ok (.istore_n 2, 1) := by decide +kernel
theorem dc12_11 : decode jdk_68_method_9_code 11 = .ok (.iload_n 1, 1) := by decide +kernel
theorem dc12_12 : decode jdk_68_method_9_code 12 = .ok (.iload_n 2, 1) := by decide +kernel
theorem dc12_13 : decode jdk_68_method_9_code 13 = .ok (.isub, 1) := by decide +kernel
theorem dc12_14 : decode jdk_68_method_9_code 14 = .ok (.ifCond .le 24, 3) := by decide +kernel
theorem dc12_38 : decode jdk_68_method_9_code 38 = .ok (.return_, 1) := by decide +kernel
theorem ef_rmEC (mi : MethodId) (o : Addr) (m : Int32) (d : Addr) (kd : ClassId) (c : Int32) (us : List Value) (cnt : Int32) : entryFrame mi #[(.ref o), (.int m)] 3 = mkF mi 0 #[.val (.ref o), .val (.int m), .unset] [] := by first | (simp [entryFrame, mkF, argsToLocals, Value.category]; done) | rfl
def Q_rmEC (Z : State) (o : Addr) (m : Int32) (d : Addr) (kd : ClassId) (c : Int32) (us : List Value) (cnt : Int32) (h0 : Heap) (n0 : Nat) (vv_ : Option Value) (hh_ : Heap) (LL_ : List Loc) : Prop := vv_ = none ∧ Fr n0 LL_ ∧ hh_ = h0
set_option maxRecDepth 65536 in
set_option maxHeartbeats 40000000 in
theorem rmEC (l : Launch) (Z : State) (a0 : Array Value) (hw : ∀ d ∈ tables_1, d.before a0 Z = true) (ws : List Jvm.Cond) (o : Addr) (m : Int32) (d : Addr) (kd : ClassId) (c : Int32) (us : List Value) (cnt : Int32) (h0 : Heap) (n0 : Nat) (Z0 : n0 ≤ h0.size) (BE : Exa Z h0 o "java/lang/StringBuilder") (BV : Fld Z h0 o "java/lang/AbstractStringBuilder" "value" "[B" (.ref d)) (BC : Fld Z h0 o "java/lang/AbstractStringBuilder" "coder" "B" (.int (0 : Int32))) (BN : Fld Z h0 o "java/lang/AbstractStringBuilder" "count" "I" (.int cnt)) (BA : Arv Z h0 d kd .byte c us (.int (0 : Int32))) (BB : Exa Z h0 d "[B") (hle : ¬ ((0 : Int32) < (m - c))) :
    MetFree l (⟨"java/lang/AbstractStringBuilder", "ensureCapacityInternal", "(I)V"⟩ : MethodName) (head1 (Jvm.Cond.code (⟨"java/lang/AbstractStringBuilder", "ensureCapacityInternal", "(I)V"⟩ : MethodName) jdk_68_method_9_code 3 none :: ws) ({ frames := 0, cells := 0, slots := 0, locals := 0 } : Room)) (fun aa_ U => aa_ = #[(.ref o), (.int m)] ∧ Z.Warmed39 U.vm ∧ U.heap = h0) (fun _ _ _ _ _ => True) (fun _ U oo_ UV_ => ∃ vv_ LL_, oo_ = .returned vv_ ∧ Q_rmEC Z o m d kd c us cnt h0 n0 vv_ UV_.heap LL_ ∧ FrameEnd U oo_ UV_ LL_ ({ frames := 0, cells := 0, slots := 0, locals := 0 } : Room).cells ({ frames := 0, cells := 0, slots := 0, locals := 0 } : Room).slots) := by
  refine MetFree.of_bodySF (plainFor_of_name pn_4) hisR ?_
  intro pg ev si mi args below meth ci s₁ Bd hml0 hP0 hK
  obtain ⟨rfl, hZ, hh⟩ := hP0
  have hx := Bd.exec
  have hby := Bd.bytes
  have hml : ci.maxLocals = 3 := hml0
  have hown : si.vm.findClass "java/lang/AbstractStringBuilder" = some mi.cls := findClass_of_methodNamed Bd.named
  have hnm := (name_of_methodNamed Bd.named Bd.method).1
  have X0 : Stand pg l ev ({ frames := 0, cells := 0, slots := 0, locals := 0 } : Room) si mi #[(.ref o), (.int m)] below meth ci s₁ [] 0 0 := Stand.of_body Bd
  have e0 : s₁.heap = h0 := by rw [← hh, Bd.state]; rfl
  have N0 := Fr.nil n0
  refine Go.start (fun P hP => ?_)
  refine Go.st (fun t_ k_ => castTop (ef_rmEC mi o m d kd c us cnt) k_) (A := s₁.setTop (mkF mi 0 #[.val (.ref o), .val (.int m), .unset] [])) ?_
  show Go _ _ _ (s₁.setTop (mkF mi 0 #[.val (.ref o), .val (.int m), .unset] [])) _
  refine g_aloadN X0 hx hby dc12_0 rfl rfl ?_
  obtain ⟨T1, X1, e1, st1⟩ := getF X0 hx hZ hown (host := "") (Or.inl (hw _ (own_m 89 rfl))) Via.refl e0 BV (g := (mkF mi 1 #[.val (.ref o), .val (.int m), .unset] [(.ref o)])) rfl rfl (hb hby dc12_1)
  refine Go.st st1 ?_
  have ov2 := BA
  obtain ⟨cl2, Ar2, q2, S2, M2, H2, G2⟩ := ov2
  refine Go.st (X1.arraylength hx (by rw [e1]; exact Ar2.1) (State.isArrayOf_alike hZ.alike Ar2.2.1) (g := (mkF mi 4 #[.val (.ref o), .val (.int m), .unset] [(.ref d)])) rfl rfl (hb hby dc12_4)) ?_
  rw [len_of S2 M2]
  refine g_aloadN X1 hx hby dc12_5 rfl rfl ?_
  obtain ⟨T3, X3, e3, st3⟩ := getF X1 hx hZ hown (host := "") (Or.inl (hw _ (own_m 91 rfl))) Via.refl e1 BC (g := (mkF mi 6 #[.val (.ref o), .val (.int m), .unset] [(.ref o), (.int c)])) rfl rfl (hb hby dc12_6)
  refine Go.st st3 ?_
  refine Go.s (XS.ishr X3.here hx rfl (hb hby dc12_9) rfl) ?_
  show Go _ _ _ (T3.setTop (mkF mi 10 #[.val (.ref o), .val (.int m), .unset] [(.int (c >>> ((0 : Int32) &&& 31)))])) _
  rw [own_sh0]
  show Go _ _ _ (T3.setTop (mkF mi 10 #[.val (.ref o), .val (.int m), .unset] [(.int c)])) _
  refine g_istoreN X3 hx hby dc12_10 (l' := #[.val (.ref o), .val (.int m), .val (.int c)]) rfl ?_
  refine g_iloadN X3 hx hby dc12_11 rfl ?_
  refine g_iloadN X3 hx hby dc12_12 rfl ?_
  refine g_isub X3 hx hby dc12_13 rfl ?_
  refine g_ifYes X3 hx hby dc12_14 ((if0 _ _).trans (flt hle).2.2.2) (pc0 := 14) (pc' := 38) rfl (by decide) (by decide) ?_
  obtain ⟨fs, hr, hrun, hended, hW, hsame⟩ := X3.leave (v := none) (fun _ => rfl) (BodyLoose.notSynchronized Bd)
  refine ⟨_, _, ?_, hP _ _ ⟨hrun, hended, _, _, rfl, ?_, ⟨_, rfl⟩, hW, hsame.mono (by decide) (by decide)⟩⟩
  · exact X3.returnOut hx Bd.returns (hb hby dc12_38) hr
  · show (none : Option Value) = none ∧ Fr n0 _ ∧ T3.heap = h0
    rw [e3]
    exact ⟨rfl, N0, rfl⟩
theorem dc13_0 : decode jdk_68_method_71_code 0 = .ok (.getstatic 18, 3) := by decide +kernel
theorem dc13_3 : decode jdk_68_method_71_code 3 = .ok (.ifCond .eq 18, 3) := by decide +kernel
theorem dc13_6 : decode jdk_68_method_71_code 6 = .ok (.aload_n 0, 1) := by decide +kernel
theorem dc13_7 : decode jdk_68_method_71_code 7 = .ok (.getfield 22, 3) := by decide +kernel
theorem dc13_10 : decode jdk_68_method_71_code 10 = .ok (.aload_n 1, 1) := by decide +kernel
theorem dc13_11 : decode jdk_68_method_71_code 11 = .ok (.invokevirtual 40, 3) := by decide +kernel
theorem dc13_14 : decode jdk_68_method_71_code 14 = .ok (.if_icmp .eq 7, 3) := by decide +kernel
theorem dc13_21 : decode jdk_68_method_71_code 21 = .ok (.return_, 1) := by decide +kernel
theorem ef_rmIN (mi : MethodId) (o : Addr) (s : Addr) (d : Addr) (kd : ClassId) (c : Int32) (us : List Value) (cnt : Int32) (b : Addr) (kb : ClassId) (E : List Int32) (cz : Int32) : entryFrame mi #[(.ref o), (.ref s)] 2 = mkF mi 0 #[.val (.ref o), .val (.ref s)] [] := by first | (simp [entryFrame, mkF, argsToLocals, Value.category]; done) | rfl
def Q_rmIN (Z : State) (o : Addr) (s : Addr) (d : Addr) (kd : ClassId) (c : Int32) (us : List Value) (cnt : Int32) (b : Addr) (kb : ClassId) (E : List Int32) (cz : Int32) (h0 : Heap) (n0 : Nat) (vv_ : Option Value) (hh_ : Heap) (LL_ : List Loc) : Prop := vv_ = none ∧ Fr n0 LL_ ∧ hh_ = h0
set_option maxRecDepth 65536 in
set_option maxHeartbeats 40000000 in
theorem rmIN (l : Launch) (Z : State) (a0 : Array Value) (hw : ∀ d ∈ tables_1, d.before a0 Z = true) (ws : List Jvm.Cond) (o : Addr) (s : Addr) (d : Addr) (kd : ClassId) (c : Int32) (us : List Value) (cnt : Int32) (b : Addr) (kb : ClassId) (E : List Int32) (cz : Int32) (h0 : Heap) (n0 : Nat) (Z0 : n0 ≤ h0.size) (BE : Exa Z h0 o "java/lang/StringBuilder") (BV : Fld Z h0 o "java/lang/AbstractStringBuilder" "value" "[B" (.ref d)) (BC : Fld Z h0 o "java/lang/AbstractStringBuilder" "coder" "B" (.int (0 : Int32))) (BN : Fld Z h0 o "java/lang/AbstractStringBuilder" "count" "I" (.int cnt)) (BA : Arv Z h0 d kd .byte c us (.int (0 : Int32))) (BB : Exa Z h0 d "[B") (SE : Exa Z h0 s "java/lang/String") (SCo : Fld Z h0 s "java/lang/String" "coder" "B" (.int (0 : Int32))) (SVa : Fld Z h0 s "java/lang/String" "value" "[B" (.ref b)) (SAr : Arv Z h0 b kb .byte (0 : Int32) (E.map Value.int) (.int (0 : Int32))) (SEb : Exa Z h0 b "[B") (SC : Sta Z h0 "java/lang/String" "COMPACT_STRINGS" "Z" (.int cz)) (hcz : ¬ (cz = (0 : Int32))) :
    MetFree l (⟨"java/lang/AbstractStringBuilder", "inflateIfNeededFor", "(Ljava/lang/String;)V"⟩ : MethodName) (head1 (Jvm.Cond.code (⟨"java/lang/AbstractStringBuilder", "inflateIfNeededFor", "(Ljava/lang/String;)V"⟩ : MethodName) jdk_68_method_71_code 2 none :: ws) ({ frames := 1, cells := 0, slots := 0, locals := 13 } : Room)) (fun aa_ U => aa_ = #[(.ref o), (.ref s)] ∧ Z.Warmed39 U.vm ∧ U.heap = h0) (fun _ _ _ _ _ => True) (fun _ U oo_ UV_ => ∃ vv_ LL_, oo_ = .returned vv_ ∧ Q_rmIN Z o s d kd c us cnt b kb E cz h0 n0 vv_ UV_.heap LL_ ∧ FrameEnd U oo_ UV_ LL_ ({ frames := 1, cells := 0, slots := 0, locals := 13 } : Room).cells ({ frames := 1, cells := 0, slots := 0, locals := 13 } : Room).slots) := by
  refine MetFree.of_bodySF (plainFor_of_name pn_4) hisR ?_
  intro pg ev si mi args below meth ci s₁ Bd hml0 hP0 hK
  obtain ⟨rfl, hZ, hh⟩ := hP0
  have hx := Bd.exec
  have hby := Bd.bytes
  have hml : ci.maxLocals = 2 := hml0
  have hown : si.vm.findClass "java/lang/AbstractStringBuilder" = some mi.cls := findClass_of_methodNamed Bd.named
  have hnm := (name_of_methodNamed Bd.named Bd.method).1
  have X0 : Stand pg l ev ({ frames := 1, cells := 0, slots := 0, locals := 13 } : Room) si mi #[(.ref o), (.ref s)] below meth ci s₁ [] 0 0 := Stand.of_body Bd
  have e0 : s₁.heap = h0 := by rw [← hh, Bd.state]; rfl
  have N0 := Fr.nil n0
  refine Go.start (fun P hP => ?_)
  refine Go.st (fun t_ k_ => castTop (ef_rmIN mi o s d kd c us cnt b kb E cz) k_) (A := s₁.setTop (mkF mi 0 #[.val (.ref o), .val (.ref s)] [])) ?_
  show Go _ _ _ (s₁.setTop (mkF mi 0 #[.val (.ref o), .val (.ref s)] [])) _
  obtain ⟨T1, X1, e1, st1⟩ := getS2 X0 hx hZ hown (host := "") (Or.inl (hw _ (own_m 88 rfl))) Via.refl e0 SC (g := (mkF mi 0 #[.val (.ref o), .val (.ref s)] [])) rfl (hb hby dc13_0)
  refine Go.st st1 ?_
  refine g_ifNo X1 hx hby dc13_3 ((if0 _ _).trans (feq hcz).1) ?_
  refine g_aloadN X1 hx hby dc13_6 rfl rfl ?_
  obtain ⟨T2, X2, e2, st2⟩ := getF X1 hx hZ hown (host := "") (Or.inl (hw _ (own_m 91 rfl))) Via.refl e1 BC (g := (mkF mi 7 #[.val (.ref o), .val (.ref s)] [(.ref o)])) rfl rfl (hb hby dc13_7)
  refine Go.st st2 ?_
  refine g_aloadN X2 hx hby dc13_10 rfl rfl ?_
  obtain ⟨cq3, kq3, q3a, q3b, q3c⟩ := isOf hZ e2 SE
  obtain ⟨_, _, ⟨T3, L3, k3, n3⟩, -, X3, ⟨Lc3, hQ3, l3, y3, z3⟩, st3⟩ := X2.virtualBack hx (y := (⟨"java/lang/String", "coder", "()B"⟩ : MethodName)) (z := (⟨"java/lang/String", "coder", "()B"⟩ : MethodName)) hown (mvT hZ (hw _ (own_m 121 rfl))) (mvT hZ (hw _ (own_m 70 rfl))) (notFace_of_selects (args := #[]) (mvT hZ (hw _ (own_m 72 rfl)))) (mvT hZ (hw _ (own_m 72 rfl))) (mvT hZ (hw _ (own_m 71 rfl))) (by decide) (backOf (W := 1) (rmCd l Z a0 hw [] s cz h0 n0 Z0 SCo SC hcz) hZ (hw _ (own_m 73 rfl)) (hw _ (own_m 7 rfl)) (by decide) (by decide)) q3a q3c (g := (mkF mi 11 #[.val (.ref o), .val (.ref s)] [(.ref s), (.int 0)])) rfl (by rw [hml]; rfl) (Steps.refl _) (argsL := []) (rest := [(.int 0)]) (lenOf pd_0 rfl) rfl (by show 2 * 0 + _ ≤ _; exact Nat.le_of_eq rfl) (hb hby dc13_11) (fun _ _ => ⟨rfl, e2, (by decide : 0 + 0 ≤ _), (by decide : 0 + 0 ≤ _)⟩)
  dsimp only [Pt.U, Pt.locs, Pt.cells, Pt.slots] at X3 l3 y3 z3 st3 hQ3
  subst y3 z3
  have X3 := own_cs X3 (cells' := 0) (slots' := 0) rfl rfl
  obtain ⟨rfl, N3q, e3⟩ := hQ3
  have N3 := own_fr l3 (Fr.app N0 N3q)
  refine Go.tr st3 ?_
  refine g_icmpYes X3 hx hby dc13_14 (teq rfl).1 (pc0 := 14) (pc' := 21) rfl (by decide) (by decide) ?_
  obtain ⟨fs, hr, hrun, hended, hW, hsame⟩ := X3.leave (v := none) (fun _ => rfl) (BodyLoose.notSynchronized Bd)
  refine ⟨_, _, ?_, hP _ _ ⟨hrun, hended, _, _, rfl, ?_, ⟨_, rfl⟩, hW, hsame.mono (by decide) (by decide)⟩⟩
  · exact X3.returnOut hx Bd.returns (hb hby dc13_21) hr
  · show (none : Option Value) = none ∧ Fr n0 _ ∧ T3.heap = h0
    rw [e3]
    exact ⟨rfl, N3, rfl⟩
theorem own_cp0 (us : List Value) (k : Nat) (f : Nat → Value) : us.take k ++ (List.range (0 : Int32).toNatClampNeg).map f ++ us.drop (k + (0 : Int32).toNatClampNeg) = us := by
  rw [show (0 : Int32).toNatClampNeg = 0 from by decide +kernel]; simp
theorem dc14_0 : decode jdk_42_method_147_code 0 = .ok (.aload_n 0, 1) := by decide +kernel
theorem dc14_1 : decode jdk_42_method_147_code 1 = .ok (.invokevirtual 335, 3) := by decide +kernel
theorem dc14_4 : decode jdk_42_method_147_code 4 = .ok (.iload_n 3, 1) := by decide +kernel
theorem dc14_5 : decode jdk_42_method_147_code 5 = .ok (.if_icmp .ne 23, 3) := by decide +kernel
theorem dc14_8 : decode jdk_42_method_147_code 8 = .ok (.aload_n 0, 1) := by decide +kernel
theorem dc14_9 : decode jdk_42_method_147_code 9 = .ok (.getfield 9, 3) := by decide +kernel
theorem dc14_12 : decode jdk_42_method_147_code 12 = .ok (.iconst 0, 1) := by decide +kernel
theorem dc14_13 : decode jdk_42_method_147_code 13 = .ok (.aload_n 1, 1) := by decide +kernel
theorem dc14_14 : decode jdk_42_method_147_code 14 = .ok (.iload_n 2, 1) := by decide +kernel
theorem dc14_15 : decode jdk_42_method_147_code 15 = .ok (.iload_n 3, 1) := by decide +kernel
theorem dc14_16 : decode jdk_42_method_147_code 16 = .ok (.ishl, 1) := by decide +kernel
theorem dc14_17 : decode jdk_42_method_147_code 17 = .ok (.aload_n 0, 1) := by decide +kernel
theorem dc14_18 : decode jdk_42_method_147_code 18 = .ok (.getfield 9, 3) := by decide +kernel
theorem dc14_21 : decode jdk_42_method_147_code 21 = .ok (.arraylength, 1) := by decide +kernel
theorem dc14_22 : decode jdk_42_method_147_code 22 = .ok (.invokestatic 212, 3) := by decide +kernel
theorem dc14_25 : decode jdk_42_method_147_code 25 = .ok (.goto 18, 3) := by decide +kernel
theorem dc14_43 : decode jdk_42_method_147_code 43 = .ok (.return_, 1) := by decide +kernel
theorem ef_rmGy (mi : MethodId) (s : Addr) (d : Addr) (cnt : Int32) (kd : ClassId) (c : Int32) (us : List Value) (b : Addr) (kb : ClassId) (E : List Int32) (cz : Int32) : entryFrame mi #[(.ref s), (.ref d), (.int cnt), (.int 0)] 4 = mkF mi 0 #[.val (.ref s), .val (.ref d), .val (.int cnt), .val (.int 0)] [] := by first | (simp [entryFrame, mkF, argsToLocals, Value.category]; done) | rfl
def Q_rmGy (Z : State) (s : Addr) (d : Addr) (cnt : Int32) (kd : ClassId) (c : Int32) (us : List Value) (b : Addr) (kb : ClassId) (E : List Int32) (cz : Int32) (h0 : Heap) (n0 : Nat) (vv_ : Option Value) (hh_ : Heap) (LL_ : List Loc) : Prop := vv_ = none ∧ Fr n0 LL_ ∧ Keep h0 hh_ [d] ∧ Arv Z hh_ d kd .byte c us (.int (0 : Int32))
set_option maxRecDepth 65536 in
set_option maxHeartbeats 40000000 in
theorem rmGy (l : Launch) (Z : State) (a0 : Array Value) (hw : ∀ d ∈ tables_1, d.before a0 Z = true) (ws : List Jvm.Cond) (s : Addr) (d : Addr) (cnt : Int32) (kd : ClassId) (c : Int32) (us : List Value) (b : Addr) (kb : ClassId) (E : List Int32) (cz : Int32) (h0 : Heap) (n0 : Nat) (Z0 : n0 ≤ h0.size) (SE : Exa Z h0 s "java/lang/String") (SCo : Fld Z h0 s "java/lang/String" "coder" "B" (.int (0 : Int32))) (SVa : Fld Z h0 s "java/lang/String" "value" "[B" (.ref b)) (SAr : Arv Z h0 b kb .byte (0 : Int32) (E.map Value.int) (.int (0 : Int32))) (SEb : Exa Z h0 b "[B") (BA : Arv Z h0 d kd .byte c us (.int (0 : Int32))) (hd0 : ¬ cnt < 0) (hdc : cnt.toNatClampNeg ≤ c.toNatClampNeg) (hdu : cnt.toNatClampNeg ≤ us.length) (g_d : n0 ≤ d) (n_bd : b ≠ d) (SC : Sta Z h0 "java/lang/String" "COMPACT_STRINGS" "Z" (.int cz)) (hcz : ¬ (cz = (0 : Int32))) :
    MetFree l (⟨"java/lang/String", "getBytes", "([BIB)V"⟩ : MethodName) (head1 (Jvm.Cond.code (⟨"java/lang/String", "getBytes", "([BIB)V"⟩ : MethodName) jdk_42_method_147_code 4 none :: ws) ({ frames := 1, cells := 0, slots := 0, locals := 18 } : Room)) (fun aa_ U => aa_ = #[(.ref s), (.ref d), (.int cnt), (.int 0)] ∧ Z.Warmed39 U.vm ∧ U.heap = h0) (fun _ _ _ _ _ => True) (fun _ U oo_ UV_ => ∃ vv_ LL_, oo_ = .returned vv_ ∧ Q_rmGy Z s d cnt kd c us b kb E cz h0 n0 vv_ UV_.heap LL_ ∧ FrameEnd U oo_ UV_ LL_ ({ frames := 1, cells := 0, slots := 0, locals := 18 } : Room).cells ({ frames := 1, cells := 0, slots := 0, locals := 18 } : Room).slots) := by
  refine MetFree.of_bodySF (plainFor_of_name pn_0) hisR ?_
  intro pg ev si mi args below meth ci s₁ Bd hml0 hP0 hK
  obtain ⟨rfl, hZ, hh⟩ := hP0
  have hx := Bd.exec
  have hby := Bd.bytes
  have hml : ci.maxLocals = 4 := hml0
  have hown : si.vm.findClass "java/lang/String" = some mi.cls := findClass_of_methodNamed Bd.named
  have hnm := (name_of_methodNamed Bd.named Bd.method).1
  have X0 : Stand pg l ev ({ frames := 1, cells := 0, slots := 0, locals := 18 } : Room) si mi #[(.ref s), (.ref d), (.int cnt), (.int 0)] below meth ci s₁ [] 0 0 := Stand.of_body Bd
  have e0 : s₁.heap = h0 := by rw [← hh, Bd.state]; rfl
  have N0 := Fr.nil n0
  refine Go.start (fun P hP => ?_)
  refine Go.st (fun t_ k_ => castTop (ef_rmGy mi s d cnt kd c us b kb E cz) k_) (A := s₁.setTop (mkF mi 0 #[.val (.ref s), .val (.ref d), .val (.int cnt), .val (.int 0)] [])) ?_
  show Go _ _ _ (s₁.setTop (mkF mi 0 #[.val (.ref s), .val (.ref d), .val (.int cnt), .val (.int 0)] [])) _
  refine g_aloadN X0 hx hby dc14_0 rfl rfl ?_
  obtain ⟨cq1, kq1, q1a, q1b, q1c⟩ := isOf hZ e0 SE
  obtain ⟨_, _, ⟨T1, L1, k1, n1⟩, -, X1, ⟨Lc1, hQ1, l1, y1, z1⟩, st1⟩ := X0.virtualBack hx (y := (⟨"java/lang/String", "coder", "()B"⟩ : MethodName)) (z := (⟨"java/lang/String", "coder", "()B"⟩ : MethodName)) hown (mvT hZ (hw _ (own_m 69 rfl))) (mvT hZ (hw _ (own_m 70 rfl))) (notFace_of_selects (args := #[]) (mvT hZ (hw _ (own_m 72 rfl)))) (mvT hZ (hw _ (own_m 72 rfl))) (mvT hZ (hw _ (own_m 71 rfl))) (by decide) (backOf (W := 0) (rmCd l Z a0 hw [] s cz h0 n0 Z0 SCo SC hcz) hZ (hw _ (own_m 73 rfl)) (hw _ (own_m 7 rfl)) (by decide) (by decide)) q1a q1c (g := (mkF mi 1 #[.val (.ref s), .val (.ref d), .val (.int cnt), .val (.int 0)] [(.ref s)])) rfl (by rw [hml]; rfl) (Steps.refl _) (argsL := []) (rest := []) (lenOf pd_0 rfl) rfl (by show 2 * 0 + _ ≤ _; exact Nat.le_of_eq rfl) (hb hby dc14_1) (fun _ _ => ⟨rfl, e0, (by decide : 0 + 0 ≤ _), (by decide : 0 + 0 ≤ _)⟩)
  dsimp only [Pt.U, Pt.locs, Pt.cells, Pt.slots] at X1 l1 y1 z1 st1 hQ1
  subst y1 z1
  have X1 := own_cs X1 (cells' := 0) (slots' := 0) rfl rfl
  obtain ⟨rfl, N1q, e1⟩ := hQ1
  have N1 := own_fr l1 (Fr.app N0 N1q)
  refine Go.tr st1 ?_
  refine g_iloadN X1 hx hby dc14_4 rfl ?_
  refine g_icmpNo X1 hx hby dc14_5 (teq rfl).2 ?_
  refine g_aloadN X1 hx hby dc14_8 rfl rfl ?_
  obtain ⟨T2, X2, e2, st2⟩ := getF X1 hx hZ hown (host := "") (Or.inl (hw _ (own_m 48 rfl))) Via.refl e1 SVa (g := (mkF mi 9 #[.val (.ref s), .val (.ref d), .val (.int cnt), .val (.int 0)] [(.ref s)])) rfl rfl (hb hby dc14_9)
  refine Go.st st2 ?_
  refine g_iconst X2 hx hby dc14_12 (v := 0) rfl ?_
  refine g_aloadN X2 hx hby dc14_13 rfl rfl ?_
  refine g_iloadN X2 hx hby dc14_14 rfl ?_
  refine g_iloadN X2 hx hby dc14_15 rfl ?_
  refine Go.s (XS.ishl X2.here hx rfl (hb hby dc14_16) rfl) ?_
  show Go _ _ _ (T2.setTop (mkF mi 17 #[.val (.ref s), .val (.ref d), .val (.int cnt), .val (.int 0)] [(.int (cnt <<< ((0 : Int32) &&& 31))), (.ref d), (.int 0), (.ref b)])) _
  rw [own_shl0]
  show Go _ _ _ (T2.setTop (mkF mi 17 #[.val (.ref s), .val (.ref d), .val (.int cnt), .val (.int 0)] [(.int cnt), (.ref d), (.int 0), (.ref b)])) _
  refine g_aloadN X2 hx hby dc14_17 rfl rfl ?_
  obtain ⟨T3, X3, e3, st3⟩ := getF X2 hx hZ hown (host := "") (Or.inl (hw _ (own_m 48 rfl))) Via.refl e2 SVa (g := (mkF mi 18 #[.val (.ref s), .val (.ref d), .val (.int cnt), .val (.int 0)] [(.ref s), (.int cnt), (.ref d), (.int 0), (.ref b)])) rfl rfl (hb hby dc14_18)
  refine Go.st st3 ?_
  have ov4 := SAr
  obtain ⟨cl4, Ar4, q4, S4, M4, H4, G4⟩ := ov4
  refine Go.st (X3.arraylength hx (by rw [e3]; exact Ar4.1) (State.isArrayOf_alike hZ.alike Ar4.2.1) (g := (mkF mi 21 #[.val (.ref s), .val (.ref d), .val (.int cnt), .val (.int 0)] [(.ref b), (.int cnt), (.ref d), (.int 0), (.ref b)])) rfl rfl (hb hby dc14_21)) ?_
  rw [len_of S4 M4]
  show Go _ _ _ (T3.setTop (mkF mi 22 #[.val (.ref s), .val (.ref d), .val (.int cnt), .val (.int 0)] [(.int 0), (.int cnt), (.ref d), (.int 0), (.ref b)])) _
  obtain ⟨T5, h5, L5, X5, e5, N5, K5, V5, st5⟩ := cpA X3 hx hZ hown (hw _ (own_m 127 rfl)) (hw _ (own_m 130 rfl)) (hw _ (own_m 128 rfl)) (hw _ (own_m 129 rfl)) e3 SAr BA (Or.inl ⟨rfl, rfl⟩) (by decide) hd0 (by decide) (sp := (0 : Int32)) (dp := cnt) (nn := (0 : Int32)) (by decide) (by rw [show (0 : Int32).toNatClampNeg = 0 from by decide +kernel]; exact hdc) rfl (by rw [show (0 : Int32).toNatClampNeg = 0 from by decide +kernel]; exact hdu) N1 g_d (g := (mkF mi 22 #[.val (.ref s), .val (.ref d), .val (.int cnt), .val (.int 0)] [(.int 0), (.int cnt), (.ref d), (.int 0), (.ref b)])) rfl (by rw [hml]; rfl) rfl (hb hby dc14_22) (by decide) (W := 0) (by show 2 * 0 + _ ≤ _; exact Nat.le_of_eq rfl) (by decide)
  rw [own_cp0] at V5
  have Zs6 : n0 ≤ h5.size := Nat.le_trans Z0 K5.1
  have KC6 : Keep h0 h5 [d] := (Keep.refl h0 [d]).trans K5 (allS (P := fun x => x ∈ [d] ∨ h0.size ≤ x) (Or.inl (List.mem_of_getElem? (i := 0) rfl)) all0)
  refine Go.st st5 ?_
  show Go _ _ _ (T5.setTop (mkF mi 25 #[.val (.ref s), .val (.ref d), .val (.int cnt), .val (.int 0)] [])) _
  refine g_goto X5 hx hby dc14_25 (pc0 := 25) (pc' := 43) rfl (by decide) (by decide) ?_
  obtain ⟨fs, hr, hrun, hended, hW, hsame⟩ := X5.leave (v := none) (fun _ => rfl) (BodyLoose.notSynchronized Bd)
  refine ⟨_, _, ?_, hP _ _ ⟨hrun, hended, _, _, rfl, ?_, ⟨_, rfl⟩, hW, hsame.mono (by decide) (by decide)⟩⟩
  · exact X5.returnOut hx Bd.returns (hb hby dc14_43) hr
  · show (none : Option Value) = none ∧ Fr n0 _ ∧ Keep h0 T5.heap [d] ∧ Arv Z T5.heap d kd .byte c us (.int (0 : Int32))
    rw [e5]
    exact ⟨rfl, N5, KC6, V5⟩
theorem dc15_0 : decode jdk_68_method_73_code 0 = .ok (.aload_n 0, 1) := by decide +kernel
theorem dc15_1 : decode jdk_68_method_73_code 1 = .ok (.aload_n 2, 1) := by decide +kernel
theorem dc15_2 : decode jdk_68_method_73_code 2 = .ok (.invokevirtual 397, 3) := by decide +kernel
theorem pd_6 : parseMethodDescriptor "(Ljava/lang/String;)V" = some ⟨[(.object "java/lang/String")], none⟩ := by decide +kernel
theorem dc15_5 : decode jdk_68_method_73_code 5 = .ok (.aload_n 2, 1) := by decide +kernel
theorem dc15_6 : decode jdk_68_method_73_code 6 = .ok (.aload_n 0, 1) := by decide +kernel
theorem dc15_7 : decode jdk_68_method_73_code 7 = .ok (.getfield 15, 3) := by decide +kernel
theorem dc15_10 : decode jdk_68_method_73_code 10 = .ok (.iload_n 1, 1) := by decide +kernel
theorem dc15_11 : decode jdk_68_method_73_code 11 = .ok (.aload_n 0, 1) := by decide +kernel
theorem dc15_12 : decode jdk_68_method_73_code 12 = .ok (.getfield 22, 3) := by decide +kernel
theorem dc15_15 : decode jdk_68_method_73_code 15 = .ok (.invokevirtual 399, 3) := by decide +kernel
theorem pd_7 : parseMethodDescriptor "([BIB)V" = some ⟨[(.array .byte), .int, .byte], none⟩ := by decide +kernel
theorem dc15_18 : decode jdk_68_method_73_code 18 = .ok (.return_, 1) := by decide +kernel
theorem ef_rmPS (mi : MethodId) (o : Addr) (cnt : Int32) (s : Addr) (d : Addr) (kd : ClassId) (c : Int32) (us : List Value) (b : Addr) (kb : ClassId) (E : List Int32) (cz : Int32) : entryFrame mi #[(.ref o), (.int cnt), (.ref s)] 3 = mkF mi 0 #[.val (.ref o), .val (.int cnt), .val (.ref s)] [] := by first | (simp [entryFrame, mkF, argsToLocals, Value.category]; done) | rfl
def Q_rmPS (Z : State) (o : Addr) (cnt : Int32) (s : Addr) (d : Addr) (kd : ClassId) (c : Int32) (us : List Value) (b : Addr) (kb : ClassId) (E : List Int32) (cz : Int32) (h0 : Heap) (n0 : Nat) (vv_ : Option Value) (hh_ : Heap) (LL_ : List Loc) : Prop := vv_ = none ∧ Fr n0 LL_ ∧ Keep h0 hh_ [d] ∧ Arv Z hh_ d kd .byte c us (.int (0 : Int32))
set_option maxRecDepth 65536 in
set_option maxHeartbeats 40000000 in
theorem rmPS (l : Launch) (Z : State) (a0 : Array Value) (hw : ∀ d ∈ tables_1, d.before a0 Z = true) (ws : List Jvm.Cond) (o : Addr) (cnt : Int32) (s : Addr) (d : Addr) (kd : ClassId) (c : Int32) (us : List Value) (b : Addr) (kb : ClassId) (E : List Int32) (cz : Int32) (h0 : Heap) (n0 : Nat) (Z0 : n0 ≤ h0.size) (BE : Exa Z h0 o "java/lang/StringBuilder") (BV : Fld Z h0 o "java/lang/AbstractStringBuilder" "value" "[B" (.ref d)) (BC : Fld Z h0 o "java/lang/AbstractStringBuilder" "coder" "B" (.int (0 : Int32))) (BN : Fld Z h0 o "java/lang/AbstractStringBuilder" "count" "I" (.int cnt)) (BA : Arv Z h0 d kd .byte c us (.int (0 : Int32))) (BB : Exa Z h0 d "[B") (SE : Exa Z h0 s "java/lang/String") (SCo : Fld Z h0 s "java/lang/String" "coder" "B" (.int (0 : Int32))) (SVa : Fld Z h0 s "java/lang/String" "value" "[B" (.ref b)) (SAr : Arv Z h0 b kb .byte (0 : Int32) (E.map Value.int) (.int (0 : Int32))) (SEb : Exa Z h0 b "[B") (hd0 : ¬ cnt < 0) (hdc : cnt.toNatClampNeg ≤ c.toNatClampNeg) (hdu : cnt.toNatClampNeg ≤ us.length) (g_d : n0 ≤ d) (n_bd : b ≠ d) (n_od : o ≠ d) (n_sd : s ≠ d) (SC : Sta Z h0 "java/lang/String" "COMPACT_STRINGS" "Z" (.int cz)) (hcz : ¬ (cz = (0 : Int32))) :
    MetFree l (⟨"java/lang/AbstractStringBuilder", "putStringAt", "(ILjava/lang/String;)V"⟩ : MethodName) (head1 (Jvm.Cond.code (⟨"java/lang/AbstractStringBuilder", "putStringAt", "(ILjava/lang/String;)V"⟩ : MethodName) jdk_68_method_73_code 3 none :: ws) ({ frames := 2, cells := 0, slots := 0, locals := 33 } : Room)) (fun aa_ U => aa_ = #[(.ref o), (.int cnt), (.ref s)] ∧ Z.Warmed39 U.vm ∧ U.heap = h0) (fun _ _ _ _ _ => True) (fun _ U oo_ UV_ => ∃ vv_ LL_, oo_ = .returned vv_ ∧ Q_rmPS Z o cnt s d kd c us b kb E cz h0 n0 vv_ UV_.heap LL_ ∧ FrameEnd U oo_ UV_ LL_ ({ frames := 2, cells := 0, slots := 0, locals := 33 } : Room).cells ({ frames := 2, cells := 0, slots := 0, locals := 33 } : Room).slots) := by
  refine MetFree.of_bodySF (plainFor_of_name pn_4) hisR ?_
  intro pg ev si mi args below meth ci s₁ Bd hml0 hP0 hK
  obtain ⟨rfl, hZ, hh⟩ := hP0
  have hx := Bd.exec
  have hby := Bd.bytes
  have hml : ci.maxLocals = 3 := hml0
  have hown : si.vm.findClass "java/lang/AbstractStringBuilder" = some mi.cls := findClass_of_methodNamed Bd.named
  have hnm := (name_of_methodNamed Bd.named Bd.method).1
  have X0 : Stand pg l ev ({ frames := 2, cells := 0, slots := 0, locals := 33 } : Room) si mi #[(.ref o), (.int cnt), (.ref s)] below meth ci s₁ [] 0 0 := Stand.of_body Bd
  have e0 : s₁.heap = h0 := by rw [← hh, Bd.state]; rfl
  have N0 := Fr.nil n0
  refine Go.start (fun P hP => ?_)
  refine Go.st (fun t_ k_ => castTop (ef_rmPS mi o cnt s d kd c us b kb E cz) k_) (A := s₁.setTop (mkF mi 0 #[.val (.ref o), .val (.int cnt), .val (.ref s)] [])) ?_
  show Go _ _ _ (s₁.setTop (mkF mi 0 #[.val (.ref o), .val (.int cnt), .val (.ref s)] [])) _
  refine g_aloadN X0 hx hby dc15_0 rfl rfl ?_
  refine g_aloadN X0 hx hby dc15_1 rfl rfl ?_
  obtain ⟨cq1, q1, q1'⟩ := BE.cell
  obtain ⟨_, _, ⟨T1, L1, k1, n1⟩, -, X1, ⟨Lc1, hQ1, l1, y1, z1⟩, st1⟩ := X0.privateBack hx (y := (⟨"java/lang/AbstractStringBuilder", "inflateIfNeededFor", "(Ljava/lang/String;)V"⟩ : MethodName)) hown (mvT hZ (hw _ (own_m 116 rfl))) (mvT hZ (hw _ (own_m 117 rfl))) (mvT hZ (own_selB (hw _ (own_m 119 rfl)) (hw _ (own_m 118 rfl)) (hw _ (own_m 117 rfl)))) (Cond.privateMethod_at (mvP hZ (hw _ (own_m 118 rfl)) (args := #[]))) (mvT hZ (hw _ (own_m 120 rfl))) (by decide) (backOf (W := 0) (rmIN l Z a0 hw [] o s d kd c us cnt b kb E cz h0 n0 Z0 BE BV BC BN BA BB SE SCo SVa SAr SEb SC hcz) hZ (hw _ (own_m 120 rfl)) (hw _ (own_m 85 rfl)) (by decide) (by decide)) (g := (mkF mi 2 #[.val (.ref o), .val (.int cnt), .val (.ref s)] [(.ref s), (.ref o)])) rfl (by rw [hml]; rfl) (Steps.refl _) (a := o) (by rw [e0]; exact q1) q1' (argsL := [(.ref s)]) (rest := []) (lenOf pd_6 rfl) rfl (by show 2 * 0 + _ ≤ _; exact Nat.le_of_eq rfl) (hb hby dc15_2) (fun _ _ => ⟨rfl, e0, (by decide : 0 + 0 ≤ _), (by decide : 0 + 0 ≤ _)⟩)
  dsimp only [Pt.U, Pt.locs, Pt.cells, Pt.slots] at X1 l1 y1 z1 st1 hQ1
  subst y1 z1
  have X1 := own_cs X1 (cells' := 0) (slots' := 0) rfl rfl
  obtain ⟨rfl, N1q, e1⟩ := hQ1
  have N1 := own_fr l1 (Fr.app N0 N1q)
  refine Go.tr st1 ?_
  refine g_aloadN X1 hx hby dc15_5 rfl rfl ?_
  refine g_aloadN X1 hx hby dc15_6 rfl rfl ?_
  obtain ⟨T2, X2, e2, st2⟩ := getF X1 hx hZ hown (host := "") (Or.inl (hw _ (own_m 89 rfl))) Via.refl e1 BV (g := (mkF mi 7 #[.val (.ref o), .val (.int cnt), .val (.ref s)] [(.ref o), (.ref s)])) rfl rfl (hb hby dc15_7)
  refine Go.st st2 ?_
  refine g_iloadN X2 hx hby dc15_10 rfl ?_
  refine g_aloadN X2 hx hby dc15_11 rfl rfl ?_
  obtain ⟨T3, X3, e3, st3⟩ := getF X2 hx hZ hown (host := "") (Or.inl (hw _ (own_m 91 rfl))) Via.refl e2 BC (g := (mkF mi 12 #[.val (.ref o), .val (.int cnt), .val (.ref s)] [(.ref o), (.int cnt), (.ref d), (.ref s)])) rfl rfl (hb hby dc15_12)
  refine Go.st st3 ?_
  obtain ⟨cq4, kq4, q4a, q4b, q4c⟩ := isOf hZ e3 SE
  obtain ⟨_, _, ⟨T4, L4, k4, n4⟩, -, X4, ⟨Lc4, hQ4, l4, y4, z4⟩, st4⟩ := X3.virtualBack hx (y := (⟨"java/lang/String", "getBytes", "([BIB)V"⟩ : MethodName)) (z := (⟨"java/lang/String", "getBytes", "([BIB)V"⟩ : MethodName)) hown (mvT hZ (hw _ (own_m 122 rfl))) (mvT hZ (hw _ (own_m 123 rfl))) (notFace_of_selects (args := #[]) (mvT hZ (hw _ (own_m 125 rfl)))) (mvT hZ (hw _ (own_m 125 rfl))) (mvT hZ (hw _ (own_m 124 rfl))) (by decide) (backOf (W := 0) (rmGy l Z a0 hw [] s d cnt kd c us b kb E cz h0 n0 Z0 SE SCo SVa SAr SEb BA hd0 hdc hdu g_d n_bd SC hcz) hZ (hw _ (own_m 126 rfl)) (hw _ (own_m 7 rfl)) (by decide) (by decide)) q4a q4c (g := (mkF mi 15 #[.val (.ref o), .val (.int cnt), .val (.ref s)] [(.int 0), (.int cnt), (.ref d), (.ref s)])) rfl (by rw [hml]; rfl) (Steps.refl _) (argsL := [(.ref d), (.int cnt), (.int 0)]) (rest := []) (lenOf pd_7 rfl) rfl (by show 2 * 0 + _ ≤ _; exact Nat.le_of_eq rfl) (hb hby dc15_15) (fun _ _ => ⟨rfl, e3, (by decide : 0 + 0 ≤ _), (by decide : 0 + 0 ≤ _)⟩)
  dsimp only [Pt.U, Pt.locs, Pt.cells, Pt.slots] at X4 l4 y4 z4 st4 hQ4
  subst y4 z4
  have X4 := own_cs X4 (cells' := 0) (slots' := 0) rfl rfl
  obtain ⟨h4, e4⟩ : ∃ z, T4.heap = z := ⟨_, rfl⟩
  rw [e4] at hQ4
  obtain ⟨rfl, N4q, K4, VD4⟩ := hQ4
  have N4 := own_fr l4 (Fr.app N1 N4q)
  have Zs5 : n0 ≤ h4.size := Nat.le_trans Z0 K4.1
  have KC5 : Keep h0 h4 [d] := (Keep.refl h0 [d]).trans K4 (allS (P := fun x => x ∈ [d] ∨ h0.size ≤ x) (Or.inl (List.mem_of_getElem? (i := 0) rfl)) all0)
  refine Go.tr st4 ?_
  obtain ⟨fs, hr, hrun, hended, hW, hsame⟩ := X4.leave (v := none) (fun _ => rfl) (BodyLoose.notSynchronized Bd)
  refine ⟨_, _, ?_, hP _ _ ⟨hrun, hended, _, _, rfl, ?_, ⟨_, rfl⟩, hW, hsame.mono (by decide) (by decide)⟩⟩
  · exact X4.returnOut hx Bd.returns (hb hby dc15_18) hr
  · show (none : Option Value) = none ∧ Fr n0 _ ∧ Keep h0 T4.heap [d] ∧ Arv Z T4.heap d kd .byte c us (.int (0 : Int32))
    rw [e4]
    exact ⟨rfl, N4, KC5, VD4⟩
theorem own_hle {cnt c : Int32} (h0 : ¬ cnt < 0) (h1 : ¬ c < 0) (h : cnt.toNatClampNeg ≤ c.toNatClampNeg) : ¬ ((0 : Int32) < ((cnt + (0 : Int32)) - c)) := by
  rw [Int32.add_zero, Int32.lt_iff_toInt_lt]
  have l0 : (0 : Int32).toInt = 0 := rfl
  have e := c_isub cnt c
  have b1 := Int32.le_toInt (cnt - c)
  have b2 := Int32.toInt_lt (cnt - c)
  have b3 := Int32.toInt_lt c
  rw [Int32.lt_iff_toInt_lt, l0] at h0 h1
  simp only [Int32.toNatClampNeg] at h
  omega
theorem dc16_0 : decode jdk_68_method_22_code 0 = .ok (.aload_n 1, 1) := by decide +kernel
theorem dc16_1 : decode jdk_68_method_22_code 1 = .ok (.ifnonnull 8, 3) := by decide +kernel
theorem dc16_9 : decode jdk_68_method_22_code 9 = .ok (.aload_n 1, 1) := by decide +kernel
theorem dc16_10 : decode jdk_68_method_22_code 10 = .ok (.invokevirtual 32, 3) := by decide +kernel
theorem pd_8 : parseMethodDescriptor "()I" = some ⟨[], some .int⟩ := by decide +kernel
theorem dc16_13 : decode jdk_68_method_22_code 13 = .ok (.istore_n 2, 1) := by decide +kernel
theorem dc16_14 : decode jdk_68_method_22_code 14 = .ok (.aload_n 0, 1) := by decide +kernel
theorem dc16_15 : decode jdk_68_method_22_code 15 = .ok (.aload_n 0, 1) := by decide +kernel
theorem dc16_16 : decode jdk_68_method_22_code 16 = .ok (.getfield 79, 3) := by decide +kernel
theorem dc16_19 : decode jdk_68_method_22_code 19 = .ok (.iload_n 2, 1) := by decide +kernel
theorem dc16_20 : decode jdk_68_method_22_code 20 = .ok (.iadd, 1) := by decide +kernel
theorem dc16_21 : decode jdk_68_method_22_code 21 = .ok (.invokevirtual 100, 3) := by decide +kernel
theorem dc16_24 : decode jdk_68_method_22_code 24 = .ok (.aload_n 0, 1) := by decide +kernel
theorem dc16_25 : decode jdk_68_method_22_code 25 = .ok (.aload_n 0, 1) := by decide +kernel
theorem dc16_26 : decode jdk_68_method_22_code 26 = .ok (.getfield 79, 3) := by decide +kernel
theorem dc16_29 : decode jdk_68_method_22_code 29 = .ok (.aload_n 1, 1) := by decide +kernel
theorem dc16_30 : decode jdk_68_method_22_code 30 = .ok (.invokevirtual 208, 3) := by decide +kernel
theorem pd_9 : parseMethodDescriptor "(ILjava/lang/String;)V" = some ⟨[.int, (.object "java/lang/String")], none⟩ := by decide +kernel
theorem dc16_33 : decode jdk_68_method_22_code 33 = .ok (.aload_n 0, 1) := by decide +kernel
theorem dc16_34 : decode jdk_68_method_22_code 34 = .ok (.dup, 1) := by decide +kernel
theorem dc16_35 : decode jdk_68_method_22_code 35 = .ok (.getfield 79, 3) := by decide +kernel
theorem dc16_38 : decode jdk_68_method_22_code 38 = .ok (.iload_n 2, 1) := by decide +kernel
theorem dc16_39 : decode jdk_68_method_22_code 39 = .ok (.iadd, 1) := by decide +kernel
theorem dc16_40 : decode jdk_68_method_22_code 40 = .ok (.putfield 79, 3) := by decide +kernel
theorem dc16_43 : decode jdk_68_method_22_code 43 = .ok (.aload_n 0, 1) := by decide +kernel
theorem dc16_44 : decode jdk_68_method_22_code 44 = .ok (.areturn, 1) := by decide +kernel
theorem ef_rmAS (mi : MethodId) (o : Addr) (s : Addr) (d : Addr) (kd : ClassId) (c : Int32) (us : List Value) (cnt : Int32) (b : Addr) (kb : ClassId) (E : List Int32) (cz : Int32) : entryFrame mi #[(.ref o), (.ref s)] 3 = mkF mi 0 #[.val (.ref o), .val (.ref s), .unset] [] := by first | (simp [entryFrame, mkF, argsToLocals, Value.category]; done) | rfl
def Q_rmAS (Z : State) (o : Addr) (s : Addr) (d : Addr) (kd : ClassId) (c : Int32) (us : List Value) (cnt : Int32) (b : Addr) (kb : ClassId) (E : List Int32) (cz : Int32) (h0 : Heap) (n0 : Nat) (vv_ : Option Value) (hh_ : Heap) (LL_ : List Loc) : Prop := vv_ = some (.ref o) ∧ Fr n0 LL_ ∧ Keep h0 hh_ [o, d] ∧ Exa Z hh_ o "java/lang/StringBuilder" ∧ Fld Z hh_ o "java/lang/AbstractStringBuilder" "value" "[B" (.ref d) ∧ Fld Z hh_ o "java/lang/AbstractStringBuilder" "coder" "B" (.int (0 : Int32)) ∧ Fld Z hh_ o "java/lang/AbstractStringBuilder" "count" "I" (.int cnt) ∧ Arv Z hh_ d kd .byte c us (.int (0 : Int32)) ∧ Exa Z hh_ d "[B"
set_option maxRecDepth 65536 in
set_option maxHeartbeats 40000000 in
theorem rmAS (l : Launch) (Z : State) (a0 : Array Value) (hw : ∀ d ∈ tables_1, d.before a0 Z = true) (ws : List Jvm.Cond) (o : Addr) (s : Addr) (d : Addr) (kd : ClassId) (c : Int32) (us : List Value) (cnt : Int32) (b : Addr) (kb : ClassId) (E : List Int32) (cz : Int32) (h0 : Heap) (n0 : Nat) (Z0 : n0 ≤ h0.size) (BE : Exa Z h0 o "java/lang/StringBuilder") (BV : Fld Z h0 o "java/lang/AbstractStringBuilder" "value" "[B" (.ref d)) (BC : Fld Z h0 o "java/lang/AbstractStringBuilder" "coder" "B" (.int (0 : Int32))) (BN : Fld Z h0 o "java/lang/AbstractStringBuilder" "count" "I" (.int cnt)) (BA : Arv Z h0 d kd .byte c us (.int (0 : Int32))) (BB : Exa Z h0 d "[B") (SE : Exa Z h0 s "java/lang/String") (SCo : Fld Z h0 s "java/lang/String" "coder" "B" (.int (0 : Int32))) (SVa : Fld Z h0 s "java/lang/String" "value" "[B" (.ref b)) (SAr : Arv Z h0 b kb .byte (0 : Int32) (E.map Value.int) (.int (0 : Int32))) (SEb : Exa Z h0 b "[B") (hd0 : ¬ cnt < 0) (hdc : cnt.toNatClampNeg ≤ c.toNatClampNeg) (hdu : cnt.toNatClampNeg ≤ us.length) (g_d : n0 ≤ d) (n_bd : b ≠ d) (n_od : o ≠ d) (n_sd : s ≠ d) (n_so : s ≠ o) (n_bo : b ≠ o) (g_o : n0 ≤ o) (hc0 : ¬ c < 0) (SC : Sta Z h0 "java/lang/String" "COMPACT_STRINGS" "Z" (.int cz)) (hcz : ¬ (cz = (0 : Int32))) :
    MetFree l (⟨"java/lang/AbstractStringBuilder", "append", "(Ljava/lang/String;)Ljava/lang/AbstractStringBuilder;"⟩ : MethodName) (head1 (Jvm.Cond.code (⟨"java/lang/AbstractStringBuilder", "append", "(Ljava/lang/String;)Ljava/lang/AbstractStringBuilder;"⟩ : MethodName) jdk_68_method_22_code 3 (some (.object "java/lang/AbstractStringBuilder")) :: ws) ({ frames := 3, cells := 0, slots := 0, locals := 47 } : Room)) (fun aa_ U => aa_ = #[(.ref o), (.ref s)] ∧ Z.Warmed39 U.vm ∧ U.heap = h0) (fun _ _ _ _ _ => True) (fun _ U oo_ UV_ => ∃ vv_ LL_, oo_ = .returned vv_ ∧ Q_rmAS Z o s d kd c us cnt b kb E cz h0 n0 vv_ UV_.heap LL_ ∧ FrameEnd U oo_ UV_ LL_ ({ frames := 3, cells := 0, slots := 0, locals := 47 } : Room).cells ({ frames := 3, cells := 0, slots := 0, locals := 47 } : Room).slots) := by
  refine MetFree.of_bodySF (plainFor_of_name pn_4) hisR ?_
  intro pg ev si mi args below meth ci s₁ Bd hml0 hP0 hK
  obtain ⟨rfl, hZ, hh⟩ := hP0
  have hx := Bd.exec
  have hby := Bd.bytes
  have hml : ci.maxLocals = 3 := hml0
  have hown : si.vm.findClass "java/lang/AbstractStringBuilder" = some mi.cls := findClass_of_methodNamed Bd.named
  have hnm := (name_of_methodNamed Bd.named Bd.method).1
  have X0 : Stand pg l ev ({ frames := 3, cells := 0, slots := 0, locals := 47 } : Room) si mi #[(.ref o), (.ref s)] below meth ci s₁ [] 0 0 := Stand.of_body Bd
  have e0 : s₁.heap = h0 := by rw [← hh, Bd.state]; rfl
  have N0 := Fr.nil n0
  refine Go.start (fun P hP => ?_)
  refine Go.st (fun t_ k_ => castTop (ef_rmAS mi o s d kd c us cnt b kb E cz) k_) (A := s₁.setTop (mkF mi 0 #[.val (.ref o), .val (.ref s), .unset] [])) ?_
  show Go _ _ _ (s₁.setTop (mkF mi 0 #[.val (.ref o), .val (.ref s), .unset] [])) _
  refine g_aloadN X0 hx hby dc16_0 rfl rfl ?_
  refine Go.st (fun t_ k_ => XS.ifnonnullYes X0.here hx rfl (pc0 := 1) (pc' := 9) rfl (hb hby dc16_1) rfl (by decide) (by decide) k_) ?_
  refine g_aloadN X0 hx hby dc16_9 rfl rfl ?_
  obtain ⟨cq1, kq1, q1a, q1b, q1c⟩ := isOf hZ e0 SE
  obtain ⟨_, _, ⟨T1, L1, k1, n1⟩, -, X1, ⟨Lc1, hQ1, l1, y1, z1⟩, st1⟩ := X0.virtualBack hx (y := (⟨"java/lang/String", "length", "()I"⟩ : MethodName)) (z := (⟨"java/lang/String", "length", "()I"⟩ : MethodName)) hown (mvT hZ (hw _ (own_m 103 rfl))) (mvT hZ (hw _ (own_m 65 rfl))) (notFace_of_selects (args := #[]) (mvT hZ (hw _ (own_m 67 rfl)))) (mvT hZ (hw _ (own_m 67 rfl))) (mvT hZ (hw _ (own_m 66 rfl))) (by decide) (backOf (W := 0) (rmLn l Z a0 hw [] s b kb (0 : Int32) E cz h0 n0 Z0 SE SCo SVa SAr SEb SC hcz) hZ (hw _ (own_m 68 rfl)) (hw _ (own_m 7 rfl)) (by decide) (by decide)) q1a q1c (g := (mkF mi 10 #[.val (.ref o), .val (.ref s), .unset] [(.ref s)])) rfl (by rw [hml]; rfl) (Steps.refl _) (argsL := []) (rest := []) (lenOf pd_8 rfl) rfl (by show 2 * 0 + _ ≤ _; exact Nat.le_of_eq rfl) (hb hby dc16_10) (fun _ _ => ⟨rfl, e0, (by decide : 0 + 0 ≤ _), (by decide : 0 + 0 ≤ _)⟩)
  dsimp only [Pt.U, Pt.locs, Pt.cells, Pt.slots] at X1 l1 y1 z1 st1 hQ1
  subst y1 z1
  have X1 := own_cs X1 (cells' := 0) (slots' := 0) rfl rfl
  obtain ⟨rfl, N1q, e1⟩ := hQ1
  have N1 := own_fr l1 (Fr.app N0 N1q)
  refine Go.tr st1 ?_
  refine g_istoreN X1 hx hby dc16_13 (l' := #[.val (.ref o), .val (.ref s), .val (.int 0)]) rfl ?_
  refine g_aloadN X1 hx hby dc16_14 rfl rfl ?_
  refine g_aloadN X1 hx hby dc16_15 rfl rfl ?_
  obtain ⟨T2, X2, e2, st2⟩ := getF X1 hx hZ hown (host := "") (Or.inl (hw _ (own_m 104 rfl))) Via.refl e1 BN (g := (mkF mi 16 #[.val (.ref o), .val (.ref s), .val (.int 0)] [(.ref o), (.ref o)])) rfl rfl (hb hby dc16_16)
  refine Go.st st2 ?_
  refine g_iloadN X2 hx hby dc16_19 rfl ?_
  refine g_iadd X2 hx hby dc16_20 rfl ?_
  obtain ⟨cq3, q3, q3'⟩ := BE.cell
  obtain ⟨_, _, ⟨T3, L3, k3, n3⟩, -, X3, ⟨Lc3, hQ3, l3, y3, z3⟩, st3⟩ := X2.privateBack hx (y := (⟨"java/lang/AbstractStringBuilder", "ensureCapacityInternal", "(I)V"⟩ : MethodName)) hown (mvT hZ (hw _ (own_m 106 rfl))) (mvT hZ (hw _ (own_m 107 rfl))) (mvT hZ (own_selB (hw _ (own_m 109 rfl)) (hw _ (own_m 108 rfl)) (hw _ (own_m 107 rfl)))) (Cond.privateMethod_at (mvP hZ (hw _ (own_m 108 rfl)) (args := #[]))) (mvT hZ (hw _ (own_m 110 rfl))) (by decide) (backOf (W := 0) (rmEC l Z a0 hw [] o (cnt + (0 : Int32)) d kd c us cnt h0 n0 Z0 BE BV BC BN BA BB (own_hle hd0 hc0 hdc)) hZ (hw _ (own_m 110 rfl)) (hw _ (own_m 85 rfl)) (by decide) (by decide)) (g := (mkF mi 21 #[.val (.ref o), .val (.ref s), .val (.int 0)] [(.int (cnt + (0 : Int32))), (.ref o)])) rfl (by rw [hml]; rfl) (Steps.refl _) (a := o) (by rw [e2]; exact q3) q3' (argsL := [(.int (cnt + (0 : Int32)))]) (rest := []) (lenOf pd_5 rfl) rfl (by show 2 * 0 + _ ≤ _; exact Nat.le_of_eq rfl) (hb hby dc16_21) (fun _ _ => ⟨rfl, e2, (by decide : 0 + 0 ≤ _), (by decide : 0 + 0 ≤ _)⟩)
  dsimp only [Pt.U, Pt.locs, Pt.cells, Pt.slots] at X3 l3 y3 z3 st3 hQ3
  subst y3 z3
  have X3 := own_cs X3 (cells' := 0) (slots' := 0) rfl rfl
  obtain ⟨rfl, N3q, e3⟩ := hQ3
  have N3 := own_fr l3 (Fr.app N1 N3q)
  refine Go.tr st3 ?_
  refine g_aloadN X3 hx hby dc16_24 rfl rfl ?_
  refine g_aloadN X3 hx hby dc16_25 rfl rfl ?_
  obtain ⟨T4, X4, e4, st4⟩ := getF X3 hx hZ hown (host := "") (Or.inl (hw _ (own_m 104 rfl))) Via.refl e3 BN (g := (mkF mi 26 #[.val (.ref o), .val (.ref s), .val (.int 0)] [(.ref o), (.ref o)])) rfl rfl (hb hby dc16_26)
  refine Go.st st4 ?_
  refine g_aloadN X4 hx hby dc16_29 rfl rfl ?_
  obtain ⟨cq5, q5, q5'⟩ := BE.cell
  obtain ⟨_, _, ⟨T5, L5, k5, n5⟩, -, X5, ⟨Lc5, hQ5, l5, y5, z5⟩, st5⟩ := X4.privateBack hx (y := (⟨"java/lang/AbstractStringBuilder", "putStringAt", "(ILjava/lang/String;)V"⟩ : MethodName)) hown (mvT hZ (hw _ (own_m 111 rfl))) (mvT hZ (hw _ (own_m 112 rfl))) (mvT hZ (own_selB (hw _ (own_m 114 rfl)) (hw _ (own_m 113 rfl)) (hw _ (own_m 112 rfl)))) (Cond.privateMethod_at (mvP hZ (hw _ (own_m 113 rfl)) (args := #[]))) (mvT hZ (hw _ (own_m 115 rfl))) (by decide) (backOf (W := 0) (rmPS l Z a0 hw [] o cnt s d kd c us b kb E cz h0 n0 Z0 BE BV BC BN BA BB SE SCo SVa SAr SEb hd0 hdc hdu g_d n_bd n_od n_sd SC hcz) hZ (hw _ (own_m 115 rfl)) (hw _ (own_m 85 rfl)) (by decide) (by decide)) (g := (mkF mi 30 #[.val (.ref o), .val (.ref s), .val (.int 0)] [(.ref s), (.int cnt), (.ref o)])) rfl (by rw [hml]; rfl) (Steps.refl _) (a := o) (by rw [e4]; exact q5) q5' (argsL := [(.int cnt), (.ref s)]) (rest := []) (lenOf pd_9 rfl) rfl (by show 2 * 0 + _ ≤ _; exact Nat.le_of_eq rfl) (hb hby dc16_30) (fun _ _ => ⟨rfl, e4, (by decide : 0 + 0 ≤ _), (by decide : 0 + 0 ≤ _)⟩)
  dsimp only [Pt.U, Pt.locs, Pt.cells, Pt.slots] at X5 l5 y5 z5 st5 hQ5
  subst y5 z5
  have X5 := own_cs X5 (cells' := 0) (slots' := 0) rfl rfl
  obtain ⟨h5, e5⟩ : ∃ z, T5.heap = z := ⟨_, rfl⟩
  rw [e5] at hQ5
  obtain ⟨rfl, N5q, K5, VD5⟩ := hQ5
  have N5 := own_fr l5 (Fr.app N3 N5q)
  have Zs6 : n0 ≤ h5.size := Nat.le_trans Z0 K5.1
  have KC6 : Keep h0 h5 [o, d] := (Keep.refl h0 [o, d]).trans K5 (allS (P := fun x => x ∈ [o, d] ∨ h0.size ≤ x) (Or.inl (List.mem_of_getElem? (i := 1) rfl)) all0)
  refine Go.tr st5 ?_
  refine g_aloadN X5 hx hby dc16_33 rfl rfl ?_
  refine g_dup X5 hx hby dc16_34 rfl ?_
  have f7 := (BN.keep K5 (ninS n_od nin0))
  obtain ⟨T8, X8, e8, st8⟩ := getF X5 hx hZ hown (host := "") (Or.inl (hw _ (own_m 104 rfl))) Via.refl e5 f7 (g := (mkF mi 35 #[.val (.ref o), .val (.ref s), .val (.int 0)] [(.ref o), (.ref o)])) rfl rfl (hb hby dc16_35)
  refine Go.st st8 ?_
  refine g_iloadN X8 hx hby dc16_38 rfl ?_
  refine g_iadd X8 hx hby dc16_39 rfl ?_
  show Go _ _ _ (T8.setTop (mkF mi 40 #[.val (.ref o), .val (.ref s), .val (.int 0)] [(.int (cnt + (0 : Int32))), (.ref o)])) _
  rw [Int32.add_zero]
  show Go _ _ _ (T8.setTop (mkF mi 40 #[.val (.ref o), .val (.ref s), .val (.int 0)] [(.int cnt), (.ref o)])) _
  have f9 := (BE.keep K5)
  obtain ⟨T10, h10, X10, e10, W10, st10⟩ := putF X8 hx hZ hown (host := "") (Or.inl (hw _ (own_m 104 rfl))) Via.refl e8 f7 f9 (Or.inl (hw _ (own_m 105 rfl))) (hw _ (own_m 62 rfl)) (ty := .int) (by decide) rfl rfl (g := (mkF mi 40 #[.val (.ref o), .val (.ref s), .val (.int 0)] [(.int cnt), (.ref o)])) rfl rfl (hb hby dc16_40)
  have Zs11 : n0 ≤ h10.size := Nat.le_trans Zs6 (Keep.of_wr W10).1
  have KC11 : Keep h0 h10 [o, d] := KC6.wr W10 (Or.inl (List.mem_of_getElem? (i := 0) rfl))
  have N11 := Fr.snoc X10 N5 g_o
  have F10 : Fld Z h10 o "java/lang/AbstractStringBuilder" "count" "I" (.int cnt) := f7.same W10
  refine Go.st st10 ?_
  refine g_aloadN X10 hx hby dc16_43 rfl rfl ?_
  obtain ⟨fs, hr, hrun, hended, hW, hsame⟩ := X10.leave (v := some (.ref o)) (fun h => by rw [Bd.returns] at h; cases h) (BodyLoose.notSynchronized Bd)
  have f12 := (f9.wr W10)
  have f13 := ((BV.keep K5 (ninS n_od nin0)).other W10 (Or.inr (slot_ne (Or.inl (hw _ (own_m 90 rfl))) (Or.inl (hw _ (own_m 105 rfl))) (by decide) (t := (.array .byte)) (t' := .int) (by decide) (by decide))))
  have f14 := ((BC.keep K5 (ninS n_od nin0)).other W10 (Or.inr (slot_ne (Or.inl (hw _ (own_m 92 rfl))) (Or.inl (hw _ (own_m 105 rfl))) (by decide) (t := .byte) (t' := .int) (by decide) (by decide))))
  have f15 := (VD5.other W10 (Ne.symm n_od))
  have f16 := ((BB.keep K5).wr W10)
  refine ⟨_, _, ?_, hP _ _ ⟨hrun, hended, _, _, rfl, ?_, ⟨_, rfl⟩, hW, hsame.mono (by decide) (by decide)⟩⟩
  · exact retOut X10 hx Bd.returns rfl (Or.inr (Or.inr (Or.inr (Or.inr ⟨rfl, rfl, rfl⟩)))) (hb hby dc16_44) hr
  · show (some (.ref o) : Option Value) = some (.ref o) ∧ Fr n0 _ ∧ Keep h0 T10.heap [o, d] ∧ Exa Z T10.heap o "java/lang/StringBuilder" ∧ Fld Z T10.heap o "java/lang/AbstractStringBuilder" "value" "[B" (.ref d) ∧ Fld Z T10.heap o "java/lang/AbstractStringBuilder" "coder" "B" (.int (0 : Int32)) ∧ Fld Z T10.heap o "java/lang/AbstractStringBuilder" "count" "I" (.int cnt) ∧ Arv Z T10.heap d kd .byte c us (.int (0 : Int32)) ∧ Exa Z T10.heap d "[B"
    rw [e10]
    exact ⟨rfl, N11, KC11, f12, f13, f14, F10, f15, f16⟩
theorem dc17_0 : decode jdk_67_method_7_code 0 = .ok (.aload_n 0, 1) := by decide +kernel
theorem dc17_1 : decode jdk_67_method_7_code 1 = .ok (.aload_n 1, 1) := by decide +kernel
theorem dc17_2 : decode jdk_67_method_7_code 2 = .ok (.invokespecial 29, 3) := by decide +kernel
theorem pd_10 : parseMethodDescriptor "(Ljava/lang/String;)Ljava/lang/AbstractStringBuilder;" = some ⟨[(.object "java/lang/String")], some (.object "java/lang/AbstractStringBuilder")⟩ := by decide +kernel
theorem dc17_5 : decode jdk_67_method_7_code 5 = .ok (.pop, 1) := by decide +kernel
theorem dc17_6 : decode jdk_67_method_7_code 6 = .ok (.aload_n 0, 1) := by decide +kernel
theorem dc17_7 : decode jdk_67_method_7_code 7 = .ok (.areturn, 1) := by decide +kernel
theorem ef_rmSA (mi : MethodId) (o : Addr) (s : Addr) (d : Addr) (kd : ClassId) (c : Int32) (us : List Value) (cnt : Int32) (b : Addr) (kb : ClassId) (E : List Int32) (cz : Int32) : entryFrame mi #[(.ref o), (.ref s)] 2 = mkF mi 0 #[.val (.ref o), .val (.ref s)] [] := by first | (simp [entryFrame, mkF, argsToLocals, Value.category]; done) | rfl
def Q_rmSA (Z : State) (o : Addr) (s : Addr) (d : Addr) (kd : ClassId) (c : Int32) (us : List Value) (cnt : Int32) (b : Addr) (kb : ClassId) (E : List Int32) (cz : Int32) (h0 : Heap) (n0 : Nat) (vv_ : Option Value) (hh_ : Heap) (LL_ : List Loc) : Prop := vv_ = some (.ref o) ∧ Fr n0 LL_ ∧ Keep h0 hh_ [o, d] ∧ Exa Z hh_ o "java/lang/StringBuilder" ∧ Fld Z hh_ o "java/lang/AbstractStringBuilder" "value" "[B" (.ref d) ∧ Fld Z hh_ o "java/lang/AbstractStringBuilder" "coder" "B" (.int (0 : Int32)) ∧ Fld Z hh_ o "java/lang/AbstractStringBuilder" "count" "I" (.int cnt) ∧ Arv Z hh_ d kd .byte c us (.int (0 : Int32)) ∧ Exa Z hh_ d "[B"
set_option maxRecDepth 65536 in
set_option maxHeartbeats 40000000 in
theorem rmSA (l : Launch) (Z : State) (a0 : Array Value) (hw : ∀ d ∈ tables_1, d.before a0 Z = true) (ws : List Jvm.Cond) (o : Addr) (s : Addr) (d : Addr) (kd : ClassId) (c : Int32) (us : List Value) (cnt : Int32) (b : Addr) (kb : ClassId) (E : List Int32) (cz : Int32) (h0 : Heap) (n0 : Nat) (Z0 : n0 ≤ h0.size) (BE : Exa Z h0 o "java/lang/StringBuilder") (BV : Fld Z h0 o "java/lang/AbstractStringBuilder" "value" "[B" (.ref d)) (BC : Fld Z h0 o "java/lang/AbstractStringBuilder" "coder" "B" (.int (0 : Int32))) (BN : Fld Z h0 o "java/lang/AbstractStringBuilder" "count" "I" (.int cnt)) (BA : Arv Z h0 d kd .byte c us (.int (0 : Int32))) (BB : Exa Z h0 d "[B") (SE : Exa Z h0 s "java/lang/String") (SCo : Fld Z h0 s "java/lang/String" "coder" "B" (.int (0 : Int32))) (SVa : Fld Z h0 s "java/lang/String" "value" "[B" (.ref b)) (SAr : Arv Z h0 b kb .byte (0 : Int32) (E.map Value.int) (.int (0 : Int32))) (SEb : Exa Z h0 b "[B") (hd0 : ¬ cnt < 0) (hdc : cnt.toNatClampNeg ≤ c.toNatClampNeg) (hdu : cnt.toNatClampNeg ≤ us.length) (g_d : n0 ≤ d) (n_bd : b ≠ d) (n_od : o ≠ d) (n_sd : s ≠ d) (n_so : s ≠ o) (n_bo : b ≠ o) (g_o : n0 ≤ o) (hc0 : ¬ c < 0) (SC : Sta Z h0 "java/lang/String" "COMPACT_STRINGS" "Z" (.int cz)) (hcz : ¬ (cz = (0 : Int32))) :
    MetFree l (⟨"java/lang/StringBuilder", "append", "(Ljava/lang/String;)Ljava/lang/StringBuilder;"⟩ : MethodName) (head1 (Jvm.Cond.code (⟨"java/lang/StringBuilder", "append", "(Ljava/lang/String;)Ljava/lang/StringBuilder;"⟩ : MethodName) jdk_67_method_7_code 2 (some (.object "java/lang/StringBuilder")) :: ws) ({ frames := 4, cells := 0, slots := 0, locals := 61 } : Room)) (fun aa_ U => aa_ = #[(.ref o), (.ref s)] ∧ Z.Warmed39 U.vm ∧ U.heap = h0) (fun _ _ _ _ _ => True) (fun _ U oo_ UV_ => ∃ vv_ LL_, oo_ = .returned vv_ ∧ Q_rmSA Z o s d kd c us cnt b kb E cz h0 n0 vv_ UV_.heap LL_ ∧ FrameEnd U oo_ UV_ LL_ ({ frames := 4, cells := 0, slots := 0, locals := 61 } : Room).cells ({ frames := 4, cells := 0, slots := 0, locals := 61 } : Room).slots) := by
  refine MetFree.of_bodySF (plainFor_of_name pn_5) hisR ?_
  intro pg ev si mi args below meth ci s₁ Bd hml0 hP0 hK
  obtain ⟨rfl, hZ, hh⟩ := hP0
  have hx := Bd.exec
  have hby := Bd.bytes
  have hml : ci.maxLocals = 2 := hml0
  have hown : si.vm.findClass "java/lang/StringBuilder" = some mi.cls := findClass_of_methodNamed Bd.named
  have hnm := (name_of_methodNamed Bd.named Bd.method).1
  have X0 : Stand pg l ev ({ frames := 4, cells := 0, slots := 0, locals := 61 } : Room) si mi #[(.ref o), (.ref s)] below meth ci s₁ [] 0 0 := Stand.of_body Bd
  have e0 : s₁.heap = h0 := by rw [← hh, Bd.state]; rfl
  have N0 := Fr.nil n0
  refine Go.start (fun P hP => ?_)
  refine Go.st (fun t_ k_ => castTop (ef_rmSA mi o s d kd c us cnt b kb E cz) k_) (A := s₁.setTop (mkF mi 0 #[.val (.ref o), .val (.ref s)] [])) ?_
  show Go _ _ _ (s₁.setTop (mkF mi 0 #[.val (.ref o), .val (.ref s)] [])) _
  refine g_aloadN X0 hx hby dc17_0 rfl rfl ?_
  refine g_aloadN X0 hx hby dc17_1 rfl rfl ?_
  obtain ⟨_, _, ⟨T1, L1, k1, n1⟩, -, X1, ⟨Lc1, hQ1, l1, y1, z1⟩, st1⟩ := Jvm.RoadKit.superBack X0 hx hZ (y := (⟨"java/lang/AbstractStringBuilder", "append", "(Ljava/lang/String;)Ljava/lang/AbstractStringBuilder;"⟩ : MethodName)) hown (hw _ (own_m 98 rfl)) (own_sameB (hw _ (own_m 99 rfl)) (hw _ (own_m 109 rfl)) rfl) (hw _ (own_m 99 rfl)) (hw _ (own_m 100 rfl)) (by decide) (backOf (W := 0) (rmAS l Z a0 hw [] o s d kd c us cnt b kb E cz h0 n0 Z0 BE BV BC BN BA BB SE SCo SVa SAr SEb hd0 hdc hdu g_d n_bd n_od n_sd n_so n_bo g_o hc0 SC hcz) hZ (hw _ (own_m 102 rfl)) (hw _ (own_m 85 rfl)) (by decide) (by decide)) e0 (Ins.self BE) (g := (mkF mi 2 #[.val (.ref o), .val (.ref s)] [(.ref s), (.ref o)])) rfl (by rw [hml]; rfl) (hw _ (own_m 102 rfl)) (argsL := [(.ref s)]) (rest := []) (lenOf pd_10 rfl) rfl (by show 2 * 0 + _ ≤ _; exact Nat.le_of_eq rfl) (hb hby dc17_2) (fun _ _ => ⟨rfl, e0, (by decide : 0 + 0 ≤ _), (by decide : 0 + 0 ≤ _)⟩)
  dsimp only [Pt.U, Pt.locs, Pt.cells, Pt.slots] at X1 l1 y1 z1 st1 hQ1
  subst y1 z1
  have X1 := own_cs X1 (cells' := 0) (slots' := 0) rfl rfl
  obtain ⟨h1, e1⟩ : ∃ z, T1.heap = z := ⟨_, rfl⟩
  rw [e1] at hQ1
  obtain ⟨rfl, N1q, K1, BE1, BV1, BC1, BN1, BA1, BB1⟩ := hQ1
  have N1 := own_fr l1 (Fr.app N0 N1q)
  have Zs2 : n0 ≤ h1.size := Nat.le_trans Z0 K1.1
  have KC2 : Keep h0 h1 [o, d] := (Keep.refl h0 [o, d]).trans K1 (allS (P := fun x => x ∈ [o, d] ∨ h0.size ≤ x) (Or.inl (List.mem_of_getElem? (i := 0) rfl)) (allS (P := fun x => x ∈ [o, d] ∨ h0.size ≤ x) (Or.inl (List.mem_of_getElem? (i := 1) rfl)) all0))
  refine Go.tr st1 ?_
  refine Go.s (XS.pop X1.here hx rfl (hb hby dc17_5) rfl rfl) ?_
  refine g_aloadN X1 hx hby dc17_6 rfl rfl ?_
  obtain ⟨fs, hr, hrun, hended, hW, hsame⟩ := X1.leave (v := some (.ref o)) (fun h => by rw [Bd.returns] at h; cases h) (BodyLoose.notSynchronized Bd)
  refine ⟨_, _, ?_, hP _ _ ⟨hrun, hended, _, _, rfl, ?_, ⟨_, rfl⟩, hW, hsame.mono (by decide) (by decide)⟩⟩
  · exact retOut X1 hx Bd.returns rfl (Or.inr (Or.inr (Or.inr (Or.inr ⟨rfl, rfl, rfl⟩)))) (hb hby dc17_7) hr
  · show (some (.ref o) : Option Value) = some (.ref o) ∧ Fr n0 _ ∧ Keep h0 T1.heap [o, d] ∧ Exa Z T1.heap o "java/lang/StringBuilder" ∧ Fld Z T1.heap o "java/lang/AbstractStringBuilder" "value" "[B" (.ref d) ∧ Fld Z T1.heap o "java/lang/AbstractStringBuilder" "coder" "B" (.int (0 : Int32)) ∧ Fld Z T1.heap o "java/lang/AbstractStringBuilder" "count" "I" (.int cnt) ∧ Arv Z T1.heap d kd .byte c us (.int (0 : Int32)) ∧ Exa Z T1.heap d "[B"
    rw [e1]
    exact ⟨rfl, N1, KC2, BE1, BV1, BC1, BN1, BA1, BB1⟩
theorem dc18_0 : decode jdk_41_method_12_code 0 = .ok (.iload_n 0, 1) := by decide +kernel
theorem dc18_1 : decode jdk_41_method_12_code 1 = .ok (.ifCond .lt 13, 3) := by decide +kernel
theorem dc18_4 : decode jdk_41_method_12_code 4 = .ok (.iload_n 0, 1) := by decide +kernel
theorem dc18_5 : decode jdk_41_method_12_code 5 = .ok (.iload_n 1, 1) := by decide +kernel
theorem dc18_6 : decode jdk_41_method_12_code 6 = .ok (.if_icmp .gt 8, 3) := by decide +kernel
theorem dc18_9 : decode jdk_41_method_12_code 9 = .ok (.iload_n 1, 1) := by decide +kernel
theorem dc18_10 : decode jdk_41_method_12_code 10 = .ok (.iload_n 2, 1) := by decide +kernel
theorem dc18_11 : decode jdk_41_method_12_code 11 = .ok (.if_icmp .le 11, 3) := by decide +kernel
theorem dc18_22 : decode jdk_41_method_12_code 22 = .ok (.iload_n 0, 1) := by decide +kernel
theorem dc18_23 : decode jdk_41_method_12_code 23 = .ok (.ireturn, 1) := by decide +kernel
theorem ef_rmFT (mi : MethodId) (f : Int32) (t : Int32) (n : Int32) (fi : Value) (hr_fi : fi.isRef = true) : entryFrame mi #[(.int f), (.int t), (.int n), fi] 4 = mkF mi 0 #[.val (.int f), .val (.int t), .val (.int n), .val fi] [] := by rcases ref_cases hr_fi with rfl | ⟨_, rfl⟩ <;> first | (simp [entryFrame, mkF, argsToLocals, Value.category]; done) | rfl
def Q_rmFT (Z : State) (f : Int32) (t : Int32) (n : Int32) (fi : Value) (h0 : Heap) (n0 : Nat) (vv_ : Option Value) (hh_ : Heap) (LL_ : List Loc) : Prop := vv_ = some (.int f) ∧ Fr n0 LL_ ∧ hh_ = h0
set_option maxRecDepth 65536 in
set_option maxHeartbeats 40000000 in
theorem rmFT (l : Launch) (Z : State) (a0 : Array Value) (hw : ∀ d ∈ tables_1, d.before a0 Z = true) (ws : List Jvm.Cond) (f : Int32) (t : Int32) (n : Int32) (fi : Value) (h0 : Heap) (n0 : Nat) (Z0 : n0 ≤ h0.size) (hfi : fi.isRef = true) (f1 : ¬ (f < (0 : Int32))) (f2 : ¬ (t < f)) (f3 : ¬ (n < t)) :
    MetFree l (⟨"jdk/internal/util/Preconditions", "checkFromToIndex", "(IIILjava/util/function/BiFunction;)I"⟩ : MethodName) (head1 (Jvm.Cond.code (⟨"jdk/internal/util/Preconditions", "checkFromToIndex", "(IIILjava/util/function/BiFunction;)I"⟩ : MethodName) jdk_41_method_12_code 4 (some .int) :: ws) ({ frames := 0, cells := 0, slots := 0, locals := 0 } : Room)) (fun aa_ U => aa_ = #[(.int f), (.int t), (.int n), fi] ∧ Z.Warmed39 U.vm ∧ U.heap = h0) (fun _ _ _ _ _ => True) (fun _ U oo_ UV_ => ∃ vv_ LL_, oo_ = .returned vv_ ∧ Q_rmFT Z f t n fi h0 n0 vv_ UV_.heap LL_ ∧ FrameEnd U oo_ UV_ LL_ ({ frames := 0, cells := 0, slots := 0, locals := 0 } : Room).cells ({ frames := 0, cells := 0, slots := 0, locals := 0 } : Room).slots) := by
  refine MetFree.of_bodySF (plainFor_of_name pn_1) hisR ?_
  intro pg ev si mi args below meth ci s₁ Bd hml0 hP0 hK
  obtain ⟨rfl, hZ, hh⟩ := hP0
  have hx := Bd.exec
  have hby := Bd.bytes
  have hml : ci.maxLocals = 4 := hml0
  have hown : si.vm.findClass "jdk/internal/util/Preconditions" = some mi.cls := findClass_of_methodNamed Bd.named
  have hnm := (name_of_methodNamed Bd.named Bd.method).1
  have X0 : Stand pg l ev ({ frames := 0, cells := 0, slots := 0, locals := 0 } : Room) si mi #[(.int f), (.int t), (.int n), fi] below meth ci s₁ [] 0 0 := Stand.of_body Bd
  have e0 : s₁.heap = h0 := by rw [← hh, Bd.state]; rfl
  have N0 := Fr.nil n0
  refine Go.start (fun P hP => ?_)
  refine Go.st (fun t_ k_ => castTop (ef_rmFT mi f t n fi hfi) k_) (A := s₁.setTop (mkF mi 0 #[.val (.int f), .val (.int t), .val (.int n), .val fi] [])) ?_
  show Go _ _ _ (s₁.setTop (mkF mi 0 #[.val (.int f), .val (.int t), .val (.int n), .val fi] [])) _
  refine g_iloadN X0 hx hby dc18_0 rfl ?_
  refine g_ifNo X0 hx hby dc18_1 ((if0 _ _).trans (flt f1).1) ?_
  refine g_iloadN X0 hx hby dc18_4 rfl ?_
  refine g_iloadN X0 hx hby dc18_5 rfl ?_
  refine g_icmpNo X0 hx hby dc18_6 (flt f2).2.2.1 ?_
  refine g_iloadN X0 hx hby dc18_9 rfl ?_
  refine g_iloadN X0 hx hby dc18_10 rfl ?_
  refine g_icmpYes X0 hx hby dc18_11 (flt f3).2.2.2 (pc0 := 11) (pc' := 22) rfl (by decide) (by decide) ?_
  refine g_iloadN X0 hx hby dc18_22 rfl ?_
  obtain ⟨fs, hr, hrun, hended, hW, hsame⟩ := X0.leave (v := some (.int f)) (fun h => by rw [Bd.returns] at h; cases h) (BodyLoose.notSynchronized Bd)
  refine ⟨_, _, ?_, hP _ _ ⟨hrun, hended, _, _, rfl, ?_, ⟨_, rfl⟩, hW, hsame.mono (by decide) (by decide)⟩⟩
  · exact retI X0 hx Bd.returns (hb hby dc18_23) hr
  · show (some (.int f) : Option Value) = some (.int f) ∧ Fr n0 _ ∧ s₁.heap = h0
    rw [e0]
    exact ⟨rfl, N0, rfl⟩
theorem dc19_0 : decode jdk_68_method_68_code 0 = .ok (.getstatic 18, 3) := by decide +kernel
theorem dc19_3 : decode jdk_68_method_68_code 3 = .ok (.ifCond .eq 14, 3) := by decide +kernel
theorem dc19_6 : decode jdk_68_method_68_code 6 = .ok (.aload_n 0, 1) := by decide +kernel
theorem dc19_7 : decode jdk_68_method_68_code 7 = .ok (.getfield 22, 3) := by decide +kernel
theorem dc19_10 : decode jdk_68_method_68_code 10 = .ok (.ifCond .ne 7, 3) := by decide +kernel
theorem dc19_13 : decode jdk_68_method_68_code 13 = .ok (.iconst 1, 1) := by decide +kernel
theorem dc19_14 : decode jdk_68_method_68_code 14 = .ok (.goto 4, 3) := by decide +kernel
theorem dc19_18 : decode jdk_68_method_68_code 18 = .ok (.ireturn, 1) := by decide +kernel
theorem ef_rmB1 (mi : MethodId) (o : Addr) (cz : Int32) : entryFrame mi #[(.ref o)] 1 = mkF mi 0 #[.val (.ref o)] [] := by first | (simp [entryFrame, mkF, argsToLocals, Value.category]; done) | rfl
def Q_rmB1 (Z : State) (o : Addr) (cz : Int32) (h0 : Heap) (n0 : Nat) (vv_ : Option Value) (hh_ : Heap) (LL_ : List Loc) : Prop := vv_ = some (.int (1 : Int32)) ∧ Fr n0 LL_ ∧ hh_ = h0
set_option maxRecDepth 65536 in
set_option maxHeartbeats 40000000 in
theorem rmB1 (l : Launch) (Z : State) (a0 : Array Value) (hw : ∀ d ∈ tables_1, d.before a0 Z = true) (ws : List Jvm.Cond) (o : Addr) (cz : Int32) (h0 : Heap) (n0 : Nat) (Z0 : n0 ≤ h0.size) (BC : Fld Z h0 o "java/lang/AbstractStringBuilder" "coder" "B" (.int (0 : Int32))) (SC : Sta Z h0 "java/lang/String" "COMPACT_STRINGS" "Z" (.int cz)) (hcz : ¬ (cz = (0 : Int32))) :
    MetFree l (⟨"java/lang/AbstractStringBuilder", "isLatin1", "()Z"⟩ : MethodName) (head1 (Jvm.Cond.code (⟨"java/lang/AbstractStringBuilder", "isLatin1", "()Z"⟩ : MethodName) jdk_68_method_68_code 1 (some .boolean) :: ws) ({ frames := 0, cells := 0, slots := 0, locals := 0 } : Room)) (fun aa_ U => aa_ = #[(.ref o)] ∧ Z.Warmed39 U.vm ∧ U.heap = h0) (fun _ _ _ _ _ => True) (fun _ U oo_ UV_ => ∃ vv_ LL_, oo_ = .returned vv_ ∧ Q_rmB1 Z o cz h0 n0 vv_ UV_.heap LL_ ∧ FrameEnd U oo_ UV_ LL_ ({ frames := 0, cells := 0, slots := 0, locals := 0 } : Room).cells ({ frames := 0, cells := 0, slots := 0, locals := 0 } : Room).slots) := by
  refine MetFree.of_bodySF (plainFor_of_name pn_4) hisR ?_
  intro pg ev si mi args below meth ci s₁ Bd hml0 hP0 hK
  obtain ⟨rfl, hZ, hh⟩ := hP0
  have hx := Bd.exec
  have hby := Bd.bytes
  have hml : ci.maxLocals = 1 := hml0
  have hown : si.vm.findClass "java/lang/AbstractStringBuilder" = some mi.cls := findClass_of_methodNamed Bd.named
  have hnm := (name_of_methodNamed Bd.named Bd.method).1
  have X0 : Stand pg l ev ({ frames := 0, cells := 0, slots := 0, locals := 0 } : Room) si mi #[(.ref o)] below meth ci s₁ [] 0 0 := Stand.of_body Bd
  have e0 : s₁.heap = h0 := by rw [← hh, Bd.state]; rfl
  have N0 := Fr.nil n0
  refine Go.start (fun P hP => ?_)
  refine Go.st (fun t_ k_ => castTop (ef_rmB1 mi o cz) k_) (A := s₁.setTop (mkF mi 0 #[.val (.ref o)] [])) ?_
  show Go _ _ _ (s₁.setTop (mkF mi 0 #[.val (.ref o)] [])) _
  obtain ⟨T1, X1, e1, st1⟩ := getS2 X0 hx hZ hown (host := "") (Or.inl (hw _ (own_m 88 rfl))) Via.refl e0 SC (g := (mkF mi 0 #[.val (.ref o)] [])) rfl (hb hby dc19_0)
  refine Go.st st1 ?_
  refine g_ifNo X1 hx hby dc19_3 ((if0 _ _).trans (feq hcz).1) ?_
  refine g_aloadN X1 hx hby dc19_6 rfl rfl ?_
  obtain ⟨T2, X2, e2, st2⟩ := getF X1 hx hZ hown (host := "") (Or.inl (hw _ (own_m 91 rfl))) Via.refl e1 BC (g := (mkF mi 7 #[.val (.ref o)] [(.ref o)])) rfl rfl (hb hby dc19_7)
  refine Go.st st2 ?_
  refine g_ifNo X2 hx hby dc19_10 ((if0 _ _).trans (teq rfl).2) ?_
  refine g_iconst X2 hx hby dc19_13 (v := 1) rfl ?_
  refine g_goto X2 hx hby dc19_14 (pc0 := 14) (pc' := 18) rfl (by decide) (by decide) ?_
  obtain ⟨fs, hr, hrun, hended, hW, hsame⟩ := X2.leave (v := some (.int 1)) (fun h => by rw [Bd.returns] at h; cases h) (BodyLoose.notSynchronized Bd)
  refine ⟨_, _, ?_, hP _ _ ⟨hrun, hended, _, _, rfl, ?_, ⟨_, rfl⟩, hW, hsame.mono (by decide) (by decide)⟩⟩
  · exact retN X2 hx (t := .boolean) Bd.returns (by simp) (hb hby dc19_18) hr
  · show (some (.int 1) : Option Value) = some (.int (1 : Int32)) ∧ Fr n0 _ ∧ T2.heap = h0
    rw [e2]
    exact ⟨rfl, N0, rfl⟩
theorem own_bb (x : Int32) : (x.toInt8.toInt32).toInt8.toInt32 = x.toInt8.toInt32 := by
  have e1 := c_i2b x
  have e2 := c_i2b x.toInt8.toInt32
  apply Int32.toInt_inj.mp; omega
theorem own_255 {x : Int32} (h2 : x.toInt ≤ 255) : ¬ ((255 : Int32) < x) := by
  have l0 : (255 : Int32).toInt = 255 := rfl
  rw [Int32.lt_iff_toInt_lt]; omega
theorem own_can {x : Int32} (h : x.toInt ≤ 255) : fCan x = (1 : Int32) := if_neg (own_255 h)
theorem own_z0 : (0 : Int32).toInt = 0 := rfl
theorem own_nn {i : Int32} (h : ¬ i < 0) : i.toInt = i.toNatClampNeg := by
  rw [Int32.lt_iff_toInt_lt, own_z0] at h
  simp only [Int32.toNatClampNeg]; omega
theorem own_ofN {n : Nat} (h : n ≤ 100) : (Int32.ofNat n).toInt = n := Int32.toInt_ofNat_small (by omega)
theorem own_ofN0 {n : Nat} (h : n ≤ 100) : ¬ (Int32.ofNat n) < 0 := by rw [Int32.lt_iff_toInt_lt, own_z0, own_ofN h]; omega
theorem own_ofNn {n : Nat} (h : n ≤ 100) : (Int32.ofNat n).toNatClampNeg = n := by
  have e := own_ofN h
  simp only [Int32.toNatClampNeg]; omega
theorem own_ofS (n : Nat) : Int32.ofNat n + (1 : Int32) = Int32.ofNat (n + 1) := (Int32.ofNat_add n 1).symm
theorem own_snoc {Z : State} {h h' : Heap} {a : Addr} {k : ClassId} {ty : FieldType} {z j : Int32} {vs : List Value} {dv v : Value} {c : Cell} (A : Arr Z h a c ty) (q1 : c.cls = k) (S : c.slots.size = z.toNatClampNeg) (q3 : ¬ z < 0) (H : Has c vs dv) (G : ∀ i, i < c.slots.size → fits ty (vs.getD i dv) = true) (hv : fits ty v = true) (W : Wr h h' a j.toNatClampNeg v) (hj : j.toNatClampNeg = vs.length) : Arv Z h' a k ty z (vs ++ [v]) dv := by
  have e : ∀ i, (vs ++ [dv]).getD i dv = vs.getD i dv := fun i => by
    rw [List.getD_eq_getElem?_getD, List.getD_eq_getElem?_getD]
    by_cases q : i < vs.length
    · rw [List.getElem?_append_left q]
    · rw [List.getElem?_append_right (Nat.le_of_not_lt q), List.getElem?_eq_none (l := vs) (Nat.le_of_not_lt q)]
      cases hk : i - vs.length with
      | zero => simp
      | succ m => simp
  have r := Arv.set A q1 S q3 (vs := vs ++ [dv]) (fun i hi => by rw [e]; exact H i hi) (fun i hi => by rw [e]; exact G i hi) hv W vs.length hj (by simp)
  have e2 : (vs ++ [dv]).set vs.length v = vs ++ [v] := by rw [List.set_append_right _ _ (Nat.le_refl _)]; simp
  rw [e2] at r; exact r
theorem dc20_26 : decode jdk_68_method_74_code 26 = .ok (.iload 6, 2) := by decide +kernel
theorem dc20_28 : decode jdk_68_method_74_code 28 = .ok (.iload_n 3, 1) := by decide +kernel
theorem dc20_29 : decode jdk_68_method_74_code 29 = .ok (.if_icmp .ge 75, 3) := by decide +kernel
theorem dc20_32 : decode jdk_68_method_74_code 32 = .ok (.aload_n 1, 1) := by decide +kernel
theorem dc20_33 : decode jdk_68_method_74_code 33 = .ok (.iload 6, 2) := by decide +kernel
theorem dc20_35 : decode jdk_68_method_74_code 35 = .ok (.caload, 1) := by decide +kernel
theorem dc20_36 : decode jdk_68_method_74_code 36 = .ok (.istore 8, 2) := by decide +kernel
theorem dc20_38 : decode jdk_68_method_74_code 38 = .ok (.iload 8, 2) := by decide +kernel
theorem dc20_40 : decode jdk_68_method_74_code 40 = .ok (.invokestatic 191, 3) := by decide +kernel
theorem pd_11 : parseMethodDescriptor "(C)Z" = some ⟨[.char], some .boolean⟩ := by decide +kernel
theorem dc20_43 : decode jdk_68_method_74_code 43 = .ok (.ifCond .eq 17, 3) := by decide +kernel
theorem dc20_46 : decode jdk_68_method_74_code 46 = .ok (.aload 5, 2) := by decide +kernel
theorem dc20_48 : decode jdk_68_method_74_code 48 = .ok (.iload 7, 2) := by decide +kernel
theorem dc20_50 : decode jdk_68_method_74_code 50 = .ok (.iinc 7 1, 3) := by decide +kernel
theorem dc20_53 : decode jdk_68_method_74_code 53 = .ok (.iload 8, 2) := by decide +kernel
theorem dc20_55 : decode jdk_68_method_74_code 55 = .ok (.i2b, 1) := by decide +kernel
theorem dc20_56 : decode jdk_68_method_74_code 56 = .ok (.bastore, 1) := by decide +kernel
theorem dc20_57 : decode jdk_68_method_74_code 57 = .ok (.goto 41, 3) := by decide +kernel
theorem dc20_98 : decode jdk_68_method_74_code 98 = .ok (.iinc 6 1, 3) := by decide +kernel
theorem dc20_101 : decode jdk_68_method_74_code 101 = .ok (.goto (-75), 3) := by decide +kernel
set_option maxRecDepth 65536 in
set_option maxHeartbeats 40000000 in
theorem own_acu (l : Launch) (Z : State) (a0 : Array Value) (hw : ∀ d ∈ tables_1, d.before a0 Z = true) {pg : Program} {ev : Env} {si : State} {mi : MethodId} {args : Array Value} {below : List Frame} {meth : Method} {ci : Code} {s₁ : State} {locs : List Loc} (X0 : Stand pg l ev ({ frames := 2, cells := 0, slots := 0, locals := 60 } : Room) si mi args below meth ci s₁ locs 0 0) (hx : pg.tables.exec = Jvm.exec) (hby : ci.code = jdk_68_method_74_code) (hml : ci.maxLocals = 9) (hZ : Z.Warmed39 si.vm) (hown : si.vm.findClass "java/lang/AbstractStringBuilder" = some mi.cls) {P : State → Outcome → Prop} (o : Addr) (ca : Addr) (off : Int32) (en : Int32) (cnt : Int32) (d : Addr) (i : Int32) (j : Int32) (ch : Int32) (kc : ClassId) (vs : List Value) (kd : ClassId) (c : Int32) (us : List Value) (h0 : Heap) (n0 : Nat) (Z0 : n0 ≤ h0.size) (e0 : s₁.heap = h0) (N0 : Fr n0 locs) (CA : Arv Z h0 ca kc .char (19 : Int32) vs (.int (0 : Int32))) (DA : Arv Z h0 d kd .byte c us (.int (0 : Int32))) (hi0 : ¬ i < 0) (hi19 : i < (19 : Int32)) (hie : i < en) (hv : vs.getD i.toNatClampNeg (.int (0 : Int32)) = .int ch) (hch : ch.toInt ≤ 255) (hj0 : ¬ j < 0) (hjc : j < c) (hju : j.toNatClampNeg = us.length) (g_d : n0 ≤ d) (n_cd : ca ≠ d) (K : ∀ (T' : State) (locs' : List Loc) (h' : Heap), Stand pg l ev ({ frames := 2, cells := 0, slots := 0, locals := 60 } : Room) si mi args below meth ci T' locs' 0 0 → T'.heap = h' → Fr n0 locs' → Keep h0 h' [d] → Arv Z h' d kd .byte c (us ++ [.int (ch.toInt8.toInt32)]) (.int (0 : Int32)) → Go pg.tables ev below (T'.setTop (mkF mi 26 #[.val (.ref o), .val (.ref ca), .val (.int off), .val (.int en), .val (.int cnt), .val (.ref d), .val (.int (i + (1 : Int32))), .val (.int (j + (1 : Int32))), .val (.int ch)] [])) P) :
    Go pg.tables ev below (s₁.setTop (mkF mi 26 #[.val (.ref o), .val (.ref ca), .val (.int off), .val (.int en), .val (.int cnt), .val (.ref d), .val (.int i), .val (.int j), .unset] [])) P := by
  refine g_iload X0 hx hby dc20_26 rfl ?_
  refine g_iloadN X0 hx hby dc20_28 rfl ?_
  refine g_icmpNo X0 hx hby dc20_29 (tlt hie).2.1 ?_
  refine g_aloadN X0 hx hby dc20_32 rfl rfl ?_
  refine g_iload X0 hx hby dc20_33 rfl ?_
  have ov1 := CA
  obtain ⟨cl1, Ar1, q1, S1, M1, H1, G1⟩ := ov1
  have hin1 : ¬ (i < 0 ∨ cl1.slots.size ≤ (i).toNatClampNeg) := inb_of S1 ⟨hi0, hi19⟩
  have hat1 : cl1.slots[(i).toNatClampNeg]? = some (.int ch) := Has.at H1 hin1 hv
  refine Go.st (X0.caload hx (j := i) (v := (.int ch)) (by rw [e0]; exact Ar1.1) (State.isArrayOf_alike hZ.alike Ar1.2.1) Ar1.2.2 hin1 hat1 (g := (mkF mi 35 #[.val (.ref o), .val (.ref ca), .val (.int off), .val (.int en), .val (.int cnt), .val (.ref d), .val (.int i), .val (.int j), .unset] [(.int i), (.ref ca)])) rfl rfl (hb hby dc20_35)) ?_
  refine g_istore X0 hx hby dc20_36 (l' := #[.val (.ref o), .val (.ref ca), .val (.int off), .val (.int en), .val (.int cnt), .val (.ref d), .val (.int i), .val (.int j), .val (.int ch)]) rfl ?_
  refine g_iload X0 hx hby dc20_38 rfl ?_
  obtain ⟨_, _, ⟨T2, L2, k2, n2⟩, -, X2, ⟨Lc2, hQ2, l2, y2, z2⟩, st2⟩ := Jvm.LawKit.callS X0 hx (y := (⟨"java/lang/StringLatin1", "canEncode", "(C)Z"⟩ : MethodName)) hown (mvT hZ (hw _ (own_m 162 rfl))) (mvT hZ (hw _ (own_m 163 rfl))) (mvT hZ (hw _ (own_m 51 rfl))) (mvT hZ (hw _ (own_m 164 rfl))) (by decide) (backOf (W := 0) (rmCan l Z a0 hw [] ch h0 n0 Z0) hZ (hw _ (own_m 164 rfl)) (hw _ (own_m 51 rfl)) (by decide) (by decide)) (g := (mkF mi 40 #[.val (.ref o), .val (.ref ca), .val (.int off), .val (.int en), .val (.int cnt), .val (.ref d), .val (.int i), .val (.int j), .val (.int ch)] [(.int ch)])) rfl (by rw [hml]; rfl) (argsL := [(.int ch)]) (rest := []) (lenOf pd_11 rfl) rfl (by show 2 * 0 + _ ≤ _; exact Nat.le_of_eq rfl) (hb hby dc20_40) (fun _ _ => ⟨rfl, e0, (by decide : 0 + 0 ≤ _), (by decide : 0 + 0 ≤ _)⟩)
  dsimp only [Pt.U, Pt.locs, Pt.cells, Pt.slots] at X2 l2 y2 z2 st2 hQ2
  subst y2 z2
  have X2 := own_cs X2 (cells' := 0) (slots' := 0) rfl rfl
  obtain ⟨rfl, N2q, e2⟩ := hQ2
  have N2 := own_fr l2 (Fr.app N0 N2q)
  refine Go.st st2 ?_
  show Go _ _ _ (T2.setTop (mkF mi 43 #[.val (.ref o), .val (.ref ca), .val (.int off), .val (.int en), .val (.int cnt), .val (.ref d), .val (.int i), .val (.int j), .val (.int ch)] [(.int (fCan ch))])) _
  rw [own_can hch]
  show Go _ _ _ (T2.setTop (mkF mi 43 #[.val (.ref o), .val (.ref ca), .val (.int off), .val (.int en), .val (.int cnt), .val (.ref d), .val (.int i), .val (.int j), .val (.int ch)] [(.int 1)])) _
  refine g_ifNo X2 hx hby dc20_43 ((if0 _ _).trans (feq (by decide)).1) ?_
  refine g_aload X2 hx hby dc20_46 rfl rfl ?_
  refine g_iload X2 hx hby dc20_48 rfl ?_
  refine g_iinc X2 hx hby dc20_50 rfl rfl (l' := #[.val (.ref o), .val (.ref ca), .val (.int off), .val (.int en), .val (.int cnt), .val (.ref d), .val (.int i), .val (.int (j + (1 : Int32))), .val (.int ch)]) rfl ?_
  refine g_iload X2 hx hby dc20_53 rfl ?_
  refine g_i2b X2 hx hby dc20_55 rfl ?_
  have ov3 := DA
  obtain ⟨cl3, Ar3, q3, S3, M3, H3, G3⟩ := ov3
  have hin3 : ¬ (j < 0 ∨ cl3.slots.size ≤ (j).toNatClampNeg) := inb_of S3 ⟨hj0, hjc⟩
  obtain ⟨T4, h4, X4, e4, W4, st4⟩ := stB X2 hx hZ e2 Ar3 (j := j) hin3 (g := (mkF mi 56 #[.val (.ref o), .val (.ref ca), .val (.int off), .val (.int en), .val (.int cnt), .val (.ref d), .val (.int i), .val (.int (j + (1 : Int32))), .val (.int ch)] [(.int (ch.toInt8.toInt32)), (.int j), (.ref d)])) rfl rfl (hb hby dc20_56)
  have Zs5 : n0 ≤ h4.size := Nat.le_trans Z0 (Keep.of_wr W4).1
  have KC5 : Keep h0 h4 [d] := (Keep.refl h0 [d]).wr W4 (Or.inl (List.mem_of_getElem? (i := 0) rfl))
  have N5 := Fr.snoc X4 N2 g_d
  have V4 : Arv Z h4 d kd .byte c (us ++ [(.int ((ch.toInt8.toInt32).toInt8.toInt32))]) (.int (0 : Int32)) := own_snoc Ar3 q3 S3 M3 H3 G3 (fits_nar_byte _) W4 hju
  rw [own_bb] at V4
  refine Go.st st4 ?_
  refine g_goto X4 hx hby dc20_57 (pc0 := 57) (pc' := 98) rfl (by decide) (by decide) ?_
  refine g_iinc X4 hx hby dc20_98 rfl rfl (l' := #[.val (.ref o), .val (.ref ca), .val (.int off), .val (.int en), .val (.int cnt), .val (.ref d), .val (.int (i + (1 : Int32))), .val (.int (j + (1 : Int32))), .val (.int ch)]) rfl ?_
  refine g_goto X4 hx hby dc20_101 (pc0 := 101) (pc' := 26) rfl (by decide) (by decide) ?_
  show Go _ _ _ (T4.setTop (mkF mi 26 #[.val (.ref o), .val (.ref ca), .val (.int off), .val (.int en), .val (.int cnt), .val (.ref d), .val (.int (i + (1 : Int32))), .val (.int (j + (1 : Int32))), .val (.int ch)] [])) _
  exact K _ _ _ X4 e4 N5 KC5 V4
set_option maxRecDepth 65536 in
set_option maxHeartbeats 40000000 in
theorem own_acr (l : Launch) (Z : State) (a0 : Array Value) (hw : ∀ d ∈ tables_1, d.before a0 Z = true) {pg : Program} {ev : Env} {si : State} {mi : MethodId} {args : Array Value} {below : List Frame} {meth : Method} {ci : Code} {s₁ : State} {locs : List Loc} (X0 : Stand pg l ev ({ frames := 2, cells := 0, slots := 0, locals := 60 } : Room) si mi args below meth ci s₁ locs 0 0) (hx : pg.tables.exec = Jvm.exec) (hby : ci.code = jdk_68_method_74_code) (hml : ci.maxLocals = 9) (hZ : Z.Warmed39 si.vm) (hown : si.vm.findClass "java/lang/AbstractStringBuilder" = some mi.cls) {P : State → Outcome → Prop} (o : Addr) (ca : Addr) (off : Int32) (en : Int32) (cnt : Int32) (d : Addr) (i : Int32) (j : Int32) (ch : Int32) (kc : ClassId) (vs : List Value) (kd : ClassId) (c : Int32) (us : List Value) (u8 : Int32) (h0 : Heap) (n0 : Nat) (Z0 : n0 ≤ h0.size) (e0 : s₁.heap = h0) (N0 : Fr n0 locs) (CA : Arv Z h0 ca kc .char (19 : Int32) vs (.int (0 : Int32))) (DA : Arv Z h0 d kd .byte c us (.int (0 : Int32))) (hi0 : ¬ i < 0) (hi19 : i < (19 : Int32)) (hie : i < en) (hv : vs.getD i.toNatClampNeg (.int (0 : Int32)) = .int ch) (hch : ch.toInt ≤ 255) (hj0 : ¬ j < 0) (hjc : j < c) (hju : j.toNatClampNeg = us.length) (g_d : n0 ≤ d) (n_cd : ca ≠ d) (K : ∀ (T' : State) (locs' : List Loc) (h' : Heap), Stand pg l ev ({ frames := 2, cells := 0, slots := 0, locals := 60 } : Room) si mi args below meth ci T' locs' 0 0 → T'.heap = h' → Fr n0 locs' → Keep h0 h' [d] → Arv Z h' d kd .byte c (us ++ [.int (ch.toInt8.toInt32)]) (.int (0 : Int32)) → Go pg.tables ev below (T'.setTop (mkF mi 26 #[.val (.ref o), .val (.ref ca), .val (.int off), .val (.int en), .val (.int cnt), .val (.ref d), .val (.int (i + (1 : Int32))), .val (.int (j + (1 : Int32))), .val (.int ch)] [])) P) :
    Go pg.tables ev below (s₁.setTop (mkF mi 26 #[.val (.ref o), .val (.ref ca), .val (.int off), .val (.int en), .val (.int cnt), .val (.ref d), .val (.int i), .val (.int j), .val (.int u8)] [])) P := by
  refine g_iload X0 hx hby dc20_26 rfl ?_
  refine g_iloadN X0 hx hby dc20_28 rfl ?_
  refine g_icmpNo X0 hx hby dc20_29 (tlt hie).2.1 ?_
  refine g_aloadN X0 hx hby dc20_32 rfl rfl ?_
  refine g_iload X0 hx hby dc20_33 rfl ?_
  have ov1 := CA
  obtain ⟨cl1, Ar1, q1, S1, M1, H1, G1⟩ := ov1
  have hin1 : ¬ (i < 0 ∨ cl1.slots.size ≤ (i).toNatClampNeg) := inb_of S1 ⟨hi0, hi19⟩
  have hat1 : cl1.slots[(i).toNatClampNeg]? = some (.int ch) := Has.at H1 hin1 hv
  refine Go.st (X0.caload hx (j := i) (v := (.int ch)) (by rw [e0]; exact Ar1.1) (State.isArrayOf_alike hZ.alike Ar1.2.1) Ar1.2.2 hin1 hat1 (g := (mkF mi 35 #[.val (.ref o), .val (.ref ca), .val (.int off), .val (.int en), .val (.int cnt), .val (.ref d), .val (.int i), .val (.int j), .val (.int u8)] [(.int i), (.ref ca)])) rfl rfl (hb hby dc20_35)) ?_
  refine g_istore X0 hx hby dc20_36 (l' := #[.val (.ref o), .val (.ref ca), .val (.int off), .val (.int en), .val (.int cnt), .val (.ref d), .val (.int i), .val (.int j), .val (.int ch)]) rfl ?_
  refine g_iload X0 hx hby dc20_38 rfl ?_
  obtain ⟨_, _, ⟨T2, L2, k2, n2⟩, -, X2, ⟨Lc2, hQ2, l2, y2, z2⟩, st2⟩ := Jvm.LawKit.callS X0 hx (y := (⟨"java/lang/StringLatin1", "canEncode", "(C)Z"⟩ : MethodName)) hown (mvT hZ (hw _ (own_m 162 rfl))) (mvT hZ (hw _ (own_m 163 rfl))) (mvT hZ (hw _ (own_m 51 rfl))) (mvT hZ (hw _ (own_m 164 rfl))) (by decide) (backOf (W := 0) (rmCan l Z a0 hw [] ch h0 n0 Z0) hZ (hw _ (own_m 164 rfl)) (hw _ (own_m 51 rfl)) (by decide) (by decide)) (g := (mkF mi 40 #[.val (.ref o), .val (.ref ca), .val (.int off), .val (.int en), .val (.int cnt), .val (.ref d), .val (.int i), .val (.int j), .val (.int ch)] [(.int ch)])) rfl (by rw [hml]; rfl) (argsL := [(.int ch)]) (rest := []) (lenOf pd_11 rfl) rfl (by show 2 * 0 + _ ≤ _; exact Nat.le_of_eq rfl) (hb hby dc20_40) (fun _ _ => ⟨rfl, e0, (by decide : 0 + 0 ≤ _), (by decide : 0 + 0 ≤ _)⟩)
  dsimp only [Pt.U, Pt.locs, Pt.cells, Pt.slots] at X2 l2 y2 z2 st2 hQ2
  subst y2 z2
  have X2 := own_cs X2 (cells' := 0) (slots' := 0) rfl rfl
  obtain ⟨rfl, N2q, e2⟩ := hQ2
  have N2 := own_fr l2 (Fr.app N0 N2q)
  refine Go.st st2 ?_
  show Go _ _ _ (T2.setTop (mkF mi 43 #[.val (.ref o), .val (.ref ca), .val (.int off), .val (.int en), .val (.int cnt), .val (.ref d), .val (.int i), .val (.int j), .val (.int ch)] [(.int (fCan ch))])) _
  rw [own_can hch]
  show Go _ _ _ (T2.setTop (mkF mi 43 #[.val (.ref o), .val (.ref ca), .val (.int off), .val (.int en), .val (.int cnt), .val (.ref d), .val (.int i), .val (.int j), .val (.int ch)] [(.int 1)])) _
  refine g_ifNo X2 hx hby dc20_43 ((if0 _ _).trans (feq (by decide)).1) ?_
  refine g_aload X2 hx hby dc20_46 rfl rfl ?_
  refine g_iload X2 hx hby dc20_48 rfl ?_
  refine g_iinc X2 hx hby dc20_50 rfl rfl (l' := #[.val (.ref o), .val (.ref ca), .val (.int off), .val (.int en), .val (.int cnt), .val (.ref d), .val (.int i), .val (.int (j + (1 : Int32))), .val (.int ch)]) rfl ?_
  refine g_iload X2 hx hby dc20_53 rfl ?_
  refine g_i2b X2 hx hby dc20_55 rfl ?_
  have ov3 := DA
  obtain ⟨cl3, Ar3, q3, S3, M3, H3, G3⟩ := ov3
  have hin3 : ¬ (j < 0 ∨ cl3.slots.size ≤ (j).toNatClampNeg) := inb_of S3 ⟨hj0, hjc⟩
  obtain ⟨T4, h4, X4, e4, W4, st4⟩ := stB X2 hx hZ e2 Ar3 (j := j) hin3 (g := (mkF mi 56 #[.val (.ref o), .val (.ref ca), .val (.int off), .val (.int en), .val (.int cnt), .val (.ref d), .val (.int i), .val (.int (j + (1 : Int32))), .val (.int ch)] [(.int (ch.toInt8.toInt32)), (.int j), (.ref d)])) rfl rfl (hb hby dc20_56)
  have Zs5 : n0 ≤ h4.size := Nat.le_trans Z0 (Keep.of_wr W4).1
  have KC5 : Keep h0 h4 [d] := (Keep.refl h0 [d]).wr W4 (Or.inl (List.mem_of_getElem? (i := 0) rfl))
  have N5 := Fr.snoc X4 N2 g_d
  have V4 : Arv Z h4 d kd .byte c (us ++ [(.int ((ch.toInt8.toInt32).toInt8.toInt32))]) (.int (0 : Int32)) := own_snoc Ar3 q3 S3 M3 H3 G3 (fits_nar_byte _) W4 hju
  rw [own_bb] at V4
  refine Go.st st4 ?_
  refine g_goto X4 hx hby dc20_57 (pc0 := 57) (pc' := 98) rfl (by decide) (by decide) ?_
  refine g_iinc X4 hx hby dc20_98 rfl rfl (l' := #[.val (.ref o), .val (.ref ca), .val (.int off), .val (.int en), .val (.int cnt), .val (.ref d), .val (.int (i + (1 : Int32))), .val (.int (j + (1 : Int32))), .val (.int ch)]) rfl ?_
  refine g_goto X4 hx hby dc20_101 (pc0 := 101) (pc' := 26) rfl (by decide) (by decide) ?_
  show Go _ _ _ (T4.setTop (mkF mi 26 #[.val (.ref o), .val (.ref ca), .val (.int off), .val (.int en), .val (.int cnt), .val (.ref d), .val (.int (i + (1 : Int32))), .val (.int (j + (1 : Int32))), .val (.int ch)] [])) _
  exact K _ _ _ X4 e4 N5 KC5 V4
theorem own_acL (l : Launch) (Z : State) (a0 : Array Value) (hw : ∀ d ∈ tables_1, d.before a0 Z = true) {pg : Program} {ev : Env} {si : State} {mi : MethodId} {args : Array Value} {below : List Frame} {meth : Method} {ci : Code} (hx : pg.tables.exec = Jvm.exec) (hby : ci.code = jdk_68_method_74_code) (hml : ci.maxLocals = 9) (hZ : Z.Warmed39 si.vm) (hown : si.vm.findClass "java/lang/AbstractStringBuilder" = some mi.cls) {P : State → Outcome → Prop} (o ca : Addr) (off en cnt : Int32) (d : Addr) (kc : ClassId) (vs : List Value) (kd : ClassId) (c : Int32) (Ch : List Int32) (n0 : Nat) (g_d : n0 ≤ d) (n_cd : ca ≠ d) (hoff : 0 ≤ off.toInt) (hoe : off.toInt + Ch.length = 19) (hen : en.toInt = 19) (hcl : c.toInt = Ch.length) (hsrc : ∀ t, t < Ch.length → vs.getD (off.toNatClampNeg + t) (.int (0 : Int32)) = .int (Ch.getD t 0)) (hch : ∀ t, t < Ch.length → (Ch.getD t 0).toInt ≤ 255) :
    ∀ (r t : Nat) (s₁ : State) (locs : List Loc) (h0 : Heap) (s8 : Slot), t + r = Ch.length → Stand pg l ev ({ frames := 2, cells := 0, slots := 0, locals := 60 } : Room) si mi args below meth ci s₁ locs 0 0 → n0 ≤ h0.size → s₁.heap = h0 → Fr n0 locs → Arv Z h0 ca kc .char (19 : Int32) vs (.int (0 : Int32)) → Arv Z h0 d kd .byte c (((Ch.take t).map fun x => x.toInt8.toInt32).map Value.int) (.int (0 : Int32)) → (s8 = .unset ∨ ∃ u, s8 = .val (.int u)) →
      (∀ (T' : State) (locs' : List Loc) (h' : Heap) (s8 : Slot), Stand pg l ev ({ frames := 2, cells := 0, slots := 0, locals := 60 } : Room) si mi args below meth ci T' locs' 0 0 → T'.heap = h' → Fr n0 locs' → Keep h0 h' [d] → Arv Z h' d kd .byte c (((Ch.take Ch.length).map fun x => x.toInt8.toInt32).map Value.int) (.int (0 : Int32)) → (s8 = .unset ∨ ∃ u, s8 = .val (.int u)) → Go pg.tables ev below (T'.setTop (mkF mi 26 #[.val (.ref o), .val (.ref ca), .val (.int off), .val (.int en), .val (.int cnt), .val (.ref d), .val (.int (off + Int32.ofNat Ch.length)), .val (.int (Int32.ofNat Ch.length)), s8] [])) P) →
      Go pg.tables ev below (s₁.setTop (mkF mi 26 #[.val (.ref o), .val (.ref ca), .val (.int off), .val (.int en), .val (.int cnt), .val (.ref d), .val (.int (off + Int32.ofNat t)), .val (.int (Int32.ofNat t)), s8] [])) P := by
  intro r
  induction r with
  | zero =>
    intro t s₁ locs h0 s8 ht X0 Z0 e0 N0 CA DA h8 K
    obtain rfl : t = Ch.length := by omega
    exact K _ _ _ s8 X0 e0 N0 (Keep.refl h0 [d]) DA h8
  | succ r ih =>
    intro t s₁ locs h0 s8 htr X0 Z0 e0 N0 CA DA h8 K
    have ht : t < Ch.length := by omega
    have e1 := c_iadd off (Int32.ofNat t)
    have e2 := own_ofN (n := t) (by omega)
    have b1 := Int32.le_toInt (off + Int32.ofNat t)
    have b2 := Int32.toInt_lt (off + Int32.ofNat t)
    have e3 : (off + Int32.ofNat t).toInt = off.toInt + t := by omega
    have l19 : (19 : Int32).toInt = 19 := rfl
    have hi0 : ¬ (off + Int32.ofNat t) < 0 := by rw [Int32.lt_iff_toInt_lt, own_z0]; omega
    have hi19 : (off + Int32.ofNat t) < (19 : Int32) := by rw [Int32.lt_iff_toInt_lt]; omega
    have hie : (off + Int32.ofNat t) < en := by rw [Int32.lt_iff_toInt_lt]; omega
    have hin : (off + Int32.ofNat t).toNatClampNeg = off.toNatClampNeg + t := by simp only [Int32.toNatClampNeg]; omega
    have kk : ∀ (T' : State) (locs' : List Loc) (h' : Heap), Stand pg l ev ({ frames := 2, cells := 0, slots := 0, locals := 60 } : Room) si mi args below meth ci T' locs' 0 0 → T'.heap = h' → Fr n0 locs' → Keep h0 h' [d] → Arv Z h' d kd .byte c ((((Ch.take t).map fun x => x.toInt8.toInt32).map Value.int) ++ [.int ((Ch.getD t 0).toInt8.toInt32)]) (.int (0 : Int32)) → Go pg.tables ev below (T'.setTop (mkF mi 26 #[.val (.ref o), .val (.ref ca), .val (.int off), .val (.int en), .val (.int cnt), .val (.ref d), .val (.int ((off + Int32.ofNat t) + (1 : Int32))), .val (.int (Int32.ofNat t + (1 : Int32))), .val (.int (Ch.getD t 0))] [])) P := by
      intro T' locs' h' X' e' N' K' D'
      have q := ih (t + 1) T' locs' h' (.val (.int (Ch.getD t 0))) (by omega) X' (Nat.le_trans Z0 K'.1) e' N' (CA.keep K' (ninS n_cd nin0)) (by
        rw [List.take_succ, List.map_append, List.map_append]
        have : Ch[t]?.toList = [Ch.getD t 0] := by rw [List.getD_eq_getElem?_getD, List.getElem?_eq_getElem ht]; rfl
        rw [this]; exact D') (Or.inr ⟨_, rfl⟩) (fun T2 l2 h2 s2 X2 e2 N2 K2 D2 q8 => K T2 l2 h2 s2 X2 e2 N2 (K'.trans K2 (fun x hx => Or.inl hx)) D2 q8)
      rw [← own_ofS, ← Int32.add_assoc] at q
      exact q
    rcases h8 with rfl | ⟨u8, rfl⟩
    · exact own_acu l Z a0 hw X0 hx hby hml hZ hown o ca off en cnt d (off + Int32.ofNat t) (Int32.ofNat t) (Ch.getD t 0) kc vs kd c _ h0 n0 Z0 e0 N0 CA DA hi0 hi19 hie (by rw [hin]; exact hsrc t ht) (hch t ht) (own_ofN0 (by omega)) (by rw [Int32.lt_iff_toInt_lt, own_ofN (by omega), hcl]; omega) (by rw [own_ofNn (by omega)]; simp; omega) g_d n_cd kk
    · exact own_acr l Z a0 hw X0 hx hby hml hZ hown o ca off en cnt d (off + Int32.ofNat t) (Int32.ofNat t) (Ch.getD t 0) kc vs kd c _ u8 h0 n0 Z0 e0 N0 CA DA hi0 hi19 hie (by rw [hin]; exact hsrc t ht) (hch t ht) (own_ofN0 (by omega)) (by rw [Int32.lt_iff_toInt_lt, own_ofN (by omega), hcl]; omega) (by rw [own_ofNn (by omega)]; simp; omega) g_d n_cd kk
theorem own_c6 {tb : Tables} {e : Env} {below : List Frame} {T : State} {mi : MethodId} {P : State → Outcome → Prop} {a b c d f g i j : Slot} {x : Int32} (k : Go tb e below (T.setTop (mkF mi 26 #[a, b, c, d, f, g, .val (.int (x + Int32.ofNat 0)), i, j] [])) P) : Go tb e below (T.setTop (mkF mi 26 #[a, b, c, d, f, g, .val (.int x), i, j] [])) P := by
  have h : x + Int32.ofNat 0 = x := Int32.add_zero x
  rw [h] at k; exact k
theorem own_cntv {off c : Int32} : (((0 : Int32) + (off + c)) - off) = c := by rw [Int32.zero_add, Int32.add_comm, Int32.add_sub_cancel]
theorem own_e19 {off c : Int32} {n : Nat} (h0 : 0 ≤ off.toInt) (h : off.toInt + n = 19) (hc : c.toInt = n) : (off + c).toInt = 19 := by
  have e := c_iadd off c
  have b1 := Int32.le_toInt (off + c)
  have b2 := Int32.toInt_lt (off + c)
  omega
theorem own_cN {c : Int32} {n : Nat} (h : c.toInt = n) (hn : n ≤ 19) : ¬ c < 0 ∧ c.toNatClampNeg = n ∧ c.toNatClampNeg ≤ 19 ∧ Int32.ofNat n = c := by
  refine ⟨by rw [Int32.lt_iff_toInt_lt, own_z0]; omega, by simp only [Int32.toNatClampNeg]; omega, by simp only [Int32.toNatClampNeg]; omega, ?_⟩
  apply Int32.toInt_inj.mp; rw [own_ofN (by omega)]; omega
theorem dc20_0 : decode jdk_68_method_74_code 0 = .ok (.aload_n 0, 1) := by decide +kernel
theorem dc20_1 : decode jdk_68_method_74_code 1 = .ok (.getfield 79, 3) := by decide +kernel
theorem dc20_4 : decode jdk_68_method_74_code 4 = .ok (.istore 4, 2) := by decide +kernel
theorem dc20_6 : decode jdk_68_method_74_code 6 = .ok (.aload_n 0, 1) := by decide +kernel
theorem dc20_7 : decode jdk_68_method_74_code 7 = .ok (.invokevirtual 83, 3) := by decide +kernel
theorem dc20_10 : decode jdk_68_method_74_code 10 = .ok (.ifCond .eq 97, 3) := by decide +kernel
theorem dc20_13 : decode jdk_68_method_74_code 13 = .ok (.aload_n 0, 1) := by decide +kernel
theorem dc20_14 : decode jdk_68_method_74_code 14 = .ok (.getfield 15, 3) := by decide +kernel
theorem dc20_17 : decode jdk_68_method_74_code 17 = .ok (.astore 5, 2) := by decide +kernel
theorem dc20_19 : decode jdk_68_method_74_code 19 = .ok (.iload_n 2, 1) := by decide +kernel
theorem dc20_20 : decode jdk_68_method_74_code 20 = .ok (.istore 6, 2) := by decide +kernel
theorem dc20_22 : decode jdk_68_method_74_code 22 = .ok (.iload 4, 2) := by decide +kernel
theorem dc20_24 : decode jdk_68_method_74_code 24 = .ok (.istore 7, 2) := by decide +kernel
theorem dc20_104 : decode jdk_68_method_74_code 104 = .ok (.goto 15, 3) := by decide +kernel
theorem dc20_119 : decode jdk_68_method_74_code 119 = .ok (.aload_n 0, 1) := by decide +kernel
theorem dc20_120 : decode jdk_68_method_74_code 120 = .ok (.iload 4, 2) := by decide +kernel
theorem dc20_122 : decode jdk_68_method_74_code 122 = .ok (.iload_n 3, 1) := by decide +kernel
theorem dc20_123 : decode jdk_68_method_74_code 123 = .ok (.iadd, 1) := by decide +kernel
theorem dc20_124 : decode jdk_68_method_74_code 124 = .ok (.iload_n 2, 1) := by decide +kernel
theorem dc20_125 : decode jdk_68_method_74_code 125 = .ok (.isub, 1) := by decide +kernel
theorem dc20_126 : decode jdk_68_method_74_code 126 = .ok (.putfield 79, 3) := by decide +kernel
theorem dc20_129 : decode jdk_68_method_74_code 129 = .ok (.return_, 1) := by decide +kernel
theorem ef_rmAC (mi : MethodId) (o : Addr) (ca : Addr) (off : Int32) (d : Addr) (kd : ClassId) (c : Int32) (kc : ClassId) (vs : List Value) (Ch : List Int32) (cz : Int32) : entryFrame mi #[(.ref o), (.ref ca), (.int off), (.int (off + c))] 9 = mkF mi 0 #[.val (.ref o), .val (.ref ca), .val (.int off), .val (.int (off + c)), .unset, .unset, .unset, .unset, .unset] [] := by first | (simp [entryFrame, mkF, argsToLocals, Value.category]; done) | rfl
def Q_rmAC (Z : State) (o : Addr) (ca : Addr) (off : Int32) (d : Addr) (kd : ClassId) (c : Int32) (kc : ClassId) (vs : List Value) (Ch : List Int32) (cz : Int32) (h0 : Heap) (n0 : Nat) (vv_ : Option Value) (hh_ : Heap) (LL_ : List Loc) : Prop := vv_ = none ∧ Fr n0 LL_ ∧ Keep h0 hh_ [o, d] ∧ Exa Z hh_ o "java/lang/StringBuilder" ∧ Fld Z hh_ o "java/lang/AbstractStringBuilder" "value" "[B" (.ref d) ∧ Fld Z hh_ o "java/lang/AbstractStringBuilder" "coder" "B" (.int (0 : Int32)) ∧ Fld Z hh_ o "java/lang/AbstractStringBuilder" "count" "I" (.int c) ∧ Arv Z hh_ d kd .byte c (Ch.map Value.int) (.int (0 : Int32)) ∧ Exa Z hh_ d "[B"
set_option maxRecDepth 65536 in
set_option maxHeartbeats 40000000 in
theorem rmAC (l : Launch) (Z : State) (a0 : Array Value) (hw : ∀ d ∈ tables_1, d.before a0 Z = true) (ws : List Jvm.Cond) (o : Addr) (ca : Addr) (off : Int32) (d : Addr) (kd : ClassId) (c : Int32) (kc : ClassId) (vs : List Value) (Ch : List Int32) (cz : Int32) (h0 : Heap) (n0 : Nat) (Z0 : n0 ≤ h0.size) (BE : Exa Z h0 o "java/lang/StringBuilder") (BV : Fld Z h0 o "java/lang/AbstractStringBuilder" "value" "[B" (.ref d)) (BC : Fld Z h0 o "java/lang/AbstractStringBuilder" "coder" "B" (.int (0 : Int32))) (BN : Fld Z h0 o "java/lang/AbstractStringBuilder" "count" "I" (.int (0 : Int32))) (BA : Arv Z h0 d kd .byte c [] (.int (0 : Int32))) (BB : Exa Z h0 d "[B") (CA : Arv Z h0 ca kc .char (19 : Int32) vs (.int (0 : Int32))) (g_o : n0 ≤ o) (g_d : n0 ≤ d) (n_od : o ≠ d) (n_co : ca ≠ o) (n_cd : ca ≠ d) (hoff : 0 ≤ off.toInt) (hoe : off.toInt + Ch.length = 19) (hcl : c.toInt = Ch.length) (hsrc : ∀ t, t < Ch.length → vs.getD (off.toNatClampNeg + t) (.int (0 : Int32)) = .int (Ch.getD t 0)) (hch : ∀ t, t < Ch.length → (Ch.getD t 0).toInt ≤ 255) (hCb : (Ch.map fun x => x.toInt8.toInt32) = Ch) (SC : Sta Z h0 "java/lang/String" "COMPACT_STRINGS" "Z" (.int cz)) (hcz : ¬ (cz = (0 : Int32))) :
    MetFree l (⟨"java/lang/AbstractStringBuilder", "appendChars", "([CII)V"⟩ : MethodName) (head1 (Jvm.Cond.code (⟨"java/lang/AbstractStringBuilder", "appendChars", "([CII)V"⟩ : MethodName) jdk_68_method_74_code 9 none :: ws) ({ frames := 2, cells := 0, slots := 0, locals := 60 } : Room)) (fun aa_ U => aa_ = #[(.ref o), (.ref ca), (.int off), (.int (off + c))] ∧ Z.Warmed39 U.vm ∧ U.heap = h0) (fun _ _ _ _ _ => True) (fun _ U oo_ UV_ => ∃ vv_ LL_, oo_ = .returned vv_ ∧ Q_rmAC Z o ca off d kd c kc vs Ch cz h0 n0 vv_ UV_.heap LL_ ∧ FrameEnd U oo_ UV_ LL_ ({ frames := 2, cells := 0, slots := 0, locals := 60 } : Room).cells ({ frames := 2, cells := 0, slots := 0, locals := 60 } : Room).slots) := by
  refine MetFree.of_bodySF (plainFor_of_name pn_4) hisR ?_
  intro pg ev si mi args below meth ci s₁ Bd hml0 hP0 hK
  obtain ⟨rfl, hZ, hh⟩ := hP0
  have hx := Bd.exec
  have hby := Bd.bytes
  have hml : ci.maxLocals = 9 := hml0
  have hown : si.vm.findClass "java/lang/AbstractStringBuilder" = some mi.cls := findClass_of_methodNamed Bd.named
  have hnm := (name_of_methodNamed Bd.named Bd.method).1
  have X0 : Stand pg l ev ({ frames := 2, cells := 0, slots := 0, locals := 60 } : Room) si mi #[(.ref o), (.ref ca), (.int off), (.int (off + c))] below meth ci s₁ [] 0 0 := Stand.of_body Bd
  have e0 : s₁.heap = h0 := by rw [← hh, Bd.state]; rfl
  have N0 := Fr.nil n0
  refine Go.start (fun P hP => ?_)
  refine Go.st (fun t_ k_ => castTop (ef_rmAC mi o ca off d kd c kc vs Ch cz) k_) (A := s₁.setTop (mkF mi 0 #[.val (.ref o), .val (.ref ca), .val (.int off), .val (.int (off + c)), .unset, .unset, .unset, .unset, .unset] [])) ?_
  show Go _ _ _ (s₁.setTop (mkF mi 0 #[.val (.ref o), .val (.ref ca), .val (.int off), .val (.int (off + c)), .unset, .unset, .unset, .unset, .unset] [])) _
  refine g_aloadN X0 hx hby dc20_0 rfl rfl ?_
  obtain ⟨T1, X1, e1, st1⟩ := getF X0 hx hZ hown (host := "") (Or.inl (hw _ (own_m 104 rfl))) Via.refl e0 BN (g := (mkF mi 1 #[.val (.ref o), .val (.ref ca), .val (.int off), .val (.int (off + c)), .unset, .unset, .unset, .unset, .unset] [(.ref o)])) rfl rfl (hb hby dc20_1)
  refine Go.st st1 ?_
  refine g_istore X1 hx hby dc20_4 (l' := #[.val (.ref o), .val (.ref ca), .val (.int off), .val (.int (off + c)), .val (.int 0), .unset, .unset, .unset, .unset]) rfl ?_
  refine g_aloadN X1 hx hby dc20_6 rfl rfl ?_
  obtain ⟨cq2, kq2, q2a, q2b, q2c⟩ := isOf hZ e1 BE
  obtain ⟨_, _, ⟨T2, L2, k2, n2⟩, -, X2, ⟨Lc2, hQ2, l2, y2, z2⟩, st2⟩ := X1.virtualBack hx (y := (⟨"java/lang/AbstractStringBuilder", "isLatin1", "()Z"⟩ : MethodName)) (z := (⟨"java/lang/AbstractStringBuilder", "isLatin1", "()Z"⟩ : MethodName)) hown (mvT hZ (hw _ (own_m 157 rfl))) (mvT hZ (hw _ (own_m 158 rfl))) (notFace_of_selects (args := #[]) (mvT hZ (hw _ (own_m 160 rfl)))) (mvT hZ (hw _ (own_m 160 rfl))) (mvT hZ (hw _ (own_m 159 rfl))) (by decide) (backOf (W := 0) (rmB1 l Z a0 hw [] o cz h0 n0 Z0 BC SC hcz) hZ (hw _ (own_m 161 rfl)) (hw _ (own_m 85 rfl)) (by decide) (by decide)) q2a q2c (g := (mkF mi 7 #[.val (.ref o), .val (.ref ca), .val (.int off), .val (.int (off + c)), .val (.int 0), .unset, .unset, .unset, .unset] [(.ref o)])) rfl (by rw [hml]; rfl) (Steps.refl _) (argsL := []) (rest := []) (lenOf pd_3 rfl) rfl (by show 2 * 0 + _ ≤ _; exact Nat.le_of_eq rfl) (hb hby dc20_7) (fun _ _ => ⟨rfl, e1, (by decide : 0 + 0 ≤ _), (by decide : 0 + 0 ≤ _)⟩)
  dsimp only [Pt.U, Pt.locs, Pt.cells, Pt.slots] at X2 l2 y2 z2 st2 hQ2
  subst y2 z2
  have X2 := own_cs X2 (cells' := 0) (slots' := 0) rfl rfl
  obtain ⟨rfl, N2q, e2⟩ := hQ2
  have N2 := own_fr l2 (Fr.app N0 N2q)
  refine Go.tr st2 ?_
  refine g_ifNo X2 hx hby dc20_10 ((if0 _ _).trans (feq (by decide)).1) ?_
  refine g_aloadN X2 hx hby dc20_13 rfl rfl ?_
  obtain ⟨T3, X3, e3, st3⟩ := getF X2 hx hZ hown (host := "") (Or.inl (hw _ (own_m 89 rfl))) Via.refl e2 BV (g := (mkF mi 14 #[.val (.ref o), .val (.ref ca), .val (.int off), .val (.int (off + c)), .val (.int 0), .unset, .unset, .unset, .unset] [(.ref o)])) rfl rfl (hb hby dc20_14)
  refine Go.st st3 ?_
  refine g_astore X3 hx hby dc20_17 rfl (l' := #[.val (.ref o), .val (.ref ca), .val (.int off), .val (.int (off + c)), .val (.int 0), .val (.ref d), .unset, .unset, .unset]) rfl ?_
  refine g_iloadN X3 hx hby dc20_19 rfl ?_
  refine g_istore X3 hx hby dc20_20 (l' := #[.val (.ref o), .val (.ref ca), .val (.int off), .val (.int (off + c)), .val (.int 0), .val (.ref d), .val (.int off), .unset, .unset]) rfl ?_
  refine g_iload X3 hx hby dc20_22 rfl ?_
  refine g_istore X3 hx hby dc20_24 (l' := #[.val (.ref o), .val (.ref ca), .val (.int off), .val (.int (off + c)), .val (.int 0), .val (.ref d), .val (.int off), .val (.int 0), .unset]) rfl ?_
  show Go _ _ _ (T3.setTop (mkF mi 26 #[.val (.ref o), .val (.ref ca), .val (.int off), .val (.int (off + c)), .val (.int 0), .val (.ref d), .val (.int off), .val (.int 0), .unset] [])) _
  refine own_c6 ?_
  refine own_acL l Z a0 hw hx hby hml hZ hown o ca off (off + c) (0 : Int32) d kc vs kd c Ch n0 g_d n_cd hoff hoe (own_e19 hoff hoe hcl) hcl hsrc hch Ch.length 0 _ _ _ .unset (Nat.zero_add _) X3 Z0 e3 N2 CA BA (Or.inl rfl) (fun T4 L4 h4 s8 X4 e4 N4 K4 DA4 _ => ?_)
  have Zs5 : n0 ≤ h4.size := Nat.le_trans Z0 K4.1
  have KC5 : Keep h0 h4 [o, d] := (Keep.refl h0 [o, d]).trans K4 (allS (P := fun x => x ∈ [o, d] ∨ h0.size ≤ x) (Or.inl (List.mem_of_getElem? (i := 1) rfl)) all0)
  rw [List.take_length, hCb] at DA4
  show Go _ _ _ (T4.setTop (mkF mi 26 #[.val (.ref o), .val (.ref ca), .val (.int off), .val (.int (off + c)), .val (.int 0), .val (.ref d), .val (.int (off + Int32.ofNat Ch.length)), .val (.int (Int32.ofNat Ch.length)), s8] [])) _
  refine g_iload X4 hx hby dc20_26 rfl ?_
  refine g_iloadN X4 hx hby dc20_28 rfl ?_
  refine g_icmpYes X4 hx hby dc20_29 (flt (by rw [(own_cN hcl (by omega)).2.2.2]; exact Int32.lt_irrefl)).2.1 (pc0 := 29) (pc' := 104) rfl (by decide) (by decide) ?_
  refine g_goto X4 hx hby dc20_104 (pc0 := 104) (pc' := 119) rfl (by decide) (by decide) ?_
  refine g_aloadN X4 hx hby dc20_119 rfl rfl ?_
  refine g_iload X4 hx hby dc20_120 rfl ?_
  refine g_iloadN X4 hx hby dc20_122 rfl ?_
  refine g_iadd X4 hx hby dc20_123 rfl ?_
  refine g_iloadN X4 hx hby dc20_124 rfl ?_
  refine g_isub X4 hx hby dc20_125 rfl ?_
  show Go _ _ _ (T4.setTop (mkF mi 126 #[.val (.ref o), .val (.ref ca), .val (.int off), .val (.int (off + c)), .val (.int 0), .val (.ref d), .val (.int (off + Int32.ofNat Ch.length)), .val (.int (Int32.ofNat Ch.length)), s8] [(.int (((0 : Int32) + (off + c)) - off)), (.ref o)])) _
  rw [own_cntv]
  show Go _ _ _ (T4.setTop (mkF mi 126 #[.val (.ref o), .val (.ref ca), .val (.int off), .val (.int (off + c)), .val (.int 0), .val (.ref d), .val (.int (off + Int32.ofNat Ch.length)), .val (.int (Int32.ofNat Ch.length)), s8] [(.int c), (.ref o)])) _
  have f6 := (BN.keep K4 (ninS n_od nin0))
  have f7 := (BE.keep K4)
  obtain ⟨T8, h8, X8, e8, W8, st8⟩ := putF X4 hx hZ hown (host := "") (Or.inl (hw _ (own_m 104 rfl))) Via.refl e4 f6 f7 (Or.inl (hw _ (own_m 105 rfl))) (hw _ (own_m 62 rfl)) (ty := .int) (by decide) rfl rfl (g := (mkF mi 126 #[.val (.ref o), .val (.ref ca), .val (.int off), .val (.int (off + c)), .val (.int 0), .val (.ref d), .val (.int (off + Int32.ofNat Ch.length)), .val (.int (Int32.ofNat Ch.length)), s8] [(.int c), (.ref o)])) rfl rfl (hb hby dc20_126)
  have Zs9 : n0 ≤ h8.size := Nat.le_trans Zs5 (Keep.of_wr W8).1
  have KC9 : Keep h0 h8 [o, d] := KC5.wr W8 (Or.inl (List.mem_of_getElem? (i := 0) rfl))
  have N9 := Fr.snoc X8 N4 g_o
  have F8 : Fld Z h8 o "java/lang/AbstractStringBuilder" "count" "I" (.int c) := f6.same W8
  refine Go.st st8 ?_
  obtain ⟨fs, hr, hrun, hended, hW, hsame⟩ := X8.leave (v := none) (fun _ => rfl) (BodyLoose.notSynchronized Bd)
  have f10 := (f7.wr W8)
  have f11 := ((BV.keep K4 (ninS n_od nin0)).other W8 (Or.inr (slot_ne (Or.inl (hw _ (own_m 90 rfl))) (Or.inl (hw _ (own_m 105 rfl))) (by decide) (t := (.array .byte)) (t' := .int) (by decide) (by decide))))
  have f12 := ((BC.keep K4 (ninS n_od nin0)).other W8 (Or.inr (slot_ne (Or.inl (hw _ (own_m 92 rfl))) (Or.inl (hw _ (own_m 105 rfl))) (by decide) (t := .byte) (t' := .int) (by decide) (by decide))))
  have f13 := (DA4.other W8 (Ne.symm n_od))
  have f14 := ((BB.keep K4).wr W8)
  refine ⟨_, _, ?_, hP _ _ ⟨hrun, hended, _, _, rfl, ?_, ⟨_, rfl⟩, hW, hsame.mono (by decide) (by decide)⟩⟩
  · exact X8.returnOut hx Bd.returns (hb hby dc20_129) hr
  · show (none : Option Value) = none ∧ Fr n0 _ ∧ Keep h0 T8.heap [o, d] ∧ Exa Z T8.heap o "java/lang/StringBuilder" ∧ Fld Z T8.heap o "java/lang/AbstractStringBuilder" "value" "[B" (.ref d) ∧ Fld Z T8.heap o "java/lang/AbstractStringBuilder" "coder" "B" (.int (0 : Int32)) ∧ Fld Z T8.heap o "java/lang/AbstractStringBuilder" "count" "I" (.int c) ∧ Arv Z T8.heap d kd .byte c (Ch.map Value.int) (.int (0 : Int32)) ∧ Exa Z T8.heap d "[B"
    rw [e8]
    exact ⟨rfl, N9, KC9, f10, f11, f12, F8, f13, f14⟩
theorem own_hle0 {c : Int32} : ¬ ((0 : Int32) < (((0 : Int32) + c) - c)) := by rw [Int32.zero_add, Int32.sub_self]; exact Int32.lt_irrefl
theorem own_ft {off c : Int32} {n : Nat} (h0 : 0 ≤ off.toInt) (h : off.toInt + n = 19) (hc : c.toInt = n) : ¬ (off < (0 : Int32)) ∧ ¬ ((off + c) < off) ∧ ¬ ((19 : Int32) < (off + c)) := by
  have e := own_e19 h0 h hc
  have l19 : (19 : Int32).toInt = 19 := rfl
  simp only [Int32.lt_iff_toInt_lt, own_z0]; omega
theorem dc21_0 : decode jdk_68_method_29_code 0 = .ok (.iload_n 2, 1) := by decide +kernel
theorem dc21_1 : decode jdk_68_method_29_code 1 = .ok (.iload_n 3, 1) := by decide +kernel
theorem dc21_2 : decode jdk_68_method_29_code 2 = .ok (.iadd, 1) := by decide +kernel
theorem dc21_3 : decode jdk_68_method_29_code 3 = .ok (.istore 4, 2) := by decide +kernel
theorem dc21_5 : decode jdk_68_method_29_code 5 = .ok (.iload_n 2, 1) := by decide +kernel
theorem dc21_6 : decode jdk_68_method_29_code 6 = .ok (.iload 4, 2) := by decide +kernel
theorem dc21_8 : decode jdk_68_method_29_code 8 = .ok (.aload_n 1, 1) := by decide +kernel
theorem dc21_9 : decode jdk_68_method_29_code 9 = .ok (.arraylength, 1) := by decide +kernel
theorem dc21_10 : decode jdk_68_method_29_code 10 = .ok (.getstatic 183, 3) := by decide +kernel
theorem dc21_13 : decode jdk_68_method_29_code 13 = .ok (.invokestatic 161, 3) := by decide +kernel
theorem pd_12 : parseMethodDescriptor "(IIILjava/util/function/BiFunction;)I" = some ⟨[.int, .int, .int, (.object "java/util/function/BiFunction")], some .int⟩ := by decide +kernel
theorem dc21_16 : decode jdk_68_method_29_code 16 = .ok (.pop, 1) := by decide +kernel
theorem dc21_17 : decode jdk_68_method_29_code 17 = .ok (.aload_n 0, 1) := by decide +kernel
theorem dc21_18 : decode jdk_68_method_29_code 18 = .ok (.aload_n 0, 1) := by decide +kernel
theorem dc21_19 : decode jdk_68_method_29_code 19 = .ok (.getfield 79, 3) := by decide +kernel
theorem dc21_22 : decode jdk_68_method_29_code 22 = .ok (.iload_n 3, 1) := by decide +kernel
theorem dc21_23 : decode jdk_68_method_29_code 23 = .ok (.iadd, 1) := by decide +kernel
theorem dc21_24 : decode jdk_68_method_29_code 24 = .ok (.invokevirtual 100, 3) := by decide +kernel
theorem dc21_27 : decode jdk_68_method_29_code 27 = .ok (.aload_n 0, 1) := by decide +kernel
theorem dc21_28 : decode jdk_68_method_29_code 28 = .ok (.aload_n 1, 1) := by decide +kernel
theorem dc21_29 : decode jdk_68_method_29_code 29 = .ok (.iload_n 2, 1) := by decide +kernel
theorem dc21_30 : decode jdk_68_method_29_code 30 = .ok (.iload 4, 2) := by decide +kernel
theorem dc21_32 : decode jdk_68_method_29_code 32 = .ok (.invokevirtual 239, 3) := by decide +kernel
theorem pd_13 : parseMethodDescriptor "([CII)V" = some ⟨[(.array .char), .int, .int], none⟩ := by decide +kernel
theorem dc21_35 : decode jdk_68_method_29_code 35 = .ok (.aload_n 0, 1) := by decide +kernel
theorem dc21_36 : decode jdk_68_method_29_code 36 = .ok (.areturn, 1) := by decide +kernel
theorem ef_rmA2 (mi : MethodId) (o : Addr) (ca : Addr) (off : Int32) (d : Addr) (kd : ClassId) (c : Int32) (kc : ClassId) (vs : List Value) (Ch : List Int32) (cz : Int32) (fi : Value) : entryFrame mi #[(.ref o), (.ref ca), (.int off), (.int c)] 5 = mkF mi 0 #[.val (.ref o), .val (.ref ca), .val (.int off), .val (.int c), .unset] [] := by first | (simp [entryFrame, mkF, argsToLocals, Value.category]; done) | rfl
def Q_rmA2 (Z : State) (o : Addr) (ca : Addr) (off : Int32) (d : Addr) (kd : ClassId) (c : Int32) (kc : ClassId) (vs : List Value) (Ch : List Int32) (cz : Int32) (fi : Value) (h0 : Heap) (n0 : Nat) (vv_ : Option Value) (hh_ : Heap) (LL_ : List Loc) : Prop := vv_ = some (.ref o) ∧ Fr n0 LL_ ∧ Keep h0 hh_ [o, d] ∧ Exa Z hh_ o "java/lang/StringBuilder" ∧ Fld Z hh_ o "java/lang/AbstractStringBuilder" "value" "[B" (.ref d) ∧ Fld Z hh_ o "java/lang/AbstractStringBuilder" "coder" "B" (.int (0 : Int32)) ∧ Fld Z hh_ o "java/lang/AbstractStringBuilder" "count" "I" (.int c) ∧ Arv Z hh_ d kd .byte c (Ch.map Value.int) (.int (0 : Int32)) ∧ Exa Z hh_ d "[B"
set_option maxRecDepth 65536 in
set_option maxHeartbeats 40000000 in
theorem rmA2 (l : Launch) (Z : State) (a0 : Array Value) (hw : ∀ d ∈ tables_1, d.before a0 Z = true) (ws : List Jvm.Cond) (o : Addr) (ca : Addr) (off : Int32) (d : Addr) (kd : ClassId) (c : Int32) (kc : ClassId) (vs : List Value) (Ch : List Int32) (cz : Int32) (fi : Value) (h0 : Heap) (n0 : Nat) (Z0 : n0 ≤ h0.size) (BE : Exa Z h0 o "java/lang/StringBuilder") (BV : Fld Z h0 o "java/lang/AbstractStringBuilder" "value" "[B" (.ref d)) (BC : Fld Z h0 o "java/lang/AbstractStringBuilder" "coder" "B" (.int (0 : Int32))) (BN : Fld Z h0 o "java/lang/AbstractStringBuilder" "count" "I" (.int (0 : Int32))) (BA : Arv Z h0 d kd .byte c [] (.int (0 : Int32))) (BB : Exa Z h0 d "[B") (CA : Arv Z h0 ca kc .char (19 : Int32) vs (.int (0 : Int32))) (g_o : n0 ≤ o) (g_d : n0 ≤ d) (n_od : o ≠ d) (n_co : ca ≠ o) (n_cd : ca ≠ d) (hoff : 0 ≤ off.toInt) (hoe : off.toInt + Ch.length = 19) (hcl : c.toInt = Ch.length) (hsrc : ∀ t, t < Ch.length → vs.getD (off.toNatClampNeg + t) (.int (0 : Int32)) = .int (Ch.getD t 0)) (hch : ∀ t, t < Ch.length → (Ch.getD t 0).toInt ≤ 255) (hCb : (Ch.map fun x => x.toInt8.toInt32) = Ch) (SC : Sta Z h0 "java/lang/String" "COMPACT_STRINGS" "Z" (.int cz)) (hcz : ¬ (cz = (0 : Int32))) (IF : Sta Z h0 "jdk/internal/util/Preconditions" "IOOBE_FORMATTER" "Ljava/util/function/BiFunction;" fi) (hfi : fi.isRef = true) :
    MetFree l (⟨"java/lang/AbstractStringBuilder", "append", "([CII)Ljava/lang/AbstractStringBuilder;"⟩ : MethodName) (head1 (Jvm.Cond.code (⟨"java/lang/AbstractStringBuilder", "append", "([CII)Ljava/lang/AbstractStringBuilder;"⟩ : MethodName) jdk_68_method_29_code 5 (some (.object "java/lang/AbstractStringBuilder")) :: ws) ({ frames := 3, cells := 0, slots := 0, locals := 80 } : Room)) (fun aa_ U => aa_ = #[(.ref o), (.ref ca), (.int off), (.int c)] ∧ Z.Warmed39 U.vm ∧ U.heap = h0) (fun _ _ _ _ _ => True) (fun _ U oo_ UV_ => ∃ vv_ LL_, oo_ = .returned vv_ ∧ Q_rmA2 Z o ca off d kd c kc vs Ch cz fi h0 n0 vv_ UV_.heap LL_ ∧ FrameEnd U oo_ UV_ LL_ ({ frames := 3, cells := 0, slots := 0, locals := 80 } : Room).cells ({ frames := 3, cells := 0, slots := 0, locals := 80 } : Room).slots) := by
  refine MetFree.of_bodySF (plainFor_of_name pn_4) hisR ?_
  intro pg ev si mi args below meth ci s₁ Bd hml0 hP0 hK
  obtain ⟨rfl, hZ, hh⟩ := hP0
  have hx := Bd.exec
  have hby := Bd.bytes
  have hml : ci.maxLocals = 5 := hml0
  have hown : si.vm.findClass "java/lang/AbstractStringBuilder" = some mi.cls := findClass_of_methodNamed Bd.named
  have hnm := (name_of_methodNamed Bd.named Bd.method).1
  have X0 : Stand pg l ev ({ frames := 3, cells := 0, slots := 0, locals := 80 } : Room) si mi #[(.ref o), (.ref ca), (.int off), (.int c)] below meth ci s₁ [] 0 0 := Stand.of_body Bd
  have e0 : s₁.heap = h0 := by rw [← hh, Bd.state]; rfl
  have N0 := Fr.nil n0
  refine Go.start (fun P hP => ?_)
  refine Go.st (fun t_ k_ => castTop (ef_rmA2 mi o ca off d kd c kc vs Ch cz fi) k_) (A := s₁.setTop (mkF mi 0 #[.val (.ref o), .val (.ref ca), .val (.int off), .val (.int c), .unset] [])) ?_
  show Go _ _ _ (s₁.setTop (mkF mi 0 #[.val (.ref o), .val (.ref ca), .val (.int off), .val (.int c), .unset] [])) _
  refine g_iloadN X0 hx hby dc21_0 rfl ?_
  refine g_iloadN X0 hx hby dc21_1 rfl ?_
  refine g_iadd X0 hx hby dc21_2 rfl ?_
  refine g_istore X0 hx hby dc21_3 (l' := #[.val (.ref o), .val (.ref ca), .val (.int off), .val (.int c), .val (.int (off + c))]) rfl ?_
  refine g_iloadN X0 hx hby dc21_5 rfl ?_
  refine g_iload X0 hx hby dc21_6 rfl ?_
  refine g_aloadN X0 hx hby dc21_8 rfl rfl ?_
  have ov1 := CA
  obtain ⟨cl1, Ar1, q1, S1, M1, H1, G1⟩ := ov1
  refine Go.st (X0.arraylength hx (by rw [e0]; exact Ar1.1) (State.isArrayOf_alike hZ.alike Ar1.2.1) (g := (mkF mi 9 #[.val (.ref o), .val (.ref ca), .val (.int off), .val (.int c), .val (.int (off + c))] [(.ref ca), (.int (off + c)), (.int off)])) rfl rfl (hb hby dc21_9)) ?_
  rw [len_of S1 M1]
  obtain ⟨T2, X2, e2, st2⟩ := getS2 X0 hx hZ hown (host := "") (Or.inl (hw _ (own_m 147 rfl))) Via.refl e0 IF (g := (mkF mi 10 #[.val (.ref o), .val (.ref ca), .val (.int off), .val (.int c), .val (.int (off + c))] [(.int 19), (.int (off + c)), (.int off)])) rfl (hb hby dc21_10)
  refine Go.st st2 ?_
  obtain ⟨_, _, ⟨T3, L3, k3, n3⟩, -, X3, ⟨Lc3, hQ3, l3, y3, z3⟩, st3⟩ := Jvm.LawKit.callS X2 hx (y := (⟨"jdk/internal/util/Preconditions", "checkFromToIndex", "(IIILjava/util/function/BiFunction;)I"⟩ : MethodName)) hown (mvT hZ (hw _ (own_m 149 rfl))) (mvT hZ (hw _ (own_m 150 rfl))) (mvT hZ (hw _ (own_m 57 rfl))) (mvT hZ (hw _ (own_m 151 rfl))) (by decide) (backOf (W := 0) (rmFT l Z a0 hw [] off (off + c) (19 : Int32) fi h0 n0 Z0 hfi (own_ft hoff hoe hcl).1 (own_ft hoff hoe hcl).2.1 (own_ft hoff hoe hcl).2.2) hZ (hw _ (own_m 151 rfl)) (hw _ (own_m 57 rfl)) (by decide) (by decide)) (g := (mkF mi 13 #[.val (.ref o), .val (.ref ca), .val (.int off), .val (.int c), .val (.int (off + c))] [fi, (.int 19), (.int (off + c)), (.int off)])) rfl (by rw [hml]; rfl) (argsL := [(.int off), (.int (off + c)), (.int 19), fi]) (rest := []) (lenOf pd_12 rfl) rfl (by show 2 * 0 + _ ≤ _; exact Nat.le_of_eq rfl) (hb hby dc21_13) (fun _ _ => ⟨rfl, e2, (by decide : 0 + 0 ≤ _), (by decide : 0 + 0 ≤ _)⟩)
  dsimp only [Pt.U, Pt.locs, Pt.cells, Pt.slots] at X3 l3 y3 z3 st3 hQ3
  subst y3 z3
  have X3 := own_cs X3 (cells' := 0) (slots' := 0) rfl rfl
  obtain ⟨rfl, N3q, e3⟩ := hQ3
  have N3 := own_fr l3 (Fr.app N0 N3q)
  refine Go.st st3 ?_
  refine Go.s (XS.pop X3.here hx rfl (hb hby dc21_16) rfl rfl) ?_
  refine g_aloadN X3 hx hby dc21_17 rfl rfl ?_
  refine g_aloadN X3 hx hby dc21_18 rfl rfl ?_
  obtain ⟨T4, X4, e4, st4⟩ := getF X3 hx hZ hown (host := "") (Or.inl (hw _ (own_m 104 rfl))) Via.refl e3 BN (g := (mkF mi 19 #[.val (.ref o), .val (.ref ca), .val (.int off), .val (.int c), .val (.int (off + c))] [(.ref o), (.ref o)])) rfl rfl (hb hby dc21_19)
  refine Go.st st4 ?_
  refine g_iloadN X4 hx hby dc21_22 rfl ?_
  refine g_iadd X4 hx hby dc21_23 rfl ?_
  obtain ⟨cq5, q5, q5'⟩ := BE.cell
  obtain ⟨_, _, ⟨T5, L5, k5, n5⟩, -, X5, ⟨Lc5, hQ5, l5, y5, z5⟩, st5⟩ := X4.privateBack hx (y := (⟨"java/lang/AbstractStringBuilder", "ensureCapacityInternal", "(I)V"⟩ : MethodName)) hown (mvT hZ (hw _ (own_m 106 rfl))) (mvT hZ (hw _ (own_m 107 rfl))) (mvT hZ (own_selB (hw _ (own_m 109 rfl)) (hw _ (own_m 108 rfl)) (hw _ (own_m 107 rfl)))) (Cond.privateMethod_at (mvP hZ (hw _ (own_m 108 rfl)) (args := #[]))) (mvT hZ (hw _ (own_m 110 rfl))) (by decide) (backOf (W := 0) (rmEC l Z a0 hw [] o ((0 : Int32) + c) d kd c [] (0 : Int32) h0 n0 Z0 BE BV BC BN BA BB own_hle0) hZ (hw _ (own_m 110 rfl)) (hw _ (own_m 85 rfl)) (by decide) (by decide)) (g := (mkF mi 24 #[.val (.ref o), .val (.ref ca), .val (.int off), .val (.int c), .val (.int (off + c))] [(.int ((0 : Int32) + c)), (.ref o)])) rfl (by rw [hml]; rfl) (Steps.refl _) (a := o) (by rw [e4]; exact q5) q5' (argsL := [(.int ((0 : Int32) + c))]) (rest := []) (lenOf pd_5 rfl) rfl (by show 2 * 0 + _ ≤ _; exact Nat.le_of_eq rfl) (hb hby dc21_24) (fun _ _ => ⟨rfl, e4, (by decide : 0 + 0 ≤ _), (by decide : 0 + 0 ≤ _)⟩)
  dsimp only [Pt.U, Pt.locs, Pt.cells, Pt.slots] at X5 l5 y5 z5 st5 hQ5
  subst y5 z5
  have X5 := own_cs X5 (cells' := 0) (slots' := 0) rfl rfl
  obtain ⟨rfl, N5q, e5⟩ := hQ5
  have N5 := own_fr l5 (Fr.app N3 N5q)
  refine Go.tr st5 ?_
  refine g_aloadN X5 hx hby dc21_27 rfl rfl ?_
  refine g_aloadN X5 hx hby dc21_28 rfl rfl ?_
  refine g_iloadN X5 hx hby dc21_29 rfl ?_
  refine g_iload X5 hx hby dc21_30 rfl ?_
  obtain ⟨cq6, q6, q6'⟩ := BE.cell
  obtain ⟨_, _, ⟨T6, L6, k6, n6⟩, -, X6, ⟨Lc6, hQ6, l6, y6, z6⟩, st6⟩ := X5.privateBack hx (y := (⟨"java/lang/AbstractStringBuilder", "appendChars", "([CII)V"⟩ : MethodName)) hown (mvT hZ (hw _ (own_m 152 rfl))) (mvT hZ (hw _ (own_m 153 rfl))) (mvT hZ (own_selB (hw _ (own_m 155 rfl)) (hw _ (own_m 154 rfl)) (hw _ (own_m 153 rfl)))) (Cond.privateMethod_at (mvP hZ (hw _ (own_m 154 rfl)) (args := #[]))) (mvT hZ (hw _ (own_m 156 rfl))) (by decide) (backOf (W := 0) (rmAC l Z a0 hw [] o ca off d kd c kc vs Ch cz h0 n0 Z0 BE BV BC BN BA BB CA g_o g_d n_od n_co n_cd hoff hoe hcl hsrc hch hCb SC hcz) hZ (hw _ (own_m 156 rfl)) (hw _ (own_m 85 rfl)) (by decide) (by decide)) (g := (mkF mi 32 #[.val (.ref o), .val (.ref ca), .val (.int off), .val (.int c), .val (.int (off + c))] [(.int (off + c)), (.int off), (.ref ca), (.ref o)])) rfl (by rw [hml]; rfl) (Steps.refl _) (a := o) (by rw [e5]; exact q6) q6' (argsL := [(.ref ca), (.int off), (.int (off + c))]) (rest := []) (lenOf pd_13 rfl) rfl (by show 2 * 0 + _ ≤ _; exact Nat.le_of_eq rfl) (hb hby dc21_32) (fun _ _ => ⟨rfl, e5, (by decide : 0 + 0 ≤ _), (by decide : 0 + 0 ≤ _)⟩)
  dsimp only [Pt.U, Pt.locs, Pt.cells, Pt.slots] at X6 l6 y6 z6 st6 hQ6
  subst y6 z6
  have X6 := own_cs X6 (cells' := 0) (slots' := 0) rfl rfl
  obtain ⟨h6, e6⟩ : ∃ z, T6.heap = z := ⟨_, rfl⟩
  rw [e6] at hQ6
  obtain ⟨rfl, N6q, K6, BE6, BV6, BC6, BN6, BA6, BB6⟩ := hQ6
  have N6 := own_fr l6 (Fr.app N5 N6q)
  have Zs7 : n0 ≤ h6.size := Nat.le_trans Z0 K6.1
  have KC7 : Keep h0 h6 [o, d] := (Keep.refl h0 [o, d]).trans K6 (allS (P := fun x => x ∈ [o, d] ∨ h0.size ≤ x) (Or.inl (List.mem_of_getElem? (i := 0) rfl)) (allS (P := fun x => x ∈ [o, d] ∨ h0.size ≤ x) (Or.inl (List.mem_of_getElem? (i := 1) rfl)) all0))
  refine Go.tr st6 ?_
  refine g_aloadN X6 hx hby dc21_35 rfl rfl ?_
  show Go _ _ _ (T6.setTop (mkF mi 36 #[.val (.ref o), .val (.ref ca), .val (.int off), .val (.int c), .val (.int (off + c))] [(.ref o)])) _
  obtain ⟨fs, hr, hrun, hended, hW, hsame⟩ := X6.leave (v := some (.ref o)) (fun h => by rw [Bd.returns] at h; cases h) (BodyLoose.notSynchronized Bd)
  refine ⟨_, _, ?_, hP _ _ ⟨hrun, hended, _, _, rfl, ?_, ⟨_, rfl⟩, hW, hsame.mono (by decide) (by decide)⟩⟩
  · exact retOut X6 hx Bd.returns rfl (Or.inr (Or.inr (Or.inr (Or.inr ⟨rfl, rfl, rfl⟩)))) (hb hby dc21_36) hr
  · show (some (.ref o) : Option Value) = some (.ref o) ∧ Fr n0 _ ∧ Keep h0 T6.heap [o, d] ∧ Exa Z T6.heap o "java/lang/StringBuilder" ∧ Fld Z T6.heap o "java/lang/AbstractStringBuilder" "value" "[B" (.ref d) ∧ Fld Z T6.heap o "java/lang/AbstractStringBuilder" "coder" "B" (.int (0 : Int32)) ∧ Fld Z T6.heap o "java/lang/AbstractStringBuilder" "count" "I" (.int c) ∧ Arv Z T6.heap d kd .byte c (Ch.map Value.int) (.int (0 : Int32)) ∧ Exa Z T6.heap d "[B"
    rw [e6]
    exact ⟨rfl, N6, KC7, BE6, BV6, BC6, BN6, BA6, BB6⟩
theorem dc22_0 : decode jdk_67_method_12_code 0 = .ok (.aload_n 0, 1) := by decide +kernel
theorem dc22_1 : decode jdk_67_method_12_code 1 = .ok (.aload_n 1, 1) := by decide +kernel
theorem dc22_2 : decode jdk_67_method_12_code 2 = .ok (.iload_n 2, 1) := by decide +kernel
theorem dc22_3 : decode jdk_67_method_12_code 3 = .ok (.iload_n 3, 1) := by decide +kernel
theorem dc22_4 : decode jdk_67_method_12_code 4 = .ok (.invokespecial 44, 3) := by decide +kernel
theorem pd_14 : parseMethodDescriptor "([CII)Ljava/lang/AbstractStringBuilder;" = some ⟨[(.array .char), .int, .int], some (.object "java/lang/AbstractStringBuilder")⟩ := by decide +kernel
theorem dc22_7 : decode jdk_67_method_12_code 7 = .ok (.pop, 1) := by decide +kernel
theorem dc22_8 : decode jdk_67_method_12_code 8 = .ok (.aload_n 0, 1) := by decide +kernel
theorem dc22_9 : decode jdk_67_method_12_code 9 = .ok (.areturn, 1) := by decide +kernel
theorem ef_rmS2 (mi : MethodId) (o : Addr) (ca : Addr) (off : Int32) (d : Addr) (kd : ClassId) (c : Int32) (kc : ClassId) (vs : List Value) (Ch : List Int32) (cz : Int32) (fi : Value) : entryFrame mi #[(.ref o), (.ref ca), (.int off), (.int c)] 4 = mkF mi 0 #[.val (.ref o), .val (.ref ca), .val (.int off), .val (.int c)] [] := by first | (simp [entryFrame, mkF, argsToLocals, Value.category]; done) | rfl
def Q_rmS2 (Z : State) (o : Addr) (ca : Addr) (off : Int32) (d : Addr) (kd : ClassId) (c : Int32) (kc : ClassId) (vs : List Value) (Ch : List Int32) (cz : Int32) (fi : Value) (h0 : Heap) (n0 : Nat) (vv_ : Option Value) (hh_ : Heap) (LL_ : List Loc) : Prop := vv_ = some (.ref o) ∧ Fr n0 LL_ ∧ Keep h0 hh_ [o, d] ∧ Exa Z hh_ o "java/lang/StringBuilder" ∧ Fld Z hh_ o "java/lang/AbstractStringBuilder" "value" "[B" (.ref d) ∧ Fld Z hh_ o "java/lang/AbstractStringBuilder" "coder" "B" (.int (0 : Int32)) ∧ Fld Z hh_ o "java/lang/AbstractStringBuilder" "count" "I" (.int c) ∧ Arv Z hh_ d kd .byte c (Ch.map Value.int) (.int (0 : Int32)) ∧ Exa Z hh_ d "[B"
set_option maxRecDepth 65536 in
set_option maxHeartbeats 40000000 in
theorem rmS2 (l : Launch) (Z : State) (a0 : Array Value) (hw : ∀ d ∈ tables_1, d.before a0 Z = true) (ws : List Jvm.Cond) (o : Addr) (ca : Addr) (off : Int32) (d : Addr) (kd : ClassId) (c : Int32) (kc : ClassId) (vs : List Value) (Ch : List Int32) (cz : Int32) (fi : Value) (h0 : Heap) (n0 : Nat) (Z0 : n0 ≤ h0.size) (BE : Exa Z h0 o "java/lang/StringBuilder") (BV : Fld Z h0 o "java/lang/AbstractStringBuilder" "value" "[B" (.ref d)) (BC : Fld Z h0 o "java/lang/AbstractStringBuilder" "coder" "B" (.int (0 : Int32))) (BN : Fld Z h0 o "java/lang/AbstractStringBuilder" "count" "I" (.int (0 : Int32))) (BA : Arv Z h0 d kd .byte c [] (.int (0 : Int32))) (BB : Exa Z h0 d "[B") (CA : Arv Z h0 ca kc .char (19 : Int32) vs (.int (0 : Int32))) (g_o : n0 ≤ o) (g_d : n0 ≤ d) (n_od : o ≠ d) (n_co : ca ≠ o) (n_cd : ca ≠ d) (hoff : 0 ≤ off.toInt) (hoe : off.toInt + Ch.length = 19) (hcl : c.toInt = Ch.length) (hsrc : ∀ t, t < Ch.length → vs.getD (off.toNatClampNeg + t) (.int (0 : Int32)) = .int (Ch.getD t 0)) (hch : ∀ t, t < Ch.length → (Ch.getD t 0).toInt ≤ 255) (hCb : (Ch.map fun x => x.toInt8.toInt32) = Ch) (SC : Sta Z h0 "java/lang/String" "COMPACT_STRINGS" "Z" (.int cz)) (hcz : ¬ (cz = (0 : Int32))) (IF : Sta Z h0 "jdk/internal/util/Preconditions" "IOOBE_FORMATTER" "Ljava/util/function/BiFunction;" fi) (hfi : fi.isRef = true) :
    MetFree l (⟨"java/lang/StringBuilder", "append", "([CII)Ljava/lang/StringBuilder;"⟩ : MethodName) (head1 (Jvm.Cond.code (⟨"java/lang/StringBuilder", "append", "([CII)Ljava/lang/StringBuilder;"⟩ : MethodName) jdk_67_method_12_code 4 (some (.object "java/lang/StringBuilder")) :: ws) ({ frames := 4, cells := 0, slots := 0, locals := 96 } : Room)) (fun aa_ U => aa_ = #[(.ref o), (.ref ca), (.int off), (.int c)] ∧ Z.Warmed39 U.vm ∧ U.heap = h0) (fun _ _ _ _ _ => True) (fun _ U oo_ UV_ => ∃ vv_ LL_, oo_ = .returned vv_ ∧ Q_rmS2 Z o ca off d kd c kc vs Ch cz fi h0 n0 vv_ UV_.heap LL_ ∧ FrameEnd U oo_ UV_ LL_ ({ frames := 4, cells := 0, slots := 0, locals := 96 } : Room).cells ({ frames := 4, cells := 0, slots := 0, locals := 96 } : Room).slots) := by
  refine MetFree.of_bodySF (plainFor_of_name pn_5) hisR ?_
  intro pg ev si mi args below meth ci s₁ Bd hml0 hP0 hK
  obtain ⟨rfl, hZ, hh⟩ := hP0
  have hx := Bd.exec
  have hby := Bd.bytes
  have hml : ci.maxLocals = 4 := hml0
  have hown : si.vm.findClass "java/lang/StringBuilder" = some mi.cls := findClass_of_methodNamed Bd.named
  have hnm := (name_of_methodNamed Bd.named Bd.method).1
  have X0 : Stand pg l ev ({ frames := 4, cells := 0, slots := 0, locals := 96 } : Room) si mi #[(.ref o), (.ref ca), (.int off), (.int c)] below meth ci s₁ [] 0 0 := Stand.of_body Bd
  have e0 : s₁.heap = h0 := by rw [← hh, Bd.state]; rfl
  have N0 := Fr.nil n0
  refine Go.start (fun P hP => ?_)
  refine Go.st (fun t_ k_ => castTop (ef_rmS2 mi o ca off d kd c kc vs Ch cz fi) k_) (A := s₁.setTop (mkF mi 0 #[.val (.ref o), .val (.ref ca), .val (.int off), .val (.int c)] [])) ?_
  show Go _ _ _ (s₁.setTop (mkF mi 0 #[.val (.ref o), .val (.ref ca), .val (.int off), .val (.int c)] [])) _
  refine g_aloadN X0 hx hby dc22_0 rfl rfl ?_
  refine g_aloadN X0 hx hby dc22_1 rfl rfl ?_
  refine g_iloadN X0 hx hby dc22_2 rfl ?_
  refine g_iloadN X0 hx hby dc22_3 rfl ?_
  obtain ⟨_, _, ⟨T1, L1, k1, n1⟩, -, X1, ⟨Lc1, hQ1, l1, y1, z1⟩, st1⟩ := Jvm.RoadKit.superBack X0 hx hZ (y := (⟨"java/lang/AbstractStringBuilder", "append", "([CII)Ljava/lang/AbstractStringBuilder;"⟩ : MethodName)) hown (hw _ (own_m 143 rfl)) (own_sameB (hw _ (own_m 144 rfl)) (hw _ (own_m 109 rfl)) rfl) (hw _ (own_m 144 rfl)) (hw _ (own_m 100 rfl)) (by decide) (backOf (W := 0) (rmA2 l Z a0 hw [] o ca off d kd c kc vs Ch cz fi h0 n0 Z0 BE BV BC BN BA BB CA g_o g_d n_od n_co n_cd hoff hoe hcl hsrc hch hCb SC hcz IF hfi) hZ (hw _ (own_m 146 rfl)) (hw _ (own_m 85 rfl)) (by decide) (by decide)) e0 (Ins.self BE) (g := (mkF mi 4 #[.val (.ref o), .val (.ref ca), .val (.int off), .val (.int c)] [(.int c), (.int off), (.ref ca), (.ref o)])) rfl (by rw [hml]; rfl) (hw _ (own_m 146 rfl)) (argsL := [(.ref ca), (.int off), (.int c)]) (rest := []) (lenOf pd_14 rfl) rfl (by show 2 * 0 + _ ≤ _; exact Nat.le_of_eq rfl) (hb hby dc22_4) (fun _ _ => ⟨rfl, e0, (by decide : 0 + 0 ≤ _), (by decide : 0 + 0 ≤ _)⟩)
  dsimp only [Pt.U, Pt.locs, Pt.cells, Pt.slots] at X1 l1 y1 z1 st1 hQ1
  subst y1 z1
  have X1 := own_cs X1 (cells' := 0) (slots' := 0) rfl rfl
  obtain ⟨h1, e1⟩ : ∃ z, T1.heap = z := ⟨_, rfl⟩
  rw [e1] at hQ1
  obtain ⟨rfl, N1q, K1, BE1, BV1, BC1, BN1, BA1, BB1⟩ := hQ1
  have N1 := own_fr l1 (Fr.app N0 N1q)
  have Zs2 : n0 ≤ h1.size := Nat.le_trans Z0 K1.1
  have KC2 : Keep h0 h1 [o, d] := (Keep.refl h0 [o, d]).trans K1 (allS (P := fun x => x ∈ [o, d] ∨ h0.size ≤ x) (Or.inl (List.mem_of_getElem? (i := 0) rfl)) (allS (P := fun x => x ∈ [o, d] ∨ h0.size ≤ x) (Or.inl (List.mem_of_getElem? (i := 1) rfl)) all0))
  refine Go.tr st1 ?_
  refine Go.s (XS.pop X1.here hx rfl (hb hby dc22_7) rfl rfl) ?_
  refine g_aloadN X1 hx hby dc22_8 rfl rfl ?_
  obtain ⟨fs, hr, hrun, hended, hW, hsame⟩ := X1.leave (v := some (.ref o)) (fun h => by rw [Bd.returns] at h; cases h) (BodyLoose.notSynchronized Bd)
  refine ⟨_, _, ?_, hP _ _ ⟨hrun, hended, _, _, rfl, ?_, ⟨_, rfl⟩, hW, hsame.mono (by decide) (by decide)⟩⟩
  · exact retOut X1 hx Bd.returns rfl (Or.inr (Or.inr (Or.inr (Or.inr ⟨rfl, rfl, rfl⟩)))) (hb hby dc22_9) hr
  · show (some (.ref o) : Option Value) = some (.ref o) ∧ Fr n0 _ ∧ Keep h0 T1.heap [o, d] ∧ Exa Z T1.heap o "java/lang/StringBuilder" ∧ Fld Z T1.heap o "java/lang/AbstractStringBuilder" "value" "[B" (.ref d) ∧ Fld Z T1.heap o "java/lang/AbstractStringBuilder" "coder" "B" (.int (0 : Int32)) ∧ Fld Z T1.heap o "java/lang/AbstractStringBuilder" "count" "I" (.int c) ∧ Arv Z T1.heap d kd .byte c (Ch.map Value.int) (.int (0 : Int32)) ∧ Exa Z T1.heap d "[B"
    rw [e1]
    exact ⟨rfl, N1, KC2, BE1, BV1, BC1, BN1, BA1, BB1⟩
theorem dc23_0 : decode jdk_68_method_64_code 0 = .ok (.aload_n 0, 1) := by decide +kernel
theorem dc23_1 : decode jdk_68_method_64_code 1 = .ok (.getfield 15, 3) := by decide +kernel
theorem dc23_4 : decode jdk_68_method_64_code 4 = .ok (.areturn, 1) := by decide +kernel
theorem ef_rmGV (mi : MethodId) (o : Addr) (d : Addr) : entryFrame mi #[(.ref o)] 1 = mkF mi 0 #[.val (.ref o)] [] := by first | (simp [entryFrame, mkF, argsToLocals, Value.category]; done) | rfl
def Q_rmGV (Z : State) (o : Addr) (d : Addr) (h0 : Heap) (n0 : Nat) (vv_ : Option Value) (hh_ : Heap) (LL_ : List Loc) : Prop := vv_ = some (.ref d) ∧ Fr n0 LL_ ∧ hh_ = h0
set_option maxRecDepth 65536 in
set_option maxHeartbeats 40000000 in
theorem rmGV (l : Launch) (Z : State) (a0 : Array Value) (hw : ∀ d ∈ tables_1, d.before a0 Z = true) (ws : List Jvm.Cond) (o : Addr) (d : Addr) (h0 : Heap) (n0 : Nat) (Z0 : n0 ≤ h0.size) (BV : Fld Z h0 o "java/lang/AbstractStringBuilder" "value" "[B" (.ref d)) :
    MetFree l (⟨"java/lang/AbstractStringBuilder", "getValue", "()[B"⟩ : MethodName) (head1 (Jvm.Cond.code (⟨"java/lang/AbstractStringBuilder", "getValue", "()[B"⟩ : MethodName) jdk_68_method_64_code 1 (some (.array .byte)) :: ws) ({ frames := 0, cells := 0, slots := 0, locals := 0 } : Room)) (fun aa_ U => aa_ = #[(.ref o)] ∧ Z.Warmed39 U.vm ∧ U.heap = h0) (fun _ _ _ _ _ => True) (fun _ U oo_ UV_ => ∃ vv_ LL_, oo_ = .returned vv_ ∧ Q_rmGV Z o d h0 n0 vv_ UV_.heap LL_ ∧ FrameEnd U oo_ UV_ LL_ ({ frames := 0, cells := 0, slots := 0, locals := 0 } : Room).cells ({ frames := 0, cells := 0, slots := 0, locals := 0 } : Room).slots) := by
  refine MetFree.of_bodySF (plainFor_of_name pn_4) hisR ?_
  intro pg ev si mi args below meth ci s₁ Bd hml0 hP0 hK
  obtain ⟨rfl, hZ, hh⟩ := hP0
  have hx := Bd.exec
  have hby := Bd.bytes
  have hml : ci.maxLocals = 1 := hml0
  have hown : si.vm.findClass "java/lang/AbstractStringBuilder" = some mi.cls := findClass_of_methodNamed Bd.named
  have hnm := (name_of_methodNamed Bd.named Bd.method).1
  have X0 : Stand pg l ev ({ frames := 0, cells := 0, slots := 0, locals := 0 } : Room) si mi #[(.ref o)] below meth ci s₁ [] 0 0 := Stand.of_body Bd
  have e0 : s₁.heap = h0 := by rw [← hh, Bd.state]; rfl
  have N0 := Fr.nil n0
  refine Go.start (fun P hP => ?_)
  refine Go.st (fun t_ k_ => castTop (ef_rmGV mi o d) k_) (A := s₁.setTop (mkF mi 0 #[.val (.ref o)] [])) ?_
  show Go _ _ _ (s₁.setTop (mkF mi 0 #[.val (.ref o)] [])) _
  refine g_aloadN X0 hx hby dc23_0 rfl rfl ?_
  obtain ⟨T1, X1, e1, st1⟩ := getF X0 hx hZ hown (host := "") (Or.inl (hw _ (own_m 89 rfl))) Via.refl e0 BV (g := (mkF mi 1 #[.val (.ref o)] [(.ref o)])) rfl rfl (hb hby dc23_1)
  refine Go.st st1 ?_
  obtain ⟨fs, hr, hrun, hended, hW, hsame⟩ := X1.leave (v := some (.ref d)) (fun h => by rw [Bd.returns] at h; cases h) (BodyLoose.notSynchronized Bd)
  refine ⟨_, _, ?_, hP _ _ ⟨hrun, hended, _, _, rfl, ?_, ⟨_, rfl⟩, hW, hsame.mono (by decide) (by decide)⟩⟩
  · exact retOut X1 hx Bd.returns rfl (Or.inr (Or.inr (Or.inr (Or.inr ⟨rfl, rfl, rfl⟩)))) (hb hby dc23_4) hr
  · show (some (.ref d) : Option Value) = some (.ref d) ∧ Fr n0 _ ∧ T1.heap = h0
    rw [e1]
    exact ⟨rfl, N0, rfl⟩
theorem dc24_0 : decode jdk_68_method_6_code 0 = .ok (.aload_n 0, 1) := by decide +kernel
theorem dc24_1 : decode jdk_68_method_6_code 1 = .ok (.getfield 79, 3) := by decide +kernel
theorem dc24_4 : decode jdk_68_method_6_code 4 = .ok (.ireturn, 1) := by decide +kernel
theorem ef_rmAL (mi : MethodId) (o : Addr) (cnt : Int32) : entryFrame mi #[(.ref o)] 1 = mkF mi 0 #[.val (.ref o)] [] := by first | (simp [entryFrame, mkF, argsToLocals, Value.category]; done) | rfl
def Q_rmAL (Z : State) (o : Addr) (cnt : Int32) (h0 : Heap) (n0 : Nat) (vv_ : Option Value) (hh_ : Heap) (LL_ : List Loc) : Prop := vv_ = some (.int cnt) ∧ Fr n0 LL_ ∧ hh_ = h0
set_option maxRecDepth 65536 in
set_option maxHeartbeats 40000000 in
theorem rmAL (l : Launch) (Z : State) (a0 : Array Value) (hw : ∀ d ∈ tables_1, d.before a0 Z = true) (ws : List Jvm.Cond) (o : Addr) (cnt : Int32) (h0 : Heap) (n0 : Nat) (Z0 : n0 ≤ h0.size) (BE : Exa Z h0 o "java/lang/StringBuilder") (BN : Fld Z h0 o "java/lang/AbstractStringBuilder" "count" "I" (.int cnt)) :
    MetFree l (⟨"java/lang/AbstractStringBuilder", "length", "()I"⟩ : MethodName) (head1 (Jvm.Cond.code (⟨"java/lang/AbstractStringBuilder", "length", "()I"⟩ : MethodName) jdk_68_method_6_code 1 (some .int) :: ws) ({ frames := 0, cells := 0, slots := 0, locals := 0 } : Room)) (fun aa_ U => aa_ = #[(.ref o)] ∧ Z.Warmed39 U.vm ∧ U.heap = h0) (fun _ _ _ _ _ => True) (fun _ U oo_ UV_ => ∃ vv_ LL_, oo_ = .returned vv_ ∧ Q_rmAL Z o cnt h0 n0 vv_ UV_.heap LL_ ∧ FrameEnd U oo_ UV_ LL_ ({ frames := 0, cells := 0, slots := 0, locals := 0 } : Room).cells ({ frames := 0, cells := 0, slots := 0, locals := 0 } : Room).slots) := by
  refine MetFree.of_bodySF (plainFor_of_name pn_4) hisR ?_
  intro pg ev si mi args below meth ci s₁ Bd hml0 hP0 hK
  obtain ⟨rfl, hZ, hh⟩ := hP0
  have hx := Bd.exec
  have hby := Bd.bytes
  have hml : ci.maxLocals = 1 := hml0
  have hown : si.vm.findClass "java/lang/AbstractStringBuilder" = some mi.cls := findClass_of_methodNamed Bd.named
  have hnm := (name_of_methodNamed Bd.named Bd.method).1
  have X0 : Stand pg l ev ({ frames := 0, cells := 0, slots := 0, locals := 0 } : Room) si mi #[(.ref o)] below meth ci s₁ [] 0 0 := Stand.of_body Bd
  have e0 : s₁.heap = h0 := by rw [← hh, Bd.state]; rfl
  have N0 := Fr.nil n0
  refine Go.start (fun P hP => ?_)
  refine Go.st (fun t_ k_ => castTop (ef_rmAL mi o cnt) k_) (A := s₁.setTop (mkF mi 0 #[.val (.ref o)] [])) ?_
  show Go _ _ _ (s₁.setTop (mkF mi 0 #[.val (.ref o)] [])) _
  refine g_aloadN X0 hx hby dc24_0 rfl rfl ?_
  obtain ⟨T1, X1, e1, st1⟩ := getF X0 hx hZ hown (host := "") (Or.inl (hw _ (own_m 104 rfl))) Via.refl e0 BN (g := (mkF mi 1 #[.val (.ref o)] [(.ref o)])) rfl rfl (hb hby dc24_1)
  refine Go.st st1 ?_
  obtain ⟨fs, hr, hrun, hended, hW, hsame⟩ := X1.leave (v := some (.int cnt)) (fun h => by rw [Bd.returns] at h; cases h) (BodyLoose.notSynchronized Bd)
  refine ⟨_, _, ?_, hP _ _ ⟨hrun, hended, _, _, rfl, ?_, ⟨_, rfl⟩, hW, hsame.mono (by decide) (by decide)⟩⟩
  · exact retI X1 hx Bd.returns (hb hby dc24_4) hr
  · show (some (.int cnt) : Option Value) = some (.int cnt) ∧ Fr n0 _ ∧ T1.heap = h0
    rw [e1]
    exact ⟨rfl, N0, rfl⟩
theorem dc25_0 : decode jdk_67_method_93_code 0 = .ok (.aload_n 0, 1) := by decide +kernel
theorem dc25_1 : decode jdk_67_method_93_code 1 = .ok (.invokespecial 343, 3) := by decide +kernel
theorem dc25_4 : decode jdk_67_method_93_code 4 = .ok (.ireturn, 1) := by decide +kernel
theorem ef_rmSL (mi : MethodId) (o : Addr) (cnt : Int32) : entryFrame mi #[(.ref o)] 1 = mkF mi 0 #[.val (.ref o)] [] := by first | (simp [entryFrame, mkF, argsToLocals, Value.category]; done) | rfl
def Q_rmSL (Z : State) (o : Addr) (cnt : Int32) (h0 : Heap) (n0 : Nat) (vv_ : Option Value) (hh_ : Heap) (LL_ : List Loc) : Prop := vv_ = some (.int cnt) ∧ Fr n0 LL_ ∧ hh_ = h0
set_option maxRecDepth 65536 in
set_option maxHeartbeats 40000000 in
theorem rmSL (l : Launch) (Z : State) (a0 : Array Value) (hw : ∀ d ∈ tables_1, d.before a0 Z = true) (ws : List Jvm.Cond) (o : Addr) (cnt : Int32) (h0 : Heap) (n0 : Nat) (Z0 : n0 ≤ h0.size) (BE : Exa Z h0 o "java/lang/StringBuilder") (BN : Fld Z h0 o "java/lang/AbstractStringBuilder" "count" "I" (.int cnt)) :
    MetFree l (⟨"java/lang/StringBuilder", "length", "()I"⟩ : MethodName) (head1 (Jvm.Cond.code (⟨"java/lang/StringBuilder", "length", "()I"⟩ : MethodName) jdk_67_method_93_code 1 (some .int) :: ws) ({ frames := 1, cells := 0, slots := 0, locals := 12 } : Room)) (fun aa_ U => aa_ = #[(.ref o)] ∧ Z.Warmed39 U.vm ∧ U.heap = h0) (fun _ _ _ _ _ => True) (fun _ U oo_ UV_ => ∃ vv_ LL_, oo_ = .returned vv_ ∧ Q_rmSL Z o cnt h0 n0 vv_ UV_.heap LL_ ∧ FrameEnd U oo_ UV_ LL_ ({ frames := 1, cells := 0, slots := 0, locals := 12 } : Room).cells ({ frames := 1, cells := 0, slots := 0, locals := 12 } : Room).slots) := by
  refine MetFree.of_bodySF (plainFor_of_name pn_5) hisR ?_
  intro pg ev si mi args below meth ci s₁ Bd hml0 hP0 hK
  obtain ⟨rfl, hZ, hh⟩ := hP0
  have hx := Bd.exec
  have hby := Bd.bytes
  have hml : ci.maxLocals = 1 := hml0
  have hown : si.vm.findClass "java/lang/StringBuilder" = some mi.cls := findClass_of_methodNamed Bd.named
  have hnm := (name_of_methodNamed Bd.named Bd.method).1
  have X0 : Stand pg l ev ({ frames := 1, cells := 0, slots := 0, locals := 12 } : Room) si mi #[(.ref o)] below meth ci s₁ [] 0 0 := Stand.of_body Bd
  have e0 : s₁.heap = h0 := by rw [← hh, Bd.state]; rfl
  have N0 := Fr.nil n0
  refine Go.start (fun P hP => ?_)
  refine Go.st (fun t_ k_ => castTop (ef_rmSL mi o cnt) k_) (A := s₁.setTop (mkF mi 0 #[.val (.ref o)] [])) ?_
  show Go _ _ _ (s₁.setTop (mkF mi 0 #[.val (.ref o)] [])) _
  refine g_aloadN X0 hx hby dc25_0 rfl rfl ?_
  obtain ⟨_, _, ⟨T1, L1, k1, n1⟩, -, X1, ⟨Lc1, hQ1, l1, y1, z1⟩, st1⟩ := Jvm.RoadKit.superBack X0 hx hZ (y := (⟨"java/lang/AbstractStringBuilder", "length", "()I"⟩ : MethodName)) hown (hw _ (own_m 190 rfl)) (own_sameB (hw _ (own_m 186 rfl)) (hw _ (own_m 109 rfl)) rfl) (hw _ (own_m 186 rfl)) (hw _ (own_m 100 rfl)) (by decide) (backOf (W := 0) (rmAL l Z a0 hw [] o cnt h0 n0 Z0 BE BN) hZ (hw _ (own_m 191 rfl)) (hw _ (own_m 85 rfl)) (by decide) (by decide)) e0 (Ins.self BE) (g := (mkF mi 1 #[.val (.ref o)] [(.ref o)])) rfl (by rw [hml]; rfl) (hw _ (own_m 191 rfl)) (argsL := []) (rest := []) (lenOf pd_8 rfl) rfl (by show 2 * 0 + _ ≤ _; exact Nat.le_of_eq rfl) (hb hby dc25_1) (fun _ _ => ⟨rfl, e0, (by decide : 0 + 0 ≤ _), (by decide : 0 + 0 ≤ _)⟩)
  dsimp only [Pt.U, Pt.locs, Pt.cells, Pt.slots] at X1 l1 y1 z1 st1 hQ1
  subst y1 z1
  have X1 := own_cs X1 (cells' := 0) (slots' := 0) rfl rfl
  obtain ⟨rfl, N1q, e1⟩ := hQ1
  have N1 := own_fr l1 (Fr.app N0 N1q)
  refine Go.tr st1 ?_
  obtain ⟨fs, hr, hrun, hended, hW, hsame⟩ := X1.leave (v := some (.int cnt)) (fun h => by rw [Bd.returns] at h; cases h) (BodyLoose.notSynchronized Bd)
  refine ⟨_, _, ?_, hP _ _ ⟨hrun, hended, _, _, rfl, ?_, ⟨_, rfl⟩, hW, hsame.mono (by decide) (by decide)⟩⟩
  · exact retI X1 hx Bd.returns (hb hby dc25_4) hr
  · show (some (.int cnt) : Option Value) = some (.int cnt) ∧ Fr n0 _ ∧ T1.heap = h0
    rw [e1]
    exact ⟨rfl, N1, rfl⟩
theorem dc26_0 : decode jdk_65_method_132_code 0 = .ok (.iload_n 1, 1) := by decide +kernel
theorem dc26_1 : decode jdk_65_method_132_code 1 = .ok (.ifCond .ne 9, 3) := by decide +kernel
theorem dc26_4 : decode jdk_65_method_132_code 4 = .ok (.iload_n 2, 1) := by decide +kernel
theorem dc26_5 : decode jdk_65_method_132_code 5 = .ok (.aload_n 0, 1) := by decide +kernel
theorem dc26_6 : decode jdk_65_method_132_code 6 = .ok (.arraylength, 1) := by decide +kernel
theorem dc26_7 : decode jdk_65_method_132_code 7 = .ok (.if_icmp .eq 10, 3) := by decide +kernel
theorem dc26_17 : decode jdk_65_method_132_code 17 = .ok (.aload_n 0, 1) := by decide +kernel
theorem dc26_18 : decode jdk_65_method_132_code 18 = .ok (.invokevirtual 310, 3) := by decide +kernel
theorem dc26_21 : decode jdk_65_method_132_code 21 = .ok (.checkcast 311, 3) := by decide +kernel
theorem dc26_24 : decode jdk_65_method_132_code 24 = .ok (.areturn, 1) := by decide +kernel
theorem pn_6 : plainName "java/util/Arrays" = true := by first | (simp [plainName, overriddenIn]; done) | decide +kernel
theorem ef_rmCR (mi : MethodId) (d : Addr) (kd : ClassId) (c : Int32) (us : List Value) : entryFrame mi #[(.ref d), (.int 0), (.int c)] 3 = mkF mi 0 #[.val (.ref d), .val (.int 0), .val (.int c)] [] := by first | (simp [entryFrame, mkF, argsToLocals, Value.category]; done) | rfl
def Q_rmCR (Z : State) (d : Addr) (kd : ClassId) (c : Int32) (us : List Value) (h0 : Heap) (n0 : Nat) (vv_ : Option Value) (hh_ : Heap) (LL_ : List Loc) : Prop := ∃ (r : Addr) (kr : ClassId), vv_ = some (.ref r) ∧ Fr n0 LL_ ∧ Keep h0 hh_ [] ∧ h0.size ≤ r ∧ n0 ≤ r ∧ Arv Z hh_ r kr .byte c us (.int (0 : Int32)) ∧ Exa Z hh_ r "[B"
set_option maxRecDepth 65536 in
set_option maxHeartbeats 40000000 in
theorem rmCR (l : Launch) (Z : State) (a0 : Array Value) (hw : ∀ d ∈ tables_1, d.before a0 Z = true) (ws : List Jvm.Cond) (d : Addr) (kd : ClassId) (c : Int32) (us : List Value) (h0 : Heap) (n0 : Nat) (Z0 : n0 ≤ h0.size) (BA : Arv Z h0 d kd .byte c us (.int (0 : Int32))) (BB : Exa Z h0 d "[B") (hc19 : c.toNatClampNeg ≤ 19) :
    MetFree l (⟨"java/util/Arrays", "copyOfRange", "([BII)[B"⟩ : MethodName) (head1 (Jvm.Cond.code (⟨"java/util/Arrays", "copyOfRange", "([BII)[B"⟩ : MethodName) jdk_65_method_132_code 3 (some (.array .byte)) :: ws) ({ frames := 1, cells := 1, slots := 19, locals := 14 } : Room)) (fun aa_ U => aa_ = #[(.ref d), (.int 0), (.int c)] ∧ Z.Warmed39 U.vm ∧ U.heap = h0) (fun _ _ _ _ _ => True) (fun _ U oo_ UV_ => ∃ vv_ LL_, oo_ = .returned vv_ ∧ Q_rmCR Z d kd c us h0 n0 vv_ UV_.heap LL_ ∧ FrameEnd U oo_ UV_ LL_ ({ frames := 1, cells := 1, slots := 19, locals := 14 } : Room).cells ({ frames := 1, cells := 1, slots := 19, locals := 14 } : Room).slots) := by
  refine MetFree.of_bodySF (plainFor_of_name pn_6) hisR ?_
  intro pg ev si mi args below meth ci s₁ Bd hml0 hP0 hK
  obtain ⟨rfl, hZ, hh⟩ := hP0
  have hx := Bd.exec
  have hby := Bd.bytes
  have hml : ci.maxLocals = 3 := hml0
  have hown : si.vm.findClass "java/util/Arrays" = some mi.cls := findClass_of_methodNamed Bd.named
  have hnm := (name_of_methodNamed Bd.named Bd.method).1
  have X0 : Stand pg l ev ({ frames := 1, cells := 1, slots := 19, locals := 14 } : Room) si mi #[(.ref d), (.int 0), (.int c)] below meth ci s₁ [] 0 0 := Stand.of_body Bd
  have e0 : s₁.heap = h0 := by rw [← hh, Bd.state]; rfl
  have N0 := Fr.nil n0
  refine Go.start (fun P hP => ?_)
  refine Go.st (fun t_ k_ => castTop (ef_rmCR mi d kd c us) k_) (A := s₁.setTop (mkF mi 0 #[.val (.ref d), .val (.int 0), .val (.int c)] [])) ?_
  show Go _ _ _ (s₁.setTop (mkF mi 0 #[.val (.ref d), .val (.int 0), .val (.int c)] [])) _
  refine g_iloadN X0 hx hby dc26_0 rfl ?_
  refine g_ifNo X0 hx hby dc26_1 ((if0 _ _).trans (teq rfl).2) ?_
  refine g_iloadN X0 hx hby dc26_4 rfl ?_
  refine g_aloadN X0 hx hby dc26_5 rfl rfl ?_
  have ov1 := BA
  obtain ⟨cl1, Ar1, q1, S1, M1, H1, G1⟩ := ov1
  refine Go.st (X0.arraylength hx (by rw [e0]; exact Ar1.1) (State.isArrayOf_alike hZ.alike Ar1.2.1) (g := (mkF mi 6 #[.val (.ref d), .val (.int 0), .val (.int c)] [(.ref d), (.int c)])) rfl rfl (hb hby dc26_6)) ?_
  rw [len_of S1 M1]
  refine g_icmpYes X0 hx hby dc26_7 (teq rfl).1 (pc0 := 7) (pc' := 17) rfl (by decide) (by decide) ?_
  refine g_aloadN X0 hx hby dc26_17 rfl rfl ?_
  show Go _ _ _ (s₁.setTop (mkF mi 18 #[.val (.ref d), .val (.int 0), .val (.int c)] [(.ref d)])) _
  obtain ⟨T2, h2, X2, e2, E2, A2, EX2, st2⟩ := cloneH X0 hx hZ hown (hw _ (own_m 197 rfl)) (hw _ (own_m 198 rfl)) (hw _ (own_m 202 rfl)) (hw _ (own_m 200 rfl)) (hw _ (own_m 201 rfl)) (hw _ (own_m 203 rfl)) e0 BA.arh BB (g := (mkF mi 18 #[.val (.ref d), .val (.int 0), .val (.int c)] [(.ref d)])) rfl (by rw [hml]; rfl) rfl (hb hby dc26_18) (by decide) (W := 0) (by show 2 * 0 + _ ≤ _; exact Nat.le_of_eq rfl) (by decide) (cap := 19) hc19 (by decide) (by decide)
  obtain ⟨ob2, g2⟩ : ∃ z, z = h0.size := ⟨_, rfl⟩
  rw [← g2] at A2 EX2 st2
  have Zs3 : n0 ≤ h2.size := Nat.le_trans Z0 E2.1
  have KC3 : Keep h0 h2 [] := (Keep.refl h0 []).ext E2
  have g_ob2 : n0 ≤ ob2 := Nat.le_trans Z0 (Nat.le_of_eq g2.symm)
  have sz_ob2 : h0.size ≤ ob2 := Nat.le_trans (Keep.refl h0 []).1 (Nat.le_of_eq g2.symm)
  have V2 : Arv Z h2 ob2 kd .byte c us (.int (0 : Int32)) := A2
  refine Go.st st2 ?_
  show Go _ _ _ (T2.setTop (mkF mi 21 #[.val (.ref d), .val (.int 0), .val (.int c)] [(.ref ob2)])) _
  obtain ⟨T4, X4, e4, st4⟩ := castY X2 hx hZ hown (hw _ (own_m 204 rfl)) e2 (Ins.self EX2) (g := (mkF mi 21 #[.val (.ref d), .val (.int 0), .val (.int c)] [(.ref ob2)])) rfl rfl (hb hby dc26_21)
  refine Go.st st4 ?_
  obtain ⟨fs, hr, hrun, hended, hW, hsame⟩ := X4.leave (v := some (.ref ob2)) (fun h => by rw [Bd.returns] at h; cases h) (BodyLoose.notSynchronized Bd)
  refine ⟨_, _, ?_, hP _ _ ⟨hrun, hended, _, _, rfl, ?_, ⟨_, rfl⟩, hW, hsame.mono (by decide) (by decide)⟩⟩
  · exact retOut X4 hx Bd.returns rfl (Or.inr (Or.inr (Or.inr (Or.inr ⟨rfl, rfl, rfl⟩)))) (hb hby dc26_24) hr
  · show ∃ (r : Addr) (kr : ClassId), (some (.ref ob2) : Option Value) = some (.ref r) ∧ Fr n0 _ ∧ Keep h0 T4.heap [] ∧ h0.size ≤ r ∧ n0 ≤ r ∧ Arv Z T4.heap r kr .byte c us (.int (0 : Int32)) ∧ Exa Z T4.heap r "[B"
    rw [e4]
    exact ⟨ob2, kd, rfl, N0, KC3, sz_ob2, g_ob2, V2, EX2⟩
theorem dc27_0 : decode jdk_42_method_150_code 0 = .ok (.aload_n 0, 1) := by decide +kernel
theorem dc27_1 : decode jdk_42_method_150_code 1 = .ok (.invokespecial 1, 3) := by decide +kernel
theorem dc27_4 : decode jdk_42_method_150_code 4 = .ok (.aload_n 1, 1) := by decide +kernel
theorem dc27_5 : decode jdk_42_method_150_code 5 = .ok (.invokevirtual 552, 3) := by decide +kernel
theorem pd_15 : parseMethodDescriptor "()[B" = some ⟨[], some (.array .byte)⟩ := by decide +kernel
theorem dc27_8 : decode jdk_42_method_150_code 8 = .ok (.astore_n 3, 1) := by decide +kernel
theorem dc27_9 : decode jdk_42_method_150_code 9 = .ok (.aload_n 1, 1) := by decide +kernel
theorem dc27_10 : decode jdk_42_method_150_code 10 = .ok (.invokevirtual 549, 3) := by decide +kernel
theorem dc27_13 : decode jdk_42_method_150_code 13 = .ok (.istore 4, 2) := by decide +kernel
theorem dc27_15 : decode jdk_42_method_150_code 15 = .ok (.aload_n 1, 1) := by decide +kernel
theorem dc27_16 : decode jdk_42_method_150_code 16 = .ok (.invokevirtual 1047, 3) := by decide +kernel
theorem dc27_19 : decode jdk_42_method_150_code 19 = .ok (.ifCond .eq 22, 3) := by decide +kernel
theorem dc27_22 : decode jdk_42_method_150_code 22 = .ok (.aload_n 0, 1) := by decide +kernel
theorem dc27_23 : decode jdk_42_method_150_code 23 = .ok (.iconst 0, 1) := by decide +kernel
theorem dc27_24 : decode jdk_42_method_150_code 24 = .ok (.putfield 15, 3) := by decide +kernel
theorem dc27_27 : decode jdk_42_method_150_code 27 = .ok (.aload_n 0, 1) := by decide +kernel
theorem dc27_28 : decode jdk_42_method_150_code 28 = .ok (.aload_n 3, 1) := by decide +kernel
theorem dc27_29 : decode jdk_42_method_150_code 29 = .ok (.iconst 0, 1) := by decide +kernel
theorem dc27_30 : decode jdk_42_method_150_code 30 = .ok (.iload 4, 2) := by decide +kernel
theorem dc27_32 : decode jdk_42_method_150_code 32 = .ok (.invokestatic 54, 3) := by decide +kernel
theorem pd_16 : parseMethodDescriptor "([BII)[B" = some ⟨[(.array .byte), .int, .int], some (.array .byte)⟩ := by decide +kernel
theorem dc27_35 : decode jdk_42_method_150_code 35 = .ok (.putfield 9, 3) := by decide +kernel
theorem dc27_38 : decode jdk_42_method_150_code 38 = .ok (.goto 59, 3) := by decide +kernel
theorem dc27_97 : decode jdk_42_method_150_code 97 = .ok (.return_, 1) := by decide +kernel
theorem ef_rmSX (mi : MethodId) (s : Addr) (o : Addr) (d : Addr) (kd : ClassId) (c : Int32) (E : List Int32) (cz : Int32) : entryFrame mi #[(.ref s), (.ref o), .null] 5 = mkF mi 0 #[.val (.ref s), .val (.ref o), .val .null, .unset, .unset] [] := by first | (simp [entryFrame, mkF, argsToLocals, Value.category]; done) | rfl
def Q_rmSX (Z : State) (s : Addr) (o : Addr) (d : Addr) (kd : ClassId) (c : Int32) (E : List Int32) (cz : Int32) (h0 : Heap) (n0 : Nat) (vv_ : Option Value) (hh_ : Heap) (LL_ : List Loc) : Prop := vv_ = none ∧ Fr n0 LL_ ∧ Keep h0 hh_ [s] ∧ ∃ (b : Addr) (kb : ClassId), Exa Z hh_ s "java/lang/String" ∧ Fld Z hh_ s "java/lang/String" "coder" "B" (.int (0 : Int32)) ∧ Fld Z hh_ s "java/lang/String" "value" "[B" (.ref b) ∧ Arv Z hh_ b kb .byte c (E.map Value.int) (.int (0 : Int32)) ∧ Exa Z hh_ b "[B"
set_option maxRecDepth 65536 in
set_option maxHeartbeats 40000000 in
theorem rmSX (l : Launch) (Z : State) (a0 : Array Value) (hw : ∀ d ∈ tables_1, d.before a0 Z = true) (ws : List Jvm.Cond) (s : Addr) (o : Addr) (d : Addr) (kd : ClassId) (c : Int32) (E : List Int32) (cz : Int32) (h0 : Heap) (n0 : Nat) (Z0 : n0 ≤ h0.size) (BE : Exa Z h0 o "java/lang/StringBuilder") (BV : Fld Z h0 o "java/lang/AbstractStringBuilder" "value" "[B" (.ref d)) (BC : Fld Z h0 o "java/lang/AbstractStringBuilder" "coder" "B" (.int (0 : Int32))) (BN : Fld Z h0 o "java/lang/AbstractStringBuilder" "count" "I" (.int c)) (BA : Arv Z h0 d kd .byte c (E.map Value.int) (.int (0 : Int32))) (BB : Exa Z h0 d "[B") (E0 : Exa Z h0 s "java/lang/String") (F1 : Fld Z h0 s "java/lang/String" "coder" "B" (.int (0 : Int32))) (F2 : Fld Z h0 s "java/lang/String" "value" "[B" .null) (g_s : n0 ≤ s) (n_os : o ≠ s) (n_ds : d ≠ s) (hc19 : c.toNatClampNeg ≤ 19) (SC : Sta Z h0 "java/lang/String" "COMPACT_STRINGS" "Z" (.int cz)) (hcz : ¬ (cz = (0 : Int32))) :
    MetFree l (⟨"java/lang/String", "<init>", "(Ljava/lang/AbstractStringBuilder;Ljava/lang/Void;)V"⟩ : MethodName) (head1 (Jvm.Cond.code (⟨"java/lang/String", "<init>", "(Ljava/lang/AbstractStringBuilder;Ljava/lang/Void;)V"⟩ : MethodName) jdk_42_method_150_code 5 none :: ws) ({ frames := 2, cells := 1, slots := 19, locals := 29 } : Room)) (fun aa_ U => aa_ = #[(.ref s), (.ref o), .null] ∧ Z.Warmed39 U.vm ∧ U.heap = h0) (fun _ _ _ _ _ => True) (fun _ U oo_ UV_ => ∃ vv_ LL_, oo_ = .returned vv_ ∧ Q_rmSX Z s o d kd c E cz h0 n0 vv_ UV_.heap LL_ ∧ FrameEnd U oo_ UV_ LL_ ({ frames := 2, cells := 1, slots := 19, locals := 29 } : Room).cells ({ frames := 2, cells := 1, slots := 19, locals := 29 } : Room).slots) := by
  refine MetFree.of_bodySF (plainFor_of_name pn_0) hisR ?_
  intro pg ev si mi args below meth ci s₁ Bd hml0 hP0 hK
  obtain ⟨rfl, hZ, hh⟩ := hP0
  have hx := Bd.exec
  have hby := Bd.bytes
  have hml : ci.maxLocals = 5 := hml0
  have hown : si.vm.findClass "java/lang/String" = some mi.cls := findClass_of_methodNamed Bd.named
  have hnm := (name_of_methodNamed Bd.named Bd.method).1
  have X0 : Stand pg l ev ({ frames := 2, cells := 1, slots := 19, locals := 29 } : Room) si mi #[(.ref s), (.ref o), .null] below meth ci s₁ [] 0 0 := Stand.of_body Bd
  have e0 : s₁.heap = h0 := by rw [← hh, Bd.state]; rfl
  have N0 := Fr.nil n0
  refine Go.start (fun P hP => ?_)
  refine Go.st (fun t_ k_ => castTop (ef_rmSX mi s o d kd c E cz) k_) (A := s₁.setTop (mkF mi 0 #[.val (.ref s), .val (.ref o), .val .null, .unset, .unset] [])) ?_
  show Go _ _ _ (s₁.setTop (mkF mi 0 #[.val (.ref s), .val (.ref o), .val .null, .unset, .unset] [])) _
  refine g_aloadN X0 hx hby dc27_0 rfl rfl ?_
  obtain ⟨T1, X1, e1, st1⟩ := initO X0 hx hZ hown (hw _ (own_m 178 rfl)) (hw _ (own_m 18 rfl)) (hw _ (own_m 19 rfl)) e0 (g := (mkF mi 1 #[.val (.ref s), .val (.ref o), .val .null, .unset, .unset] [(.ref s)])) rfl (by rw [hml]; rfl) rfl (hb hby dc27_1) (by decide) (W := 0) (by show 2 * 0 + _ ≤ _; exact Nat.le_of_eq rfl) (by decide)
  refine Go.st st1 ?_
  refine g_aloadN X1 hx hby dc27_4 rfl rfl ?_
  obtain ⟨cq2, kq2, q2a, q2b, q2c⟩ := isOf hZ e1 BE
  obtain ⟨_, _, ⟨T2, L2, k2, n2⟩, -, X2, ⟨Lc2, hQ2, l2, y2, z2⟩, st2⟩ := X1.virtualBack hx (y := (⟨"java/lang/AbstractStringBuilder", "getValue", "()[B"⟩ : MethodName)) (z := (⟨"java/lang/AbstractStringBuilder", "getValue", "()[B"⟩ : MethodName)) hown (mvT hZ (hw _ (own_m 179 rfl))) (mvT hZ (hw _ (own_m 180 rfl))) (notFace_of_selects (args := #[]) (mvT hZ (hw _ (own_m 182 rfl)))) (mvT hZ (hw _ (own_m 182 rfl))) (mvT hZ (hw _ (own_m 181 rfl))) (by decide) (backOf (W := 0) (rmGV l Z a0 hw [] o d h0 n0 Z0 BV) hZ (hw _ (own_m 183 rfl)) (hw _ (own_m 85 rfl)) (by decide) (by decide)) q2a q2c (g := (mkF mi 5 #[.val (.ref s), .val (.ref o), .val .null, .unset, .unset] [(.ref o)])) rfl (by rw [hml]; rfl) (Steps.refl _) (argsL := []) (rest := []) (lenOf pd_15 rfl) rfl (by show 2 * 0 + _ ≤ _; exact Nat.le_of_eq rfl) (hb hby dc27_5) (fun _ _ => ⟨rfl, e1, (by decide : 0 + 0 ≤ _), (by decide : 0 + 0 ≤ _)⟩)
  dsimp only [Pt.U, Pt.locs, Pt.cells, Pt.slots] at X2 l2 y2 z2 st2 hQ2
  subst y2 z2
  have X2 := own_cs X2 (cells' := 0) (slots' := 0) rfl rfl
  obtain ⟨rfl, N2q, e2⟩ := hQ2
  have N2 := own_fr l2 (Fr.app N0 N2q)
  refine Go.tr st2 ?_
  refine g_astoreN X2 hx hby dc27_8 rfl (l' := #[.val (.ref s), .val (.ref o), .val .null, .val (.ref d), .unset]) rfl ?_
  refine g_aloadN X2 hx hby dc27_9 rfl rfl ?_
  obtain ⟨cq3, kq3, q3a, q3b, q3c⟩ := isOf hZ e2 BE
  obtain ⟨_, _, ⟨T3, L3, k3, n3⟩, -, X3, ⟨Lc3, hQ3, l3, y3, z3⟩, st3⟩ := X2.virtualBack hx (y := (⟨"java/lang/AbstractStringBuilder", "length", "()I"⟩ : MethodName)) (z := (⟨"java/lang/StringBuilder", "length", "()I"⟩ : MethodName)) hown (mvT hZ (hw _ (own_m 184 rfl))) (mvT hZ (hw _ (own_m 185 rfl))) (own_nfB (args := #[]) (mvT hZ (hw _ (own_m 109 rfl))) rfl) (mvT hZ (hw _ (own_m 187 rfl))) (mvT hZ (hw _ (own_m 188 rfl))) (by decide) (backOf (W := 0) (rmSL l Z a0 hw [] o c h0 n0 Z0 BE BN) hZ (hw _ (own_m 189 rfl)) (hw _ (own_m 63 rfl)) (by decide) (by decide)) q3a q3c (g := (mkF mi 10 #[.val (.ref s), .val (.ref o), .val .null, .val (.ref d), .unset] [(.ref o)])) rfl (by rw [hml]; rfl) (Steps.refl _) (argsL := []) (rest := []) (lenOf pd_8 rfl) rfl (by show 2 * 0 + _ ≤ _; exact Nat.le_of_eq rfl) (hb hby dc27_10) (fun _ _ => ⟨rfl, e2, (by decide : 0 + 0 ≤ _), (by decide : 0 + 0 ≤ _)⟩)
  dsimp only [Pt.U, Pt.locs, Pt.cells, Pt.slots] at X3 l3 y3 z3 st3 hQ3
  subst y3 z3
  have X3 := own_cs X3 (cells' := 0) (slots' := 0) rfl rfl
  obtain ⟨rfl, N3q, e3⟩ := hQ3
  have N3 := own_fr l3 (Fr.app N2 N3q)
  refine Go.tr st3 ?_
  refine g_istore X3 hx hby dc27_13 (l' := #[.val (.ref s), .val (.ref o), .val .null, .val (.ref d), .val (.int c)]) rfl ?_
  refine g_aloadN X3 hx hby dc27_15 rfl rfl ?_
  obtain ⟨cq4, kq4, q4a, q4b, q4c⟩ := isOf hZ e3 BE
  obtain ⟨_, _, ⟨T4, L4, k4, n4⟩, -, X4, ⟨Lc4, hQ4, l4, y4, z4⟩, st4⟩ := X3.virtualBack hx (y := (⟨"java/lang/AbstractStringBuilder", "isLatin1", "()Z"⟩ : MethodName)) (z := (⟨"java/lang/AbstractStringBuilder", "isLatin1", "()Z"⟩ : MethodName)) hown (mvT hZ (hw _ (own_m 192 rfl))) (mvT hZ (hw _ (own_m 158 rfl))) (notFace_of_selects (args := #[]) (mvT hZ (hw _ (own_m 160 rfl)))) (mvT hZ (hw _ (own_m 160 rfl))) (mvT hZ (hw _ (own_m 159 rfl))) (by decide) (backOf (W := 0) (rmB1 l Z a0 hw [] o cz h0 n0 Z0 BC SC hcz) hZ (hw _ (own_m 161 rfl)) (hw _ (own_m 85 rfl)) (by decide) (by decide)) q4a q4c (g := (mkF mi 16 #[.val (.ref s), .val (.ref o), .val .null, .val (.ref d), .val (.int c)] [(.ref o)])) rfl (by rw [hml]; rfl) (Steps.refl _) (argsL := []) (rest := []) (lenOf pd_3 rfl) rfl (by show 2 * 0 + _ ≤ _; exact Nat.le_of_eq rfl) (hb hby dc27_16) (fun _ _ => ⟨rfl, e3, (by decide : 0 + 0 ≤ _), (by decide : 0 + 0 ≤ _)⟩)
  dsimp only [Pt.U, Pt.locs, Pt.cells, Pt.slots] at X4 l4 y4 z4 st4 hQ4
  subst y4 z4
  have X4 := own_cs X4 (cells' := 0) (slots' := 0) rfl rfl
  obtain ⟨rfl, N4q, e4⟩ := hQ4
  have N4 := own_fr l4 (Fr.app N3 N4q)
  refine Go.tr st4 ?_
  refine g_ifNo X4 hx hby dc27_19 ((if0 _ _).trans (feq (by decide)).1) ?_
  refine g_aloadN X4 hx hby dc27_22 rfl rfl ?_
  refine g_iconst X4 hx hby dc27_23 (v := 0) rfl ?_
  obtain ⟨T5, h5, X5, e5, W5, st5⟩ := putFN X4 hx hZ hown (hw _ (own_m 47 rfl)) Via.refl e4 F1 E0 (Or.inr ⟨(hw _ (own_m 11 rfl)), rfl, hnm⟩) (hw _ (own_m 8 rfl)) (ty := .byte) (v' := (.int 0)) (by decide) rfl (by decide) (g := (mkF mi 24 #[.val (.ref s), .val (.ref o), .val .null, .val (.ref d), .val (.int c)] [(.int 0), (.ref s)])) rfl rfl (hb hby dc27_24)
  have Zs6 : n0 ≤ h5.size := Nat.le_trans Z0 (Keep.of_wr W5).1
  have KC6 : Keep h0 h5 [s] := (Keep.refl h0 [s]).wr W5 (Or.inl (List.mem_of_getElem? (i := 0) rfl))
  have N6 := Fr.snoc X5 N4 g_s
  have F5 : Fld Z h5 s "java/lang/String" "coder" "B" (.int 0) := F1.same W5
  refine Go.st st5 ?_
  refine g_aloadN X5 hx hby dc27_27 rfl rfl ?_
  refine g_aloadN X5 hx hby dc27_28 rfl rfl ?_
  refine g_iconst X5 hx hby dc27_29 (v := 0) rfl ?_
  refine g_iload X5 hx hby dc27_30 rfl ?_
  have f8 := (BA.other W5 n_ds)
  have f9 := (BB.wr W5)
  obtain ⟨_, _, ⟨T7, L7, k7, n7⟩, -, X7, ⟨Lc7, hQ7, l7, y7, z7⟩, st7⟩ := Jvm.LawKit.callS X5 hx (y := (⟨"java/util/Arrays", "copyOfRange", "([BII)[B"⟩ : MethodName)) hown (mvT hZ (hw _ (own_m 193 rfl))) (mvT hZ (hw _ (own_m 194 rfl))) (mvT hZ (hw _ (own_m 195 rfl))) (mvT hZ (hw _ (own_m 196 rfl))) (by decide) (backOf (W := 1) (rmCR l Z a0 hw [] d kd c (E.map Value.int) h5 n0 Zs6 f8 f9 hc19) hZ (hw _ (own_m 196 rfl)) (hw _ (own_m 195 rfl)) (by decide) (by decide)) (g := (mkF mi 32 #[.val (.ref s), .val (.ref o), .val .null, .val (.ref d), .val (.int c)] [(.int c), (.int 0), (.ref d), (.ref s)])) rfl (by rw [hml]; rfl) (argsL := [(.ref d), (.int 0), (.int c)]) (rest := [(.ref s)]) (lenOf pd_16 rfl) rfl (by show 2 * 0 + _ ≤ _; exact Nat.le_of_eq rfl) (hb hby dc27_32) (fun _ _ => ⟨rfl, e5, (by decide : 0 + 1 ≤ _), (by decide : 0 + 19 ≤ _)⟩)
  dsimp only [Pt.U, Pt.locs, Pt.cells, Pt.slots] at X7 l7 y7 z7 st7 hQ7
  subst y7 z7
  have X7 := own_cs X7 (cells' := 1) (slots' := 19) rfl rfl
  obtain ⟨h7, e7⟩ : ∃ z, T7.heap = z := ⟨_, rfl⟩
  rw [e7] at hQ7
  obtain ⟨r7, kr7, rfl, N7q, K7, z_r7, g_r7, V_r7, E_r7⟩ := hQ7
  have N7 := own_fr l7 (Fr.app N6 N7q)
  have Zs10 : n0 ≤ h7.size := Nat.le_trans Zs6 K7.1
  have KC10 : Keep h0 h7 [s] := KC6.trans K7 all0
  have sz_r7 : h0.size ≤ r7 := Nat.le_trans KC6.1 z_r7
  refine Go.st st7 ?_
  have f11 := ((F2.other W5 (Or.inr (slot_ne (Or.inr (hw _ (own_m 10 rfl))) (Or.inr (hw _ (own_m 11 rfl))) (by decide) (t := (.array .byte)) (t' := .byte) (by decide) (by decide)))).keep K7 nin0)
  have f12 := ((E0.wr W5).keep K7)
  obtain ⟨T13, h13, X13, e13, W13, st13⟩ := putF X7 hx hZ hown (host := "") (Or.inl (hw _ (own_m 48 rfl))) Via.refl e7 f11 f12 (Or.inr ⟨(hw _ (own_m 10 rfl)), rfl, hnm⟩) (hw _ (own_m 8 rfl)) (ty := (.array .byte)) (by decide) rfl rfl (g := (mkF mi 35 #[.val (.ref s), .val (.ref o), .val .null, .val (.ref d), .val (.int c)] [(.ref r7), (.ref s)])) rfl rfl (hb hby dc27_35)
  have Zs14 : n0 ≤ h13.size := Nat.le_trans Zs10 (Keep.of_wr W13).1
  have KC14 : Keep h0 h13 [s] := KC10.wr W13 (Or.inl (List.mem_of_getElem? (i := 0) rfl))
  have N14 := Fr.snoc X13 N7 g_s
  have F13 : Fld Z h13 s "java/lang/String" "value" "[B" (.ref r7) := f11.same W13
  refine Go.st st13 ?_
  refine g_goto X13 hx hby dc27_38 (pc0 := 38) (pc' := 97) rfl (by decide) (by decide) ?_
  obtain ⟨fs, hr, hrun, hended, hW, hsame⟩ := X13.leave (v := none) (fun _ => rfl) (BodyLoose.notSynchronized Bd)
  have f15 := (f12.wr W13)
  have f16 := ((F5.keep K7 nin0).other W13 (Or.inr (slot_ne (Or.inr (hw _ (own_m 11 rfl))) (Or.inr (hw _ (own_m 10 rfl))) (by decide) (t := .byte) (t' := (.array .byte)) (by decide) (by decide))))
  have ne_s_r7 : s ≠ r7 := Nat.ne_of_lt (Nat.lt_of_lt_of_le (E0.wr W5).lt z_r7)
  have f17 := (V_r7.other W13 (Ne.symm ne_s_r7))
  have f18 := (E_r7.wr W13)
  refine ⟨_, _, ?_, hP _ _ ⟨hrun, hended, _, _, rfl, ?_, ⟨_, rfl⟩, hW, hsame.mono (by decide) (by decide)⟩⟩
  · exact X13.returnOut hx Bd.returns (hb hby dc27_97) hr
  · show (none : Option Value) = none ∧ Fr n0 _ ∧ Keep h0 T13.heap [s] ∧ ∃ (b : Addr) (kb : ClassId), Exa Z T13.heap s "java/lang/String" ∧ Fld Z T13.heap s "java/lang/String" "coder" "B" (.int (0 : Int32)) ∧ Fld Z T13.heap s "java/lang/String" "value" "[B" (.ref b) ∧ Arv Z T13.heap b kb .byte c (E.map Value.int) (.int (0 : Int32)) ∧ Exa Z T13.heap b "[B"
    rw [e13]
    exact ⟨rfl, N14, KC14, r7, kr7, f15, f16, F13, f17, f18⟩
theorem dc28_0 : decode jdk_42_method_53_code 0 = .ok (.aload_n 0, 1) := by decide +kernel
theorem dc28_1 : decode jdk_42_method_53_code 1 = .ok (.aload_n 1, 1) := by decide +kernel
theorem dc28_2 : decode jdk_42_method_53_code 2 = .ok (.aconst_null, 1) := by decide +kernel
theorem dc28_3 : decode jdk_42_method_53_code 3 = .ok (.invokespecial 489, 3) := by decide +kernel
theorem pd_17 : parseMethodDescriptor "(Ljava/lang/AbstractStringBuilder;Ljava/lang/Void;)V" = some ⟨[(.object "java/lang/AbstractStringBuilder"), (.object "java/lang/Void")], none⟩ := by decide +kernel
theorem dc28_6 : decode jdk_42_method_53_code 6 = .ok (.return_, 1) := by decide +kernel
theorem ef_rmSY (mi : MethodId) (s : Addr) (o : Addr) (d : Addr) (kd : ClassId) (c : Int32) (E : List Int32) (cz : Int32) : entryFrame mi #[(.ref s), (.ref o)] 2 = mkF mi 0 #[.val (.ref s), .val (.ref o)] [] := by first | (simp [entryFrame, mkF, argsToLocals, Value.category]; done) | rfl
def Q_rmSY (Z : State) (s : Addr) (o : Addr) (d : Addr) (kd : ClassId) (c : Int32) (E : List Int32) (cz : Int32) (h0 : Heap) (n0 : Nat) (vv_ : Option Value) (hh_ : Heap) (LL_ : List Loc) : Prop := vv_ = none ∧ Fr n0 LL_ ∧ Keep h0 hh_ [s] ∧ ∃ (b : Addr) (kb : ClassId), Exa Z hh_ s "java/lang/String" ∧ Fld Z hh_ s "java/lang/String" "coder" "B" (.int (0 : Int32)) ∧ Fld Z hh_ s "java/lang/String" "value" "[B" (.ref b) ∧ Arv Z hh_ b kb .byte c (E.map Value.int) (.int (0 : Int32)) ∧ Exa Z hh_ b "[B"
set_option maxRecDepth 65536 in
set_option maxHeartbeats 40000000 in
theorem rmSY (l : Launch) (Z : State) (a0 : Array Value) (hw : ∀ d ∈ tables_1, d.before a0 Z = true) (ws : List Jvm.Cond) (s : Addr) (o : Addr) (d : Addr) (kd : ClassId) (c : Int32) (E : List Int32) (cz : Int32) (h0 : Heap) (n0 : Nat) (Z0 : n0 ≤ h0.size) (BE : Exa Z h0 o "java/lang/StringBuilder") (BV : Fld Z h0 o "java/lang/AbstractStringBuilder" "value" "[B" (.ref d)) (BC : Fld Z h0 o "java/lang/AbstractStringBuilder" "coder" "B" (.int (0 : Int32))) (BN : Fld Z h0 o "java/lang/AbstractStringBuilder" "count" "I" (.int c)) (BA : Arv Z h0 d kd .byte c (E.map Value.int) (.int (0 : Int32))) (BB : Exa Z h0 d "[B") (E0 : Exa Z h0 s "java/lang/String") (F1 : Fld Z h0 s "java/lang/String" "coder" "B" (.int (0 : Int32))) (F2 : Fld Z h0 s "java/lang/String" "value" "[B" .null) (g_s : n0 ≤ s) (n_os : o ≠ s) (n_ds : d ≠ s) (hc19 : c.toNatClampNeg ≤ 19) (SC : Sta Z h0 "java/lang/String" "COMPACT_STRINGS" "Z" (.int cz)) (hcz : ¬ (cz = (0 : Int32))) :
    MetFree l (⟨"java/lang/String", "<init>", "(Ljava/lang/StringBuilder;)V"⟩ : MethodName) (head1 (Jvm.Cond.code (⟨"java/lang/String", "<init>", "(Ljava/lang/StringBuilder;)V"⟩ : MethodName) jdk_42_method_53_code 2 none :: ws) ({ frames := 3, cells := 1, slots := 19, locals := 45 } : Room)) (fun aa_ U => aa_ = #[(.ref s), (.ref o)] ∧ Z.Warmed39 U.vm ∧ U.heap = h0) (fun _ _ _ _ _ => True) (fun _ U oo_ UV_ => ∃ vv_ LL_, oo_ = .returned vv_ ∧ Q_rmSY Z s o d kd c E cz h0 n0 vv_ UV_.heap LL_ ∧ FrameEnd U oo_ UV_ LL_ ({ frames := 3, cells := 1, slots := 19, locals := 45 } : Room).cells ({ frames := 3, cells := 1, slots := 19, locals := 45 } : Room).slots) := by
  refine MetFree.of_bodySF (plainFor_of_name pn_0) hisR ?_
  intro pg ev si mi args below meth ci s₁ Bd hml0 hP0 hK
  obtain ⟨rfl, hZ, hh⟩ := hP0
  have hx := Bd.exec
  have hby := Bd.bytes
  have hml : ci.maxLocals = 2 := hml0
  have hown : si.vm.findClass "java/lang/String" = some mi.cls := findClass_of_methodNamed Bd.named
  have hnm := (name_of_methodNamed Bd.named Bd.method).1
  have X0 : Stand pg l ev ({ frames := 3, cells := 1, slots := 19, locals := 45 } : Room) si mi #[(.ref s), (.ref o)] below meth ci s₁ [] 0 0 := Stand.of_body Bd
  have e0 : s₁.heap = h0 := by rw [← hh, Bd.state]; rfl
  have N0 := Fr.nil n0
  refine Go.start (fun P hP => ?_)
  refine Go.st (fun t_ k_ => castTop (ef_rmSY mi s o d kd c E cz) k_) (A := s₁.setTop (mkF mi 0 #[.val (.ref s), .val (.ref o)] [])) ?_
  show Go _ _ _ (s₁.setTop (mkF mi 0 #[.val (.ref s), .val (.ref o)] [])) _
  refine g_aloadN X0 hx hby dc28_0 rfl rfl ?_
  refine g_aloadN X0 hx hby dc28_1 rfl rfl ?_
  refine Go.s (XS.aconstNull X0.here hx rfl (hb hby dc28_2)) ?_
  obtain ⟨_, _, ⟨T1, L1, k1, n1⟩, -, X1, ⟨Lc1, hQ1, l1, y1, z1⟩, st1⟩ := X0.specialBack hx (y := (⟨"java/lang/String", "<init>", "(Ljava/lang/AbstractStringBuilder;Ljava/lang/Void;)V"⟩ : MethodName)) rfl hown (mvT hZ (hw _ (own_m 175 rfl))) (mvT hZ (hw _ (own_m 176 rfl))) (mvT hZ (hw _ (own_m 177 rfl))) (by decide) (backOf (W := 0) (rmSX l Z a0 hw [] s o d kd c E cz h0 n0 Z0 BE BV BC BN BA BB E0 F1 F2 g_s n_os n_ds hc19 SC hcz) hZ (hw _ (own_m 177 rfl)) (hw _ (own_m 7 rfl)) (by decide) (by decide)) (g := (mkF mi 3 #[.val (.ref s), .val (.ref o)] [.null, (.ref o), (.ref s)])) rfl (by rw [hml]; rfl) (Steps.refl _) (a := s) (argsL := [(.ref o), .null]) (rest := []) (lenOf pd_17 rfl) rfl (by show 2 * 0 + _ ≤ _; exact Nat.le_of_eq rfl) (hb hby dc28_3) (fun _ _ => ⟨rfl, e0, (by decide : 0 + 1 ≤ _), (by decide : 0 + 19 ≤ _)⟩)
  dsimp only [Pt.U, Pt.locs, Pt.cells, Pt.slots] at X1 l1 y1 z1 st1 hQ1
  subst y1 z1
  have X1 := own_cs X1 (cells' := 1) (slots' := 19) rfl rfl
  obtain ⟨h1, e1⟩ : ∃ z, T1.heap = z := ⟨_, rfl⟩
  rw [e1] at hQ1
  obtain ⟨rfl, N1q, K1, b1, kb1, SE1, SCo1, SVa1, SAr1, SEb1⟩ := hQ1
  have N1 := own_fr l1 (Fr.app N0 N1q)
  have Zs2 : n0 ≤ h1.size := Nat.le_trans Z0 K1.1
  have KC2 : Keep h0 h1 [s] := (Keep.refl h0 [s]).trans K1 (allS (P := fun x => x ∈ [s] ∨ h0.size ≤ x) (Or.inl (List.mem_of_getElem? (i := 0) rfl)) all0)
  refine Go.tr st1 ?_
  obtain ⟨fs, hr, hrun, hended, hW, hsame⟩ := X1.leave (v := none) (fun _ => rfl) (BodyLoose.notSynchronized Bd)
  refine ⟨_, _, ?_, hP _ _ ⟨hrun, hended, _, _, rfl, ?_, ⟨_, rfl⟩, hW, hsame.mono (by decide) (by decide)⟩⟩
  · exact X1.returnOut hx Bd.returns (hb hby dc28_6) hr
  · show (none : Option Value) = none ∧ Fr n0 _ ∧ Keep h0 T1.heap [s] ∧ ∃ (b : Addr) (kb : ClassId), Exa Z T1.heap s "java/lang/String" ∧ Fld Z T1.heap s "java/lang/String" "coder" "B" (.int (0 : Int32)) ∧ Fld Z T1.heap s "java/lang/String" "value" "[B" (.ref b) ∧ Arv Z T1.heap b kb .byte c (E.map Value.int) (.int (0 : Int32)) ∧ Exa Z T1.heap b "[B"
    rw [e1]
    exact ⟨rfl, N1, KC2, b1, kb1, SE1, SCo1, SVa1, SAr1, SEb1⟩
theorem dc29_0 : decode jdk_67_method_42_code 0 = .ok (.new 18, 3) := by decide +kernel
theorem dc29_3 : decode jdk_67_method_42_code 3 = .ok (.dup, 1) := by decide +kernel
theorem dc29_4 : decode jdk_67_method_42_code 4 = .ok (.aload_n 0, 1) := by decide +kernel
theorem dc29_5 : decode jdk_67_method_42_code 5 = .ok (.invokespecial 137, 3) := by decide +kernel
theorem pd_18 : parseMethodDescriptor "(Ljava/lang/StringBuilder;)V" = some ⟨[(.object "java/lang/StringBuilder")], none⟩ := by decide +kernel
theorem dc29_8 : decode jdk_67_method_42_code 8 = .ok (.areturn, 1) := by decide +kernel
theorem ef_rmTS (mi : MethodId) (o : Addr) (d : Addr) (kd : ClassId) (c : Int32) (E : List Int32) (cz : Int32) : entryFrame mi #[(.ref o)] 1 = mkF mi 0 #[.val (.ref o)] [] := by first | (simp [entryFrame, mkF, argsToLocals, Value.category]; done) | rfl
def Q_rmTS (Z : State) (o : Addr) (d : Addr) (kd : ClassId) (c : Int32) (E : List Int32) (cz : Int32) (h0 : Heap) (n0 : Nat) (vv_ : Option Value) (hh_ : Heap) (LL_ : List Loc) : Prop := ∃ (s b : Addr) (kb : ClassId), vv_ = some (.ref s) ∧ Fr n0 LL_ ∧ Keep h0 hh_ [] ∧ Exa Z hh_ s "java/lang/String" ∧ Fld Z hh_ s "java/lang/String" "coder" "B" (.int (0 : Int32)) ∧ Fld Z hh_ s "java/lang/String" "value" "[B" (.ref b) ∧ Arv Z hh_ b kb .byte c (E.map Value.int) (.int (0 : Int32)) ∧ Exa Z hh_ b "[B"
set_option maxRecDepth 65536 in
set_option maxHeartbeats 40000000 in
theorem rmTS (l : Launch) (Z : State) (a0 : Array Value) (hw : ∀ d ∈ tables_1, d.before a0 Z = true) (ws : List Jvm.Cond) (o : Addr) (d : Addr) (kd : ClassId) (c : Int32) (E : List Int32) (cz : Int32) (h0 : Heap) (n0 : Nat) (Z0 : n0 ≤ h0.size) (BE : Exa Z h0 o "java/lang/StringBuilder") (BV : Fld Z h0 o "java/lang/AbstractStringBuilder" "value" "[B" (.ref d)) (BC : Fld Z h0 o "java/lang/AbstractStringBuilder" "coder" "B" (.int (0 : Int32))) (BN : Fld Z h0 o "java/lang/AbstractStringBuilder" "count" "I" (.int c)) (BA : Arv Z h0 d kd .byte c (E.map Value.int) (.int (0 : Int32))) (BB : Exa Z h0 d "[B") (hc19 : c.toNatClampNeg ≤ 19) (SC : Sta Z h0 "java/lang/String" "COMPACT_STRINGS" "Z" (.int cz)) (hcz : ¬ (cz = (0 : Int32))) :
    MetFree l (⟨"java/lang/StringBuilder", "toString", "()Ljava/lang/String;"⟩ : MethodName) (head1 (Jvm.Cond.code (⟨"java/lang/StringBuilder", "toString", "()Ljava/lang/String;"⟩ : MethodName) jdk_67_method_42_code 1 (some (.object "java/lang/String")) :: ws) ({ frames := 4, cells := 2, slots := 23, locals := 59 } : Room)) (fun aa_ U => aa_ = #[(.ref o)] ∧ Z.Warmed39 U.vm ∧ U.heap = h0) (fun _ _ _ _ _ => True) (fun _ U oo_ UV_ => ∃ vv_ LL_, oo_ = .returned vv_ ∧ Q_rmTS Z o d kd c E cz h0 n0 vv_ UV_.heap LL_ ∧ FrameEnd U oo_ UV_ LL_ ({ frames := 4, cells := 2, slots := 23, locals := 59 } : Room).cells ({ frames := 4, cells := 2, slots := 23, locals := 59 } : Room).slots) := by
  refine MetFree.of_bodySF (plainFor_of_name pn_5) hisR ?_
  intro pg ev si mi args below meth ci s₁ Bd hml0 hP0 hK
  obtain ⟨rfl, hZ, hh⟩ := hP0
  have hx := Bd.exec
  have hby := Bd.bytes
  have hml : ci.maxLocals = 1 := hml0
  have hown : si.vm.findClass "java/lang/StringBuilder" = some mi.cls := findClass_of_methodNamed Bd.named
  have hnm := (name_of_methodNamed Bd.named Bd.method).1
  have X0 : Stand pg l ev ({ frames := 4, cells := 2, slots := 23, locals := 59 } : Room) si mi #[(.ref o)] below meth ci s₁ [] 0 0 := Stand.of_body Bd
  have e0 : s₁.heap = h0 := by rw [← hh, Bd.state]; rfl
  have N0 := Fr.nil n0
  refine Go.start (fun P hP => ?_)
  refine Go.st (fun t_ k_ => castTop (ef_rmTS mi o d kd c E cz) k_) (A := s₁.setTop (mkF mi 0 #[.val (.ref o)] [])) ?_
  show Go _ _ _ (s₁.setTop (mkF mi 0 #[.val (.ref o)] [])) _
  obtain ⟨T1, h1, X1, e1, E1, A1, D1, -, st1⟩ := newO X0 hx hZ hown (hw _ (own_m 170 rfl)) (hw _ (own_m 8 rfl)) (hw _ (own_m 7 rfl)) e0 (g := (mkF mi 0 #[.val (.ref o)] [])) rfl (hb hby dc29_0) (by decide) (by decide)
  obtain ⟨ob1, g1⟩ : ∃ z, z = h0.size := ⟨_, rfl⟩
  rw [← g1] at A1 D1 st1
  have Zs2 : n0 ≤ h1.size := Nat.le_trans Z0 E1.1
  have KC2 : Keep h0 h1 [] := (Keep.refl h0 []).ext E1
  have g_ob1 : n0 ≤ ob1 := Nat.le_trans Z0 (Nat.le_of_eq g1.symm)
  have sz_ob1 : h0.size ≤ ob1 := Nat.le_trans (Keep.refl h0 []).1 (Nat.le_of_eq g1.symm)
  have F1_10 : Fld Z h1 ob1 "java/lang/String" "value" "[B" .null := D1 (Or.inr (hw _ (own_m 10 rfl))) (ty := (.array .byte)) (by decide)
  have F1_11 : Fld Z h1 ob1 "java/lang/String" "coder" "B" (.int 0) := D1 (Or.inr (hw _ (own_m 11 rfl))) (ty := .byte) (by decide)
  refine Go.st st1 ?_
  refine g_dup X1 hx hby dc29_3 rfl ?_
  refine g_aloadN X1 hx hby dc29_4 rfl rfl ?_
  have f4 := (BE.ext E1)
  have f5 := (BV.ext E1)
  have f6 := (BC.ext E1)
  have f7 := (BN.ext E1)
  have f8 := (BA.ext E1)
  have f9 := (BB.ext E1)
  have ne_o_ob1 : o ≠ ob1 := Nat.ne_of_lt (Nat.lt_of_lt_of_le BE.lt (Nat.le_of_eq g1.symm))
  have ne_d_ob1 : d ≠ ob1 := Nat.ne_of_lt (Nat.lt_of_lt_of_le BB.lt (Nat.le_of_eq g1.symm))
  have f10 := (SC.ext E1)
  obtain ⟨_, _, ⟨T3, L3, k3, n3⟩, -, X3, ⟨Lc3, hQ3, l3, y3, z3⟩, st3⟩ := X1.specialBack hx (y := (⟨"java/lang/String", "<init>", "(Ljava/lang/StringBuilder;)V"⟩ : MethodName)) rfl hown (mvT hZ (hw _ (own_m 171 rfl))) (mvT hZ (hw _ (own_m 172 rfl))) (mvT hZ (hw _ (own_m 174 rfl))) (by decide) (backOf (W := 1) (rmSY l Z a0 hw [] ob1 o d kd c E cz h1 n0 Zs2 f4 f5 f6 f7 f8 f9 A1 F1_11 F1_10 g_ob1 ne_o_ob1 ne_d_ob1 hc19 f10 hcz) hZ (hw _ (own_m 174 rfl)) (hw _ (own_m 7 rfl)) (by decide) (by decide)) (g := (mkF mi 5 #[.val (.ref o)] [(.ref o), (.ref ob1), (.ref ob1)])) rfl (by rw [hml]; rfl) (Steps.refl _) (a := ob1) (argsL := [(.ref o)]) (rest := [(.ref ob1)]) (lenOf pd_18 rfl) rfl (by show 2 * 0 + _ ≤ _; exact Nat.le_of_eq rfl) (hb hby dc29_5) (fun _ _ => ⟨rfl, e1, (by decide : 1 + 1 ≤ _), (by decide : 4 + 19 ≤ _)⟩)
  dsimp only [Pt.U, Pt.locs, Pt.cells, Pt.slots] at X3 l3 y3 z3 st3 hQ3
  subst y3 z3
  have X3 := own_cs X3 (cells' := 2) (slots' := 23) rfl rfl
  obtain ⟨h3, e3⟩ : ∃ z, T3.heap = z := ⟨_, rfl⟩
  rw [e3] at hQ3
  obtain ⟨rfl, N3q, K3, b3, kb3, SE3, SCo3, SVa3, SAr3, SEb3⟩ := hQ3
  have N3 := own_fr l3 (Fr.app N0 N3q)
  have Zs11 : n0 ≤ h3.size := Nat.le_trans Zs2 K3.1
  have KC11 : Keep h0 h3 [] := KC2.trans K3 (allS (P := fun x => x ∈ [] ∨ h0.size ≤ x) (Or.inr sz_ob1) all0)
  refine Go.tr st3 ?_
  obtain ⟨fs, hr, hrun, hended, hW, hsame⟩ := X3.leave (v := some (.ref ob1)) (fun h => by rw [Bd.returns] at h; cases h) (BodyLoose.notSynchronized Bd)
  refine ⟨_, _, ?_, hP _ _ ⟨hrun, hended, _, _, rfl, ?_, ⟨_, rfl⟩, hW, hsame.mono (by decide) (by decide)⟩⟩
  · exact retOut X3 hx Bd.returns rfl (Or.inr (Or.inr (Or.inr (Or.inr ⟨rfl, rfl, rfl⟩)))) (hb hby dc29_8) hr
  · show ∃ (s b : Addr) (kb : ClassId), (some (.ref ob1) : Option Value) = some (.ref s) ∧ Fr n0 _ ∧ Keep h0 T3.heap [] ∧ Exa Z T3.heap s "java/lang/String" ∧ Fld Z T3.heap s "java/lang/String" "coder" "B" (.int (0 : Int32)) ∧ Fld Z T3.heap s "java/lang/String" "value" "[B" (.ref b) ∧ Arv Z T3.heap b kb .byte c (E.map Value.int) (.int (0 : Int32)) ∧ Exa Z T3.heap b "[B"
    rw [e3]
    exact ⟨ob1, b3, kb3, rfl, N3, KC11, SE3, SCo3, SVa3, SAr3, SEb3⟩
theorem own_rb {p : Program} {l : Launch} {e : Env} {R : Room} {s : State} {m : MethodId} {args : Array Value} {below : List Frame} {meth : Method} {c : Code} {T : State} {locs : List Loc} {cells slots : Nat} (X : Stand p l e R s m args below meth c T locs cells slots) : Stand p l e R (s.setVm s.vm) m args below meth c T locs cells slots := X
theorem own_chr {Z s T : State} {EL : List (String × Nat)} {h0 h : Heap} (hh : s.heap = h0) (e : T.heap = h) (q : CHr Z EL s.vm h0 T.vm h) : CHr Z EL s.vm s.heap T.vm T.heap := by rw [hh, e]; exact q
theorem own_exB {Z s : State} {EL : List (String × Nat)} {vm : Vm} {h : Heap} {own text : String} {index : Nat} {a b : Addr} {k : ClassId} {z : Int32} {vs : List Value} {dv : Value} {a0 : Array Value} (hZ : Z.Warmed39 vm) (w : (Cond.stringLink own index text).before a0 Z = true) (hmem : (own, index) ∈ EL) (H : CHv Z EL vm h) (L : Lit (s.setVm vm) own index a) (F : Fld Z h a "java/lang/String" "value" "[B" (.ref b)) (A : Arv Z h b k .byte z vs dv) : Exa Z h b "[B" := by
  have w2 : (Cond.stringLink own index text).before a0 (Wst Z vm h) = true := mvS (s := { Z with heap := h }) hZ w
  have q : (s.setVm vm).resolvedAt? own index = some (.string a) := L
  cases hf : vm.findClass own with
  | none => simp [State.resolvedAt?, hf] at q
  | some c =>
    obtain ⟨k0, cf, i, units, hk, hcf, hp, hu, -, -, -⟩ := Cond.stringLink_spec (s := Wst Z vm h) (show (Wst Z vm h).vm.findClass own = some c from hf) w2
    have hk' : vm.classes[c]? = some k0 := hk
    have hres : k0.resolved[index]? = some (some (.string a)) := by
      simp [State.resolvedAt?, hf, hk'] at q
      rcases hr : k0.resolved[index]? with _ | _ | r
      · rw [hr] at q; cases q
      · rw [hr] at q; cases q
      · rw [hr] at q; simpa using q
    obtain ⟨sq, hq, G⟩ := SlB.of (H _ hmem units a ⟨c, k0, cf, i, hf, hk', hcf, hp, hu, Or.inl hres⟩)
    obtain ⟨cS, ⟨⟨s1, -, -, ⟨cv, kv, iv, s4, -⟩, -, -, -, s8, -, s10, -⟩, -⟩, -, hB, -⟩ := G
    subst hq
    obtain ⟨cell, cf', k', i', f', f1, f2, -, -, -, -, f7⟩ := F
    cases (show h[sq.sa]? = some sq.sC from s1).symm.trans f1
    obtain ⟨kv', z4⟩ := ff_back (U := Wst Z vm h) hZ.alike s4
    have e := z4.symm.trans f2
    simp only [Option.some.injEq, Prod.mk.injEq] at e
    rw [← e.2.2.2, s8] at f7
    have eb : sq.sd = b := by simpa using f7
    subst eb
    obtain ⟨c2, A2, -⟩ := A
    cases (show h[sq.sd]? = some sq.SA from s10).symm.trans A2.1
    obtain ⟨a1, ⟨-, kA, hkA, comp, hkind⟩, -⟩ := id A2
    exact ⟨_, kA, a1, (hZ.alike.findClass _ _).symm.trans (show vm.findClass "[B" = _ from hB), hkA, A2.plain, fun q => by rw [hkind] at q; cases q⟩
def own_EL : List (String × Nat) := [("com/example/hoarfrost/hoarfrost/IdForm", 23), ("com/example/hoarfrost/hoarfrost/IdForm", 48), ("com/example/hoarfrost/hoarfrost/IdForm", 75), ("com/example/hoarfrost/hoarfrost/IdForm", 87), ("java/lang/String", 7)]
theorem own_leT {T : State} {h : Heap} {k : Nat} (e : T.heap = h) (q : k ≤ h.size) : k ≤ T.heap.size := by rw [e]; exact q
theorem own_leH {T : State} {h : Heap} (e : T.heap = h) : T.heap.size ≤ h.size := by rw [e]; exact Nat.le_refl _
theorem own_safe {Z : State} {EL : List (String × Nat)} {vm : Vm} {lb h : Heap} {ws : List Addr} {d : Addr} (H : CHv Z EL vm lb) (K : Keep lb h ws) (hs : ∀ x ∈ ws, Safe Z EL vm lb x) (hd : lb.size ≤ d) : Safe Z EL vm h d := fun B => Safe.new hd ((H.keepStep K hs).2 _ B)
def ALP : List Int32 := [48, 49, 50, 51, 52, 53, 54, 55, 56, 57, 65, 66, 67, 68, 69, 70, 71, 72, 73, 74, 75, 76, 77, 78, 79, 80, 81, 82, 83, 84, 85, 86, 87, 88, 89, 90, 97, 98, 99, 100, 101, 102, 103, 104, 105, 106, 107, 108, 109, 110, 111, 112, 113, 114, 115, 116, 117, 118, 119, 120, 121, 122]
theorem dc30_0 : decode jdk_42_method_145_code 0 = .ok (.iload_n 1, 1) := by decide +kernel
theorem dc30_1 : decode jdk_42_method_145_code 1 = .ok (.ifCond .ge 31, 3) := by decide +kernel
theorem dc30_32 : decode jdk_42_method_145_code 32 = .ok (.iload_n 1, 1) := by decide +kernel
theorem dc30_33 : decode jdk_42_method_145_code 33 = .ok (.iconst 1, 1) := by decide +kernel
theorem dc30_34 : decode jdk_42_method_145_code 34 = .ok (.if_icmp .ne 5, 3) := by decide +kernel
theorem dc30_39 : decode jdk_42_method_145_code 39 = .ok (.aload_n 0, 1) := by decide +kernel
theorem dc30_40 : decode jdk_42_method_145_code 40 = .ok (.getfield 9, 3) := by decide +kernel
theorem dc30_43 : decode jdk_42_method_145_code 43 = .ok (.arraylength, 1) := by decide +kernel
theorem dc30_44 : decode jdk_42_method_145_code 44 = .ok (.istore_n 2, 1) := by decide +kernel
theorem dc30_45 : decode jdk_42_method_145_code 45 = .ok (.iload_n 2, 1) := by decide +kernel
theorem dc30_46 : decode jdk_42_method_145_code 46 = .ok (.ifCond .eq 7, 3) := by decide +kernel
theorem dc30_49 : decode jdk_42_method_145_code 49 = .ok (.iload_n 1, 1) := by decide +kernel
theorem dc30_50 : decode jdk_42_method_145_code 50 = .ok (.ifCond .ne 6, 3) := by decide +kernel
theorem dc30_53 : decode jdk_42_method_145_code 53 = .ok (.ldc 7, 2) := by decide +kernel
theorem dc30_55 : decode jdk_42_method_145_code 55 = .ok (.areturn, 1) := by decide +kernel
theorem ef_rmRp (mi : MethodId) (o : Addr) (b : Addr) (kb : ClassId) (E : List Int32) : entryFrame mi #[(.ref o), (.int 0)] 5 = mkF mi 0 #[.val (.ref o), .val (.int 0), .unset, .unset, .unset] [] := by first | (simp [entryFrame, mkF, argsToLocals, Value.category]; done) | rfl
def Q_rmRp (Z : State) (o : Addr) (b : Addr) (kb : ClassId) (E : List Int32) (h0 : Heap) (n0 : Nat) (vv_ : Option Value) (hh_ : Heap) (LL_ : List Loc) : Prop := ∃ (s b : Addr) (kb : ClassId), vv_ = some (.ref s) ∧ Fr n0 LL_ ∧ Keep h0 hh_ [] ∧ Exa Z hh_ s "java/lang/String" ∧ Fld Z hh_ s "java/lang/String" "coder" "B" (.int (0 : Int32)) ∧ Fld Z hh_ s "java/lang/String" "value" "[B" (.ref b) ∧ Arv Z hh_ b kb .byte (0 : Int32) (([] : List Int32).map Value.int) (.int (0 : Int32)) ∧ Exa Z hh_ b "[B"
set_option maxRecDepth 65536 in
set_option maxHeartbeats 40000000 in
theorem rmRp (l : Launch) (Z : State) (a0 : Array Value) (hw : ∀ d ∈ tables_1, d.before a0 Z = true) (ws : List Jvm.Cond) (o : Addr) (b : Addr) (kb : ClassId) (E : List Int32) (h0 : Heap) (n0 : Nat) (Z0 : n0 ≤ h0.size) (hEL : EW Z a0 own_EL) (SE : Exa Z h0 o "java/lang/String") (SCo : Fld Z h0 o "java/lang/String" "coder" "B" (.int (0 : Int32))) (SVa : Fld Z h0 o "java/lang/String" "value" "[B" (.ref b)) (SAr : Arv Z h0 b kb .byte (1 : Int32) (E.map Value.int) (.int (0 : Int32))) (SEb : Exa Z h0 b "[B") :
    MetFree l (⟨"java/lang/String", "repeat", "(I)Ljava/lang/String;"⟩ : MethodName) (head1 (Jvm.Cond.code (⟨"java/lang/String", "repeat", "(I)Ljava/lang/String;"⟩ : MethodName) jdk_42_method_145_code 5 (some (.object "java/lang/String")) :: ws) ({ frames := 0, cells := 2, slots := 4, locals := 0 } : Room)) (fun aa_ U => aa_ = #[(.ref o), (.int 0)] ∧ Z.Warmed39 U.vm ∧ U.heap = h0 ∧ CHv Z own_EL U.vm h0) (fun _ _ _ _ _ => True) (fun _ U oo_ UV_ => ∃ vv_ LL_, oo_ = .returned vv_ ∧ Q_rmRp Z o b kb E h0 n0 vv_ UV_.heap LL_ ∧ CHr Z own_EL U.vm U.heap UV_.vm UV_.heap ∧ ReturnedEndW U oo_ UV_ LL_ ({ frames := 0, cells := 2, slots := 4, locals := 0 } : Room).cells ({ frames := 0, cells := 2, slots := 4, locals := 0 } : Room).slots) := by
  refine MetFree.of_bodySF (plainFor_of_name pn_0) hisR ?_
  intro pg ev si mi args below meth ci s₁ Bd hml0 hP0 hK
  obtain ⟨rfl, hZ, hh, hCH⟩ := hP0
  have hx := Bd.exec
  have hby := Bd.bytes
  have hml : ci.maxLocals = 5 := hml0
  have hown : si.vm.findClass "java/lang/String" = some mi.cls := findClass_of_methodNamed Bd.named
  have hnm := (name_of_methodNamed Bd.named Bd.method).1
  have X0 : Stand pg l ev ({ frames := 0, cells := 2, slots := 4, locals := 0 } : Room) si mi #[(.ref o), (.int 0)] below meth ci s₁ [] 0 0 := Stand.of_body Bd
  have e0 : s₁.heap = h0 := by rw [← hh, Bd.state]; rfl
  have N0 := Fr.nil n0
  refine Go.start (fun P hP => ?_)
  refine Go.st (fun t_ k_ => castTop (ef_rmRp mi o b kb E) k_) (A := s₁.setTop (mkF mi 0 #[.val (.ref o), .val (.int 0), .unset, .unset, .unset] [])) ?_
  show Go _ _ _ (s₁.setTop (mkF mi 0 #[.val (.ref o), .val (.int 0), .unset, .unset, .unset] [])) _
  refine g_iloadN X0 hx hby dc30_0 rfl ?_
  refine g_ifYes X0 hx hby dc30_1 ((if0 _ _).trans (flt (by decide)).2.1) (pc0 := 1) (pc' := 32) rfl (by decide) (by decide) ?_
  refine g_iloadN X0 hx hby dc30_32 rfl ?_
  refine g_iconst X0 hx hby dc30_33 (v := 1) rfl ?_
  refine g_icmpYes X0 hx hby dc30_34 (feq (by decide)).2 (pc0 := 34) (pc' := 39) rfl (by decide) (by decide) ?_
  refine g_aloadN X0 hx hby dc30_39 rfl rfl ?_
  obtain ⟨T1, X1, e1, st1⟩ := getF X0 hx hZ hown (host := "") (Or.inl (hw _ (own_m 48 rfl))) Via.refl e0 SVa (g := (mkF mi 40 #[.val (.ref o), .val (.int 0), .unset, .unset, .unset] [(.ref o)])) rfl rfl (hb hby dc30_40)
  refine Go.st st1 ?_
  have ov2 := SAr
  obtain ⟨cl2, Ar2, q2, S2, M2, H2, G2⟩ := ov2
  refine Go.st (X1.arraylength hx (by rw [e1]; exact Ar2.1) (State.isArrayOf_alike hZ.alike Ar2.2.1) (g := (mkF mi 43 #[.val (.ref o), .val (.int 0), .unset, .unset, .unset] [(.ref b)])) rfl rfl (hb hby dc30_43)) ?_
  rw [len_of S2 M2]
  refine g_istoreN X1 hx hby dc30_44 (l' := #[.val (.ref o), .val (.int 0), .val (.int 1), .unset, .unset]) rfl ?_
  refine g_iloadN X1 hx hby dc30_45 rfl ?_
  refine g_ifNo X1 hx hby dc30_46 ((if0 _ _).trans (feq (by decide)).1) ?_
  refine g_iloadN X1 hx hby dc30_49 rfl ?_
  refine g_ifNo X1 hx hby dc30_50 ((if0 _ _).trans (teq rfl).2) ?_
  show Go _ _ _ (T1.setTop (mkF mi 53 #[.val (.ref o), .val (.int 0), .val (.int 1), .unset, .unset] [])) _
  have CR3 : CHr Z own_EL si.vm h0 si.vm h0 := (CHr.refl hCH).trans (CHr.keep (Keep.refl h0 []) sf0 (CHr.refl hCH).1)
  have hwS : ∀ a ∈ Bundle.stringAtoms, a.before a0 Z = true := fun d hd => hw d ((by decide +kernel : ∀ d ∈ Bundle.stringAtoms, d ∈ tables_1) d hd)
  obtain ⟨os4, T4, h4, k14, bs4, ks4, X4, e4, E4, hSi4, hk14, hZ4, hown4, SE4, SCo4, SVa4, SA4, -, -, hCr4, hLi4, -, st4⟩ := ldcCH (s := si) (vm0 := si.vm) (EL := own_EL) (own_rb X1) hx hZ hown (hw _ (own_m 137 rfl)) hwS e1 ((State.WarmedH.refl si).since h0.size) (Nat.le_trans (Nat.le_refl _) (Keep.refl h0 []).1) hEL (List.mem_of_getElem? (i := 4) rfl) CR3.1 (vs := []) (z := (0 : Int32)) ⟨by decide +kernel, by decide +kernel⟩ (by decide) (by decide +kernel) (g := (mkF mi 53 #[.val (.ref o), .val (.int 0), .val (.int 1), .unset, .unset] [])) rfl (hb hby dc30_53) (n := 0) (by decide +kernel) (by decide) (by decide) (by decide)
  have SAr4 : Arv Z h4 bs4 ks4 .byte (0 : Int32) (([] : List Int32).map Value.int) (.int (0 : Int32)) := SA4
  have SEb4 : Exa Z h4 bs4 "[B" := own_exB (s := si) hZ4 (hw _ (own_m 137 rfl)) (EL := own_EL) (List.mem_of_getElem? (i := 4) rfl) hCr4.1 hLi4 SVa4 SA4
  have hZ : Z.Warmed39 (si.setVm T4.vm).vm := hZ4
  have hown : (si.setVm T4.vm).vm.findClass "java/lang/String" = some mi.cls := hown4
  have Zs5 : n0 ≤ h4.size := Nat.le_trans Z0 E4.1
  have KC5 : Keep h0 h4 [] := (Keep.refl h0 []).ext E4
  have KL5 : Keep h0 h4 [] := (Keep.refl h0 []).ext E4
  have CS4 : CHr Z own_EL si.vm h0 T4.vm h4 := CR3.trans hCr4
  refine Go.st st4 ?_
  show Go _ _ _ (T4.setTop (mkF mi 55 #[.val (.ref o), .val (.int 0), .val (.int 1), .unset, .unset] [(.ref os4)])) _
  obtain ⟨fs, hr, hrun, hended, -, hW, hpr, hsame⟩ := Stand.leaveW (v := some (.ref os4)) X4 hSi4 (own_leT e4 (Nat.le_trans hk14 (Keep.refl h4 []).1)) (fun h => by rw [Bd.returns] at h; cases h) (BodyLoose.notSynchronized Bd)
  refine ⟨_, _, ?_, hP _ _ ⟨hrun, hended, _, _, rfl, ?_, (show CHr Z own_EL si.vm si.heap T4.vm T4.heap from own_chr hh e4 ((CS4.trans (CHr.keep (Keep.refl h4 []) sf0 CS4.1)).trans (CHv.at X4 hZ hEL (CHr.keep (Keep.refl h4 []) sf0 CS4.1).1))), ⟨_, rfl⟩, hW, hpr, hsame.mono (by decide) (by decide)⟩⟩
  · exact retOut X4 hx Bd.returns rfl (Or.inr (Or.inr (Or.inr (Or.inr ⟨rfl, rfl, rfl⟩)))) (hb hby dc30_55) hr
  · show ∃ (s b : Addr) (kb : ClassId), (some (.ref os4) : Option Value) = some (.ref s) ∧ Fr n0 _ ∧ Keep h0 T4.heap [] ∧ Exa Z T4.heap s "java/lang/String" ∧ Fld Z T4.heap s "java/lang/String" "coder" "B" (.int (0 : Int32)) ∧ Fld Z T4.heap s "java/lang/String" "value" "[B" (.ref b) ∧ Arv Z T4.heap b kb .byte (0 : Int32) (([] : List Int32).map Value.int) (.int (0 : Int32)) ∧ Exa Z T4.heap b "[B"
    rw [e4]
    exact ⟨os4, bs4, ks4, rfl, N0, KC5, SE4, SCo4, SVa4, SAr4, SEb4⟩
theorem dc31_0 : decode prog_6_method_1_code 0 = .ok (.aload_n 0, 1) := by decide +kernel
theorem dc31_1 : decode prog_6_method_1_code 1 = .ok (.invokespecial 1, 3) := by decide +kernel
theorem dc31_4 : decode prog_6_method_1_code 4 = .ok (.aload_n 0, 1) := by decide +kernel
theorem dc31_5 : decode prog_6_method_1_code 5 = .ok (.iload_n 1, 1) := by decide +kernel
theorem dc31_6 : decode prog_6_method_1_code 6 = .ok (.putfield 7, 3) := by decide +kernel
theorem dc31_9 : decode prog_6_method_1_code 9 = .ok (.aload_n 0, 1) := by decide +kernel
theorem dc31_10 : decode prog_6_method_1_code 10 = .ok (.iload_n 2, 1) := by decide +kernel
theorem dc31_11 : decode prog_6_method_1_code 11 = .ok (.putfield 13, 3) := by decide +kernel
theorem dc31_14 : decode prog_6_method_1_code 14 = .ok (.aload_n 0, 1) := by decide +kernel
theorem dc31_15 : decode prog_6_method_1_code 15 = .ok (.aload_n 3, 1) := by decide +kernel
theorem dc31_16 : decode prog_6_method_1_code 16 = .ok (.putfield 16, 3) := by decide +kernel
theorem dc31_19 : decode prog_6_method_1_code 19 = .ok (.aload_n 0, 1) := by decide +kernel
theorem dc31_20 : decode prog_6_method_1_code 20 = .ok (.aload 4, 2) := by decide +kernel
theorem dc31_22 : decode prog_6_method_1_code 22 = .ok (.putfield 20, 3) := by decide +kernel
theorem dc31_25 : decode prog_6_method_1_code 25 = .ok (.return_, 1) := by decide +kernel
theorem pn_7 : plainName "com/example/hoarfrost/hoarfrost/IdForm" = true := by first | (simp [plainName, overriddenIn]; done) | decide +kernel
theorem ef_rmII (mi : MethodId) (o : Addr) (p : Addr) (s : Addr) : entryFrame mi #[(.ref o), (.int 10), (.int 1), (.ref p), (.ref s)] 5 = mkF mi 0 #[.val (.ref o), .val (.int 10), .val (.int 1), .val (.ref p), .val (.ref s)] [] := by first | (simp [entryFrame, mkF, argsToLocals, Value.category]; done) | rfl
def Q_rmII (Z : State) (o : Addr) (p : Addr) (s : Addr) (h0 : Heap) (n0 : Nat) (vv_ : Option Value) (hh_ : Heap) (LL_ : List Loc) : Prop := vv_ = none ∧ Fr n0 LL_ ∧ Keep h0 hh_ [o] ∧ Exa Z hh_ o "com/example/hoarfrost/hoarfrost/IdForm" ∧ Fld Z hh_ o "com/example/hoarfrost/hoarfrost/IdForm" "radix" "I" (.int (10 : Int32)) ∧ Fld Z hh_ o "com/example/hoarfrost/hoarfrost/IdForm" "width" "I" (.int (1 : Int32)) ∧ Fld Z hh_ o "com/example/hoarfrost/hoarfrost/IdForm" "prefix" "Ljava/lang/String;" (.ref p) ∧ Fld Z hh_ o "com/example/hoarfrost/hoarfrost/IdForm" "suffix" "Ljava/lang/String;" (.ref s)
set_option maxRecDepth 65536 in
set_option maxHeartbeats 40000000 in
theorem rmII (l : Launch) (Z : State) (a0 : Array Value) (hw : ∀ d ∈ tables_1, d.before a0 Z = true) (ws : List Jvm.Cond) (o : Addr) (p : Addr) (s : Addr) (h0 : Heap) (n0 : Nat) (Z0 : n0 ≤ h0.size) (E0 : Exa Z h0 o "com/example/hoarfrost/hoarfrost/IdForm") (FI1 : Fld Z h0 o "com/example/hoarfrost/hoarfrost/IdForm" "radix" "I" (.int (0 : Int32))) (FI2 : Fld Z h0 o "com/example/hoarfrost/hoarfrost/IdForm" "width" "I" (.int (0 : Int32))) (FI3 : Fld Z h0 o "com/example/hoarfrost/hoarfrost/IdForm" "prefix" "Ljava/lang/String;" .null) (FI4 : Fld Z h0 o "com/example/hoarfrost/hoarfrost/IdForm" "suffix" "Ljava/lang/String;" .null) (g_o : n0 ≤ o) :
    MetFree l (⟨"com/example/hoarfrost/hoarfrost/IdForm", "<init>", "(IILjava/lang/String;Ljava/lang/String;)V"⟩ : MethodName) (head1 (Jvm.Cond.code (⟨"com/example/hoarfrost/hoarfrost/IdForm", "<init>", "(IILjava/lang/String;Ljava/lang/String;)V"⟩ : MethodName) prog_6_method_1_code 5 none :: ws) ({ frames := 1, cells := 0, slots := 0, locals := 12 } : Room)) (fun aa_ U => aa_ = #[(.ref o), (.int 10), (.int 1), (.ref p), (.ref s)] ∧ Z.Warmed39 U.vm ∧ U.heap = h0) (fun _ _ _ _ _ => True) (fun _ U oo_ UV_ => ∃ vv_ LL_, oo_ = .returned vv_ ∧ Q_rmII Z o p s h0 n0 vv_ UV_.heap LL_ ∧ FrameEnd U oo_ UV_ LL_ ({ frames := 1, cells := 0, slots := 0, locals := 12 } : Room).cells ({ frames := 1, cells := 0, slots := 0, locals := 12 } : Room).slots) := by
  refine MetFree.of_bodySF (plainFor_of_name pn_7) hisR ?_
  intro pg ev si mi args below meth ci s₁ Bd hml0 hP0 hK
  obtain ⟨rfl, hZ, hh⟩ := hP0
  have hx := Bd.exec
  have hby := Bd.bytes
  have hml : ci.maxLocals = 5 := hml0
  have hown : si.vm.findClass "com/example/hoarfrost/hoarfrost/IdForm" = some mi.cls := findClass_of_methodNamed Bd.named
  have hnm := (name_of_methodNamed Bd.named Bd.method).1
  have X0 : Stand pg l ev ({ frames := 1, cells := 0, slots := 0, locals := 12 } : Room) si mi #[(.ref o), (.int 10), (.int 1), (.ref p), (.ref s)] below meth ci s₁ [] 0 0 := Stand.of_body Bd
  have e0 : s₁.heap = h0 := by rw [← hh, Bd.state]; rfl
  have N0 := Fr.nil n0
  refine Go.start (fun P hP => ?_)
  refine Go.st (fun t_ k_ => castTop (ef_rmII mi o p s) k_) (A := s₁.setTop (mkF mi 0 #[.val (.ref o), .val (.int 10), .val (.int 1), .val (.ref p), .val (.ref s)] [])) ?_
  show Go _ _ _ (s₁.setTop (mkF mi 0 #[.val (.ref o), .val (.int 10), .val (.int 1), .val (.ref p), .val (.ref s)] [])) _
  refine g_aloadN X0 hx hby dc31_0 rfl rfl ?_
  obtain ⟨T1, X1, e1, st1⟩ := initO X0 hx hZ hown (hw _ (own_m 17 rfl)) (hw _ (own_m 18 rfl)) (hw _ (own_m 19 rfl)) e0 (g := (mkF mi 1 #[.val (.ref o), .val (.int 10), .val (.int 1), .val (.ref p), .val (.ref s)] [(.ref o)])) rfl (by rw [hml]; rfl) rfl (hb hby dc31_1) (by decide) (W := 0) (by show 2 * 0 + _ ≤ _; exact Nat.le_of_eq rfl) (by decide)
  refine Go.st st1 ?_
  refine g_aloadN X1 hx hby dc31_4 rfl rfl ?_
  refine g_iloadN X1 hx hby dc31_5 rfl ?_
  obtain ⟨T2, h2, X2, e2, W2, st2⟩ := putF X1 hx hZ hown (host := "") (Or.inl (hw _ (own_m 20 rfl))) Via.refl e1 FI1 E0 (Or.inr ⟨(hw _ (own_m 21 rfl)), rfl, hnm⟩) (hw _ (own_m 5 rfl)) (ty := .int) (by decide) rfl rfl (g := (mkF mi 6 #[.val (.ref o), .val (.int 10), .val (.int 1), .val (.ref p), .val (.ref s)] [(.int 10), (.ref o)])) rfl rfl (hb hby dc31_6)
  have Zs3 : n0 ≤ h2.size := Nat.le_trans Z0 (Keep.of_wr W2).1
  have KC3 : Keep h0 h2 [o] := (Keep.refl h0 [o]).wr W2 (Or.inl (List.mem_of_getElem? (i := 0) rfl))
  have N3 := Fr.snoc X2 N0 g_o
  have F2 : Fld Z h2 o "com/example/hoarfrost/hoarfrost/IdForm" "radix" "I" (.int 10) := FI1.same W2
  refine Go.st st2 ?_
  refine g_aloadN X2 hx hby dc31_9 rfl rfl ?_
  refine g_iloadN X2 hx hby dc31_10 rfl ?_
  have f4 := (FI2.other W2 (Or.inr (slot_ne (Or.inr (hw _ (own_m 23 rfl))) (Or.inr (hw _ (own_m 21 rfl))) (by decide) (t := .int) (t' := .int) (by decide) (by decide))))
  have f5 := (E0.wr W2)
  obtain ⟨T6, h6, X6, e6, W6, st6⟩ := putF X2 hx hZ hown (host := "") (Or.inl (hw _ (own_m 22 rfl))) Via.refl e2 f4 f5 (Or.inr ⟨(hw _ (own_m 23 rfl)), rfl, hnm⟩) (hw _ (own_m 5 rfl)) (ty := .int) (by decide) rfl rfl (g := (mkF mi 11 #[.val (.ref o), .val (.int 10), .val (.int 1), .val (.ref p), .val (.ref s)] [(.int 1), (.ref o)])) rfl rfl (hb hby dc31_11)
  have Zs7 : n0 ≤ h6.size := Nat.le_trans Zs3 (Keep.of_wr W6).1
  have KC7 : Keep h0 h6 [o] := KC3.wr W6 (Or.inl (List.mem_of_getElem? (i := 0) rfl))
  have N7 := Fr.snoc X6 N3 g_o
  have F6 : Fld Z h6 o "com/example/hoarfrost/hoarfrost/IdForm" "width" "I" (.int 1) := f4.same W6
  refine Go.st st6 ?_
  refine g_aloadN X6 hx hby dc31_14 rfl rfl ?_
  refine g_aloadN X6 hx hby dc31_15 rfl rfl ?_
  have f8 := ((FI3.other W2 (Or.inr (slot_ne (Or.inr (hw _ (own_m 25 rfl))) (Or.inr (hw _ (own_m 21 rfl))) (by decide) (t := (.object "java/lang/String")) (t' := .int) (by decide) (by decide)))).other W6 (Or.inr (slot_ne (Or.inr (hw _ (own_m 25 rfl))) (Or.inr (hw _ (own_m 23 rfl))) (by decide) (t := (.object "java/lang/String")) (t' := .int) (by decide) (by decide))))
  have f9 := (f5.wr W6)
  obtain ⟨T10, h10, X10, e10, W10, st10⟩ := putF X6 hx hZ hown (host := "") (Or.inl (hw _ (own_m 24 rfl))) Via.refl e6 f8 f9 (Or.inr ⟨(hw _ (own_m 25 rfl)), rfl, hnm⟩) (hw _ (own_m 5 rfl)) (ty := (.object "java/lang/String")) (by decide) rfl rfl (g := (mkF mi 16 #[.val (.ref o), .val (.int 10), .val (.int 1), .val (.ref p), .val (.ref s)] [(.ref p), (.ref o)])) rfl rfl (hb hby dc31_16)
  have Zs11 : n0 ≤ h10.size := Nat.le_trans Zs7 (Keep.of_wr W10).1
  have KC11 : Keep h0 h10 [o] := KC7.wr W10 (Or.inl (List.mem_of_getElem? (i := 0) rfl))
  have N11 := Fr.snoc X10 N7 g_o
  have F10 : Fld Z h10 o "com/example/hoarfrost/hoarfrost/IdForm" "prefix" "Ljava/lang/String;" (.ref p) := f8.same W10
  refine Go.st st10 ?_
  refine g_aloadN X10 hx hby dc31_19 rfl rfl ?_
  refine g_aload X10 hx hby dc31_20 rfl rfl ?_
  have f12 := (((FI4.other W2 (Or.inr (slot_ne (Or.inr (hw _ (own_m 27 rfl))) (Or.inr (hw _ (own_m 21 rfl))) (by decide) (t := (.object "java/lang/String")) (t' := .int) (by decide) (by decide)))).other W6 (Or.inr (slot_ne (Or.inr (hw _ (own_m 27 rfl))) (Or.inr (hw _ (own_m 23 rfl))) (by decide) (t := (.object "java/lang/String")) (t' := .int) (by decide) (by decide)))).other W10 (Or.inr (slot_ne (Or.inr (hw _ (own_m 27 rfl))) (Or.inr (hw _ (own_m 25 rfl))) (by decide) (t := (.object "java/lang/String")) (t' := (.object "java/lang/String")) (by decide) (by decide))))
  have f13 := (f9.wr W10)
  obtain ⟨T14, h14, X14, e14, W14, st14⟩ := putF X10 hx hZ hown (host := "") (Or.inl (hw _ (own_m 26 rfl))) Via.refl e10 f12 f13 (Or.inr ⟨(hw _ (own_m 27 rfl)), rfl, hnm⟩) (hw _ (own_m 5 rfl)) (ty := (.object "java/lang/String")) (by decide) rfl rfl (g := (mkF mi 22 #[.val (.ref o), .val (.int 10), .val (.int 1), .val (.ref p), .val (.ref s)] [(.ref s), (.ref o)])) rfl rfl (hb hby dc31_22)
  have Zs15 : n0 ≤ h14.size := Nat.le_trans Zs11 (Keep.of_wr W14).1
  have KC15 : Keep h0 h14 [o] := KC11.wr W14 (Or.inl (List.mem_of_getElem? (i := 0) rfl))
  have N15 := Fr.snoc X14 N11 g_o
  have F14 : Fld Z h14 o "com/example/hoarfrost/hoarfrost/IdForm" "suffix" "Ljava/lang/String;" (.ref s) := f12.same W14
  refine Go.st st14 ?_
  obtain ⟨fs, hr, hrun, hended, hW, hsame⟩ := X14.leave (v := none) (fun _ => rfl) (BodyLoose.notSynchronized Bd)
  have f16 := (f13.wr W14)
  have f17 := (((F2.other W6 (Or.inr (slot_ne (Or.inr (hw _ (own_m 21 rfl))) (Or.inr (hw _ (own_m 23 rfl))) (by decide) (t := .int) (t' := .int) (by decide) (by decide)))).other W10 (Or.inr (slot_ne (Or.inr (hw _ (own_m 21 rfl))) (Or.inr (hw _ (own_m 25 rfl))) (by decide) (t := .int) (t' := (.object "java/lang/String")) (by decide) (by decide)))).other W14 (Or.inr (slot_ne (Or.inr (hw _ (own_m 21 rfl))) (Or.inr (hw _ (own_m 27 rfl))) (by decide) (t := .int) (t' := (.object "java/lang/String")) (by decide) (by decide))))
  have f18 := ((F6.other W10 (Or.inr (slot_ne (Or.inr (hw _ (own_m 23 rfl))) (Or.inr (hw _ (own_m 25 rfl))) (by decide) (t := .int) (t' := (.object "java/lang/String")) (by decide) (by decide)))).other W14 (Or.inr (slot_ne (Or.inr (hw _ (own_m 23 rfl))) (Or.inr (hw _ (own_m 27 rfl))) (by decide) (t := .int) (t' := (.object "java/lang/String")) (by decide) (by decide))))
  have f19 := (F10.other W14 (Or.inr (slot_ne (Or.inr (hw _ (own_m 25 rfl))) (Or.inr (hw _ (own_m 27 rfl))) (by decide) (t := (.object "java/lang/String")) (t' := (.object "java/lang/String")) (by decide) (by decide))))
  refine ⟨_, _, ?_, hP _ _ ⟨hrun, hended, _, _, rfl, ?_, ⟨_, rfl⟩, hW, hsame.mono (by decide) (by decide)⟩⟩
  · exact X14.returnOut hx Bd.returns (hb hby dc31_25) hr
  · show (none : Option Value) = none ∧ Fr n0 _ ∧ Keep h0 T14.heap [o] ∧ Exa Z T14.heap o "com/example/hoarfrost/hoarfrost/IdForm" ∧ Fld Z T14.heap o "com/example/hoarfrost/hoarfrost/IdForm" "radix" "I" (.int (10 : Int32)) ∧ Fld Z T14.heap o "com/example/hoarfrost/hoarfrost/IdForm" "width" "I" (.int (1 : Int32)) ∧ Fld Z T14.heap o "com/example/hoarfrost/hoarfrost/IdForm" "prefix" "Ljava/lang/String;" (.ref p) ∧ Fld Z T14.heap o "com/example/hoarfrost/hoarfrost/IdForm" "suffix" "Ljava/lang/String;" (.ref s)
    rw [e14]
    exact ⟨rfl, N15, KC15, f16, f17, f18, f19, F14⟩
theorem dc32_0 : decode prog_6_method_3_code 0 = .ok (.new 8, 3) := by decide +kernel
theorem dc32_3 : decode prog_6_method_3_code 3 = .ok (.dup, 1) := by decide +kernel
theorem dc32_4 : decode prog_6_method_3_code 4 = .ok (.bipush 10, 2) := by decide +kernel
theorem dc32_6 : decode prog_6_method_3_code 6 = .ok (.iconst 1, 1) := by decide +kernel
theorem dc32_7 : decode prog_6_method_3_code 7 = .ok (.ldc 23, 2) := by decide +kernel
theorem dc32_9 : decode prog_6_method_3_code 9 = .ok (.ldc 23, 2) := by decide +kernel
theorem dc32_11 : decode prog_6_method_3_code 11 = .ok (.invokespecial 25, 3) := by decide +kernel
theorem pd_19 : parseMethodDescriptor "(IILjava/lang/String;Ljava/lang/String;)V" = some ⟨[.int, .int, (.object "java/lang/String"), (.object "java/lang/String")], none⟩ := by decide +kernel
theorem dc32_14 : decode prog_6_method_3_code 14 = .ok (.areturn, 1) := by decide +kernel
theorem ef_rmDe (mi : MethodId)  : entryFrame mi #[] 0 = mkF mi 0 #[] [] := by first | (simp [entryFrame, mkF, argsToLocals, Value.category]; done) | rfl
def Q_rmDe (Z : State)  (h0 : Heap) (n0 : Nat) (vv_ : Option Value) (hh_ : Heap) (LL_ : List Loc) : Prop := ∃ (o p s bp bs : Addr) (kp ks : ClassId), vv_ = some (.ref o) ∧ Fr n0 LL_ ∧ Keep h0 hh_ [] ∧ h0.size ≤ o ∧ Exa Z hh_ o "com/example/hoarfrost/hoarfrost/IdForm" ∧ Fld Z hh_ o "com/example/hoarfrost/hoarfrost/IdForm" "radix" "I" (.int (10 : Int32)) ∧ Fld Z hh_ o "com/example/hoarfrost/hoarfrost/IdForm" "width" "I" (.int (1 : Int32)) ∧ Fld Z hh_ o "com/example/hoarfrost/hoarfrost/IdForm" "prefix" "Ljava/lang/String;" (.ref p) ∧ Fld Z hh_ o "com/example/hoarfrost/hoarfrost/IdForm" "suffix" "Ljava/lang/String;" (.ref s) ∧ Exa Z hh_ p "java/lang/String" ∧ Fld Z hh_ p "java/lang/String" "coder" "B" (.int (0 : Int32)) ∧ Fld Z hh_ p "java/lang/String" "value" "[B" (.ref bp) ∧ Arv Z hh_ bp kp .byte (0 : Int32) (([] : List Int32).map Value.int) (.int (0 : Int32)) ∧ Exa Z hh_ bp "[B" ∧ Exa Z hh_ s "java/lang/String" ∧ Fld Z hh_ s "java/lang/String" "coder" "B" (.int (0 : Int32)) ∧ Fld Z hh_ s "java/lang/String" "value" "[B" (.ref bs) ∧ Arv Z hh_ bs ks .byte (0 : Int32) (([] : List Int32).map Value.int) (.int (0 : Int32)) ∧ Exa Z hh_ bs "[B"
set_option maxRecDepth 65536 in
set_option maxHeartbeats 40000000 in
theorem rmDe (l : Launch) (Z : State) (a0 : Array Value) (hw : ∀ d ∈ tables_1, d.before a0 Z = true) (ws : List Jvm.Cond)  (h0 : Heap) (n0 : Nat) (Z0 : n0 ≤ h0.size) (hEL : EW Z a0 own_EL) :
    MetFree l (⟨"com/example/hoarfrost/hoarfrost/IdForm", "decimal", "()Lcom/example/hoarfrost/hoarfrost/IdForm;"⟩ : MethodName) (head1 (Jvm.Cond.code (⟨"com/example/hoarfrost/hoarfrost/IdForm", "decimal", "()Lcom/example/hoarfrost/hoarfrost/IdForm;"⟩ : MethodName) prog_6_method_3_code 0 (some (.object "com/example/hoarfrost/hoarfrost/IdForm")) :: ws) ({ frames := 2, cells := 5, slots := 12, locals := 29 } : Room)) (fun aa_ U => aa_ = #[] ∧ Z.Warmed39 U.vm ∧ U.heap = h0 ∧ CHv Z own_EL U.vm h0) (fun _ _ _ _ _ => True) (fun _ U oo_ UV_ => ∃ vv_ LL_, oo_ = .returned vv_ ∧ Q_rmDe Z h0 n0 vv_ UV_.heap LL_ ∧ CHr Z own_EL U.vm U.heap UV_.vm UV_.heap ∧ ReturnedEndW U oo_ UV_ LL_ ({ frames := 2, cells := 5, slots := 12, locals := 29 } : Room).cells ({ frames := 2, cells := 5, slots := 12, locals := 29 } : Room).slots) := by
  refine MetFree.of_bodySF (plainFor_of_name pn_7) hisR ?_
  intro pg ev si mi args below meth ci s₁ Bd hml0 hP0 hK
  obtain ⟨rfl, hZ, hh, hCH⟩ := hP0
  have hx := Bd.exec
  have hby := Bd.bytes
  have hml : ci.maxLocals = 0 := hml0
  have hown : si.vm.findClass "com/example/hoarfrost/hoarfrost/IdForm" = some mi.cls := findClass_of_methodNamed Bd.named
  have hnm := (name_of_methodNamed Bd.named Bd.method).1
  have X0 : Stand pg l ev ({ frames := 2, cells := 5, slots := 12, locals := 29 } : Room) si mi #[] below meth ci s₁ [] 0 0 := Stand.of_body Bd
  have e0 : s₁.heap = h0 := by rw [← hh, Bd.state]; rfl
  have N0 := Fr.nil n0
  refine Go.start (fun P hP => ?_)
  refine Go.st (fun t_ k_ => castTop (ef_rmDe mi ) k_) (A := s₁.setTop (mkF mi 0 #[] [])) ?_
  show Go _ _ _ (s₁.setTop (mkF mi 0 #[] [])) _
  obtain ⟨T1, h1, X1, e1, E1, A1, D1, -, st1⟩ := newO X0 hx hZ hown (hw _ (own_m 4 rfl)) (hw _ (own_m 5 rfl)) (hw _ (own_m 2 rfl)) e0 (g := (mkF mi 0 #[] [])) rfl (hb hby dc32_0) (by decide) (by decide)
  obtain ⟨ob1, g1⟩ : ∃ z, z = h0.size := ⟨_, rfl⟩
  rw [← g1] at A1 D1 st1
  have Zs2 : n0 ≤ h1.size := Nat.le_trans Z0 E1.1
  have KC2 : Keep h0 h1 [] := (Keep.refl h0 []).ext E1
  have KL2 : Keep h0 h1 [] := (Keep.refl h0 []).ext E1
  have g_ob1 : n0 ≤ ob1 := Nat.le_trans Z0 (Nat.le_of_eq g1.symm)
  have sz_ob1 : h0.size ≤ ob1 := Nat.le_trans (Keep.refl h0 []).1 (Nat.le_of_eq g1.symm)
  have szl_ob1 : h0.size ≤ ob1 := Nat.le_trans (Keep.refl h0 []).1 (Nat.le_of_eq g1.symm)
  have F1_21 : Fld Z h1 ob1 "com/example/hoarfrost/hoarfrost/IdForm" "radix" "I" (.int 0) := D1 (Or.inr (hw _ (own_m 21 rfl))) (ty := .int) (by decide)
  have F1_23 : Fld Z h1 ob1 "com/example/hoarfrost/hoarfrost/IdForm" "width" "I" (.int 0) := D1 (Or.inr (hw _ (own_m 23 rfl))) (ty := .int) (by decide)
  have F1_25 : Fld Z h1 ob1 "com/example/hoarfrost/hoarfrost/IdForm" "prefix" "Ljava/lang/String;" .null := D1 (Or.inr (hw _ (own_m 25 rfl))) (ty := (.object "java/lang/String")) (by decide)
  have F1_27 : Fld Z h1 ob1 "com/example/hoarfrost/hoarfrost/IdForm" "suffix" "Ljava/lang/String;" .null := D1 (Or.inr (hw _ (own_m 27 rfl))) (ty := (.object "java/lang/String")) (by decide)
  refine Go.st st1 ?_
  refine g_dup X1 hx hby dc32_3 rfl ?_
  refine g_bipush X1 hx hby dc32_4 (v := 10) rfl ?_
  refine g_iconst X1 hx hby dc32_6 (v := 1) rfl ?_
  show Go _ _ _ (T1.setTop (mkF mi 7 #[] [(.int 1), (.int 10), (.ref ob1), (.ref ob1)])) _
  have CR3 : CHr Z own_EL si.vm h0 si.vm h1 := (CHr.refl hCH).trans (CHr.keep KL2 sf0 (CHr.refl hCH).1)
  have hwS : ∀ a ∈ Bundle.stringAtoms, a.before a0 Z = true := fun d hd => hw d ((by decide +kernel : ∀ d ∈ Bundle.stringAtoms, d ∈ tables_1) d hd)
  obtain ⟨os4, T4, h4, k14, bs4, ks4, X4, e4, E4, hSi4, hk14, hZ4, hown4, SE4, SCo4, SVa4, SA4, -, -, hCr4, hLi4, -, st4⟩ := ldcCH (s := si) (vm0 := si.vm) (EL := own_EL) (own_rb X1) hx hZ hown (hw _ (own_m 6 rfl)) hwS e1 ((State.WarmedH.refl si).since h0.size) (Nat.le_trans (Nat.le_refl _) KL2.1) hEL (List.mem_of_getElem? (i := 0) rfl) CR3.1 (vs := []) (z := (0 : Int32)) ⟨by decide +kernel, by decide +kernel⟩ (by decide) (by decide +kernel) (g := (mkF mi 7 #[] [(.int 1), (.int 10), (.ref ob1), (.ref ob1)])) rfl (hb hby dc32_7) (n := 0) (by decide +kernel) (by decide) (by decide) (by decide)
  have SAr4 : Arv Z h4 bs4 ks4 .byte (0 : Int32) (([] : List Int32).map Value.int) (.int (0 : Int32)) := SA4
  have SEb4 : Exa Z h4 bs4 "[B" := own_exB (s := si) hZ4 (hw _ (own_m 6 rfl)) (EL := own_EL) (List.mem_of_getElem? (i := 0) rfl) hCr4.1 hLi4 SVa4 SA4
  have hZ : Z.Warmed39 (si.setVm T4.vm).vm := hZ4
  have hown : (si.setVm T4.vm).vm.findClass "com/example/hoarfrost/hoarfrost/IdForm" = some mi.cls := hown4
  have Zs5 : n0 ≤ h4.size := Nat.le_trans Zs2 E4.1
  have KC5 : Keep h0 h4 [] := KC2.ext E4
  have KL5 : Keep h0 h4 [] := KL2.ext E4
  have f6 := (A1.ext E4)
  have ne_os4_ob1 : os4 ≠ ob1 := Exa.ne SE4 f6 (by decide)
  have ne_bs4_ob1 : bs4 ≠ ob1 := Exa.ne SEb4 f6 (by decide)
  have CS4 : CHr Z own_EL si.vm h0 T4.vm h4 := CR3.trans hCr4
  have sf4_ob1 : Safe Z own_EL T4.vm h4 ob1 := Safe.exa hZ.alike f6 (by decide) (by decide)
  refine Go.st st4 ?_
  show Go _ _ _ (T4.setTop (mkF mi 9 #[] [(.ref os4), (.int 1), (.int 10), (.ref ob1), (.ref ob1)])) _
  have CR7 : CHr Z own_EL si.vm h0 T4.vm h4 := CS4.trans (CHr.keep (Keep.refl h4 [ob1]) (sfS sf4_ob1 sf0) CS4.1)
  obtain ⟨os8, T8, h8, k18, bs8, ks8, X8, e8, E8, hSi8, hk18, hZ8, hown8, SE8, SCo8, SVa8, SA8, -, -, hCr8, hLi8, -, st8⟩ := ldcCH (s := si) (vm0 := T4.vm) (EL := own_EL) X4 hx hZ hown (hw _ (own_m 6 rfl)) hwS e4 hSi4 (Nat.le_trans hk14 (Keep.refl h4 [ob1]).1) hEL (List.mem_of_getElem? (i := 0) rfl) CR7.1 (vs := []) (z := (0 : Int32)) ⟨by decide +kernel, by decide +kernel⟩ (by decide) (by decide +kernel) (g := (mkF mi 9 #[] [(.ref os4), (.int 1), (.int 10), (.ref ob1), (.ref ob1)])) rfl (hb hby dc32_9) (n := 0) (by decide +kernel) (by decide) (by decide) (by decide)
  have SAr8 : Arv Z h8 bs8 ks8 .byte (0 : Int32) (([] : List Int32).map Value.int) (.int (0 : Int32)) := SA8
  have SEb8 : Exa Z h8 bs8 "[B" := own_exB (s := si) hZ8 (hw _ (own_m 6 rfl)) (EL := own_EL) (List.mem_of_getElem? (i := 0) rfl) hCr8.1 hLi8 SVa8 SA8
  have hZ : Z.Warmed39 (si.setVm T8.vm).vm := hZ8
  have hown : (si.setVm T8.vm).vm.findClass "com/example/hoarfrost/hoarfrost/IdForm" = some mi.cls := hown8
  have Zs9 : n0 ≤ h8.size := Nat.le_trans Zs5 E8.1
  have KC9 : Keep h0 h8 [] := KC5.ext E8
  have KL9 : Keep h4 h8 [ob1] := (Keep.refl h4 [ob1]).ext E8
  have f10 := (f6.ext E8)
  have ne_os8_ob1 : os8 ≠ ob1 := Exa.ne SE8 f10 (by decide)
  have ne_bs8_ob1 : bs8 ≠ ob1 := Exa.ne SEb8 f10 (by decide)
  have CS8 : CHr Z own_EL si.vm h0 T8.vm h8 := CR7.trans hCr8
  have sf8_ob1 : Safe Z own_EL T8.vm h8 ob1 := Safe.exa hZ.alike f10 (by decide) (by decide)
  refine Go.st st8 ?_
  show Go _ _ _ (T8.setTop (mkF mi 11 #[] [(.ref os8), (.ref os4), (.int 1), (.int 10), (.ref ob1), (.ref ob1)])) _
  have f12 := ((F1_21.ext E4).ext E8)
  have f13 := ((F1_23.ext E4).ext E8)
  have f14 := ((F1_25.ext E4).ext E8)
  have f15 := ((F1_27.ext E4).ext E8)
  obtain ⟨_, _, ⟨T11, L11, k11, n11⟩, -, X11, ⟨Lc11, hQ11, l11, y11, z11⟩, st11⟩ := X8.specialBack hx (y := (⟨"com/example/hoarfrost/hoarfrost/IdForm", "<init>", "(IILjava/lang/String;Ljava/lang/String;)V"⟩ : MethodName)) rfl hown (mvT hZ (hw _ (own_m 14 rfl))) (mvT hZ (hw _ (own_m 15 rfl))) (mvT hZ (hw _ (own_m 16 rfl))) (by decide) (backOf (W := 1) (rmII l Z a0 hw [] ob1 os4 os8 h8 n0 Zs9 f10 f12 f13 f14 f15 g_ob1) hZ (hw _ (own_m 16 rfl)) (hw _ (own_m 2 rfl)) (by decide) (by decide)) (g := (mkF mi 11 #[] [(.ref os8), (.ref os4), (.int 1), (.int 10), (.ref ob1), (.ref ob1)])) rfl (by rw [hml]; rfl) (Steps.refl _) (a := ob1) (argsL := [(.int 10), (.int 1), (.ref os4), (.ref os8)]) (rest := [(.ref ob1)]) (lenOf pd_19 rfl) rfl (by show 2 * 0 + _ ≤ _; exact Nat.le_of_eq rfl) (hb hby dc32_11) (fun _ _ => ⟨rfl, e8, (by decide : 5 + 0 ≤ _), (by decide : 12 + 0 ≤ _)⟩)
  dsimp only [Pt.U, Pt.locs, Pt.cells, Pt.slots] at X11 l11 y11 z11 st11 hQ11
  subst y11 z11
  have X11 := own_cs X11 (cells' := 5) (slots' := 12) rfl rfl
  obtain ⟨h11, e11⟩ : ∃ z, T11.heap = z := ⟨_, rfl⟩
  rw [e11] at hQ11
  obtain ⟨rfl, N11q, K11, IE11, IR11, IW11, IP11, IS11⟩ := hQ11
  have N11 := own_fr l11 (Fr.app N0 N11q)
  have Zs16 : n0 ≤ h11.size := Nat.le_trans Zs9 K11.1
  have KC16 : Keep h0 h11 [] := KC9.trans K11 (allS (P := fun x => x ∈ [] ∨ h0.size ≤ x) (Or.inr sz_ob1) all0)
  have KL16 : Keep h8 h11 [ob1] := (Keep.refl h8 [ob1]).trans K11 (allS (P := fun x => x ∈ [ob1] ∨ h8.size ≤ x) (Or.inl (List.mem_of_getElem? (i := 0) rfl)) all0)
  refine Go.tr st11 ?_
  show Go _ _ _ (T11.setTop (mkF mi 14 #[] [(.ref ob1)])) _
  obtain ⟨fs, hr, hrun, hended, -, hW, hpr, hsame⟩ := Stand.leaveW (v := some (.ref ob1)) X11 hSi8 (own_leT e11 (Nat.le_trans hk18 KL16.1)) (fun h => by rw [Bd.returns] at h; cases h) (BodyLoose.notSynchronized Bd)
  have f17 := ((SE4.ext E8).keep K11)
  have f18 := ((SCo4.ext E8).keep K11 (ninS ne_os4_ob1 nin0))
  have f19 := ((SVa4.ext E8).keep K11 (ninS ne_os4_ob1 nin0))
  have f20 := ((SAr4.ext E8).keep K11 (ninS ne_bs4_ob1 nin0))
  have f21 := ((SEb4.ext E8).keep K11)
  have f22 := (SE8.keep K11)
  have f23 := (SCo8.keep K11 (ninS ne_os8_ob1 nin0))
  have f24 := (SVa8.keep K11 (ninS ne_os8_ob1 nin0))
  have f25 := (SAr8.keep K11 (ninS ne_bs8_ob1 nin0))
  have f26 := (SEb8.keep K11)
  refine ⟨_, _, ?_, hP _ _ ⟨hrun, hended, _, _, rfl, ?_, (show CHr Z own_EL si.vm si.heap T11.vm T11.heap from own_chr hh e11 ((CS8.trans (CHr.keep KL16 (sfS sf8_ob1 sf0) CS8.1)).trans (CHv.at X11 hZ hEL (CHr.keep KL16 (sfS sf8_ob1 sf0) CS8.1).1))), ⟨_, rfl⟩, hW, hpr, hsame.mono (by decide) (by decide)⟩⟩
  · exact retOut X11 hx Bd.returns rfl (Or.inr (Or.inr (Or.inr (Or.inr ⟨rfl, rfl, rfl⟩)))) (hb hby dc32_14) hr
  · show Q_rmDe Z h0 n0 (some (.ref ob1) : Option Value) T11.heap _
    unfold Q_rmDe
    rw [e11]
    exact ⟨ob1, os4, os8, bs4, bs8, ks4, ks8, rfl, N11, KC16, sz_ob1, IE11, IR11, IW11, IP11, IS11, f17, f18, f19, f20, f21, f22, f23, f24, f25, f26⟩
def dch (q : Nat) : Int32 := Int32.ofNat (48 + q % 10)
def dl : Nat → Nat → List Int32
  | 0, _ => []
  | k + 1, N => dch (N / 10 ^ k) :: dl k N
def vsF (k N : Nat) : List Value := List.replicate (19 - k) (.int (0 : Int32)) ++ (dl k N).map Value.int
theorem dl_len : ∀ k N, (dl k N).length = k
  | 0, _ => rfl
  | k + 1, N => by rw [dl, List.length_cons, dl_len k N]
theorem vsF_len {k N : Nat} (h : k ≤ 19) : (vsF k N).length = 19 := by
  unfold vsF; rw [List.length_append, List.length_replicate, List.length_map, dl_len]; omega
theorem vsF_set {k N : Nat} (h : k < 19) : (vsF k N).set (18 - k) (.int (dch (N / 10 ^ k))) = vsF (k + 1) N := by
  unfold vsF
  have e : 19 - k = (18 - k) + 1 := by omega
  have e2 : 19 - (k + 1) = 18 - k := by omega
  rw [e, e2, List.replicate_succ', List.append_assoc, List.set_append_right _ _ (by simp)]
  simp [dl]
theorem own_rm {q : Int64} (h : 0 ≤ q.toInt) : ((q - (q / (10 : Int64)) * (10 : Int64)).toInt32).toInt = q.toInt % 10 := by
  have e1 := (c_lrem q 10 10 rfl).1 h
  have e2 := c_l2i (q - (q / (10 : Int64)) * (10 : Int64))
  have b1 := Int32.le_toInt (q - (q / (10 : Int64)) * (10 : Int64)).toInt32
  have b2 := Int32.toInt_lt (q - (q / (10 : Int64)) * (10 : Int64)).toInt32
  omega
theorem own_rin {q : Int64} (h : 0 ≤ q.toInt) : ¬ ((q - (q / (10 : Int64)) * (10 : Int64)).toInt32 < (0 : Int32)) ∧ (q - (q / (10 : Int64)) * (10 : Int64)).toInt32 < (62 : Int32) := by
  have e := own_rm h
  have l62 : (62 : Int32).toInt = 62 := rfl
  simp only [Int32.lt_iff_toInt_lt, own_z0]; omega
theorem own_alp : ∀ i : Fin 10, ((ALP.getD i.val 0) &&& (255 : Int32)) = Int32.ofNat (48 + i.val) := by decide +kernel
theorem own_dch {q : Int64} (h : 0 ≤ q.toInt) : (((ALP : List Int32).getD ((q - (q / (10 : Int64)) * (10 : Int64)).toInt32).toNatClampNeg 0) &&& (255 : Int32)) = dch q.toInt.toNat := by
  have e := own_rm h
  have e2 : ((q - (q / (10 : Int64)) * (10 : Int64)).toInt32).toNatClampNeg = q.toInt.toNat % 10 := by simp only [Int32.toNatClampNeg]; omega
  rw [e2]; exact own_alp ⟨q.toInt.toNat % 10, by omega⟩
theorem own_dchI (q : Nat) : (dch q).toInt = 48 + q % 10 := by unfold dch; rw [own_ofN (by omega)]; omega
theorem own_ncd (q : Nat) : (dch q).toUInt32.toUInt16.toUInt32.toInt32 = dch q := by
  have e := c_i2c (dch q)
  have e2 := own_dchI q
  apply Int32.toInt_inj.mp; omega
theorem own_q10 {q : Int64} (h : 0 ≤ q.toInt) : (q / (10 : Int64)).toInt = q.toInt / 10 := (c_ldiv q 10 10 rfl (by decide)).1 h
theorem dc33_40 : decode prog_6_method_7_code 40 = .ok (.lload 5, 2) := by decide +kernel
theorem dc33_42 : decode prog_6_method_7_code 42 = .ok (.aload_n 0, 1) := by decide +kernel
theorem dc33_43 : decode prog_6_method_7_code 43 = .ok (.getfield 7, 3) := by decide +kernel
theorem dc33_46 : decode prog_6_method_7_code 46 = .ok (.i2l, 1) := by decide +kernel
theorem dc33_47 : decode prog_6_method_7_code 47 = .ok (.lrem, 1) := by decide +kernel
theorem dc33_48 : decode prog_6_method_7_code 48 = .ok (.l2i, 1) := by decide +kernel
theorem dc33_49 : decode prog_6_method_7_code 49 = .ok (.invokevirtual 50, 3) := by decide +kernel
theorem pd_20 : parseMethodDescriptor "(I)C" = some ⟨[.int], some .char⟩ := by decide +kernel
theorem dc33_52 : decode prog_6_method_7_code 52 = .ok (.castore, 1) := by decide +kernel
theorem dc33_53 : decode prog_6_method_7_code 53 = .ok (.lload 5, 2) := by decide +kernel
theorem dc33_55 : decode prog_6_method_7_code 55 = .ok (.aload_n 0, 1) := by decide +kernel
theorem dc33_56 : decode prog_6_method_7_code 56 = .ok (.getfield 7, 3) := by decide +kernel
theorem dc33_59 : decode prog_6_method_7_code 59 = .ok (.i2l, 1) := by decide +kernel
theorem dc33_60 : decode prog_6_method_7_code 60 = .ok (.ldiv, 1) := by decide +kernel
theorem dc33_61 : decode prog_6_method_7_code 61 = .ok (.lstore 5, 2) := by decide +kernel
theorem dc33_63 : decode prog_6_method_7_code 63 = .ok (.lload 5, 2) := by decide +kernel
theorem dc33_65 : decode prog_6_method_7_code 65 = .ok (.lconst 0, 1) := by decide +kernel
theorem dc33_66 : decode prog_6_method_7_code 66 = .ok (.lcmp, 1) := by decide +kernel
theorem dc33_67 : decode prog_6_method_7_code 67 = .ok (.ifCond .ne (-35), 3) := by decide +kernel
set_option maxRecDepth 65536 in
set_option maxHeartbeats 40000000 in
theorem own_fm40 (l : Launch) (Z : State) (a0 : Array Value) (hw : ∀ d ∈ tables_1, d.before a0 Z = true) {pg : Program} {ev : Env} {si : State} {mi : MethodId} {args : Array Value} {below : List Frame} {meth : Method} {ci : Code} {s₁ : State} {locs : List Loc} (X0 : Stand pg l ev ({ frames := 7, cells := 12, slots := 400, locals := 120 } : Room) si mi args below meth ci s₁ locs 3 271) (hx : pg.tables.exec = Jvm.exec) (hby : ci.code = prog_6_method_7_code) (hml : ci.maxLocals = 9) (hZ : Z.Warmed39 si.vm) (hown : si.vm.findClass "com/example/hoarfrost/hoarfrost/IdForm" = some mi.cls) {P : State → Outcome → Prop} (o : Addr) (n : Int64) (ca : Addr) (p : Int32) (q : Int64) (oA : Addr) (b : Addr) (kb : ClassId) (kc : ClassId) (vs : List Value) (cz : Int32) (fm : Value) (h0 : Heap) (n0 : Nat) (Z0 : n0 ≤ h0.size) (e0 : s₁.heap = h0) (N0 : Fr n0 locs) (FR : Fld Z h0 o "com/example/hoarfrost/hoarfrost/IdForm" "radix" "I" (.int (10 : Int32))) (SE : Exa Z h0 oA "java/lang/String") (SCo : Fld Z h0 oA "java/lang/String" "coder" "B" (.int (0 : Int32))) (SVa : Fld Z h0 oA "java/lang/String" "value" "[B" (.ref b)) (SAr : Arv Z h0 b kb .byte (62 : Int32) ((ALP : List Int32).map Value.int) (.int (0 : Int32))) (SEb : Exa Z h0 b "[B") (CA : Arv Z h0 ca kc .char (19 : Int32) vs (.int (0 : Int32))) (SC : Sta Z h0 "java/lang/String" "COMPACT_STRINGS" "Z" (.int cz)) (hcz : ¬ (cz = (0 : Int32))) (SF : Sta Z h0 "jdk/internal/util/Preconditions" "SIOOBE_FORMATTER" "Ljava/util/function/BiFunction;" fm) (hfm : fm.isRef = true) (hq0 : 0 ≤ q.toInt) (hp0 : ¬ p < 0) (hp19 : p < (19 : Int32)) (hpl : p.toNatClampNeg < vs.length) (g_c : n0 ≤ ca) (n_ac : oA ≠ ca) (n_bc : b ≠ ca) (n_oc : o ≠ ca) (K1 : (q / (10 : Int64)) = (0 : Int64) → ∀ (T' : State) (locs' : List Loc) (h' : Heap), Stand pg l ev ({ frames := 7, cells := 12, slots := 400, locals := 120 } : Room) si mi args below meth ci T' locs' 3 271 → T'.heap = h' → Fr n0 locs' → Keep h0 h' [ca] → Arv Z h' ca kc .char (19 : Int32) (vs.set p.toNatClampNeg (.int (dch q.toInt.toNat))) (.int (0 : Int32)) → Go pg.tables ev below (T'.setTop (mkF mi 70 #[.val (.ref o), .val (.long n), .second, .val (.ref ca), .val (.int p), .val (.long (q / (10 : Int64))), .second, .unset, .unset] [])) P) (K2 : ¬ ((q / (10 : Int64)) = (0 : Int64)) → ∀ (T' : State) (locs' : List Loc) (h' : Heap), Stand pg l ev ({ frames := 7, cells := 12, slots := 400, locals := 120 } : Room) si mi args below meth ci T' locs' 3 271 → T'.heap = h' → Fr n0 locs' → Keep h0 h' [ca] → Arv Z h' ca kc .char (19 : Int32) (vs.set p.toNatClampNeg (.int (dch q.toInt.toNat))) (.int (0 : Int32)) → Go pg.tables ev below (T'.setTop (mkF mi 32 #[.val (.ref o), .val (.long n), .second, .val (.ref ca), .val (.int p), .val (.long (q / (10 : Int64))), .second, .unset, .unset] [])) P) :
    Go pg.tables ev below (s₁.setTop (mkF mi 40 #[.val (.ref o), .val (.long n), .second, .val (.ref ca), .val (.int p), .val (.long q), .second, .unset, .unset] [(.ref oA), (.int p), (.ref ca)])) P := by
  refine g_lload X0 hx hby dc33_40 rfl ?_
  refine g_aloadN X0 hx hby dc33_42 rfl rfl ?_
  obtain ⟨T1, X1, e1, st1⟩ := getF X0 hx hZ hown (host := "") (Or.inl (hw _ (own_m 20 rfl))) Via.refl e0 FR (g := (mkF mi 43 #[.val (.ref o), .val (.long n), .second, .val (.ref ca), .val (.int p), .val (.long q), .second, .unset, .unset] [(.ref o), (.long q), (.ref oA), (.int p), (.ref ca)])) rfl rfl (hb hby dc33_43)
  refine Go.st st1 ?_
  refine Go.s (XS.i2l X1.here hx rfl (hb hby dc33_46) rfl) ?_
  refine Go.s (XS.lrem X1.here hx rfl (hb hby dc33_47) rfl (by decide)) ?_
  refine Go.s (XS.l2i X1.here hx rfl (hb hby dc33_48) rfl) ?_
  obtain ⟨cq2, kq2, q2a, q2b, q2c⟩ := isOf hZ e1 SE
  obtain ⟨_, _, ⟨T2, L2, k2, n2⟩, -, X2, ⟨Lc2, hQ2, l2, y2, z2⟩, st2⟩ := X1.virtualBack hx (y := (⟨"java/lang/String", "charAt", "(I)C"⟩ : MethodName)) (z := (⟨"java/lang/String", "charAt", "(I)C"⟩ : MethodName)) hown (mvT hZ (hw _ (own_m 36 rfl))) (mvT hZ (hw _ (own_m 37 rfl))) (notFace_of_selects (args := #[]) (mvT hZ (hw _ (own_m 39 rfl)))) (mvT hZ (hw _ (own_m 39 rfl))) (mvT hZ (hw _ (own_m 38 rfl))) (by decide) (backOf (W := 2) (rmCA l Z a0 hw [] oA ((q - (q / (10 : Int64)) * (10 : Int64)).toInt32) b kb (62 : Int32) (ALP : List Int32) cz fm h0 n0 Z0 SE SCo SVa SAr SEb SC hcz SF hfm (own_rin hq0).1 (own_rin hq0).2) hZ (hw _ (own_m 40 rfl)) (hw _ (own_m 7 rfl)) (by decide) (by decide)) q2a q2c (g := (mkF mi 49 #[.val (.ref o), .val (.long n), .second, .val (.ref ca), .val (.int p), .val (.long q), .second, .unset, .unset] [(.int ((q - (q / (10 : Int64)) * (10 : Int64)).toInt32)), (.ref oA), (.int p), (.ref ca)])) rfl (by rw [hml]; rfl) (Steps.refl _) (argsL := [(.int ((q - (q / (10 : Int64)) * (10 : Int64)).toInt32))]) (rest := [(.int p), (.ref ca)]) (lenOf pd_20 rfl) rfl (by show 2 * 0 + _ ≤ _; exact Nat.le_of_eq rfl) (hb hby dc33_49) (fun _ _ => ⟨rfl, e1, (by decide : 3 + 0 ≤ _), (by decide : 271 + 0 ≤ _)⟩)
  dsimp only [Pt.U, Pt.locs, Pt.cells, Pt.slots] at X2 l2 y2 z2 st2 hQ2
  subst y2 z2
  have X2 := own_cs X2 (cells' := 3) (slots' := 271) rfl rfl
  obtain ⟨rfl, N2q, e2⟩ := hQ2
  have N2 := own_fr l2 (Fr.app N0 N2q)
  refine Go.tr st2 ?_
  show Go _ _ _ (T2.setTop (mkF mi 52 #[.val (.ref o), .val (.long n), .second, .val (.ref ca), .val (.int p), .val (.long q), .second, .unset, .unset] [(.int (((ALP : List Int32).getD ((q - (q / (10 : Int64)) * (10 : Int64)).toInt32).toNatClampNeg 0) &&& (255 : Int32))), (.int p), (.ref ca)])) _
  rw [own_dch hq0]
  show Go _ _ _ (T2.setTop (mkF mi 52 #[.val (.ref o), .val (.long n), .second, .val (.ref ca), .val (.int p), .val (.long q), .second, .unset, .unset] [(.int (dch q.toInt.toNat)), (.int p), (.ref ca)])) _
  have ov3 := CA
  obtain ⟨cl3, Ar3, q3, S3, M3, H3, G3⟩ := ov3
  have hin3 : ¬ (p < 0 ∨ cl3.slots.size ≤ (p).toNatClampNeg) := inb_of S3 ⟨hp0, hp19⟩
  obtain ⟨T4, h4, X4, e4, W4, st4⟩ := stC X2 hx hZ e2 Ar3 (j := p) hin3 (g := (mkF mi 52 #[.val (.ref o), .val (.long n), .second, .val (.ref ca), .val (.int p), .val (.long q), .second, .unset, .unset] [(.int (dch q.toInt.toNat)), (.int p), (.ref ca)])) rfl rfl (hb hby dc33_52)
  have Zs5 : n0 ≤ h4.size := Nat.le_trans Z0 (Keep.of_wr W4).1
  have KC5 : Keep h0 h4 [ca] := (Keep.refl h0 [ca]).wr W4 (Or.inl (List.mem_of_getElem? (i := 0) rfl))
  have N5 := Fr.snoc X4 N2 g_c
  have V4 : Arv Z h4 ca kc .char (19 : Int32) (vs.set p.toNatClampNeg (.int ((dch q.toInt.toNat).toUInt32.toUInt16.toUInt32.toInt32))) (.int (0 : Int32)) := Arv.set Ar3 q3 S3 M3 H3 G3 (fits_nar_char _) W4 p.toNatClampNeg rfl hpl
  rw [own_ncd] at V4
  refine Go.st st4 ?_
  refine g_lload X4 hx hby dc33_53 rfl ?_
  refine g_aloadN X4 hx hby dc33_55 rfl rfl ?_
  have f6 := (FR.other W4 (Or.inl n_oc))
  obtain ⟨T7, X7, e7, st7⟩ := getF X4 hx hZ hown (host := "") (Or.inl (hw _ (own_m 20 rfl))) Via.refl e4 f6 (g := (mkF mi 56 #[.val (.ref o), .val (.long n), .second, .val (.ref ca), .val (.int p), .val (.long q), .second, .unset, .unset] [(.ref o), (.long q)])) rfl rfl (hb hby dc33_56)
  refine Go.st st7 ?_
  refine Go.s (XS.i2l X7.here hx rfl (hb hby dc33_59) rfl) ?_
  refine Go.s (XS.ldiv X7.here hx rfl (hb hby dc33_60) rfl (by decide)) ?_
  refine Go.s (XS.lstore X7.here hx rfl (hb hby dc33_61) rfl (l' := #[.val (.ref o), .val (.long n), .second, .val (.ref ca), .val (.int p), .val (.long (q / (10 : Int64))), .second, .unset, .unset]) rfl) ?_
  show Go _ _ _ (T7.setTop (mkF mi 63 #[.val (.ref o), .val (.long n), .second, .val (.ref ca), .val (.int p), .val (.long (q / (10 : Int64))), .second, .unset, .unset] [])) _
  refine g_lload X7 hx hby dc33_63 rfl ?_
  refine Go.s (XS.lconst X7.here hx rfl (hb hby dc33_65)) ?_
  refine Go.s (XS.lcmp X7.here hx rfl (hb hby dc33_66) rfl) ?_
  by_cases hc67_1 : (q / (10 : Int64)) = (0 : Int64)
  · refine g_ifNo X7 hx hby dc33_67 ((if0 _ _).trans (teq (own_eq hc67_1)).2) ?_
    show Go _ _ _ (T7.setTop (mkF mi 70 #[.val (.ref o), .val (.long n), .second, .val (.ref ca), .val (.int p), .val (.long (q / (10 : Int64))), .second, .unset, .unset] [])) _
    exact K1 hc67_1 _ _ _ X7 e7 N5 KC5 V4
  · refine g_ifYes X7 hx hby dc33_67 ((if0 _ _).trans (feq (own_neq hc67_1)).2) (pc0 := 67) (pc' := 32) rfl (by decide) (by decide) ?_
    show Go _ _ _ (T7.setTop (mkF mi 32 #[.val (.ref o), .val (.long n), .second, .val (.ref ca), .val (.int p), .val (.long (q / (10 : Int64))), .second, .unset, .unset] [])) _
    exact K2 hc67_1 _ _ _ X7 e7 N5 KC5 V4
theorem dc33_32 : decode prog_6_method_7_code 32 = .ok (.iinc 4 (-1), 3) := by decide +kernel
theorem dc33_35 : decode prog_6_method_7_code 35 = .ok (.aload_n 3, 1) := by decide +kernel
theorem dc33_36 : decode prog_6_method_7_code 36 = .ok (.iload 4, 2) := by decide +kernel
theorem dc33_38 : decode prog_6_method_7_code 38 = .ok (.ldc 48, 2) := by decide +kernel
set_option maxRecDepth 65536 in
set_option maxHeartbeats 40000000 in
theorem own_fm32 (l : Launch) (Z : State) (a0 : Array Value) (hw : ∀ d ∈ tables_1, d.before a0 Z = true) {pg : Program} {ev : Env} {si : State} {mi : MethodId} {args : Array Value} {below : List Frame} {meth : Method} {ci : Code} {s₁ : State} {locs : List Loc} (X0 : Stand pg l ev ({ frames := 7, cells := 12, slots := 400, locals := 120 } : Room) si mi args below meth ci s₁ locs 3 271) (hx : pg.tables.exec = Jvm.exec) (hby : ci.code = prog_6_method_7_code) (hml : ci.maxLocals = 9) (hZ : Z.Warmed39 si.vm) (hown : si.vm.findClass "com/example/hoarfrost/hoarfrost/IdForm" = some mi.cls) {P : State → Outcome → Prop} (o : Addr) (n : Int64) (ca : Addr) (p : Int32) (q : Int64) (oA : Addr) (h0 : Heap) (n0 : Nat) (Z0 : n0 ≤ h0.size) (e0 : s₁.heap = h0) (N0 : Fr n0 locs) (hLi : Lit (si.setVm si.vm) "com/example/hoarfrost/hoarfrost/IdForm" 48 oA) (K : Go pg.tables ev below (s₁.setTop (mkF mi 40 #[.val (.ref o), .val (.long n), .second, .val (.ref ca), .val (.int (p + (-1 : Int32))), .val (.long q), .second, .unset, .unset] [(.ref oA), (.int (p + (-1 : Int32))), (.ref ca)])) P) :
    Go pg.tables ev below (s₁.setTop (mkF mi 32 #[.val (.ref o), .val (.long n), .second, .val (.ref ca), .val (.int p), .val (.long q), .second, .unset, .unset] [])) P := by
  refine g_iinc X0 hx hby dc33_32 rfl rfl (l' := #[.val (.ref o), .val (.long n), .second, .val (.ref ca), .val (.int (p + (-1 : Int32))), .val (.long q), .second, .unset, .unset]) rfl ?_
  refine g_aloadN X0 hx hby dc33_35 rfl rfl ?_
  refine g_iload X0 hx hby dc33_36 rfl ?_
  show Go _ _ _ (s₁.setTop (mkF mi 38 #[.val (.ref o), .val (.long n), .second, .val (.ref ca), .val (.int (p + (-1 : Int32))), .val (.long q), .second, .unset, .unset] [(.int (p + (-1 : Int32))), (.ref ca)])) _
  refine Go.st (ldcAgain (s := si) (vm0 := si.vm) (own_rb X0) hx hZ hown (hw _ (own_m 35 rfl)) hLi (g := (mkF mi 38 #[.val (.ref o), .val (.long n), .second, .val (.ref ca), .val (.int (p + (-1 : Int32))), .val (.long q), .second, .unset, .unset] [(.int (p + (-1 : Int32))), (.ref ca)])) rfl (hb hby dc33_38)) ?_
  show Go _ _ _ (s₁.setTop (mkF mi 40 #[.val (.ref o), .val (.long n), .second, .val (.ref ca), .val (.int (p + (-1 : Int32))), .val (.long q), .second, .unset, .unset] [(.ref oA), (.int (p + (-1 : Int32))), (.ref ca)])) _
  exact K
theorem own_pm {k : Nat} (h : k < 19) : Int32.ofNat (19 - k) + (-1 : Int32) = Int32.ofNat (18 - k) := by
  have e1 := own_ofN (n := 19 - k) (by omega)
  have e2 := own_ofN (n := 18 - k) (by omega)
  have e3 := c_iadd (Int32.ofNat (19 - k)) (-1)
  have l1 : (-1 : Int32).toInt = -1 := rfl
  have b1 := Int32.le_toInt (Int32.ofNat (19 - k) + (-1 : Int32))
  have b2 := Int32.toInt_lt (Int32.ofNat (19 - k) + (-1 : Int32))
  apply Int32.toInt_inj.mp; omega
theorem own_qz {q : Int64} (h : q.toInt = 0) : q = 0 := by apply Int64.toInt_inj.mp; rw [h]; rfl
theorem own_dd {N k : Nat} : N / 10 ^ k / 10 = N / 10 ^ (k + 1) := by rw [Nat.div_div_eq_div_mul, Nat.pow_succ]
theorem own_fmL (l : Launch) (Z : State) (a0 : Array Value) (hw : ∀ d ∈ tables_1, d.before a0 Z = true) {pg : Program} {ev : Env} {si : State} {mi : MethodId} {args : Array Value} {below : List Frame} {meth : Method} {ci : Code} (hx : pg.tables.exec = Jvm.exec) (hby : ci.code = prog_6_method_7_code) (hml : ci.maxLocals = 9) (hZ : Z.Warmed39 si.vm) (hown : si.vm.findClass "com/example/hoarfrost/hoarfrost/IdForm" = some mi.cls) {P : State → Outcome → Prop} (o : Addr) (n : Int64) (ca oA b : Addr) (kb kc : ClassId) (cz : Int32) (fm : Value) (N : Nat) (hN : N < 10 ^ 19) (n0 : Nat) (hcz : ¬ (cz = (0 : Int32))) (hfm : fm.isRef = true) (g_c : n0 ≤ ca) (n_ac : oA ≠ ca) (n_bc : b ≠ ca) (n_oc : o ≠ ca) (hLi : Lit (si.setVm si.vm) "com/example/hoarfrost/hoarfrost/IdForm" 48 oA) :
    ∀ (r k : Nat) (q : Int64) (s₁ : State) (locs : List Loc) (h0 : Heap), k + r = 19 → 1 ≤ k → q.toInt = ((N / 10 ^ k : Nat) : Int) → 0 < q.toInt → Stand pg l ev ({ frames := 7, cells := 12, slots := 400, locals := 120 } : Room) si mi args below meth ci s₁ locs 3 271 → n0 ≤ h0.size → s₁.heap = h0 → Fr n0 locs → Fld Z h0 o "com/example/hoarfrost/hoarfrost/IdForm" "radix" "I" (.int (10 : Int32)) → Exa Z h0 oA "java/lang/String" → Fld Z h0 oA "java/lang/String" "coder" "B" (.int (0 : Int32)) → Fld Z h0 oA "java/lang/String" "value" "[B" (.ref b) → Arv Z h0 b kb .byte (62 : Int32) ((ALP : List Int32).map Value.int) (.int (0 : Int32)) → Exa Z h0 b "[B" → Arv Z h0 ca kc .char (19 : Int32) (vsF k N) (.int (0 : Int32)) → Sta Z h0 "java/lang/String" "COMPACT_STRINGS" "Z" (.int cz) → Sta Z h0 "jdk/internal/util/Preconditions" "SIOOBE_FORMATTER" "Ljava/util/function/BiFunction;" fm →
      (∀ (T' : State) (locs' : List Loc) (h' : Heap) (k' : Nat), 1 ≤ k' → k' ≤ 19 → N / 10 ^ k' = 0 → (k' = 1 ∨ N / 10 ^ (k' - 1) ≠ 0) → Stand pg l ev ({ frames := 7, cells := 12, slots := 400, locals := 120 } : Room) si mi args below meth ci T' locs' 3 271 → T'.heap = h' → Fr n0 locs' → Keep h0 h' [ca] → Arv Z h' ca kc .char (19 : Int32) (vsF k' N) (.int (0 : Int32)) → Go pg.tables ev below (T'.setTop (mkF mi 70 #[.val (.ref o), .val (.long n), .second, .val (.ref ca), .val (.int (Int32.ofNat (19 - k'))), .val (.long (0 : Int64)), .second, .unset, .unset] [])) P) → Go pg.tables ev below (s₁.setTop (mkF mi 32 #[.val (.ref o), .val (.long n), .second, .val (.ref ca), .val (.int (Int32.ofNat (19 - k))), .val (.long q), .second, .unset, .unset] [])) P := by
  intro r
  induction r with
  | zero =>
    intro k q s₁ locs h0 hk h1 hq hq0
    obtain rfl : k = 19 := by omega
    rw [Nat.div_eq_of_lt hN] at hq; omega
  | succ r ih =>
    intro k q s₁ locs h0 hk h1 hq hq0 X0 Z0 e0 N0 FR SE SCo SVa SAr SEb CA SC SF K
    have hk19 : k < 19 := by omega
    refine own_fm32 l Z a0 hw X0 hx hby hml hZ hown o n ca _ q oA h0 n0 Z0 e0 N0 hLi ?_
    rw [own_pm hk19]
    have hqn : q.toInt.toNat = N / 10 ^ k := by omega
    have hq1 : (q / (10 : Int64)).toInt = ((N / 10 ^ (k + 1) : Nat) : Int) := by rw [own_q10 (by omega), hq, ← own_dd]; rfl
    refine own_fm40 l Z a0 hw X0 hx hby hml hZ hown o n ca _ q oA b kb kc (vsF k N) cz fm h0 n0 Z0 e0 N0 FR SE SCo SVa SAr SEb CA SC hcz SF hfm (by omega) (own_ofN0 (by omega)) (by rw [Int32.lt_iff_toInt_lt, own_ofN (by omega)]; have l19 : (19 : Int32).toInt = 19 := rfl; omega) (by rw [own_ofNn (by omega), vsF_len (by omega)]; omega) g_c n_ac n_bc n_oc (fun hz T' L' h' X' e' N' K' A' => ?_) (fun hz T' L' h' X' e' N' K' A' => ?_)
    · rw [own_ofNn (by omega), hqn, vsF_set hk19] at A'
      have e18 : 18 - k = 19 - (k + 1) := by omega
      rw [hz, e18]
      exact K T' L' h' (k + 1) (by omega) (by omega) (by rw [hz] at hq1; have : (0 : Int64).toInt = 0 := rfl; omega) (Or.inr (by simp only [Nat.add_sub_cancel]; omega)) X' e' N' K' A'
    · rw [own_ofNn (by omega), hqn, vsF_set hk19] at A'
      have e18 : 18 - k = 19 - (k + 1) := by omega
      rw [e18]
      exact ih (k + 1) _ T' L' h' (by omega) (by omega) hq1 (by rcases Nat.eq_zero_or_pos (N / 10 ^ (k + 1)) with z | z; exact absurd (own_qz (by rw [hq1, z]; rfl)) hz; omega) X' (Nat.le_trans Z0 K'.1) e' N' (FR.keep K' (ninS n_oc nin0)) (SE.keep K') (SCo.keep K' (ninS n_ac nin0)) (SVa.keep K' (ninS n_ac nin0)) (SAr.keep K' (ninS n_bc nin0)) (SEb.keep K') A' (own_sta_keep SC K' (nsS CA.nostat ns0)) (own_sta_keep SF K' (nsS CA.nostat ns0)) (fun T2 L2 h2 k2 a1 a2 a3 a4 X2 e2 N2 K2 A2 => K T2 L2 h2 k2 a1 a2 a3 a4 X2 e2 N2 (K'.trans K2 (fun x hx => Or.inl hx)) A2)
theorem own_sub19 {k : Nat} (h : k ≤ 19) : ((19 : Int32) - (Int32.ofNat (19 - k))) = Int32.ofNat k := by
  have e1 := own_ofN (n := 19 - k) (by omega)
  have e2 := own_ofN (n := k) (by omega)
  have e3 := c_isub 19 (Int32.ofNat (19 - k))
  have l1 : (19 : Int32).toInt = 19 := rfl
  have b1 := Int32.le_toInt ((19 : Int32) - (Int32.ofNat (19 - k)))
  have b2 := Int32.toInt_lt ((19 : Int32) - (Int32.ofNat (19 - k)))
  apply Int32.toInt_inj.mp; omega
theorem own_mx {k : Nat} (h1 : 1 ≤ k) (h : k ≤ 19) : fMax (1 : Int32) (Int32.ofNat k) = Int32.ofNat k := by
  have e2 := own_ofN (n := k) (by omega)
  have l1 : (1 : Int32).toInt = 1 := rfl
  unfold fMax; split
  · rfl
  · rename_i q; rw [Int32.lt_iff_toInt_lt] at q; apply Int32.toInt_inj.mp; omega
theorem own_mx0 {k : Nat} (h1 : 1 ≤ k) (h : k ≤ 19) : fMax (0 : Int32) ((1 : Int32) - (Int32.ofNat k)) = 0 := by
  have e2 := own_ofN (n := k) (by omega)
  have l1 : (1 : Int32).toInt = 1 := rfl
  have e3 := c_isub 1 (Int32.ofNat k)
  have b1 := Int32.le_toInt ((1 : Int32) - (Int32.ofNat k))
  have b2 := Int32.toInt_lt ((1 : Int32) - (Int32.ofNat k))
  unfold fMax; split
  · rename_i q; rw [Int32.lt_iff_toInt_lt, own_z0] at q; omega
  · rfl
theorem dl_get : ∀ (k N t : Nat), t < k → ∃ m, (dl k N).getD t 0 = dch m
  | 0, _, _, h => absurd h (Nat.not_lt_zero _)
  | k + 1, N, 0, _ => ⟨_, rfl⟩
  | k + 1, N, t + 1, h => by obtain ⟨m, e⟩ := dl_get k N t (by omega); exact ⟨m, e⟩
theorem vsF_get {k N t : Nat} (h : k ≤ 19) (ht : t < k) : (vsF k N).getD ((19 - k) + t) (.int (0 : Int32)) = .int ((dl k N).getD t 0) := by
  rw [← own_gm]; unfold vsF
  rw [List.getD_eq_getElem?_getD, List.getElem?_append_right (by simp)]
  simp
theorem dch_b (m : Nat) : (dch m).toInt8.toInt32 = dch m := by
  have e := c_i2b (dch m)
  have e2 := own_dchI m
  apply Int32.toInt_inj.mp; omega
theorem dl_b : ∀ k N, ((dl k N).map fun x => x.toInt8.toInt32) = dl k N
  | 0, _ => rfl
  | k + 1, N => by rw [dl, List.map_cons, dl_b k N, dch_b]
theorem own_t0 : (0 : Int32).toNatClampNeg = 0 := by decide +kernel
theorem dc33_0 : decode prog_6_method_7_code 0 = .ok (.lload_n 1, 1) := by decide +kernel
theorem dc33_1 : decode prog_6_method_7_code 1 = .ok (.lconst 0, 1) := by decide +kernel
theorem dc33_2 : decode prog_6_method_7_code 2 = .ok (.lcmp, 1) := by decide +kernel
theorem dc33_3 : decode prog_6_method_7_code 3 = .ok (.ifCond .ge 17, 3) := by decide +kernel
theorem dc33_20 : decode prog_6_method_7_code 20 = .ok (.bipush 19, 2) := by decide +kernel
theorem dc33_22 : decode prog_6_method_7_code 22 = .ok (.newarray .char, 2) := by decide +kernel
theorem dc33_24 : decode prog_6_method_7_code 24 = .ok (.astore_n 3, 1) := by decide +kernel
theorem dc33_25 : decode prog_6_method_7_code 25 = .ok (.aload_n 3, 1) := by decide +kernel
theorem dc33_26 : decode prog_6_method_7_code 26 = .ok (.arraylength, 1) := by decide +kernel
theorem dc33_27 : decode prog_6_method_7_code 27 = .ok (.istore 4, 2) := by decide +kernel
theorem dc33_29 : decode prog_6_method_7_code 29 = .ok (.lload_n 1, 1) := by decide +kernel
theorem dc33_30 : decode prog_6_method_7_code 30 = .ok (.lstore 5, 2) := by decide +kernel
theorem dc33_70 : decode prog_6_method_7_code 70 = .ok (.aload_n 3, 1) := by decide +kernel
theorem dc33_71 : decode prog_6_method_7_code 71 = .ok (.arraylength, 1) := by decide +kernel
theorem dc33_72 : decode prog_6_method_7_code 72 = .ok (.iload 4, 2) := by decide +kernel
theorem dc33_74 : decode prog_6_method_7_code 74 = .ok (.isub, 1) := by decide +kernel
theorem dc33_75 : decode prog_6_method_7_code 75 = .ok (.istore 7, 2) := by decide +kernel
theorem dc33_77 : decode prog_6_method_7_code 77 = .ok (.new 56, 3) := by decide +kernel
theorem dc33_80 : decode prog_6_method_7_code 80 = .ok (.dup, 1) := by decide +kernel
theorem dc33_81 : decode prog_6_method_7_code 81 = .ok (.aload_n 0, 1) := by decide +kernel
theorem dc33_82 : decode prog_6_method_7_code 82 = .ok (.getfield 16, 3) := by decide +kernel
theorem dc33_85 : decode prog_6_method_7_code 85 = .ok (.invokevirtual 58, 3) := by decide +kernel
theorem dc33_88 : decode prog_6_method_7_code 88 = .ok (.aload_n 0, 1) := by decide +kernel
theorem dc33_89 : decode prog_6_method_7_code 89 = .ok (.getfield 13, 3) := by decide +kernel
theorem dc33_92 : decode prog_6_method_7_code 92 = .ok (.iload 7, 2) := by decide +kernel
theorem dc33_94 : decode prog_6_method_7_code 94 = .ok (.invokestatic 62, 3) := by decide +kernel
theorem pd_21 : parseMethodDescriptor "(II)I" = some ⟨[.int, .int], some .int⟩ := by decide +kernel
theorem dc33_97 : decode prog_6_method_7_code 97 = .ok (.iadd, 1) := by decide +kernel
theorem dc33_98 : decode prog_6_method_7_code 98 = .ok (.aload_n 0, 1) := by decide +kernel
theorem dc33_99 : decode prog_6_method_7_code 99 = .ok (.getfield 20, 3) := by decide +kernel
theorem dc33_102 : decode prog_6_method_7_code 102 = .ok (.invokevirtual 58, 3) := by decide +kernel
theorem dc33_105 : decode prog_6_method_7_code 105 = .ok (.iadd, 1) := by decide +kernel
theorem dc33_106 : decode prog_6_method_7_code 106 = .ok (.invokespecial 68, 3) := by decide +kernel
theorem dc33_109 : decode prog_6_method_7_code 109 = .ok (.astore 8, 2) := by decide +kernel
theorem dc33_111 : decode prog_6_method_7_code 111 = .ok (.aload 8, 2) := by decide +kernel
theorem dc33_113 : decode prog_6_method_7_code 113 = .ok (.aload_n 0, 1) := by decide +kernel
theorem dc33_114 : decode prog_6_method_7_code 114 = .ok (.getfield 16, 3) := by decide +kernel
theorem dc33_117 : decode prog_6_method_7_code 117 = .ok (.invokevirtual 71, 3) := by decide +kernel
theorem pd_22 : parseMethodDescriptor "(Ljava/lang/String;)Ljava/lang/StringBuilder;" = some ⟨[(.object "java/lang/String")], some (.object "java/lang/StringBuilder")⟩ := by decide +kernel
theorem dc33_120 : decode prog_6_method_7_code 120 = .ok (.pop, 1) := by decide +kernel
theorem dc33_121 : decode prog_6_method_7_code 121 = .ok (.aload 8, 2) := by decide +kernel
theorem dc33_123 : decode prog_6_method_7_code 123 = .ok (.ldc 75, 2) := by decide +kernel
theorem dc33_125 : decode prog_6_method_7_code 125 = .ok (.iconst 0, 1) := by decide +kernel
theorem dc33_126 : decode prog_6_method_7_code 126 = .ok (.aload_n 0, 1) := by decide +kernel
theorem dc33_127 : decode prog_6_method_7_code 127 = .ok (.getfield 13, 3) := by decide +kernel
theorem dc33_130 : decode prog_6_method_7_code 130 = .ok (.iload 7, 2) := by decide +kernel
theorem dc33_132 : decode prog_6_method_7_code 132 = .ok (.isub, 1) := by decide +kernel
theorem dc33_133 : decode prog_6_method_7_code 133 = .ok (.invokestatic 62, 3) := by decide +kernel
theorem pd_23 : parseMethodDescriptor "(I)Ljava/lang/String;" = some ⟨[.int], some (.object "java/lang/String")⟩ := by decide +kernel
theorem dc33_136 : decode prog_6_method_7_code 136 = .ok (.invokevirtual 77, 3) := by decide +kernel
theorem dc33_139 : decode prog_6_method_7_code 139 = .ok (.invokevirtual 71, 3) := by decide +kernel
theorem dc33_142 : decode prog_6_method_7_code 142 = .ok (.pop, 1) := by decide +kernel
theorem dc33_143 : decode prog_6_method_7_code 143 = .ok (.aload 8, 2) := by decide +kernel
theorem dc33_145 : decode prog_6_method_7_code 145 = .ok (.aload_n 3, 1) := by decide +kernel
theorem dc33_146 : decode prog_6_method_7_code 146 = .ok (.iload 4, 2) := by decide +kernel
theorem dc33_148 : decode prog_6_method_7_code 148 = .ok (.iload 7, 2) := by decide +kernel
theorem dc33_150 : decode prog_6_method_7_code 150 = .ok (.invokevirtual 80, 3) := by decide +kernel
theorem pd_24 : parseMethodDescriptor "([CII)Ljava/lang/StringBuilder;" = some ⟨[(.array .char), .int, .int], some (.object "java/lang/StringBuilder")⟩ := by decide +kernel
theorem dc33_153 : decode prog_6_method_7_code 153 = .ok (.pop, 1) := by decide +kernel
theorem dc33_154 : decode prog_6_method_7_code 154 = .ok (.aload 8, 2) := by decide +kernel
theorem dc33_156 : decode prog_6_method_7_code 156 = .ok (.aload_n 0, 1) := by decide +kernel
theorem dc33_157 : decode prog_6_method_7_code 157 = .ok (.getfield 20, 3) := by decide +kernel
theorem dc33_160 : decode prog_6_method_7_code 160 = .ok (.invokevirtual 71, 3) := by decide +kernel
theorem dc33_163 : decode prog_6_method_7_code 163 = .ok (.pop, 1) := by decide +kernel
theorem dc33_164 : decode prog_6_method_7_code 164 = .ok (.aload 8, 2) := by decide +kernel
theorem dc33_166 : decode prog_6_method_7_code 166 = .ok (.invokevirtual 83, 3) := by decide +kernel
theorem pd_25 : parseMethodDescriptor "()Ljava/lang/String;" = some ⟨[], some (.object "java/lang/String")⟩ := by decide +kernel
theorem dc33_169 : decode prog_6_method_7_code 169 = .ok (.areturn, 1) := by decide +kernel
theorem ef_rmF (mi : MethodId) (o : Addr) (n : Int64) (p : Addr) (s : Addr) (bp : Addr) (bs : Addr) (kp : ClassId) (ks : ClassId) (N : Nat) (cz : Int32) (fm : Value) (fi : Value) : entryFrame mi #[(.ref o), (.long n)] 9 = mkF mi 0 #[.val (.ref o), .val (.long n), .second, .unset, .unset, .unset, .unset, .unset, .unset] [] := by first | (simp [entryFrame, mkF, argsToLocals, Value.category]; done) | rfl
def Q_rmF (Z : State) (o : Addr) (n : Int64) (p : Addr) (s : Addr) (bp : Addr) (bs : Addr) (kp : ClassId) (ks : ClassId) (N : Nat) (cz : Int32) (fm : Value) (fi : Value) (h0 : Heap) (n0 : Nat) (vv_ : Option Value) (hh_ : Heap) (LL_ : List Loc) : Prop := ∃ (s b : Addr) (kb : ClassId) (kk : Nat), vv_ = some (.ref s) ∧ Fr n0 LL_ ∧ Keep h0 hh_ [] ∧ Exa Z hh_ s "java/lang/String" ∧ Fld Z hh_ s "java/lang/String" "coder" "B" (.int (0 : Int32)) ∧ Fld Z hh_ s "java/lang/String" "value" "[B" (.ref b) ∧ Arv Z hh_ b kb .byte (Int32.ofNat kk) ((dl kk N).map Value.int) (.int (0 : Int32)) ∧ Exa Z hh_ b "[B" ∧ 1 ≤ kk ∧ kk ≤ 19 ∧ N / 10 ^ kk = 0 ∧ (kk = 1 ∨ N / 10 ^ (kk - 1) ≠ 0)
set_option maxRecDepth 65536 in
set_option maxHeartbeats 40000000 in
theorem rmF (l : Launch) (Z : State) (a0 : Array Value) (hw : ∀ d ∈ tables_1, d.before a0 Z = true) (ws : List Jvm.Cond) (o : Addr) (n : Int64) (p : Addr) (s : Addr) (bp : Addr) (bs : Addr) (kp : ClassId) (ks : ClassId) (N : Nat) (cz : Int32) (fm : Value) (fi : Value) (h0 : Heap) (n0 : Nat) (Z0 : n0 ≤ h0.size) (hEL : EW Z a0 own_EL) (IE : Exa Z h0 o "com/example/hoarfrost/hoarfrost/IdForm") (IR : Fld Z h0 o "com/example/hoarfrost/hoarfrost/IdForm" "radix" "I" (.int (10 : Int32))) (IW : Fld Z h0 o "com/example/hoarfrost/hoarfrost/IdForm" "width" "I" (.int (1 : Int32))) (IP : Fld Z h0 o "com/example/hoarfrost/hoarfrost/IdForm" "prefix" "Ljava/lang/String;" (.ref p)) (IS : Fld Z h0 o "com/example/hoarfrost/hoarfrost/IdForm" "suffix" "Ljava/lang/String;" (.ref s)) (SEp : Exa Z h0 p "java/lang/String") (SCop : Fld Z h0 p "java/lang/String" "coder" "B" (.int (0 : Int32))) (SVap : Fld Z h0 p "java/lang/String" "value" "[B" (.ref bp)) (SArp : Arv Z h0 bp kp .byte (0 : Int32) (([] : List Int32).map Value.int) (.int (0 : Int32))) (SEbp : Exa Z h0 bp "[B") (SEs : Exa Z h0 s "java/lang/String") (SCos : Fld Z h0 s "java/lang/String" "coder" "B" (.int (0 : Int32))) (SVas : Fld Z h0 s "java/lang/String" "value" "[B" (.ref bs)) (SArs : Arv Z h0 bs ks .byte (0 : Int32) (([] : List Int32).map Value.int) (.int (0 : Int32))) (SEbs : Exa Z h0 bs "[B") (SC : Sta Z h0 "java/lang/String" "COMPACT_STRINGS" "Z" (.int cz)) (hcz : ¬ (cz = (0 : Int32))) (SF : Sta Z h0 "jdk/internal/util/Preconditions" "SIOOBE_FORMATTER" "Ljava/util/function/BiFunction;" fm) (hfm : fm.isRef = true) (IF : Sta Z h0 "jdk/internal/util/Preconditions" "IOOBE_FORMATTER" "Ljava/util/function/BiFunction;" fi) (hfi : fi.isRef = true) (hN : n.toInt = (N : Int)) (hn0 : ¬ (n < (0 : Int64))) :
    MetFree l (⟨"com/example/hoarfrost/hoarfrost/IdForm", "format", "(J)Ljava/lang/String;"⟩ : MethodName) (head1 (Jvm.Cond.code (⟨"com/example/hoarfrost/hoarfrost/IdForm", "format", "(J)Ljava/lang/String;"⟩ : MethodName) prog_6_method_7_code 9 (some (.object "java/lang/String")) :: ws) ({ frames := 7, cells := 12, slots := 400, locals := 120 } : Room)) (fun aa_ U => aa_ = #[(.ref o), (.long n)] ∧ Z.Warmed39 U.vm ∧ U.heap = h0 ∧ CHv Z own_EL U.vm h0) (fun _ _ _ _ _ => True) (fun _ U oo_ UV_ => ∃ vv_ LL_, oo_ = .returned vv_ ∧ Q_rmF Z o n p s bp bs kp ks N cz fm fi h0 n0 vv_ UV_.heap LL_ ∧ CHr Z own_EL U.vm U.heap UV_.vm UV_.heap ∧ ReturnedEndW U oo_ UV_ LL_ ({ frames := 7, cells := 12, slots := 400, locals := 120 } : Room).cells ({ frames := 7, cells := 12, slots := 400, locals := 120 } : Room).slots) := by
  refine MetFree.of_bodySF (plainFor_of_name pn_7) hisR ?_
  intro pg ev si mi args below meth ci s₁ Bd hml0 hP0 hK
  obtain ⟨rfl, hZ, hh, hCH⟩ := hP0
  have hx := Bd.exec
  have hby := Bd.bytes
  have hml : ci.maxLocals = 9 := hml0
  have hown : si.vm.findClass "com/example/hoarfrost/hoarfrost/IdForm" = some mi.cls := findClass_of_methodNamed Bd.named
  have hnm := (name_of_methodNamed Bd.named Bd.method).1
  have X0 : Stand pg l ev ({ frames := 7, cells := 12, slots := 400, locals := 120 } : Room) si mi #[(.ref o), (.long n)] below meth ci s₁ [] 0 0 := Stand.of_body Bd
  have e0 : s₁.heap = h0 := by rw [← hh, Bd.state]; rfl
  have N0 := Fr.nil n0
  refine Go.start (fun P hP => ?_)
  refine Go.st (fun t_ k_ => castTop (ef_rmF mi o n p s bp bs kp ks N cz fm fi) k_) (A := s₁.setTop (mkF mi 0 #[.val (.ref o), .val (.long n), .second, .unset, .unset, .unset, .unset, .unset, .unset] [])) ?_
  have hNn : n.toInt.toNat = N := by omega
  show Go _ _ _ (s₁.setTop (mkF mi 0 #[.val (.ref o), .val (.long n), .second, .unset, .unset, .unset, .unset, .unset, .unset] [])) _
  refine g_lloadN X0 hx hby dc33_0 rfl ?_
  refine Go.s (XS.lconst X0.here hx rfl (hb hby dc33_1)) ?_
  refine Go.s (XS.lcmp X0.here hx rfl (hb hby dc33_2) rfl) ?_
  refine g_ifYes X0 hx hby dc33_3 ((if0 _ _).trans (flt (own_nlt hn0)).2.1) (pc0 := 3) (pc' := 20) rfl (by decide) (by decide) ?_
  refine g_bipush X0 hx hby dc33_20 (v := 19) rfl ?_
  obtain ⟨T1, h1, k1, X1, e1, E1, A1, EX1, st1⟩ := newPE X0 hx hZ (hw _ (own_m 34 rfl)) e0 (g := (mkF mi 22 #[.val (.ref o), .val (.long n), .second, .unset, .unset, .unset, .unset, .unset, .unset] [(.int 19)])) rfl (hb hby dc33_22) rfl (by decide) (cap := 19) (by decide) (by decide) (by decide) (by decide) (ad := "[C") (by decide)
  obtain ⟨ob1, g1⟩ : ∃ z, z = h0.size := ⟨_, rfl⟩
  rw [← g1] at A1 EX1 st1
  have Zs2 : n0 ≤ h1.size := Nat.le_trans Z0 E1.1
  have KC2 : Keep h0 h1 [] := (Keep.refl h0 []).ext E1
  have KL2 : Keep h0 h1 [] := (Keep.refl h0 []).ext E1
  have g_ob1 : n0 ≤ ob1 := Nat.le_trans Z0 (Nat.le_of_eq g1.symm)
  have sz_ob1 : h0.size ≤ ob1 := Nat.le_trans (Keep.refl h0 []).1 (Nat.le_of_eq g1.symm)
  have szl_ob1 : h0.size ≤ ob1 := Nat.le_trans (Keep.refl h0 []).1 (Nat.le_of_eq g1.symm)
  have V1 : Arv Z h1 ob1 k1 .char (19 : Int32) [(.int (0 : Int32)), (.int (0 : Int32)), (.int (0 : Int32)), (.int (0 : Int32)), (.int (0 : Int32)), (.int (0 : Int32)), (.int (0 : Int32)), (.int (0 : Int32)), (.int (0 : Int32)), (.int (0 : Int32)), (.int (0 : Int32)), (.int (0 : Int32)), (.int (0 : Int32)), (.int (0 : Int32)), (.int (0 : Int32)), (.int (0 : Int32)), (.int (0 : Int32)), (.int (0 : Int32)), (.int (0 : Int32))] (.int (0 : Int32)) := (Arv.new A1 (by decide)).pad (pad_rep [] (.int (0 : Int32)) 19)
  refine Go.st st1 ?_
  refine g_astoreN X1 hx hby dc33_24 rfl (l' := #[.val (.ref o), .val (.long n), .second, .val (.ref ob1), .unset, .unset, .unset, .unset, .unset]) rfl ?_
  refine g_aloadN X1 hx hby dc33_25 rfl rfl ?_
  have ov3 := V1
  obtain ⟨cl3, Ar3, q3, S3, M3, H3, G3⟩ := ov3
  refine Go.st (X1.arraylength hx (by rw [e1]; exact Ar3.1) (State.isArrayOf_alike hZ.alike Ar3.2.1) (g := (mkF mi 26 #[.val (.ref o), .val (.long n), .second, .val (.ref ob1), .unset, .unset, .unset, .unset, .unset] [(.ref ob1)])) rfl rfl (hb hby dc33_26)) ?_
  rw [len_of S3 M3]
  refine g_istore X1 hx hby dc33_27 (l' := #[.val (.ref o), .val (.long n), .second, .val (.ref ob1), .val (.int 19), .unset, .unset, .unset, .unset]) rfl ?_
  refine g_lloadN X1 hx hby dc33_29 rfl ?_
  refine Go.s (XS.lstore X1.here hx rfl (hb hby dc33_30) rfl (l' := #[.val (.ref o), .val (.long n), .second, .val (.ref ob1), .val (.int 19), .val (.long n), .second, .unset, .unset]) rfl) ?_
  show Go _ _ _ (T1.setTop (mkF mi 32 #[.val (.ref o), .val (.long n), .second, .val (.ref ob1), .val (.int 19), .val (.long n), .second, .unset, .unset] [])) _
  refine g_iinc X1 hx hby dc33_32 rfl (x' := 18) rfl (l' := #[.val (.ref o), .val (.long n), .second, .val (.ref ob1), .val (.int 18), .val (.long n), .second, .unset, .unset]) rfl ?_
  refine g_aloadN X1 hx hby dc33_35 rfl rfl ?_
  refine g_iload X1 hx hby dc33_36 rfl ?_
  show Go _ _ _ (T1.setTop (mkF mi 38 #[.val (.ref o), .val (.long n), .second, .val (.ref ob1), .val (.int 18), .val (.long n), .second, .unset, .unset] [(.int 18), (.ref ob1)])) _
  have CR4 : CHr Z own_EL si.vm h0 si.vm h1 := (CHr.refl hCH).trans (CHr.keep KL2 sf0 (CHr.refl hCH).1)
  have hwS : ∀ a ∈ Bundle.stringAtoms, a.before a0 Z = true := fun d hd => hw d ((by decide +kernel : ∀ d ∈ Bundle.stringAtoms, d ∈ tables_1) d hd)
  obtain ⟨os5, T5, h5, k15, bs5, ks5, X5, e5, E5, hSi5, hk15, hZ5, hown5, SE5, SCo5, SVa5, SA5, -, -, hCr5, hLi5, -, st5⟩ := ldcCH (s := si) (vm0 := si.vm) (EL := own_EL) (own_rb X1) hx hZ hown (hw _ (own_m 35 rfl)) hwS e1 ((State.WarmedH.refl si).since h0.size) (Nat.le_trans (Nat.le_refl _) KL2.1) hEL (List.mem_of_getElem? (i := 1) rfl) CR4.1 (vs := [(.int 48), (.int 49), (.int 50), (.int 51), (.int 52), (.int 53), (.int 54), (.int 55), (.int 56), (.int 57), (.int 65), (.int 66), (.int 67), (.int 68), (.int 69), (.int 70), (.int 71), (.int 72), (.int 73), (.int 74), (.int 75), (.int 76), (.int 77), (.int 78), (.int 79), (.int 80), (.int 81), (.int 82), (.int 83), (.int 84), (.int 85), (.int 86), (.int 87), (.int 88), (.int 89), (.int 90), (.int 97), (.int 98), (.int 99), (.int 100), (.int 101), (.int 102), (.int 103), (.int 104), (.int 105), (.int 106), (.int 107), (.int 108), (.int 109), (.int 110), (.int 111), (.int 112), (.int 113), (.int 114), (.int 115), (.int 116), (.int 117), (.int 118), (.int 119), (.int 120), (.int 121), (.int 122)]) (z := (62 : Int32)) ⟨by decide +kernel, by decide +kernel⟩ (by decide) (by decide +kernel) (g := (mkF mi 38 #[.val (.ref o), .val (.long n), .second, .val (.ref ob1), .val (.int 18), .val (.long n), .second, .unset, .unset] [(.int 18), (.ref ob1)])) rfl (hb hby dc33_38) (n := 248) (by decide +kernel) (by decide) (by decide) (by decide)
  have SAr5 : Arv Z h5 bs5 ks5 .byte (62 : Int32) ((ALP : List Int32).map Value.int) (.int (0 : Int32)) := SA5
  have SEb5 : Exa Z h5 bs5 "[B" := own_exB (s := si) hZ5 (hw _ (own_m 35 rfl)) (EL := own_EL) (List.mem_of_getElem? (i := 1) rfl) hCr5.1 hLi5 SVa5 SA5
  have hZ : Z.Warmed39 (si.setVm T5.vm).vm := hZ5
  have hown : (si.setVm T5.vm).vm.findClass "com/example/hoarfrost/hoarfrost/IdForm" = some mi.cls := hown5
  have Zs6 : n0 ≤ h5.size := Nat.le_trans Zs2 E5.1
  have KC6 : Keep h0 h5 [] := KC2.ext E5
  have KL6 : Keep h0 h5 [] := KL2.ext E5
  have f7 := (EX1.ext E5)
  have ne_os5_ob1 : os5 ≠ ob1 := Exa.ne SE5 f7 (by decide)
  have ne_bs5_ob1 : bs5 ≠ ob1 := Exa.ne SEb5 f7 (by decide)
  have CS5 : CHr Z own_EL si.vm h0 T5.vm h5 := CR4.trans hCr5
  have f8 := (V1.ext E5)
  have sf5_ob1 : Safe Z own_EL T5.vm h5 ob1 := Safe.arv hZ.alike f8 (by decide)
  refine Go.st st5 ?_
  show Go _ _ _ (T5.setTop (mkF mi 40 #[.val (.ref o), .val (.long n), .second, .val (.ref ob1), .val (.int 18), .val (.long n), .second, .unset, .unset] [(.ref os5), (.int 18), (.ref ob1)])) _
  have VF9 : Arv Z h5 ob1 k1 .char (19 : Int32) (vsF 0 N) (.int (0 : Int32)) := f8
  have KJ : ∀ (TJ : State) (LJ : List Loc) (hJ : Heap) (kk : Nat), 1 ≤ kk → kk ≤ 19 → N / 10 ^ kk = 0 → (kk = 1 ∨ N / 10 ^ (kk - 1) ≠ 0) → Stand pg l ev ({ frames := 7, cells := 12, slots := 400, locals := 120 } : Room) (si.setVm T5.vm) mi #[(.ref o), (.long n)] below meth ci TJ LJ 3 271 → TJ.heap = hJ → Fr n0 LJ → Keep h5 hJ [ob1] → Arv Z hJ ob1 k1 .char (19 : Int32) (vsF kk N) (.int (0 : Int32)) → Go pg.tables ev below (TJ.setTop (mkF mi 70 #[.val (.ref o), .val (.long n), .second, .val (.ref ob1), .val (.int (Int32.ofNat (19 - kk))), .val (.long (0 : Int64)), .second, .unset, .unset] [])) P := by
    intro TJ LJ hJ kk hk1 hk19 hkz hkn XJ eJ NJ KJ0 VJ
    have Zs10 : n0 ≤ hJ.size := Nat.le_trans Zs6 KJ0.1
    have KC10 : Keep h0 hJ [] := KC6.trans KJ0 (allS (P := fun x => x ∈ [] ∨ h0.size ≤ x) (Or.inr sz_ob1) all0)
    have KL10 : Keep h5 hJ [ob1] := (Keep.refl h5 [ob1]).trans KJ0 (allS (P := fun x => x ∈ [ob1] ∨ h5.size ≤ x) (Or.inl (List.mem_of_getElem? (i := 0) rfl)) all0)
    refine g_aloadN XJ hx hby dc33_70 rfl rfl ?_
    have ov11 := VJ
    obtain ⟨cl11, Ar11, q11, S11, M11, H11, G11⟩ := ov11
    refine Go.st (XJ.arraylength hx (by rw [eJ]; exact Ar11.1) (State.isArrayOf_alike hZ.alike Ar11.2.1) (g := (mkF mi 71 #[.val (.ref o), .val (.long n), .second, .val (.ref ob1), .val (.int (Int32.ofNat (19 - kk))), .val (.long 0), .second, .unset, .unset] [(.ref ob1)])) rfl rfl (hb hby dc33_71)) ?_
    rw [len_of S11 M11]
    refine g_iload XJ hx hby dc33_72 rfl ?_
    refine g_isub XJ hx hby dc33_74 rfl ?_
    show Go _ _ _ (TJ.setTop (mkF mi 75 #[.val (.ref o), .val (.long n), .second, .val (.ref ob1), .val (.int (Int32.ofNat (19 - kk))), .val (.long 0), .second, .unset, .unset] [(.int ((19 : Int32) - (Int32.ofNat (19 - kk))))])) _
    rw [own_sub19 hk19]
    show Go _ _ _ (TJ.setTop (mkF mi 75 #[.val (.ref o), .val (.long n), .second, .val (.ref ob1), .val (.int (Int32.ofNat (19 - kk))), .val (.long 0), .second, .unset, .unset] [(.int (Int32.ofNat kk))])) _
    have hc0 := own_ofN0 (n := kk) (by omega)
    have hcN := own_ofNn (n := kk) (by omega)
    have hc19 : (Int32.ofNat kk).toNatClampNeg ≤ 19 := by omega
    refine g_istore XJ hx hby dc33_75 (l' := #[.val (.ref o), .val (.long n), .second, .val (.ref ob1), .val (.int (Int32.ofNat (19 - kk))), .val (.long 0), .second, .val (.int (Int32.ofNat kk)), .unset]) rfl ?_
    obtain ⟨T12, h12, X12, e12, E12, A12, D12, -, st12⟩ := newO XJ hx hZ hown (hw _ (own_m 61 rfl)) (hw _ (own_m 62 rfl)) (hw _ (own_m 63 rfl)) eJ (g := (mkF mi 77 #[.val (.ref o), .val (.long n), .second, .val (.ref ob1), .val (.int (Int32.ofNat (19 - kk))), .val (.long 0), .second, .val (.int (Int32.ofNat kk)), .unset] [])) rfl (hb hby dc33_77) (by decide) (by decide)
    obtain ⟨ob12, g12⟩ : ∃ z, z = hJ.size := ⟨_, rfl⟩
    rw [← g12] at A12 D12 st12
    have Zs13 : n0 ≤ h12.size := Nat.le_trans Zs10 E12.1
    have KC13 : Keep h0 h12 [] := KC10.ext E12
    have KL13 : Keep h5 h12 [ob1] := KL10.ext E12
    have g_ob12 : n0 ≤ ob12 := Nat.le_trans Zs10 (Nat.le_of_eq g12.symm)
    have sz_ob12 : h0.size ≤ ob12 := Nat.le_trans KC10.1 (Nat.le_of_eq g12.symm)
    have szl_ob12 : h5.size ≤ ob12 := Nat.le_trans KL10.1 (Nat.le_of_eq g12.symm)
    have F12_90 : Fld Z h12 ob12 "java/lang/AbstractStringBuilder" "value" "[B" .null := D12 (Or.inl (hw _ (own_m 90 rfl))) (ty := (.array .byte)) (by decide)
    have F12_92 : Fld Z h12 ob12 "java/lang/AbstractStringBuilder" "coder" "B" (.int 0) := D12 (Or.inl (hw _ (own_m 92 rfl))) (ty := .byte) (by decide)
    have F12_105 : Fld Z h12 ob12 "java/lang/AbstractStringBuilder" "count" "I" (.int 0) := D12 (Or.inl (hw _ (own_m 105 rfl))) (ty := .int) (by decide)
    refine Go.st st12 ?_
    refine g_dup X12 hx hby dc33_80 rfl ?_
    refine g_aloadN X12 hx hby dc33_81 rfl rfl ?_
    have ne_o_ob1 : o ≠ ob1 := Nat.ne_of_lt (Nat.lt_of_lt_of_le IE.lt (Nat.le_of_eq g1.symm))
    have f14 := ((((IP.ext E1).ext E5).keep KJ0 (ninS ne_o_ob1 nin0)).ext E12)
    obtain ⟨T15, X15, e15, st15⟩ := getF X12 hx hZ hown (host := "") (Or.inl (hw _ (own_m 24 rfl))) Via.refl e12 f14 (g := (mkF mi 82 #[.val (.ref o), .val (.long n), .second, .val (.ref ob1), .val (.int (Int32.ofNat (19 - kk))), .val (.long 0), .second, .val (.int (Int32.ofNat kk)), .unset] [(.ref o), (.ref ob12), (.ref ob12)])) rfl rfl (hb hby dc33_82)
    refine Go.st st15 ?_
    have f17 := ((((SEp.ext E1).ext E5).keep KJ0).ext E12)
    have ne_p_ob1 : p ≠ ob1 := Nat.ne_of_lt (Nat.lt_of_lt_of_le SEp.lt (Nat.le_of_eq g1.symm))
    have f18 := ((((SCop.ext E1).ext E5).keep KJ0 (ninS ne_p_ob1 nin0)).ext E12)
    have f19 := ((((SVap.ext E1).ext E5).keep KJ0 (ninS ne_p_ob1 nin0)).ext E12)
    have ne_bp_ob1 : bp ≠ ob1 := Nat.ne_of_lt (Nat.lt_of_lt_of_le SEbp.lt (Nat.le_of_eq g1.symm))
    have f20 := ((((SArp.ext E1).ext E5).keep KJ0 (ninS ne_bp_ob1 nin0)).ext E12)
    have f21 := ((((SEbp.ext E1).ext E5).keep KJ0).ext E12)
    have f22 := ((own_sta_keep ((SC.ext E1).ext E5) KJ0 (nsS f7.nostat ns0)).ext E12)
    obtain ⟨cq16, kq16, q16a, q16b, q16c⟩ := isOf hZ e15 f17
    obtain ⟨_, _, ⟨T16, L16, k16, n16⟩, -, X16, ⟨Lc16, hQ16, l16, y16, z16⟩, st16⟩ := X15.virtualBack hx (y := (⟨"java/lang/String", "length", "()I"⟩ : MethodName)) (z := (⟨"java/lang/String", "length", "()I"⟩ : MethodName)) hown (mvT hZ (hw _ (own_m 64 rfl))) (mvT hZ (hw _ (own_m 65 rfl))) (notFace_of_selects (args := #[]) (mvT hZ (hw _ (own_m 67 rfl)))) (mvT hZ (hw _ (own_m 67 rfl))) (mvT hZ (hw _ (own_m 66 rfl))) (by decide) (backOf (W := 2) (rmLn l Z a0 hw [] p bp kp (0 : Int32) ([] : List Int32) cz h12 n0 Zs13 f17 f18 f19 f20 f21 f22 hcz) hZ (hw _ (own_m 68 rfl)) (hw _ (own_m 7 rfl)) (by decide) (by decide)) q16a q16c (g := (mkF mi 85 #[.val (.ref o), .val (.long n), .second, .val (.ref ob1), .val (.int (Int32.ofNat (19 - kk))), .val (.long 0), .second, .val (.int (Int32.ofNat kk)), .unset] [(.ref p), (.ref ob12), (.ref ob12)])) rfl (by rw [hml]; rfl) (Steps.refl _) (argsL := []) (rest := [(.ref ob12), (.ref ob12)]) (lenOf pd_8 rfl) rfl (by show 2 * 0 + _ ≤ _; exact Nat.le_of_eq rfl) (hb hby dc33_85) (fun _ _ => ⟨rfl, e15, (by decide : 4 + 0 ≤ _), (by decide : 275 + 0 ≤ _)⟩)
    dsimp only [Pt.U, Pt.locs, Pt.cells, Pt.slots] at X16 l16 y16 z16 st16 hQ16
    subst y16 z16
    have X16 := own_cs X16 (cells' := 4) (slots' := 275) rfl rfl
    obtain ⟨rfl, N16q, e16⟩ := hQ16
    have N16 := own_fr l16 (Fr.app NJ N16q)
    refine Go.tr st16 ?_
    refine g_aloadN X16 hx hby dc33_88 rfl rfl ?_
    have f23 := ((((IW.ext E1).ext E5).keep KJ0 (ninS ne_o_ob1 nin0)).ext E12)
    obtain ⟨T24, X24, e24, st24⟩ := getF X16 hx hZ hown (host := "") (Or.inl (hw _ (own_m 22 rfl))) Via.refl e16 f23 (g := (mkF mi 89 #[.val (.ref o), .val (.long n), .second, .val (.ref ob1), .val (.int (Int32.ofNat (19 - kk))), .val (.long 0), .second, .val (.int (Int32.ofNat kk)), .unset] [(.ref o), (.int 0), (.ref ob12), (.ref ob12)])) rfl rfl (hb hby dc33_89)
    refine Go.st st24 ?_
    refine g_iload X24 hx hby dc33_92 rfl ?_
    obtain ⟨_, _, ⟨T25, L25, k25, n25⟩, -, X25, ⟨Lc25, hQ25, l25, y25, z25⟩, st25⟩ := Jvm.LawKit.callS X24 hx (y := (⟨"java/lang/Math", "max", "(II)I"⟩ : MethodName)) hown (mvT hZ (hw _ (own_m 74 rfl))) (mvT hZ (hw _ (own_m 75 rfl))) (mvT hZ (hw _ (own_m 76 rfl))) (mvT hZ (hw _ (own_m 77 rfl))) (by decide) (backOf (W := 3) (rmMax l Z a0 hw [] (1 : Int32) (Int32.ofNat kk) h12 n0 Zs13) hZ (hw _ (own_m 77 rfl)) (hw _ (own_m 76 rfl)) (by decide) (by decide)) (g := (mkF mi 94 #[.val (.ref o), .val (.long n), .second, .val (.ref ob1), .val (.int (Int32.ofNat (19 - kk))), .val (.long 0), .second, .val (.int (Int32.ofNat kk)), .unset] [(.int (Int32.ofNat kk)), (.int 1), (.int 0), (.ref ob12), (.ref ob12)])) rfl (by rw [hml]; rfl) (argsL := [(.int 1), (.int (Int32.ofNat kk))]) (rest := [(.int 0), (.ref ob12), (.ref ob12)]) (lenOf pd_21 rfl) rfl (by show 2 * 0 + _ ≤ _; exact Nat.le_of_eq rfl) (hb hby dc33_94) (fun _ _ => ⟨rfl, e24, (by decide : 4 + 0 ≤ _), (by decide : 275 + 0 ≤ _)⟩)
    dsimp only [Pt.U, Pt.locs, Pt.cells, Pt.slots] at X25 l25 y25 z25 st25 hQ25
    subst y25 z25
    have X25 := own_cs X25 (cells' := 4) (slots' := 275) rfl rfl
    obtain ⟨rfl, N25q, e25⟩ := hQ25
    have N25 := own_fr l25 (Fr.app N16 N25q)
    refine Go.st st25 ?_
    show Go _ _ _ (T25.setTop (mkF mi 97 #[.val (.ref o), .val (.long n), .second, .val (.ref ob1), .val (.int (Int32.ofNat (19 - kk))), .val (.long 0), .second, .val (.int (Int32.ofNat kk)), .unset] [(.int (fMax (1 : Int32) (Int32.ofNat kk))), (.int 0), (.ref ob12), (.ref ob12)])) _
    rw [own_mx hk1 hk19]
    show Go _ _ _ (T25.setTop (mkF mi 97 #[.val (.ref o), .val (.long n), .second, .val (.ref ob1), .val (.int (Int32.ofNat (19 - kk))), .val (.long 0), .second, .val (.int (Int32.ofNat kk)), .unset] [(.int (Int32.ofNat kk)), (.int 0), (.ref ob12), (.ref ob12)])) _
    refine g_iadd X25 hx hby dc33_97 rfl ?_
    show Go _ _ _ (T25.setTop (mkF mi 98 #[.val (.ref o), .val (.long n), .second, .val (.ref ob1), .val (.int (Int32.ofNat (19 - kk))), .val (.long 0), .second, .val (.int (Int32.ofNat kk)), .unset] [(.int ((0 : Int32) + (Int32.ofNat kk))), (.ref ob12), (.ref ob12)])) _
    rw [Int32.zero_add]
    show Go _ _ _ (T25.setTop (mkF mi 98 #[.val (.ref o), .val (.long n), .second, .val (.ref ob1), .val (.int (Int32.ofNat (19 - kk))), .val (.long 0), .second, .val (.int (Int32.ofNat kk)), .unset] [(.int (Int32.ofNat kk)), (.ref ob12), (.ref ob12)])) _
    refine g_aloadN X25 hx hby dc33_98 rfl rfl ?_
    have f26 := ((((IS.ext E1).ext E5).keep KJ0 (ninS ne_o_ob1 nin0)).ext E12)
    obtain ⟨T27, X27, e27, st27⟩ := getF X25 hx hZ hown (host := "") (Or.inl (hw _ (own_m 26 rfl))) Via.refl e25 f26 (g := (mkF mi 99 #[.val (.ref o), .val (.long n), .second, .val (.ref ob1), .val (.int (Int32.ofNat (19 - kk))), .val (.long 0), .second, .val (.int (Int32.ofNat kk)), .unset] [(.ref o), (.int (Int32.ofNat kk)), (.ref ob12), (.ref ob12)])) rfl rfl (hb hby dc33_99)
    refine Go.st st27 ?_
    have f29 := ((((SEs.ext E1).ext E5).keep KJ0).ext E12)
    have ne_s_ob1 : s ≠ ob1 := Nat.ne_of_lt (Nat.lt_of_lt_of_le SEs.lt (Nat.le_of_eq g1.symm))
    have f30 := ((((SCos.ext E1).ext E5).keep KJ0 (ninS ne_s_ob1 nin0)).ext E12)
    have f31 := ((((SVas.ext E1).ext E5).keep KJ0 (ninS ne_s_ob1 nin0)).ext E12)
    have ne_bs_ob1 : bs ≠ ob1 := Nat.ne_of_lt (Nat.lt_of_lt_of_le SEbs.lt (Nat.le_of_eq g1.symm))
    have f32 := ((((SArs.ext E1).ext E5).keep KJ0 (ninS ne_bs_ob1 nin0)).ext E12)
    have f33 := ((((SEbs.ext E1).ext E5).keep KJ0).ext E12)
    obtain ⟨cq28, kq28, q28a, q28b, q28c⟩ := isOf hZ e27 f29
    obtain ⟨_, _, ⟨T28, L28, k28, n28⟩, -, X28, ⟨Lc28, hQ28, l28, y28, z28⟩, st28⟩ := X27.virtualBack hx (y := (⟨"java/lang/String", "length", "()I"⟩ : MethodName)) (z := (⟨"java/lang/String", "length", "()I"⟩ : MethodName)) hown (mvT hZ (hw _ (own_m 64 rfl))) (mvT hZ (hw _ (own_m 65 rfl))) (notFace_of_selects (args := #[]) (mvT hZ (hw _ (own_m 67 rfl)))) (mvT hZ (hw _ (own_m 67 rfl))) (mvT hZ (hw _ (own_m 66 rfl))) (by decide) (backOf (W := 3) (rmLn l Z a0 hw [] s bs ks (0 : Int32) ([] : List Int32) cz h12 n0 Zs13 f29 f30 f31 f32 f33 f22 hcz) hZ (hw _ (own_m 68 rfl)) (hw _ (own_m 7 rfl)) (by decide) (by decide)) q28a q28c (g := (mkF mi 102 #[.val (.ref o), .val (.long n), .second, .val (.ref ob1), .val (.int (Int32.ofNat (19 - kk))), .val (.long 0), .second, .val (.int (Int32.ofNat kk)), .unset] [(.ref s), (.int (Int32.ofNat kk)), (.ref ob12), (.ref ob12)])) rfl (by rw [hml]; rfl) (Steps.refl _) (argsL := []) (rest := [(.int (Int32.ofNat kk)), (.ref ob12), (.ref ob12)]) (lenOf pd_8 rfl) rfl (by show 2 * 0 + _ ≤ _; exact Nat.le_of_eq rfl) (hb hby dc33_102) (fun _ _ => ⟨rfl, e27, (by decide : 4 + 0 ≤ _), (by decide : 275 + 0 ≤ _)⟩)
    dsimp only [Pt.U, Pt.locs, Pt.cells, Pt.slots] at X28 l28 y28 z28 st28 hQ28
    subst y28 z28
    have X28 := own_cs X28 (cells' := 4) (slots' := 275) rfl rfl
    obtain ⟨rfl, N28q, e28⟩ := hQ28
    have N28 := own_fr l28 (Fr.app N25 N28q)
    refine Go.tr st28 ?_
    refine g_iadd X28 hx hby dc33_105 rfl ?_
    show Go _ _ _ (T28.setTop (mkF mi 106 #[.val (.ref o), .val (.long n), .second, .val (.ref ob1), .val (.int (Int32.ofNat (19 - kk))), .val (.long 0), .second, .val (.int (Int32.ofNat kk)), .unset] [(.int ((Int32.ofNat kk) + (0 : Int32))), (.ref ob12), (.ref ob12)])) _
    rw [Int32.add_zero]
    show Go _ _ _ (T28.setTop (mkF mi 106 #[.val (.ref o), .val (.long n), .second, .val (.ref ob1), .val (.int (Int32.ofNat (19 - kk))), .val (.long 0), .second, .val (.int (Int32.ofNat kk)), .unset] [(.int (Int32.ofNat kk)), (.ref ob12), (.ref ob12)])) _
    obtain ⟨_, _, ⟨T34, L34, k34, n34⟩, -, X34, ⟨Lc34, hQ34, l34, y34, z34⟩, st34⟩ := X28.specialBack hx (y := (⟨"java/lang/StringBuilder", "<init>", "(I)V"⟩ : MethodName)) rfl hown (mvT hZ (hw _ (own_m 78 rfl))) (mvT hZ (hw _ (own_m 79 rfl))) (mvT hZ (hw _ (own_m 80 rfl))) (by decide) (backOf (W := 1) (rmBI l Z a0 hw [] ob12 (Int32.ofNat kk) cz h12 n0 Zs13 A12 F12_90 F12_92 F12_105 g_ob12 hc0 hc19 f22 hcz) hZ (hw _ (own_m 80 rfl)) (hw _ (own_m 63 rfl)) (by decide) (by decide)) (g := (mkF mi 106 #[.val (.ref o), .val (.long n), .second, .val (.ref ob1), .val (.int (Int32.ofNat (19 - kk))), .val (.long 0), .second, .val (.int (Int32.ofNat kk)), .unset] [(.int (Int32.ofNat kk)), (.ref ob12), (.ref ob12)])) rfl (by rw [hml]; rfl) (Steps.refl _) (a := ob12) (argsL := [(.int (Int32.ofNat kk))]) (rest := [(.ref ob12)]) (lenOf pd_5 rfl) rfl (by show 2 * 0 + _ ≤ _; exact Nat.le_of_eq rfl) (hb hby dc33_106) (fun _ _ => ⟨rfl, e28, (by decide : 4 + 1 ≤ _), (by decide : 275 + 19 ≤ _)⟩)
    dsimp only [Pt.U, Pt.locs, Pt.cells, Pt.slots] at X34 l34 y34 z34 st34 hQ34
    subst y34 z34
    have X34 := own_cs X34 (cells' := 5) (slots' := 294) rfl rfl
    obtain ⟨h34, e34⟩ : ∃ z, T34.heap = z := ⟨_, rfl⟩
    rw [e34] at hQ34
    obtain ⟨rfl, N34q, K34, d34, kd34, z_d34, g_d34, BE34, BV34, BC34, BN34, BA34, BB34⟩ := hQ34
    have N34 := own_fr l34 (Fr.app N28 N34q)
    have Zs35 : n0 ≤ h34.size := Nat.le_trans Zs13 K34.1
    have KC35 : Keep h0 h34 [] := KC13.trans K34 (allS (P := fun x => x ∈ [] ∨ h0.size ≤ x) (Or.inr sz_ob12) all0)
    have KL35 : Keep h5 h34 [ob1] := KL13.trans K34 (allS (P := fun x => x ∈ [ob1] ∨ h5.size ≤ x) (Or.inr szl_ob12) all0)
    have sz_d34 : h0.size ≤ d34 := Nat.le_trans KC13.1 z_d34
    have szl_d34 : h5.size ≤ d34 := Nat.le_trans KL13.1 z_d34
    refine Go.tr st34 ?_
    refine g_astore X34 hx hby dc33_109 rfl (l' := #[.val (.ref o), .val (.long n), .second, .val (.ref ob1), .val (.int (Int32.ofNat (19 - kk))), .val (.long 0), .second, .val (.int (Int32.ofNat kk)), .val (.ref ob12)]) rfl ?_
    refine g_aload X34 hx hby dc33_111 rfl rfl ?_
    refine g_aloadN X34 hx hby dc33_113 rfl rfl ?_
    have ne_o_ob12 : o ≠ ob12 := Nat.ne_of_lt (Nat.lt_of_lt_of_le (((IE.ext E1).ext E5).keep KJ0).lt (Nat.le_of_eq g12.symm))
    have f36 := (f14.keep K34 (ninS ne_o_ob12 nin0))
    obtain ⟨T37, X37, e37, st37⟩ := getF X34 hx hZ hown (host := "") (Or.inl (hw _ (own_m 24 rfl))) Via.refl e34 f36 (g := (mkF mi 114 #[.val (.ref o), .val (.long n), .second, .val (.ref ob1), .val (.int (Int32.ofNat (19 - kk))), .val (.long 0), .second, .val (.int (Int32.ofNat kk)), .val (.ref ob12)] [(.ref o), (.ref ob12)])) rfl rfl (hb hby dc33_114)
    refine Go.st st37 ?_
    show Go _ _ _ (T37.setTop (mkF mi 117 #[.val (.ref o), .val (.long n), .second, .val (.ref ob1), .val (.int (Int32.ofNat (19 - kk))), .val (.long 0), .second, .val (.int (Int32.ofNat kk)), .val (.ref ob12)] [(.ref p), (.ref ob12)])) _
    have f39 := (f17.keep K34)
    have ne_p_ob12 : p ≠ ob12 := Nat.ne_of_lt (Nat.lt_of_lt_of_le (((SEp.ext E1).ext E5).keep KJ0).lt (Nat.le_of_eq g12.symm))
    have f40 := (f18.keep K34 (ninS ne_p_ob12 nin0))
    have f41 := (f19.keep K34 (ninS ne_p_ob12 nin0))
    have ne_bp_ob12 : bp ≠ ob12 := Nat.ne_of_lt (Nat.lt_of_lt_of_le (((SEbp.ext E1).ext E5).keep KJ0).lt (Nat.le_of_eq g12.symm))
    have f42 := (f20.keep K34 (ninS ne_bp_ob12 nin0))
    have f43 := (f21.keep K34)
    have ne_bp_d34 : bp ≠ d34 := Nat.ne_of_lt (Nat.lt_of_lt_of_le f21.lt z_d34)
    have ne_ob12_d34 : ob12 ≠ d34 := Nat.ne_of_lt (Nat.lt_of_lt_of_le A12.lt z_d34)
    have ne_p_d34 : p ≠ d34 := Nat.ne_of_lt (Nat.lt_of_lt_of_le f17.lt z_d34)
    have f44 := (own_sta_keep f22 K34 (nsS A12.nostat ns0))
    obtain ⟨cq38, kq38, q38a, q38b, q38c⟩ := isOf hZ e37 BE34
    obtain ⟨_, _, ⟨T38, L38, k38, n38⟩, -, X38, ⟨Lc38, hQ38, l38, y38, z38⟩, st38⟩ := X37.virtualBack hx (y := (⟨"java/lang/StringBuilder", "append", "(Ljava/lang/String;)Ljava/lang/StringBuilder;"⟩ : MethodName)) (z := (⟨"java/lang/StringBuilder", "append", "(Ljava/lang/String;)Ljava/lang/StringBuilder;"⟩ : MethodName)) hown (mvT hZ (hw _ (own_m 93 rfl))) (mvT hZ (hw _ (own_m 94 rfl))) (notFace_of_selects (args := #[]) (mvT hZ (hw _ (own_m 96 rfl)))) (mvT hZ (hw _ (own_m 96 rfl))) (mvT hZ (hw _ (own_m 95 rfl))) (by decide) (backOf (W := 0) (rmSA l Z a0 hw [] ob12 p d34 kd34 (Int32.ofNat kk) [] (0 : Int32) bp kp ([] : List Int32) cz h34 n0 Zs35 BE34 BV34 BC34 BN34 BA34 BB34 f39 f40 f41 f42 f43 (by decide) (by rw [own_t0]; exact Nat.zero_le _) (by rw [own_t0]; exact Nat.zero_le _) g_d34 ne_bp_d34 ne_ob12_d34 ne_p_d34 ne_p_ob12 ne_bp_ob12 g_ob12 hc0 f44 hcz) hZ (hw _ (own_m 97 rfl)) (hw _ (own_m 63 rfl)) (by decide) (by decide)) q38a q38c (g := (mkF mi 117 #[.val (.ref o), .val (.long n), .second, .val (.ref ob1), .val (.int (Int32.ofNat (19 - kk))), .val (.long 0), .second, .val (.int (Int32.ofNat kk)), .val (.ref ob12)] [(.ref p), (.ref ob12)])) rfl (by rw [hml]; rfl) (Steps.refl _) (argsL := [(.ref p)]) (rest := []) (lenOf pd_22 rfl) rfl (by show 2 * 0 + _ ≤ _; exact Nat.le_of_eq rfl) (hb hby dc33_117) (fun _ _ => ⟨rfl, e37, (by decide : 5 + 0 ≤ _), (by decide : 294 + 0 ≤ _)⟩)
    dsimp only [Pt.U, Pt.locs, Pt.cells, Pt.slots] at X38 l38 y38 z38 st38 hQ38
    subst y38 z38
    have X38 := own_cs X38 (cells' := 5) (slots' := 294) rfl rfl
    obtain ⟨h38, e38⟩ : ∃ z, T38.heap = z := ⟨_, rfl⟩
    rw [e38] at hQ38
    obtain ⟨rfl, N38q, K38, BE38, BV38, BC38, BN38, BA38, BB38⟩ := hQ38
    have N38 := own_fr l38 (Fr.app N34 N38q)
    have Zs45 : n0 ≤ h38.size := Nat.le_trans Zs35 K38.1
    have KC45 : Keep h0 h38 [] := KC35.trans K38 (allS (P := fun x => x ∈ [] ∨ h0.size ≤ x) (Or.inr sz_ob12) (allS (P := fun x => x ∈ [] ∨ h0.size ≤ x) (Or.inr sz_d34) all0))
    have KL45 : Keep h5 h38 [ob1] := KL35.trans K38 (allS (P := fun x => x ∈ [ob1] ∨ h5.size ≤ x) (Or.inr szl_ob12) (allS (P := fun x => x ∈ [ob1] ∨ h5.size ≤ x) (Or.inr szl_d34) all0))
    refine Go.tr st38 ?_
    refine Go.s (XS.pop X38.here hx rfl (hb hby dc33_120) rfl rfl) ?_
    refine g_aload X38 hx hby dc33_121 rfl rfl ?_
    show Go _ _ _ (T38.setTop (mkF mi 123 #[.val (.ref o), .val (.long n), .second, .val (.ref ob1), .val (.int (Int32.ofNat (19 - kk))), .val (.long 0), .second, .val (.int (Int32.ofNat kk)), .val (.ref ob12)] [(.ref ob12)])) _
    have CR46 : CHr Z own_EL si.vm h0 T5.vm h38 := CS5.trans (CHr.keep KL45 (sfS sf5_ob1 sf0) CS5.1)
    obtain ⟨os47, T47, h47, k147, bs47, ks47, X47, e47, E47, hSi47, hk147, hZ47, hown47, SE47, SCo47, SVa47, SA47, -, -, hCr47, hLi47, -, st47⟩ := ldcCH (s := si) (vm0 := T5.vm) (EL := own_EL) X38 hx hZ hown (hw _ (own_m 131 rfl)) hwS e38 hSi5 (Nat.le_trans hk15 KL45.1) hEL (List.mem_of_getElem? (i := 2) rfl) CR46.1 (vs := [(.int 48)]) (z := (1 : Int32)) ⟨by decide +kernel, by decide +kernel⟩ (by decide) (by decide +kernel) (g := (mkF mi 123 #[.val (.ref o), .val (.long n), .second, .val (.ref ob1), .val (.int (Int32.ofNat (19 - kk))), .val (.long 0), .second, .val (.int (Int32.ofNat kk)), .val (.ref ob12)] [(.ref ob12)])) rfl (hb hby dc33_123) (n := 4) (by decide +kernel) (by decide) (by decide) (by decide)
    have SAr47 : Arv Z h47 bs47 ks47 .byte (1 : Int32) (([48] : List Int32).map Value.int) (.int (0 : Int32)) := SA47
    have SEb47 : Exa Z h47 bs47 "[B" := own_exB (s := si) hZ47 (hw _ (own_m 131 rfl)) (EL := own_EL) (List.mem_of_getElem? (i := 2) rfl) hCr47.1 hLi47 SVa47 SA47
    have hZ : Z.Warmed39 (si.setVm T47.vm).vm := hZ47
    have hown : (si.setVm T47.vm).vm.findClass "com/example/hoarfrost/hoarfrost/IdForm" = some mi.cls := hown47
    have Zs48 : n0 ≤ h47.size := Nat.le_trans Zs45 E47.1
    have KC48 : Keep h0 h47 [] := KC45.ext E47
    have KL48 : Keep h5 h47 [ob1] := KL45.ext E47
    have f49 := (BE38.ext E47)
    have ne_os47_ob12 : os47 ≠ ob12 := Exa.ne SE47 f49 (by decide)
    have ne_bs47_ob12 : bs47 ≠ ob12 := Exa.ne SEb47 f49 (by decide)
    have f50 := (BB38.ext E47)
    have ne_os47_d34 : os47 ≠ d34 := Exa.ne SE47 f50 (by decide)
    have sc47_d34 := CHr.safe hCr47 BA38.lt (own_safe CS5.1 KL45 (sfS sf5_ob1 sf0) szl_d34)
    have CS47 : CHr Z own_EL si.vm h0 T47.vm h47 := CR46.trans hCr47
    have sf47_ob12 : Safe Z own_EL T47.vm h47 ob12 := Safe.exa hZ.alike f49 (by decide) (by decide)
    refine Go.st st47 ?_
    show Go _ _ _ (T47.setTop (mkF mi 125 #[.val (.ref o), .val (.long n), .second, .val (.ref ob1), .val (.int (Int32.ofNat (19 - kk))), .val (.long 0), .second, .val (.int (Int32.ofNat kk)), .val (.ref ob12)] [(.ref os47), (.ref ob12)])) _
    refine g_iconst X47 hx hby dc33_125 (v := 0) rfl ?_
    refine g_aloadN X47 hx hby dc33_126 rfl rfl ?_
    have ne_o_d34 : o ≠ d34 := Nat.ne_of_lt (Nat.lt_of_lt_of_le ((((IE.ext E1).ext E5).keep KJ0).ext E12).lt z_d34)
    have f51 := (((f23.keep K34 (ninS ne_o_ob12 nin0)).keep K38 (ninS ne_o_ob12 (ninS ne_o_d34 nin0))).ext E47)
    obtain ⟨T52, X52, e52, st52⟩ := getF X47 hx hZ hown (host := "") (Or.inl (hw _ (own_m 22 rfl))) Via.refl e47 f51 (g := (mkF mi 127 #[.val (.ref o), .val (.long n), .second, .val (.ref ob1), .val (.int (Int32.ofNat (19 - kk))), .val (.long 0), .second, .val (.int (Int32.ofNat kk)), .val (.ref ob12)] [(.ref o), (.int 0), (.ref os47), (.ref ob12)])) rfl rfl (hb hby dc33_127)
    refine Go.st st52 ?_
    refine g_iload X52 hx hby dc33_130 rfl ?_
    refine g_isub X52 hx hby dc33_132 rfl ?_
    obtain ⟨_, _, ⟨T53, L53, k53, n53⟩, -, X53, ⟨Lc53, hQ53, l53, y53, z53⟩, st53⟩ := Jvm.LawKit.callS X52 hx (y := (⟨"java/lang/Math", "max", "(II)I"⟩ : MethodName)) hown (mvT hZ (hw _ (own_m 74 rfl))) (mvT hZ (hw _ (own_m 75 rfl))) (mvT hZ (hw _ (own_m 76 rfl))) (mvT hZ (hw _ (own_m 77 rfl))) (by decide) (backOf (W := 2) (rmMax l Z a0 hw [] (0 : Int32) ((1 : Int32) - (Int32.ofNat kk)) h47 n0 Zs48) hZ (hw _ (own_m 77 rfl)) (hw _ (own_m 76 rfl)) (by decide) (by decide)) (g := (mkF mi 133 #[.val (.ref o), .val (.long n), .second, .val (.ref ob1), .val (.int (Int32.ofNat (19 - kk))), .val (.long 0), .second, .val (.int (Int32.ofNat kk)), .val (.ref ob12)] [(.int ((1 : Int32) - (Int32.ofNat kk))), (.int 0), (.ref os47), (.ref ob12)])) rfl (by rw [hml]; rfl) (argsL := [(.int 0), (.int ((1 : Int32) - (Int32.ofNat kk)))]) (rest := [(.ref os47), (.ref ob12)]) (lenOf pd_21 rfl) rfl (by show 2 * 0 + _ ≤ _; exact Nat.le_of_eq rfl) (hb hby dc33_133) (fun _ _ => ⟨rfl, e52, (by decide : 7 + 0 ≤ _), (by decide : 302 + 0 ≤ _)⟩)
    dsimp only [Pt.U, Pt.locs, Pt.cells, Pt.slots] at X53 l53 y53 z53 st53 hQ53
    subst y53 z53
    have X53 := own_cs X53 (cells' := 7) (slots' := 302) rfl rfl
    obtain ⟨rfl, N53q, e53⟩ := hQ53
    have N53 := own_fr l53 (Fr.app N38 N53q)
    refine Go.st st53 ?_
    show Go _ _ _ (T53.setTop (mkF mi 136 #[.val (.ref o), .val (.long n), .second, .val (.ref ob1), .val (.int (Int32.ofNat (19 - kk))), .val (.long 0), .second, .val (.int (Int32.ofNat kk)), .val (.ref ob12)] [(.int (fMax (0 : Int32) ((1 : Int32) - (Int32.ofNat kk)))), (.ref os47), (.ref ob12)])) _
    rw [own_mx0 hk1 hk19]
    show Go _ _ _ (T53.setTop (mkF mi 136 #[.val (.ref o), .val (.long n), .second, .val (.ref ob1), .val (.int (Int32.ofNat (19 - kk))), .val (.long 0), .second, .val (.int (Int32.ofNat kk)), .val (.ref ob12)] [(.int 0), (.ref os47), (.ref ob12)])) _
    have CR54 : CHr Z own_EL si.vm h0 T47.vm h47 := CS47.trans (CHr.keep (Keep.refl h47 [ob12, d34]) (sfS sf47_ob12 (sfS sc47_d34 sf0)) CS47.1)
    have f55 := (BA38.ext E47)
    obtain ⟨cq56, kq56, q56a, q56b, q56c⟩ := isOf hZ e53 SE47
    obtain ⟨_, _, ⟨T56, L56, k56, n56⟩, -, X56, hS56', hG56, ⟨Lc56, hQ56, l56, y56, z56, hCr56⟩, st56⟩ := X53.virtualBackS hx (y := (⟨"java/lang/String", "repeat", "(I)Ljava/lang/String;"⟩ : MethodName)) (z := (⟨"java/lang/String", "repeat", "(I)Ljava/lang/String;"⟩ : MethodName)) hown (mvT hZ (hw _ (own_m 132 rfl))) (mvT hZ (hw _ (own_m 133 rfl))) (notFace_of_selects (args := #[]) (mvT hZ (hw _ (own_m 135 rfl)))) (mvT hZ (hw _ (own_m 135 rfl))) (mvT hZ (hw _ (own_m 134 rfl))) (by decide) (backOfSH (s := si) (vm0 := T47.vm) (EL := own_EL) (W := 1) (rmRp l Z a0 hw [] os47 bs47 ks47 ([48] : List Int32) h47 n0 Zs48 hEL SE47 SCo47 SVa47 SAr47 SEb47) hZ (hw _ (own_m 136 rfl)) (hw _ (own_m 7 rfl)) (by decide) (by decide) hEL CR54.1) q56a q56c (g := (mkF mi 136 #[.val (.ref o), .val (.long n), .second, .val (.ref ob1), .val (.int (Int32.ofNat (19 - kk))), .val (.long 0), .second, .val (.int (Int32.ofNat kk)), .val (.ref ob12)] [(.int 0), (.ref os47), (.ref ob12)])) rfl (by rw [hml]; rfl) (Steps.refl _) (argsL := [(.int 0)]) (rest := [(.ref ob12)]) (lenOf pd_23 rfl) rfl (by show 2 * 0 + _ ≤ _; exact Nat.le_of_eq rfl) (hb hby dc33_136) (fun _ _ => ⟨rfl, e53, (by decide : 7 + 2 ≤ _), (by decide : 302 + 4 ≤ _)⟩)
    dsimp only [Pt.U, Pt.locs, Pt.cells, Pt.slots] at X56 l56 y56 z56 st56 hQ56 hCr56 hS56' hG56
    subst y56 z56
    have X56 := own_cs X56 (cells' := 9) (slots' := 306) rfl rfl
    obtain ⟨X56, hS56, hZ, hown⟩ := rebS hSi47 (own_leT e53 (Nat.le_trans hk147 (Keep.refl h47 [ob12, d34]).1)) X56 hS56' hG56 hZ hown
    obtain ⟨h56, e56⟩ : ∃ z, T56.heap = z := ⟨_, rfl⟩
    rw [e56] at hQ56
    obtain ⟨s56_, b56, kb56, rfl, N56q, K56, SE56, SCo56, SVa56, SAr56, SEb56⟩ := hQ56
    have N56 := own_fr l56 (Fr.app N53 N56q)
    have Zs57 : n0 ≤ h56.size := Nat.le_trans Zs48 K56.1
    have KC57 : Keep h0 h56 [] := KC48.trans K56 all0
    have KL57 : Keep h47 h56 [ob12, d34] := (Keep.refl h47 [ob12, d34]).trans K56 all0
    have f58 := (f49.keep K56)
    have f59 := (f50.keep K56)
    have f60 := (f55.keep K56 nin0)
    have ne_s56__ob12 : s56_ ≠ ob12 := Exa.ne SE56 f58 (by decide)
    have ne_s56__d34 : s56_ ≠ d34 := Exa.ne SE56 f59 (by decide)
    have ne_b56_ob12 : b56 ≠ ob12 := Exa.ne SEb56 f58 (by decide)
    have ne_b56_d34 : b56 ≠ d34 := arv_ne SAr56 f60 (Or.inl (by rw [hcN, own_t0]; omega))
    rw [e56] at hCr56
    have sc56_d34 := CHr.safe hCr56 f55.lt (Safe.keep (Keep.refl h47 [ob12, d34]) (sfS sf47_ob12 (sfS sc47_d34 sf0)) CS47.1 sc47_d34)
    have CS56 : CHr Z own_EL si.vm h0 T56.vm h56 := CR54.trans hCr56
    have sf56_ob12 : Safe Z own_EL T56.vm h56 ob12 := Safe.exa hZ.alike f58 (by decide) (by decide)
    refine Go.tr st56 ?_
    show Go _ _ _ (T56.setTop (mkF mi 139 #[.val (.ref o), .val (.long n), .second, .val (.ref ob1), .val (.int (Int32.ofNat (19 - kk))), .val (.long 0), .second, .val (.int (Int32.ofNat kk)), .val (.ref ob12)] [(.ref s56_), (.ref ob12)])) _
    have f62 := ((BV38.ext E47).keep K56 nin0)
    have f63 := ((BC38.ext E47).keep K56 nin0)
    have f64 := ((BN38.ext E47).keep K56 nin0)
    have f65 := (own_sta_keep ((own_sta_keep f44 K38 (nsS BE34.nostat (nsS BB34.nostat ns0))).ext E47) K56 ns0)
    obtain ⟨cq61, kq61, q61a, q61b, q61c⟩ := isOf hZ e56 f58
    obtain ⟨_, _, ⟨T61, L61, k61, n61⟩, -, X61, ⟨Lc61, hQ61, l61, y61, z61⟩, st61⟩ := X56.virtualBack hx (y := (⟨"java/lang/StringBuilder", "append", "(Ljava/lang/String;)Ljava/lang/StringBuilder;"⟩ : MethodName)) (z := (⟨"java/lang/StringBuilder", "append", "(Ljava/lang/String;)Ljava/lang/StringBuilder;"⟩ : MethodName)) hown (mvT hZ (hw _ (own_m 93 rfl))) (mvT hZ (hw _ (own_m 94 rfl))) (notFace_of_selects (args := #[]) (mvT hZ (hw _ (own_m 96 rfl)))) (mvT hZ (hw _ (own_m 96 rfl))) (mvT hZ (hw _ (own_m 95 rfl))) (by decide) (backOf (W := 0) (rmSA l Z a0 hw [] ob12 s56_ d34 kd34 (Int32.ofNat kk) [] (0 : Int32) b56 kb56 ([] : List Int32) cz h56 n0 Zs57 f58 f62 f63 f64 f60 f59 SE56 SCo56 SVa56 SAr56 SEb56 (by decide) (by rw [own_t0]; exact Nat.zero_le _) (by rw [own_t0]; exact Nat.zero_le _) g_d34 ne_b56_d34 ne_ob12_d34 ne_s56__d34 ne_s56__ob12 ne_b56_ob12 g_ob12 hc0 f65 hcz) hZ (hw _ (own_m 97 rfl)) (hw _ (own_m 63 rfl)) (by decide) (by decide)) q61a q61c (g := (mkF mi 139 #[.val (.ref o), .val (.long n), .second, .val (.ref ob1), .val (.int (Int32.ofNat (19 - kk))), .val (.long 0), .second, .val (.int (Int32.ofNat kk)), .val (.ref ob12)] [(.ref s56_), (.ref ob12)])) rfl (by rw [hml]; rfl) (Steps.refl _) (argsL := [(.ref s56_)]) (rest := []) (lenOf pd_22 rfl) rfl (by show 2 * 0 + _ ≤ _; exact Nat.le_of_eq rfl) (hb hby dc33_139) (fun _ _ => ⟨rfl, e56, (by decide : 9 + 0 ≤ _), (by decide : 306 + 0 ≤ _)⟩)
    dsimp only [Pt.U, Pt.locs, Pt.cells, Pt.slots] at X61 l61 y61 z61 st61 hQ61
    subst y61 z61
    have X61 := own_cs X61 (cells' := 9) (slots' := 306) rfl rfl
    obtain ⟨h61, e61⟩ : ∃ z, T61.heap = z := ⟨_, rfl⟩
    rw [e61] at hQ61
    obtain ⟨rfl, N61q, K61, BE61, BV61, BC61, BN61, BA61, BB61⟩ := hQ61
    have N61 := own_fr l61 (Fr.app N56 N61q)
    have Zs66 : n0 ≤ h61.size := Nat.le_trans Zs57 K61.1
    have KC66 : Keep h0 h61 [] := KC57.trans K61 (allS (P := fun x => x ∈ [] ∨ h0.size ≤ x) (Or.inr sz_ob12) (allS (P := fun x => x ∈ [] ∨ h0.size ≤ x) (Or.inr sz_d34) all0))
    have KL66 : Keep h56 h61 [ob12, d34] := (Keep.refl h56 [ob12, d34]).trans K61 (allS (P := fun x => x ∈ [ob12, d34] ∨ h56.size ≤ x) (Or.inl (List.mem_of_getElem? (i := 0) rfl)) (allS (P := fun x => x ∈ [ob12, d34] ∨ h56.size ≤ x) (Or.inl (List.mem_of_getElem? (i := 1) rfl)) all0))
    refine Go.tr st61 ?_
    refine Go.s (XS.pop X61.here hx rfl (hb hby dc33_142) rfl rfl) ?_
    refine g_aload X61 hx hby dc33_143 rfl rfl ?_
    refine g_aloadN X61 hx hby dc33_145 rfl rfl ?_
    refine g_iload X61 hx hby dc33_146 rfl ?_
    refine g_iload X61 hx hby dc33_148 rfl ?_
    show Go _ _ _ (T61.setTop (mkF mi 150 #[.val (.ref o), .val (.long n), .second, .val (.ref ob1), .val (.int (Int32.ofNat (19 - kk))), .val (.long 0), .second, .val (.int (Int32.ofNat kk)), .val (.ref ob12)] [(.int (Int32.ofNat kk)), (.int (Int32.ofNat (19 - kk))), (.ref ob1), (.ref ob12)])) _
    have ne_ob1_ob12 : ob1 ≠ ob12 := Nat.ne_of_lt (Nat.lt_of_lt_of_le (f7.keep KJ0).lt (Nat.le_of_eq g12.symm))
    have ne_ob1_d34 : ob1 ≠ d34 := Nat.ne_of_lt (Nat.lt_of_lt_of_le ((f7.keep KJ0).ext E12).lt z_d34)
    have f68 := ((((((VJ.ext E12).keep K34 (ninS ne_ob1_ob12 nin0)).keep K38 (ninS ne_ob1_ob12 (ninS ne_ob1_d34 nin0))).ext E47).keep K56 nin0).keep K61 (ninS ne_ob1_ob12 (ninS ne_ob1_d34 nin0)))
    have f69 := (own_sta_keep f65 K61 (nsS f58.nostat (nsS f59.nostat ns0)))
    have f70 := (own_sta_keep (own_sta_keep ((own_sta_keep (own_sta_keep ((own_sta_keep ((IF.ext E1).ext E5) KJ0 (nsS f7.nostat ns0)).ext E12) K34 (nsS A12.nostat ns0)) K38 (nsS BE34.nostat (nsS BB34.nostat ns0))).ext E47) K56 ns0) K61 (nsS f58.nostat (nsS f59.nostat ns0)))
    obtain ⟨cq67, kq67, q67a, q67b, q67c⟩ := isOf hZ e61 BE61
    obtain ⟨_, _, ⟨T67, L67, k67, n67⟩, -, X67, ⟨Lc67, hQ67, l67, y67, z67⟩, st67⟩ := X61.virtualBack hx (y := (⟨"java/lang/StringBuilder", "append", "([CII)Ljava/lang/StringBuilder;"⟩ : MethodName)) (z := (⟨"java/lang/StringBuilder", "append", "([CII)Ljava/lang/StringBuilder;"⟩ : MethodName)) hown (mvT hZ (hw _ (own_m 138 rfl))) (mvT hZ (hw _ (own_m 139 rfl))) (notFace_of_selects (args := #[]) (mvT hZ (hw _ (own_m 141 rfl)))) (mvT hZ (hw _ (own_m 141 rfl))) (mvT hZ (hw _ (own_m 140 rfl))) (by decide) (backOf (W := 0) (rmS2 l Z a0 hw [] ob12 ob1 (Int32.ofNat (19 - kk)) d34 kd34 (Int32.ofNat kk) k1 (vsF kk N) (dl kk N) cz fi h61 n0 Zs66 BE61 BV61 BC61 BN61 BA61 BB61 f68 g_ob12 g_d34 ne_ob12_d34 ne_ob1_ob12 ne_ob1_d34 (by rw [own_ofN (by omega)]; omega) (by rw [own_ofN (by omega), dl_len]; omega) (by rw [own_ofN (by omega), dl_len]) (fun t ht => by rw [own_ofNn (by omega)]; exact vsF_get hk19 (by rw [dl_len] at ht; exact ht)) (fun t ht => by obtain ⟨m, e⟩ := dl_get kk N t (by rw [dl_len] at ht; exact ht); rw [e, own_dchI]; omega) (dl_b kk N) f69 hcz f70 hfi) hZ (hw _ (own_m 142 rfl)) (hw _ (own_m 63 rfl)) (by decide) (by decide)) q67a q67c (g := (mkF mi 150 #[.val (.ref o), .val (.long n), .second, .val (.ref ob1), .val (.int (Int32.ofNat (19 - kk))), .val (.long 0), .second, .val (.int (Int32.ofNat kk)), .val (.ref ob12)] [(.int (Int32.ofNat kk)), (.int (Int32.ofNat (19 - kk))), (.ref ob1), (.ref ob12)])) rfl (by rw [hml]; rfl) (Steps.refl _) (argsL := [(.ref ob1), (.int (Int32.ofNat (19 - kk))), (.int (Int32.ofNat kk))]) (rest := []) (lenOf pd_24 rfl) rfl (by show 2 * 0 + _ ≤ _; exact Nat.le_of_eq rfl) (hb hby dc33_150) (fun _ _ => ⟨rfl, e61, (by decide : 9 + 0 ≤ _), (by decide : 306 + 0 ≤ _)⟩)
    dsimp only [Pt.U, Pt.locs, Pt.cells, Pt.slots] at X67 l67 y67 z67 st67 hQ67
    subst y67 z67
    have X67 := own_cs X67 (cells' := 9) (slots' := 306) rfl rfl
    obtain ⟨h67, e67⟩ : ∃ z, T67.heap = z := ⟨_, rfl⟩
    rw [e67] at hQ67
    obtain ⟨rfl, N67q, K67, BE67, BV67, BC67, BN67, BA67, BB67⟩ := hQ67
    have N67 := own_fr l67 (Fr.app N61 N67q)
    have Zs71 : n0 ≤ h67.size := Nat.le_trans Zs66 K67.1
    have KC71 : Keep h0 h67 [] := KC66.trans K67 (allS (P := fun x => x ∈ [] ∨ h0.size ≤ x) (Or.inr sz_ob12) (allS (P := fun x => x ∈ [] ∨ h0.size ≤ x) (Or.inr sz_d34) all0))
    have KL71 : Keep h56 h67 [ob12, d34] := KL66.trans K67 (allS (P := fun x => x ∈ [ob12, d34] ∨ h56.size ≤ x) (Or.inl (List.mem_of_getElem? (i := 0) rfl)) (allS (P := fun x => x ∈ [ob12, d34] ∨ h56.size ≤ x) (Or.inl (List.mem_of_getElem? (i := 1) rfl)) all0))
    refine Go.tr st67 ?_
    refine Go.s (XS.pop X67.here hx rfl (hb hby dc33_153) rfl rfl) ?_
    refine g_aload X67 hx hby dc33_154 rfl rfl ?_
    refine g_aloadN X67 hx hby dc33_156 rfl rfl ?_
    have f72 := ((((((f26.keep K34 (ninS ne_o_ob12 nin0)).keep K38 (ninS ne_o_ob12 (ninS ne_o_d34 nin0))).ext E47).keep K56 nin0).keep K61 (ninS ne_o_ob12 (ninS ne_o_d34 nin0))).keep K67 (ninS ne_o_ob12 (ninS ne_o_d34 nin0)))
    obtain ⟨T73, X73, e73, st73⟩ := getF X67 hx hZ hown (host := "") (Or.inl (hw _ (own_m 26 rfl))) Via.refl e67 f72 (g := (mkF mi 157 #[.val (.ref o), .val (.long n), .second, .val (.ref ob1), .val (.int (Int32.ofNat (19 - kk))), .val (.long 0), .second, .val (.int (Int32.ofNat kk)), .val (.ref ob12)] [(.ref o), (.ref ob12)])) rfl rfl (hb hby dc33_157)
    refine Go.st st73 ?_
    show Go _ _ _ (T73.setTop (mkF mi 160 #[.val (.ref o), .val (.long n), .second, .val (.ref ob1), .val (.int (Int32.ofNat (19 - kk))), .val (.long 0), .second, .val (.int (Int32.ofNat kk)), .val (.ref ob12)] [(.ref s), (.ref ob12)])) _
    have f75 := ((((((f29.keep K34).keep K38).ext E47).keep K56).keep K61).keep K67)
    have ne_s_ob12 : s ≠ ob12 := Nat.ne_of_lt (Nat.lt_of_lt_of_le (((SEs.ext E1).ext E5).keep KJ0).lt (Nat.le_of_eq g12.symm))
    have ne_s_d34 : s ≠ d34 := Nat.ne_of_lt (Nat.lt_of_lt_of_le f29.lt z_d34)
    have f76 := ((((((f30.keep K34 (ninS ne_s_ob12 nin0)).keep K38 (ninS ne_s_ob12 (ninS ne_s_d34 nin0))).ext E47).keep K56 nin0).keep K61 (ninS ne_s_ob12 (ninS ne_s_d34 nin0))).keep K67 (ninS ne_s_ob12 (ninS ne_s_d34 nin0)))
    have f77 := ((((((f31.keep K34 (ninS ne_s_ob12 nin0)).keep K38 (ninS ne_s_ob12 (ninS ne_s_d34 nin0))).ext E47).keep K56 nin0).keep K61 (ninS ne_s_ob12 (ninS ne_s_d34 nin0))).keep K67 (ninS ne_s_ob12 (ninS ne_s_d34 nin0)))
    have ne_bs_ob12 : bs ≠ ob12 := Nat.ne_of_lt (Nat.lt_of_lt_of_le (((SEbs.ext E1).ext E5).keep KJ0).lt (Nat.le_of_eq g12.symm))
    have ne_bs_d34 : bs ≠ d34 := Nat.ne_of_lt (Nat.lt_of_lt_of_le f33.lt z_d34)
    have f78 := ((((((f32.keep K34 (ninS ne_bs_ob12 nin0)).keep K38 (ninS ne_bs_ob12 (ninS ne_bs_d34 nin0))).ext E47).keep K56 nin0).keep K61 (ninS ne_bs_ob12 (ninS ne_bs_d34 nin0))).keep K67 (ninS ne_bs_ob12 (ninS ne_bs_d34 nin0)))
    have f79 := ((((((f33.keep K34).keep K38).ext E47).keep K56).keep K61).keep K67)
    have f80 := (own_sta_keep f69 K67 (nsS BE61.nostat (nsS BB61.nostat ns0)))
    obtain ⟨cq74, kq74, q74a, q74b, q74c⟩ := isOf hZ e73 BE67
    obtain ⟨_, _, ⟨T74, L74, k74, n74⟩, -, X74, ⟨Lc74, hQ74, l74, y74, z74⟩, st74⟩ := X73.virtualBack hx (y := (⟨"java/lang/StringBuilder", "append", "(Ljava/lang/String;)Ljava/lang/StringBuilder;"⟩ : MethodName)) (z := (⟨"java/lang/StringBuilder", "append", "(Ljava/lang/String;)Ljava/lang/StringBuilder;"⟩ : MethodName)) hown (mvT hZ (hw _ (own_m 93 rfl))) (mvT hZ (hw _ (own_m 94 rfl))) (notFace_of_selects (args := #[]) (mvT hZ (hw _ (own_m 96 rfl)))) (mvT hZ (hw _ (own_m 96 rfl))) (mvT hZ (hw _ (own_m 95 rfl))) (by decide) (backOf (W := 0) (rmSA l Z a0 hw [] ob12 s d34 kd34 (Int32.ofNat kk) ((dl kk N).map Value.int) (Int32.ofNat kk) bs ks ([] : List Int32) cz h67 n0 Zs71 BE67 BV67 BC67 BN67 BA67 BB67 f75 f76 f77 f78 f79 hc0 (Nat.le_refl _) (by rw [hcN, List.length_map, dl_len]; exact Nat.le_refl _) g_d34 ne_bs_d34 ne_ob12_d34 ne_s_d34 ne_s_ob12 ne_bs_ob12 g_ob12 hc0 f80 hcz) hZ (hw _ (own_m 97 rfl)) (hw _ (own_m 63 rfl)) (by decide) (by decide)) q74a q74c (g := (mkF mi 160 #[.val (.ref o), .val (.long n), .second, .val (.ref ob1), .val (.int (Int32.ofNat (19 - kk))), .val (.long 0), .second, .val (.int (Int32.ofNat kk)), .val (.ref ob12)] [(.ref s), (.ref ob12)])) rfl (by rw [hml]; rfl) (Steps.refl _) (argsL := [(.ref s)]) (rest := []) (lenOf pd_22 rfl) rfl (by show 2 * 0 + _ ≤ _; exact Nat.le_of_eq rfl) (hb hby dc33_160) (fun _ _ => ⟨rfl, e73, (by decide : 9 + 0 ≤ _), (by decide : 306 + 0 ≤ _)⟩)
    dsimp only [Pt.U, Pt.locs, Pt.cells, Pt.slots] at X74 l74 y74 z74 st74 hQ74
    subst y74 z74
    have X74 := own_cs X74 (cells' := 9) (slots' := 306) rfl rfl
    obtain ⟨h74, e74⟩ : ∃ z, T74.heap = z := ⟨_, rfl⟩
    rw [e74] at hQ74
    obtain ⟨rfl, N74q, K74, BE74, BV74, BC74, BN74, BA74, BB74⟩ := hQ74
    have N74 := own_fr l74 (Fr.app N67 N74q)
    have Zs81 : n0 ≤ h74.size := Nat.le_trans Zs71 K74.1
    have KC81 : Keep h0 h74 [] := KC71.trans K74 (allS (P := fun x => x ∈ [] ∨ h0.size ≤ x) (Or.inr sz_ob12) (allS (P := fun x => x ∈ [] ∨ h0.size ≤ x) (Or.inr sz_d34) all0))
    have KL81 : Keep h56 h74 [ob12, d34] := KL71.trans K74 (allS (P := fun x => x ∈ [ob12, d34] ∨ h56.size ≤ x) (Or.inl (List.mem_of_getElem? (i := 0) rfl)) (allS (P := fun x => x ∈ [ob12, d34] ∨ h56.size ≤ x) (Or.inl (List.mem_of_getElem? (i := 1) rfl)) all0))
    refine Go.tr st74 ?_
    refine Go.s (XS.pop X74.here hx rfl (hb hby dc33_163) rfl rfl) ?_
    refine g_aload X74 hx hby dc33_164 rfl rfl ?_
    have f83 := (own_sta_keep f80 K74 (nsS BE67.nostat (nsS BB67.nostat ns0)))
    obtain ⟨cq82, kq82, q82a, q82b, q82c⟩ := isOf hZ e74 BE74
    obtain ⟨_, _, ⟨T82, L82, k82, n82⟩, -, X82, ⟨Lc82, hQ82, l82, y82, z82⟩, st82⟩ := X74.virtualBack hx (y := (⟨"java/lang/StringBuilder", "toString", "()Ljava/lang/String;"⟩ : MethodName)) (z := (⟨"java/lang/StringBuilder", "toString", "()Ljava/lang/String;"⟩ : MethodName)) hown (mvT hZ (hw _ (own_m 165 rfl))) (mvT hZ (hw _ (own_m 166 rfl))) (notFace_of_selects (args := #[]) (mvT hZ (hw _ (own_m 168 rfl)))) (mvT hZ (hw _ (own_m 168 rfl))) (mvT hZ (hw _ (own_m 167 rfl))) (by decide) (backOf (W := 0) (rmTS l Z a0 hw [] ob12 d34 kd34 (Int32.ofNat kk) (dl kk N) cz h74 n0 Zs81 BE74 BV74 BC74 BN74 BA74 BB74 hc19 f83 hcz) hZ (hw _ (own_m 169 rfl)) (hw _ (own_m 63 rfl)) (by decide) (by decide)) q82a q82c (g := (mkF mi 166 #[.val (.ref o), .val (.long n), .second, .val (.ref ob1), .val (.int (Int32.ofNat (19 - kk))), .val (.long 0), .second, .val (.int (Int32.ofNat kk)), .val (.ref ob12)] [(.ref ob12)])) rfl (by rw [hml]; rfl) (Steps.refl _) (argsL := []) (rest := []) (lenOf pd_25 rfl) rfl (by show 2 * 0 + _ ≤ _; exact Nat.le_of_eq rfl) (hb hby dc33_166) (fun _ _ => ⟨rfl, e74, (by decide : 9 + 2 ≤ _), (by decide : 306 + 23 ≤ _)⟩)
    dsimp only [Pt.U, Pt.locs, Pt.cells, Pt.slots] at X82 l82 y82 z82 st82 hQ82
    subst y82 z82
    have X82 := own_cs X82 (cells' := 11) (slots' := 329) rfl rfl
    obtain ⟨h82, e82⟩ : ∃ z, T82.heap = z := ⟨_, rfl⟩
    rw [e82] at hQ82
    obtain ⟨s82_, b82, kb82, rfl, N82q, K82, SE82, SCo82, SVa82, SAr82, SEb82⟩ := hQ82
    have N82 := own_fr l82 (Fr.app N74 N82q)
    have Zs84 : n0 ≤ h82.size := Nat.le_trans Zs81 K82.1
    have KC84 : Keep h0 h82 [] := KC81.trans K82 all0
    have KL84 : Keep h56 h82 [ob12, d34] := KL81.trans K82 all0
    refine Go.tr st82 ?_
    show Go _ _ _ (T82.setTop (mkF mi 169 #[.val (.ref o), .val (.long n), .second, .val (.ref ob1), .val (.int (Int32.ofNat (19 - kk))), .val (.long 0), .second, .val (.int (Int32.ofNat kk)), .val (.ref ob12)] [(.ref s82_)])) _
    obtain ⟨fs, hr, hrun, hended, -, hW, hpr, hsame⟩ := Stand.leaveW (v := some (.ref s82_)) X82 hS56 (own_leT e82 (Nat.le_trans (own_leH e56) KL84.1)) (fun h => by rw [Bd.returns] at h; cases h) (BodyLoose.notSynchronized Bd)
    refine ⟨_, _, ?_, hP _ _ ⟨hrun, hended, _, _, rfl, ?_, (show CHr Z own_EL si.vm si.heap T82.vm T82.heap from own_chr hh e82 ((CS56.trans (CHr.keep KL84 (sfS sf56_ob12 (sfS sc56_d34 sf0)) CS56.1)).trans (CHv.at X82 hZ hEL (CHr.keep KL84 (sfS sf56_ob12 (sfS sc56_d34 sf0)) CS56.1).1))), ⟨_, rfl⟩, hW, hpr, hsame.mono (by decide) (by decide)⟩⟩
    · exact retOut X82 hx Bd.returns rfl (Or.inr (Or.inr (Or.inr (Or.inr ⟨rfl, rfl, rfl⟩)))) (hb hby dc33_169) hr
    · show ∃ (s b : Addr) (kb : ClassId) (kk : Nat), (some (.ref s82_) : Option Value) = some (.ref s) ∧ Fr n0 _ ∧ Keep h0 T82.heap [] ∧ Exa Z T82.heap s "java/lang/String" ∧ Fld Z T82.heap s "java/lang/String" "coder" "B" (.int (0 : Int32)) ∧ Fld Z T82.heap s "java/lang/String" "value" "[B" (.ref b) ∧ Arv Z T82.heap b kb .byte (Int32.ofNat kk) ((dl kk N).map Value.int) (.int (0 : Int32)) ∧ Exa Z T82.heap b "[B" ∧ 1 ≤ kk ∧ kk ≤ 19 ∧ N / 10 ^ kk = 0 ∧ (kk = 1 ∨ N / 10 ^ (kk - 1) ≠ 0)
      rw [e82]
      exact ⟨s82_, b82, kb82, kk, rfl, N82, KC84, SE82, SCo82, SVa82, SAr82, SEb82, hk1, hk19, hkz, hkn⟩
  have f85 := ((IR.ext E1).ext E5)
  have f86 := ((SC.ext E1).ext E5)
  have f87 := ((SF.ext E1).ext E5)
  have ne_o_ob1 : o ≠ ob1 := Nat.ne_of_lt (Nat.lt_of_lt_of_le IE.lt (Nat.le_of_eq g1.symm))
  refine own_fm40 l Z a0 hw X5 hx hby hml hZ hown o n ob1 (18 : Int32) n os5 bs5 ks5 k1 (vsF 0 N) cz fm h5 n0 Zs6 e5 N0 f85 SE5 SCo5 SVa5 SAr5 SEb5 VF9 f86 hcz f87 hfm (by omega) (by decide) (by decide) (by rw [vsF_len (by omega)]; decide +kernel) g_ob1 ne_os5_ob1 ne_bs5_ob1 ne_o_ob1 (fun hz T' L' h' X' e' N' K' A' => ?_) (fun hz T' L' h' X' e' N' K' A' => ?_)
  · have hA := vsF_set (k := 0) (N := N) (by omega)
    rw [Nat.pow_zero, Nat.div_one] at hA
    rw [show (18 : Int32).toNatClampNeg = 18 - 0 from by decide +kernel, hNn, hA] at A'
    have hq1 := own_q10 (q := n) (by omega)
    rw [hz, hN] at hq1
    rw [hz]
    exact KJ T' L' h' 1 (by omega) (by omega) (by have : (0 : Int64).toInt = 0 := rfl; omega) (Or.inl rfl) X' e' N' K' A'
  · have hA := vsF_set (k := 0) (N := N) (by omega)
    rw [Nat.pow_zero, Nat.div_one] at hA
    rw [show (18 : Int32).toNatClampNeg = 18 - 0 from by decide +kernel, hNn, hA] at A'
    have hq1 := own_q10 (q := n) (by omega)
    rw [hN] at hq1
    have hq2 : (n / (10 : Int64)).toInt = ((N / 10 ^ 1 : Nat) : Int) := by rw [hq1, Nat.pow_one]; rfl
    have hq3 : 0 < (n / (10 : Int64)).toInt := by rcases Nat.eq_zero_or_pos (N / 10) with z | z; exact absurd (own_qz (by rw [hq1]; omega)) hz; omega
    have hlN : N < 10 ^ 19 := by have := Int64.toInt_lt n; omega
    exact own_fmL l Z a0 hw hx hby hml hZ hown o n ob1 os5 bs5 ks5 k1 cz fm N hlN n0 hcz hfm g_ob1 ne_os5_ob1 ne_bs5_ob1 ne_o_ob1 hLi5 18 1 _ T' L' h' (by omega) (by omega) hq2 hq3 X' (Nat.le_trans Zs6 K'.1) e' N' (f85.keep K' (ninS ne_o_ob1 nin0)) (SE5.keep K') (SCo5.keep K' (ninS ne_os5_ob1 nin0)) (SVa5.keep K' (ninS ne_os5_ob1 nin0)) (SAr5.keep K' (ninS ne_bs5_ob1 nin0)) (SEb5.keep K') A' (own_sta_keep f86 K' (nsS VF9.nostat ns0)) (own_sta_keep f87 K' (nsS VF9.nostat ns0)) (fun T2 L2 h2 k2 a1 a2 a3 a4 X2 e2 N2 K2 A2 => KJ T2 L2 h2 k2 a1 a2 a3 a4 X2 e2 N2 (K'.trans K2 (fun x hx => Or.inl hx)) A2)
theorem dc34_0 : decode jdk_31_method_11_code 0 = .ok (.aload_n 0, 1) := by decide +kernel
theorem dc34_1 : decode jdk_31_method_11_code 1 = .ok (.ifnonnull 12, 3) := by decide +kernel
theorem dc34_13 : decode jdk_31_method_11_code 13 = .ok (.aload_n 0, 1) := by decide +kernel
theorem dc34_14 : decode jdk_31_method_11_code 14 = .ok (.areturn, 1) := by decide +kernel
theorem pn_8 : plainName "java/util/Objects" = true := by first | (simp [plainName, overriddenIn]; done) | decide +kernel
theorem ef_rmRN (mi : MethodId) (a : Addr) (m : Addr) : entryFrame mi #[(.ref a), (.ref m)] 2 = mkF mi 0 #[.val (.ref a), .val (.ref m)] [] := by first | (simp [entryFrame, mkF, argsToLocals, Value.category]; done) | rfl
def Q_rmRN (Z : State) (a : Addr) (m : Addr) (h0 : Heap) (n0 : Nat) (vv_ : Option Value) (hh_ : Heap) (LL_ : List Loc) : Prop := vv_ = some (.ref a) ∧ Fr n0 LL_ ∧ hh_ = h0
set_option maxRecDepth 65536 in
set_option maxHeartbeats 40000000 in
theorem rmRN (l : Launch) (Z : State) (a0 : Array Value) (hw : ∀ d ∈ tables_1, d.before a0 Z = true) (ws : List Jvm.Cond) (a : Addr) (m : Addr) (h0 : Heap) (n0 : Nat) (Z0 : n0 ≤ h0.size) :
    MetFree l (⟨"java/util/Objects", "requireNonNull", "(Ljava/lang/Object;Ljava/lang/String;)Ljava/lang/Object;"⟩ : MethodName) (head1 (Jvm.Cond.code (⟨"java/util/Objects", "requireNonNull", "(Ljava/lang/Object;Ljava/lang/String;)Ljava/lang/Object;"⟩ : MethodName) jdk_31_method_11_code 2 (some (.object "java/lang/Object")) :: ws) ({ frames := 0, cells := 0, slots := 0, locals := 0 } : Room)) (fun aa_ U => aa_ = #[(.ref a), (.ref m)] ∧ Z.Warmed39 U.vm ∧ U.heap = h0) (fun _ _ _ _ _ => True) (fun _ U oo_ UV_ => ∃ vv_ LL_, oo_ = .returned vv_ ∧ Q_rmRN Z a m h0 n0 vv_ UV_.heap LL_ ∧ FrameEnd U oo_ UV_ LL_ ({ frames := 0, cells := 0, slots := 0, locals := 0 } : Room).cells ({ frames := 0, cells := 0, slots := 0, locals := 0 } : Room).slots) := by
  refine MetFree.of_bodySF (plainFor_of_name pn_8) hisR ?_
  intro pg ev si mi args below meth ci s₁ Bd hml0 hP0 hK
  obtain ⟨rfl, hZ, hh⟩ := hP0
  have hx := Bd.exec
  have hby := Bd.bytes
  have hml : ci.maxLocals = 2 := hml0
  have hown : si.vm.findClass "java/util/Objects" = some mi.cls := findClass_of_methodNamed Bd.named
  have hnm := (name_of_methodNamed Bd.named Bd.method).1
  have X0 : Stand pg l ev ({ frames := 0, cells := 0, slots := 0, locals := 0 } : Room) si mi #[(.ref a), (.ref m)] below meth ci s₁ [] 0 0 := Stand.of_body Bd
  have e0 : s₁.heap = h0 := by rw [← hh, Bd.state]; rfl
  have N0 := Fr.nil n0
  refine Go.start (fun P hP => ?_)
  refine Go.st (fun t_ k_ => castTop (ef_rmRN mi a m) k_) (A := s₁.setTop (mkF mi 0 #[.val (.ref a), .val (.ref m)] [])) ?_
  show Go _ _ _ (s₁.setTop (mkF mi 0 #[.val (.ref a), .val (.ref m)] [])) _
  refine g_aloadN X0 hx hby dc34_0 rfl rfl ?_
  refine Go.st (fun t_ k_ => XS.ifnonnullYes X0.here hx rfl (pc0 := 1) (pc' := 13) rfl (hb hby dc34_1) rfl (by decide) (by decide) k_) ?_
  refine g_aloadN X0 hx hby dc34_13 rfl rfl ?_
  obtain ⟨fs, hr, hrun, hended, hW, hsame⟩ := X0.leave (v := some (.ref a)) (fun h => by rw [Bd.returns] at h; cases h) (BodyLoose.notSynchronized Bd)
  refine ⟨_, _, ?_, hP _ _ ⟨hrun, hended, _, _, rfl, ?_, ⟨_, rfl⟩, hW, hsame.mono (by decide) (by decide)⟩⟩
  · exact retOut X0 hx Bd.returns rfl (Or.inr (Or.inr (Or.inr (Or.inr ⟨rfl, rfl, rfl⟩)))) (hb hby dc34_14) hr
  · show (some (.ref a) : Option Value) = some (.ref a) ∧ Fr n0 _ ∧ s₁.heap = h0
    rw [e0]
    exact ⟨rfl, N0, rfl⟩
theorem dc35_0 : decode jdk_48_method_14_code 0 = .ok (.iconst 0, 1) := by decide +kernel
theorem dc35_1 : decode jdk_48_method_14_code 1 = .ok (.istore 5, 2) := by decide +kernel
theorem dc35_3 : decode jdk_48_method_14_code 3 = .ok (.iload 4, 2) := by decide +kernel
theorem dc35_5 : decode jdk_48_method_14_code 5 = .ok (.bipush 7, 2) := by decide +kernel
theorem dc35_7 : decode jdk_48_method_14_code 7 = .ok (.if_icmp .le 63, 3) := by decide +kernel
theorem dc35_70 : decode jdk_48_method_14_code 70 = .ok (.iload 5, 2) := by decide +kernel
theorem dc35_72 : decode jdk_48_method_14_code 72 = .ok (.iload 4, 2) := by decide +kernel
theorem dc35_74 : decode jdk_48_method_14_code 74 = .ok (.if_icmp .ge 27, 3) := by decide +kernel
theorem dc35_101 : decode jdk_48_method_14_code 101 = .ok (.iconst (-1), 1) := by decide +kernel
theorem dc35_102 : decode jdk_48_method_14_code 102 = .ok (.ireturn, 1) := by decide +kernel
theorem pn_9 : plainName "jdk/internal/util/ArraysSupport" = true := by first | (simp [plainName, overriddenIn]; done) | decide +kernel
theorem ef_rmMM (mi : MethodId) (b1 : Addr) (i1 : Int32) (b2 : Addr) : entryFrame mi #[(.ref b1), (.int i1), (.ref b2), (.int 0), (.int 0)] 8 = mkF mi 0 #[.val (.ref b1), .val (.int i1), .val (.ref b2), .val (.int 0), .val (.int 0), .unset, .unset, .unset] [] := by first | (simp [entryFrame, mkF, argsToLocals, Value.category]; done) | rfl
def Q_rmMM (Z : State) (b1 : Addr) (i1 : Int32) (b2 : Addr) (h0 : Heap) (n0 : Nat) (vv_ : Option Value) (hh_ : Heap) (LL_ : List Loc) : Prop := vv_ = some (.int (-1 : Int32)) ∧ Fr n0 LL_ ∧ hh_ = h0
set_option maxRecDepth 65536 in
set_option maxHeartbeats 40000000 in
theorem rmMM (l : Launch) (Z : State) (a0 : Array Value) (hw : ∀ d ∈ tables_1, d.before a0 Z = true) (ws : List Jvm.Cond) (b1 : Addr) (i1 : Int32) (b2 : Addr) (h0 : Heap) (n0 : Nat) (Z0 : n0 ≤ h0.size) :
    MetFree l (⟨"jdk/internal/util/ArraysSupport", "mismatch", "([BI[BII)I"⟩ : MethodName) (head1 (Jvm.Cond.code (⟨"jdk/internal/util/ArraysSupport", "mismatch", "([BI[BII)I"⟩ : MethodName) jdk_48_method_14_code 8 (some .int) :: ws) ({ frames := 0, cells := 0, slots := 0, locals := 0 } : Room)) (fun aa_ U => aa_ = #[(.ref b1), (.int i1), (.ref b2), (.int 0), (.int 0)] ∧ Z.Warmed39 U.vm ∧ U.heap = h0) (fun _ _ _ _ _ => True) (fun _ U oo_ UV_ => ∃ vv_ LL_, oo_ = .returned vv_ ∧ Q_rmMM Z b1 i1 b2 h0 n0 vv_ UV_.heap LL_ ∧ FrameEnd U oo_ UV_ LL_ ({ frames := 0, cells := 0, slots := 0, locals := 0 } : Room).cells ({ frames := 0, cells := 0, slots := 0, locals := 0 } : Room).slots) := by
  refine MetFree.of_bodySF (plainFor_of_name pn_9) hisR ?_
  intro pg ev si mi args below meth ci s₁ Bd hml0 hP0 hK
  obtain ⟨rfl, hZ, hh⟩ := hP0
  have hx := Bd.exec
  have hby := Bd.bytes
  have hml : ci.maxLocals = 8 := hml0
  have hown : si.vm.findClass "jdk/internal/util/ArraysSupport" = some mi.cls := findClass_of_methodNamed Bd.named
  have hnm := (name_of_methodNamed Bd.named Bd.method).1
  have X0 : Stand pg l ev ({ frames := 0, cells := 0, slots := 0, locals := 0 } : Room) si mi #[(.ref b1), (.int i1), (.ref b2), (.int 0), (.int 0)] below meth ci s₁ [] 0 0 := Stand.of_body Bd
  have e0 : s₁.heap = h0 := by rw [← hh, Bd.state]; rfl
  have N0 := Fr.nil n0
  refine Go.start (fun P hP => ?_)
  refine Go.st (fun t_ k_ => castTop (ef_rmMM mi b1 i1 b2) k_) (A := s₁.setTop (mkF mi 0 #[.val (.ref b1), .val (.int i1), .val (.ref b2), .val (.int 0), .val (.int 0), .unset, .unset, .unset] [])) ?_
  show Go _ _ _ (s₁.setTop (mkF mi 0 #[.val (.ref b1), .val (.int i1), .val (.ref b2), .val (.int 0), .val (.int 0), .unset, .unset, .unset] [])) _
  refine g_iconst X0 hx hby dc35_0 (v := 0) rfl ?_
  refine g_istore X0 hx hby dc35_1 (l' := #[.val (.ref b1), .val (.int i1), .val (.ref b2), .val (.int 0), .val (.int 0), .val (.int 0), .unset, .unset]) rfl ?_
  refine g_iload X0 hx hby dc35_3 rfl ?_
  refine g_bipush X0 hx hby dc35_5 (v := 7) rfl ?_
  refine g_icmpYes X0 hx hby dc35_7 (flt (by decide)).2.2.2 (pc0 := 7) (pc' := 70) rfl (by decide) (by decide) ?_
  refine g_iload X0 hx hby dc35_70 rfl ?_
  refine g_iload X0 hx hby dc35_72 rfl ?_
  refine g_icmpYes X0 hx hby dc35_74 (flt (by decide)).2.1 (pc0 := 74) (pc' := 101) rfl (by decide) (by decide) ?_
  refine g_iconst X0 hx hby dc35_101 (v := (-1)) rfl ?_
  obtain ⟨fs, hr, hrun, hended, hW, hsame⟩ := X0.leave (v := some (.int (-1))) (fun h => by rw [Bd.returns] at h; cases h) (BodyLoose.notSynchronized Bd)
  refine ⟨_, _, ?_, hP _ _ ⟨hrun, hended, _, _, rfl, ?_, ⟨_, rfl⟩, hW, hsame.mono (by decide) (by decide)⟩⟩
  · exact retI X0 hx Bd.returns (hb hby dc35_102) hr
  · show (some (.int (-1)) : Option Value) = some (.int (-1 : Int32)) ∧ Fr n0 _ ∧ s₁.heap = h0
    rw [e0]
    exact ⟨rfl, N0, rfl⟩
theorem dc36_0 : decode jdk_42_method_75_code 0 = .ok (.iload_n 2, 1) := by decide +kernel
theorem dc36_1 : decode jdk_42_method_75_code 1 = .ok (.ifCond .lt 16, 3) := by decide +kernel
theorem dc36_4 : decode jdk_42_method_75_code 4 = .ok (.iload_n 2, 1) := by decide +kernel
theorem dc36_5 : decode jdk_42_method_75_code 5 = .ok (.aload_n 0, 1) := by decide +kernel
theorem dc36_6 : decode jdk_42_method_75_code 6 = .ok (.invokevirtual 505, 3) := by decide +kernel
theorem dc36_9 : decode jdk_42_method_75_code 9 = .ok (.aload_n 1, 1) := by decide +kernel
theorem dc36_10 : decode jdk_42_method_75_code 10 = .ok (.invokevirtual 505, 3) := by decide +kernel
theorem dc36_13 : decode jdk_42_method_75_code 13 = .ok (.isub, 1) := by decide +kernel
theorem dc36_14 : decode jdk_42_method_75_code 14 = .ok (.if_icmp .le 5, 3) := by decide +kernel
theorem dc36_19 : decode jdk_42_method_75_code 19 = .ok (.aload_n 0, 1) := by decide +kernel
theorem dc36_20 : decode jdk_42_method_75_code 20 = .ok (.getfield 9, 3) := by decide +kernel
theorem dc36_23 : decode jdk_42_method_75_code 23 = .ok (.astore_n 3, 1) := by decide +kernel
theorem dc36_24 : decode jdk_42_method_75_code 24 = .ok (.aload_n 1, 1) := by decide +kernel
theorem dc36_25 : decode jdk_42_method_75_code 25 = .ok (.getfield 9, 3) := by decide +kernel
theorem dc36_28 : decode jdk_42_method_75_code 28 = .ok (.astore 4, 2) := by decide +kernel
theorem dc36_30 : decode jdk_42_method_75_code 30 = .ok (.iconst 0, 1) := by decide +kernel
theorem dc36_31 : decode jdk_42_method_75_code 31 = .ok (.istore 5, 2) := by decide +kernel
theorem dc36_33 : decode jdk_42_method_75_code 33 = .ok (.aload 4, 2) := by decide +kernel
theorem dc36_35 : decode jdk_42_method_75_code 35 = .ok (.arraylength, 1) := by decide +kernel
theorem dc36_36 : decode jdk_42_method_75_code 36 = .ok (.istore 6, 2) := by decide +kernel
theorem dc36_38 : decode jdk_42_method_75_code 38 = .ok (.aload_n 0, 1) := by decide +kernel
theorem dc36_39 : decode jdk_42_method_75_code 39 = .ok (.invokevirtual 335, 3) := by decide +kernel
theorem dc36_42 : decode jdk_42_method_75_code 42 = .ok (.istore 7, 2) := by decide +kernel
theorem dc36_44 : decode jdk_42_method_75_code 44 = .ok (.iload 7, 2) := by decide +kernel
theorem dc36_46 : decode jdk_42_method_75_code 46 = .ok (.aload_n 1, 1) := by decide +kernel
theorem dc36_47 : decode jdk_42_method_75_code 47 = .ok (.invokevirtual 335, 3) := by decide +kernel
theorem dc36_50 : decode jdk_42_method_75_code 50 = .ok (.if_icmp .ne 32, 3) := by decide +kernel
theorem dc36_53 : decode jdk_42_method_75_code 53 = .ok (.iload 7, 2) := by decide +kernel
theorem dc36_55 : decode jdk_42_method_75_code 55 = .ok (.iconst 1, 1) := by decide +kernel
theorem dc36_56 : decode jdk_42_method_75_code 56 = .ok (.if_icmp .ne 7, 3) := by decide +kernel
theorem dc36_63 : decode jdk_42_method_75_code 63 = .ok (.aload_n 3, 1) := by decide +kernel
theorem dc36_64 : decode jdk_42_method_75_code 64 = .ok (.iload_n 2, 1) := by decide +kernel
theorem dc36_65 : decode jdk_42_method_75_code 65 = .ok (.aload 4, 2) := by decide +kernel
theorem dc36_67 : decode jdk_42_method_75_code 67 = .ok (.iconst 0, 1) := by decide +kernel
theorem dc36_68 : decode jdk_42_method_75_code 68 = .ok (.iload 6, 2) := by decide +kernel
theorem dc36_70 : decode jdk_42_method_75_code 70 = .ok (.invokestatic 607, 3) := by decide +kernel
theorem pd_26 : parseMethodDescriptor "([BI[BII)I" = some ⟨[(.array .byte), .int, (.array .byte), .int, .int], some .int⟩ := by decide +kernel
theorem dc36_73 : decode jdk_42_method_75_code 73 = .ok (.ifCond .ge 7, 3) := by decide +kernel
theorem dc36_76 : decode jdk_42_method_75_code 76 = .ok (.iconst 1, 1) := by decide +kernel
theorem dc36_77 : decode jdk_42_method_75_code 77 = .ok (.goto 4, 3) := by decide +kernel
theorem dc36_81 : decode jdk_42_method_75_code 81 = .ok (.ireturn, 1) := by decide +kernel
theorem ef_rmSW (mi : MethodId) (o : Addr) (p : Addr) (i : Int32) (b : Addr) (kb : ClassId) (n : Int32) (E : List Int32) (bp : Addr) (kp : ClassId) (cz : Int32) : entryFrame mi #[(.ref o), (.ref p), (.int i)] 8 = mkF mi 0 #[.val (.ref o), .val (.ref p), .val (.int i), .unset, .unset, .unset, .unset, .unset] [] := by first | (simp [entryFrame, mkF, argsToLocals, Value.category]; done) | rfl
def Q_rmSW (Z : State) (o : Addr) (p : Addr) (i : Int32) (b : Addr) (kb : ClassId) (n : Int32) (E : List Int32) (bp : Addr) (kp : ClassId) (cz : Int32) (h0 : Heap) (n0 : Nat) (vv_ : Option Value) (hh_ : Heap) (LL_ : List Loc) : Prop := vv_ = some (.int (1 : Int32)) ∧ Fr n0 LL_ ∧ hh_ = h0
set_option maxRecDepth 65536 in
set_option maxHeartbeats 40000000 in
theorem rmSW (l : Launch) (Z : State) (a0 : Array Value) (hw : ∀ d ∈ tables_1, d.before a0 Z = true) (ws : List Jvm.Cond) (o : Addr) (p : Addr) (i : Int32) (b : Addr) (kb : ClassId) (n : Int32) (E : List Int32) (bp : Addr) (kp : ClassId) (cz : Int32) (h0 : Heap) (n0 : Nat) (Z0 : n0 ≤ h0.size) (SE : Exa Z h0 o "java/lang/String") (SCo : Fld Z h0 o "java/lang/String" "coder" "B" (.int (0 : Int32))) (SVa : Fld Z h0 o "java/lang/String" "value" "[B" (.ref b)) (SAr : Arv Z h0 b kb .byte n (E.map Value.int) (.int (0 : Int32))) (SEb : Exa Z h0 b "[B") (SEp : Exa Z h0 p "java/lang/String") (SCop : Fld Z h0 p "java/lang/String" "coder" "B" (.int (0 : Int32))) (SVap : Fld Z h0 p "java/lang/String" "value" "[B" (.ref bp)) (SArp : Arv Z h0 bp kp .byte (0 : Int32) (([] : List Int32).map Value.int) (.int (0 : Int32))) (SEbp : Exa Z h0 bp "[B") (SC : Sta Z h0 "java/lang/String" "COMPACT_STRINGS" "Z" (.int cz)) (hcz : ¬ (cz = (0 : Int32))) (hi : ¬ (i < (0 : Int32))) (hle : ¬ ((n - (0 : Int32)) < i)) :
    MetFree l (⟨"java/lang/String", "startsWith", "(Ljava/lang/String;I)Z"⟩ : MethodName) (head1 (Jvm.Cond.code (⟨"java/lang/String", "startsWith", "(Ljava/lang/String;I)Z"⟩ : MethodName) jdk_42_method_75_code 8 (some .boolean) :: ws) ({ frames := 2, cells := 0, slots := 0, locals := 27 } : Room)) (fun aa_ U => aa_ = #[(.ref o), (.ref p), (.int i)] ∧ Z.Warmed39 U.vm ∧ U.heap = h0) (fun _ _ _ _ _ => True) (fun _ U oo_ UV_ => ∃ vv_ LL_, oo_ = .returned vv_ ∧ Q_rmSW Z o p i b kb n E bp kp cz h0 n0 vv_ UV_.heap LL_ ∧ FrameEnd U oo_ UV_ LL_ ({ frames := 2, cells := 0, slots := 0, locals := 27 } : Room).cells ({ frames := 2, cells := 0, slots := 0, locals := 27 } : Room).slots) := by
  refine MetFree.of_bodySF (plainFor_of_name pn_0) hisR ?_
  intro pg ev si mi args below meth ci s₁ Bd hml0 hP0 hK
  obtain ⟨rfl, hZ, hh⟩ := hP0
  have hx := Bd.exec
  have hby := Bd.bytes
  have hml : ci.maxLocals = 8 := hml0
  have hown : si.vm.findClass "java/lang/String" = some mi.cls := findClass_of_methodNamed Bd.named
  have hnm := (name_of_methodNamed Bd.named Bd.method).1
  have X0 : Stand pg l ev ({ frames := 2, cells := 0, slots := 0, locals := 27 } : Room) si mi #[(.ref o), (.ref p), (.int i)] below meth ci s₁ [] 0 0 := Stand.of_body Bd
  have e0 : s₁.heap = h0 := by rw [← hh, Bd.state]; rfl
  have N0 := Fr.nil n0
  refine Go.start (fun P hP => ?_)
  refine Go.st (fun t_ k_ => castTop (ef_rmSW mi o p i b kb n E bp kp cz) k_) (A := s₁.setTop (mkF mi 0 #[.val (.ref o), .val (.ref p), .val (.int i), .unset, .unset, .unset, .unset, .unset] [])) ?_
  show Go _ _ _ (s₁.setTop (mkF mi 0 #[.val (.ref o), .val (.ref p), .val (.int i), .unset, .unset, .unset, .unset, .unset] [])) _
  refine g_iloadN X0 hx hby dc36_0 rfl ?_
  refine g_ifNo X0 hx hby dc36_1 ((if0 _ _).trans (flt hi).1) ?_
  refine g_iloadN X0 hx hby dc36_4 rfl ?_
  refine g_aloadN X0 hx hby dc36_5 rfl rfl ?_
  obtain ⟨cq1, kq1, q1a, q1b, q1c⟩ := isOf hZ e0 SE
  obtain ⟨_, _, ⟨T1, L1, k1, n1⟩, -, X1, ⟨Lc1, hQ1, l1, y1, z1⟩, st1⟩ := X0.virtualBack hx (y := (⟨"java/lang/String", "length", "()I"⟩ : MethodName)) (z := (⟨"java/lang/String", "length", "()I"⟩ : MethodName)) hown (mvT hZ (hw _ (own_m 233 rfl))) (mvT hZ (hw _ (own_m 65 rfl))) (notFace_of_selects (args := #[]) (mvT hZ (hw _ (own_m 67 rfl)))) (mvT hZ (hw _ (own_m 67 rfl))) (mvT hZ (hw _ (own_m 66 rfl))) (by decide) (backOf (W := 1) (rmLn l Z a0 hw [] o b kb n E cz h0 n0 Z0 SE SCo SVa SAr SEb SC hcz) hZ (hw _ (own_m 68 rfl)) (hw _ (own_m 7 rfl)) (by decide) (by decide)) q1a q1c (g := (mkF mi 6 #[.val (.ref o), .val (.ref p), .val (.int i), .unset, .unset, .unset, .unset, .unset] [(.ref o), (.int i)])) rfl (by rw [hml]; rfl) (Steps.refl _) (argsL := []) (rest := [(.int i)]) (lenOf pd_8 rfl) rfl (by show 2 * 0 + _ ≤ _; exact Nat.le_of_eq rfl) (hb hby dc36_6) (fun _ _ => ⟨rfl, e0, (by decide : 0 + 0 ≤ _), (by decide : 0 + 0 ≤ _)⟩)
  dsimp only [Pt.U, Pt.locs, Pt.cells, Pt.slots] at X1 l1 y1 z1 st1 hQ1
  subst y1 z1
  have X1 := own_cs X1 (cells' := 0) (slots' := 0) rfl rfl
  obtain ⟨rfl, N1q, e1⟩ := hQ1
  have N1 := own_fr l1 (Fr.app N0 N1q)
  refine Go.tr st1 ?_
  refine g_aloadN X1 hx hby dc36_9 rfl rfl ?_
  obtain ⟨cq2, kq2, q2a, q2b, q2c⟩ := isOf hZ e1 SEp
  obtain ⟨_, _, ⟨T2, L2, k2, n2⟩, -, X2, ⟨Lc2, hQ2, l2, y2, z2⟩, st2⟩ := X1.virtualBack hx (y := (⟨"java/lang/String", "length", "()I"⟩ : MethodName)) (z := (⟨"java/lang/String", "length", "()I"⟩ : MethodName)) hown (mvT hZ (hw _ (own_m 233 rfl))) (mvT hZ (hw _ (own_m 65 rfl))) (notFace_of_selects (args := #[]) (mvT hZ (hw _ (own_m 67 rfl)))) (mvT hZ (hw _ (own_m 67 rfl))) (mvT hZ (hw _ (own_m 66 rfl))) (by decide) (backOf (W := 2) (rmLn l Z a0 hw [] p bp kp (0 : Int32) ([] : List Int32) cz h0 n0 Z0 SEp SCop SVap SArp SEbp SC hcz) hZ (hw _ (own_m 68 rfl)) (hw _ (own_m 7 rfl)) (by decide) (by decide)) q2a q2c (g := (mkF mi 10 #[.val (.ref o), .val (.ref p), .val (.int i), .unset, .unset, .unset, .unset, .unset] [(.ref p), (.int n), (.int i)])) rfl (by rw [hml]; rfl) (Steps.refl _) (argsL := []) (rest := [(.int n), (.int i)]) (lenOf pd_8 rfl) rfl (by show 2 * 0 + _ ≤ _; exact Nat.le_of_eq rfl) (hb hby dc36_10) (fun _ _ => ⟨rfl, e1, (by decide : 0 + 0 ≤ _), (by decide : 0 + 0 ≤ _)⟩)
  dsimp only [Pt.U, Pt.locs, Pt.cells, Pt.slots] at X2 l2 y2 z2 st2 hQ2
  subst y2 z2
  have X2 := own_cs X2 (cells' := 0) (slots' := 0) rfl rfl
  obtain ⟨rfl, N2q, e2⟩ := hQ2
  have N2 := own_fr l2 (Fr.app N1 N2q)
  refine Go.tr st2 ?_
  refine g_isub X2 hx hby dc36_13 rfl ?_
  refine g_icmpYes X2 hx hby dc36_14 (flt hle).2.2.2 (pc0 := 14) (pc' := 19) rfl (by decide) (by decide) ?_
  refine g_aloadN X2 hx hby dc36_19 rfl rfl ?_
  obtain ⟨T3, X3, e3, st3⟩ := getF X2 hx hZ hown (host := "") (Or.inl (hw _ (own_m 48 rfl))) Via.refl e2 SVa (g := (mkF mi 20 #[.val (.ref o), .val (.ref p), .val (.int i), .unset, .unset, .unset, .unset, .unset] [(.ref o)])) rfl rfl (hb hby dc36_20)
  refine Go.st st3 ?_
  refine g_astoreN X3 hx hby dc36_23 rfl (l' := #[.val (.ref o), .val (.ref p), .val (.int i), .val (.ref b), .unset, .unset, .unset, .unset]) rfl ?_
  refine g_aloadN X3 hx hby dc36_24 rfl rfl ?_
  obtain ⟨T4, X4, e4, st4⟩ := getF X3 hx hZ hown (host := "") (Or.inl (hw _ (own_m 48 rfl))) Via.refl e3 SVap (g := (mkF mi 25 #[.val (.ref o), .val (.ref p), .val (.int i), .val (.ref b), .unset, .unset, .unset, .unset] [(.ref p)])) rfl rfl (hb hby dc36_25)
  refine Go.st st4 ?_
  refine g_astore X4 hx hby dc36_28 rfl (l' := #[.val (.ref o), .val (.ref p), .val (.int i), .val (.ref b), .val (.ref bp), .unset, .unset, .unset]) rfl ?_
  refine g_iconst X4 hx hby dc36_30 (v := 0) rfl ?_
  refine g_istore X4 hx hby dc36_31 (l' := #[.val (.ref o), .val (.ref p), .val (.int i), .val (.ref b), .val (.ref bp), .val (.int 0), .unset, .unset]) rfl ?_
  refine g_aload X4 hx hby dc36_33 rfl rfl ?_
  have ov5 := SArp
  obtain ⟨cl5, Ar5, q5, S5, M5, H5, G5⟩ := ov5
  refine Go.st (X4.arraylength hx (by rw [e4]; exact Ar5.1) (State.isArrayOf_alike hZ.alike Ar5.2.1) (g := (mkF mi 35 #[.val (.ref o), .val (.ref p), .val (.int i), .val (.ref b), .val (.ref bp), .val (.int 0), .unset, .unset] [(.ref bp)])) rfl rfl (hb hby dc36_35)) ?_
  rw [len_of S5 M5]
  refine g_istore X4 hx hby dc36_36 (l' := #[.val (.ref o), .val (.ref p), .val (.int i), .val (.ref b), .val (.ref bp), .val (.int 0), .val (.int 0), .unset]) rfl ?_
  refine g_aloadN X4 hx hby dc36_38 rfl rfl ?_
  obtain ⟨cq6, kq6, q6a, q6b, q6c⟩ := isOf hZ e4 SE
  obtain ⟨_, _, ⟨T6, L6, k6, n6⟩, -, X6, ⟨Lc6, hQ6, l6, y6, z6⟩, st6⟩ := X4.virtualBack hx (y := (⟨"java/lang/String", "coder", "()B"⟩ : MethodName)) (z := (⟨"java/lang/String", "coder", "()B"⟩ : MethodName)) hown (mvT hZ (hw _ (own_m 69 rfl))) (mvT hZ (hw _ (own_m 70 rfl))) (notFace_of_selects (args := #[]) (mvT hZ (hw _ (own_m 72 rfl)))) (mvT hZ (hw _ (own_m 72 rfl))) (mvT hZ (hw _ (own_m 71 rfl))) (by decide) (backOf (W := 0) (rmCd l Z a0 hw [] o cz h0 n0 Z0 SCo SC hcz) hZ (hw _ (own_m 73 rfl)) (hw _ (own_m 7 rfl)) (by decide) (by decide)) q6a q6c (g := (mkF mi 39 #[.val (.ref o), .val (.ref p), .val (.int i), .val (.ref b), .val (.ref bp), .val (.int 0), .val (.int 0), .unset] [(.ref o)])) rfl (by rw [hml]; rfl) (Steps.refl _) (argsL := []) (rest := []) (lenOf pd_0 rfl) rfl (by show 2 * 0 + _ ≤ _; exact Nat.le_of_eq rfl) (hb hby dc36_39) (fun _ _ => ⟨rfl, e4, (by decide : 0 + 0 ≤ _), (by decide : 0 + 0 ≤ _)⟩)
  dsimp only [Pt.U, Pt.locs, Pt.cells, Pt.slots] at X6 l6 y6 z6 st6 hQ6
  subst y6 z6
  have X6 := own_cs X6 (cells' := 0) (slots' := 0) rfl rfl
  obtain ⟨rfl, N6q, e6⟩ := hQ6
  have N6 := own_fr l6 (Fr.app N2 N6q)
  refine Go.tr st6 ?_
  refine g_istore X6 hx hby dc36_42 (l' := #[.val (.ref o), .val (.ref p), .val (.int i), .val (.ref b), .val (.ref bp), .val (.int 0), .val (.int 0), .val (.int 0)]) rfl ?_
  refine g_iload X6 hx hby dc36_44 rfl ?_
  refine g_aloadN X6 hx hby dc36_46 rfl rfl ?_
  obtain ⟨cq7, kq7, q7a, q7b, q7c⟩ := isOf hZ e6 SEp
  obtain ⟨_, _, ⟨T7, L7, k7, n7⟩, -, X7, ⟨Lc7, hQ7, l7, y7, z7⟩, st7⟩ := X6.virtualBack hx (y := (⟨"java/lang/String", "coder", "()B"⟩ : MethodName)) (z := (⟨"java/lang/String", "coder", "()B"⟩ : MethodName)) hown (mvT hZ (hw _ (own_m 69 rfl))) (mvT hZ (hw _ (own_m 70 rfl))) (notFace_of_selects (args := #[]) (mvT hZ (hw _ (own_m 72 rfl)))) (mvT hZ (hw _ (own_m 72 rfl))) (mvT hZ (hw _ (own_m 71 rfl))) (by decide) (backOf (W := 1) (rmCd l Z a0 hw [] p cz h0 n0 Z0 SCop SC hcz) hZ (hw _ (own_m 73 rfl)) (hw _ (own_m 7 rfl)) (by decide) (by decide)) q7a q7c (g := (mkF mi 47 #[.val (.ref o), .val (.ref p), .val (.int i), .val (.ref b), .val (.ref bp), .val (.int 0), .val (.int 0), .val (.int 0)] [(.ref p), (.int 0)])) rfl (by rw [hml]; rfl) (Steps.refl _) (argsL := []) (rest := [(.int 0)]) (lenOf pd_0 rfl) rfl (by show 2 * 0 + _ ≤ _; exact Nat.le_of_eq rfl) (hb hby dc36_47) (fun _ _ => ⟨rfl, e6, (by decide : 0 + 0 ≤ _), (by decide : 0 + 0 ≤ _)⟩)
  dsimp only [Pt.U, Pt.locs, Pt.cells, Pt.slots] at X7 l7 y7 z7 st7 hQ7
  subst y7 z7
  have X7 := own_cs X7 (cells' := 0) (slots' := 0) rfl rfl
  obtain ⟨rfl, N7q, e7⟩ := hQ7
  have N7 := own_fr l7 (Fr.app N6 N7q)
  refine Go.tr st7 ?_
  refine g_icmpNo X7 hx hby dc36_50 (teq rfl).2 ?_
  refine g_iload X7 hx hby dc36_53 rfl ?_
  refine g_iconst X7 hx hby dc36_55 (v := 1) rfl ?_
  refine g_icmpYes X7 hx hby dc36_56 (feq (by decide)).2 (pc0 := 56) (pc' := 63) rfl (by decide) (by decide) ?_
  refine g_aloadN X7 hx hby dc36_63 rfl rfl ?_
  show Go _ _ _ (T7.setTop (mkF mi 64 #[.val (.ref o), .val (.ref p), .val (.int i), .val (.ref b), .val (.ref bp), .val (.int 0), .val (.int 0), .val (.int 0)] [(.ref b)])) _
  refine g_iloadN X7 hx hby dc36_64 rfl ?_
  refine g_aload X7 hx hby dc36_65 rfl rfl ?_
  refine g_iconst X7 hx hby dc36_67 (v := 0) rfl ?_
  refine g_iload X7 hx hby dc36_68 rfl ?_
  obtain ⟨_, _, ⟨T8, L8, k8, n8⟩, -, X8, ⟨Lc8, hQ8, l8, y8, z8⟩, st8⟩ := Jvm.LawKit.callS X7 hx (y := (⟨"jdk/internal/util/ArraysSupport", "mismatch", "([BI[BII)I"⟩ : MethodName)) hown (mvT hZ (hw _ (own_m 234 rfl))) (mvT hZ (hw _ (own_m 235 rfl))) (mvT hZ (hw _ (own_m 236 rfl))) (mvT hZ (hw _ (own_m 237 rfl))) (by decide) (backOf (W := 0) (rmMM l Z a0 hw [] b i bp h0 n0 Z0) hZ (hw _ (own_m 237 rfl)) (hw _ (own_m 236 rfl)) (by decide) (by decide)) (g := (mkF mi 70 #[.val (.ref o), .val (.ref p), .val (.int i), .val (.ref b), .val (.ref bp), .val (.int 0), .val (.int 0), .val (.int 0)] [(.int 0), (.int 0), (.ref bp), (.int i), (.ref b)])) rfl (by rw [hml]; rfl) (argsL := [(.ref b), (.int i), (.ref bp), (.int 0), (.int 0)]) (rest := []) (lenOf pd_26 rfl) rfl (by show 2 * 0 + _ ≤ _; exact Nat.le_of_eq rfl) (hb hby dc36_70) (fun _ _ => ⟨rfl, e7, (by decide : 0 + 0 ≤ _), (by decide : 0 + 0 ≤ _)⟩)
  dsimp only [Pt.U, Pt.locs, Pt.cells, Pt.slots] at X8 l8 y8 z8 st8 hQ8
  subst y8 z8
  have X8 := own_cs X8 (cells' := 0) (slots' := 0) rfl rfl
  obtain ⟨rfl, N8q, e8⟩ := hQ8
  have N8 := own_fr l8 (Fr.app N7 N8q)
  refine Go.st st8 ?_
  refine g_ifNo X8 hx hby dc36_73 ((if0 _ _).trans (tlt (by decide)).2.1) ?_
  refine g_iconst X8 hx hby dc36_76 (v := 1) rfl ?_
  refine g_goto X8 hx hby dc36_77 (pc0 := 77) (pc' := 81) rfl (by decide) (by decide) ?_
  obtain ⟨fs, hr, hrun, hended, hW, hsame⟩ := X8.leave (v := some (.int 1)) (fun h => by rw [Bd.returns] at h; cases h) (BodyLoose.notSynchronized Bd)
  refine ⟨_, _, ?_, hP _ _ ⟨hrun, hended, _, _, rfl, ?_, ⟨_, rfl⟩, hW, hsame.mono (by decide) (by decide)⟩⟩
  · exact retN X8 hx (t := .boolean) Bd.returns (by simp) (hb hby dc36_81) hr
  · show (some (.int 1) : Option Value) = some (.int (1 : Int32)) ∧ Fr n0 _ ∧ T8.heap = h0
    rw [e8]
    exact ⟨rfl, N8, rfl⟩
theorem own_s0 {n : Int32} (h : ¬ n < 0) : ¬ ((n - (0 : Int32)) < (0 : Int32)) := by rw [Int32.sub_zero]; exact h
theorem dc37_0 : decode jdk_42_method_76_code 0 = .ok (.aload_n 0, 1) := by decide +kernel
theorem dc37_1 : decode jdk_42_method_76_code 1 = .ok (.aload_n 1, 1) := by decide +kernel
theorem dc37_2 : decode jdk_42_method_76_code 2 = .ok (.iconst 0, 1) := by decide +kernel
theorem dc37_3 : decode jdk_42_method_76_code 3 = .ok (.invokevirtual 624, 3) := by decide +kernel
theorem pd_27 : parseMethodDescriptor "(Ljava/lang/String;I)Z" = some ⟨[(.object "java/lang/String"), .int], some .boolean⟩ := by decide +kernel
theorem dc37_6 : decode jdk_42_method_76_code 6 = .ok (.ireturn, 1) := by decide +kernel
theorem ef_rmS1 (mi : MethodId) (o : Addr) (p : Addr) (b : Addr) (kb : ClassId) (n : Int32) (E : List Int32) (bp : Addr) (kp : ClassId) (cz : Int32) : entryFrame mi #[(.ref o), (.ref p)] 2 = mkF mi 0 #[.val (.ref o), .val (.ref p)] [] := by first | (simp [entryFrame, mkF, argsToLocals, Value.category]; done) | rfl
def Q_rmS1 (Z : State) (o : Addr) (p : Addr) (b : Addr) (kb : ClassId) (n : Int32) (E : List Int32) (bp : Addr) (kp : ClassId) (cz : Int32) (h0 : Heap) (n0 : Nat) (vv_ : Option Value) (hh_ : Heap) (LL_ : List Loc) : Prop := vv_ = some (.int (1 : Int32)) ∧ Fr n0 LL_ ∧ hh_ = h0
set_option maxRecDepth 65536 in
set_option maxHeartbeats 40000000 in
theorem rmS1 (l : Launch) (Z : State) (a0 : Array Value) (hw : ∀ d ∈ tables_1, d.before a0 Z = true) (ws : List Jvm.Cond) (o : Addr) (p : Addr) (b : Addr) (kb : ClassId) (n : Int32) (E : List Int32) (bp : Addr) (kp : ClassId) (cz : Int32) (h0 : Heap) (n0 : Nat) (Z0 : n0 ≤ h0.size) (SE : Exa Z h0 o "java/lang/String") (SCo : Fld Z h0 o "java/lang/String" "coder" "B" (.int (0 : Int32))) (SVa : Fld Z h0 o "java/lang/String" "value" "[B" (.ref b)) (SAr : Arv Z h0 b kb .byte n (E.map Value.int) (.int (0 : Int32))) (SEb : Exa Z h0 b "[B") (SEp : Exa Z h0 p "java/lang/String") (SCop : Fld Z h0 p "java/lang/String" "coder" "B" (.int (0 : Int32))) (SVap : Fld Z h0 p "java/lang/String" "value" "[B" (.ref bp)) (SArp : Arv Z h0 bp kp .byte (0 : Int32) (([] : List Int32).map Value.int) (.int (0 : Int32))) (SEbp : Exa Z h0 bp "[B") (SC : Sta Z h0 "java/lang/String" "COMPACT_STRINGS" "Z" (.int cz)) (hcz : ¬ (cz = (0 : Int32))) (hn : ¬ n < 0) :
    MetFree l (⟨"java/lang/String", "startsWith", "(Ljava/lang/String;)Z"⟩ : MethodName) (head1 (Jvm.Cond.code (⟨"java/lang/String", "startsWith", "(Ljava/lang/String;)Z"⟩ : MethodName) jdk_42_method_76_code 2 (some .boolean) :: ws) ({ frames := 3, cells := 0, slots := 0, locals := 46 } : Room)) (fun aa_ U => aa_ = #[(.ref o), (.ref p)] ∧ Z.Warmed39 U.vm ∧ U.heap = h0) (fun _ _ _ _ _ => True) (fun _ U oo_ UV_ => ∃ vv_ LL_, oo_ = .returned vv_ ∧ Q_rmS1 Z o p b kb n E bp kp cz h0 n0 vv_ UV_.heap LL_ ∧ FrameEnd U oo_ UV_ LL_ ({ frames := 3, cells := 0, slots := 0, locals := 46 } : Room).cells ({ frames := 3, cells := 0, slots := 0, locals := 46 } : Room).slots) := by
  refine MetFree.of_bodySF (plainFor_of_name pn_0) hisR ?_
  intro pg ev si mi args below meth ci s₁ Bd hml0 hP0 hK
  obtain ⟨rfl, hZ, hh⟩ := hP0
  have hx := Bd.exec
  have hby := Bd.bytes
  have hml : ci.maxLocals = 2 := hml0
  have hown : si.vm.findClass "java/lang/String" = some mi.cls := findClass_of_methodNamed Bd.named
  have hnm := (name_of_methodNamed Bd.named Bd.method).1
  have X0 : Stand pg l ev ({ frames := 3, cells := 0, slots := 0, locals := 46 } : Room) si mi #[(.ref o), (.ref p)] below meth ci s₁ [] 0 0 := Stand.of_body Bd
  have e0 : s₁.heap = h0 := by rw [← hh, Bd.state]; rfl
  have N0 := Fr.nil n0
  refine Go.start (fun P hP => ?_)
  refine Go.st (fun t_ k_ => castTop (ef_rmS1 mi o p b kb n E bp kp cz) k_) (A := s₁.setTop (mkF mi 0 #[.val (.ref o), .val (.ref p)] [])) ?_
  show Go _ _ _ (s₁.setTop (mkF mi 0 #[.val (.ref o), .val (.ref p)] [])) _
  refine g_aloadN X0 hx hby dc37_0 rfl rfl ?_
  refine g_aloadN X0 hx hby dc37_1 rfl rfl ?_
  refine g_iconst X0 hx hby dc37_2 (v := 0) rfl ?_
  obtain ⟨cq1, kq1, q1a, q1b, q1c⟩ := isOf hZ e0 SE
  obtain ⟨_, _, ⟨T1, L1, k1, n1⟩, -, X1, ⟨Lc1, hQ1, l1, y1, z1⟩, st1⟩ := X0.virtualBack hx (y := (⟨"java/lang/String", "startsWith", "(Ljava/lang/String;I)Z"⟩ : MethodName)) (z := (⟨"java/lang/String", "startsWith", "(Ljava/lang/String;I)Z"⟩ : MethodName)) hown (mvT hZ (hw _ (own_m 228 rfl))) (mvT hZ (hw _ (own_m 229 rfl))) (notFace_of_selects (args := #[]) (mvT hZ (hw _ (own_m 231 rfl)))) (mvT hZ (hw _ (own_m 231 rfl))) (mvT hZ (hw _ (own_m 230 rfl))) (by decide) (backOf (W := 0) (rmSW l Z a0 hw [] o p (0 : Int32) b kb n E bp kp cz h0 n0 Z0 SE SCo SVa SAr SEb SEp SCop SVap SArp SEbp SC hcz (by decide) (own_s0 hn)) hZ (hw _ (own_m 232 rfl)) (hw _ (own_m 7 rfl)) (by decide) (by decide)) q1a q1c (g := (mkF mi 3 #[.val (.ref o), .val (.ref p)] [(.int 0), (.ref p), (.ref o)])) rfl (by rw [hml]; rfl) (Steps.refl _) (argsL := [(.ref p), (.int 0)]) (rest := []) (lenOf pd_27 rfl) rfl (by show 2 * 0 + _ ≤ _; exact Nat.le_of_eq rfl) (hb hby dc37_3) (fun _ _ => ⟨rfl, e0, (by decide : 0 + 0 ≤ _), (by decide : 0 + 0 ≤ _)⟩)
  dsimp only [Pt.U, Pt.locs, Pt.cells, Pt.slots] at X1 l1 y1 z1 st1 hQ1
  subst y1 z1
  have X1 := own_cs X1 (cells' := 0) (slots' := 0) rfl rfl
  obtain ⟨rfl, N1q, e1⟩ := hQ1
  have N1 := own_fr l1 (Fr.app N0 N1q)
  refine Go.tr st1 ?_
  obtain ⟨fs, hr, hrun, hended, hW, hsame⟩ := X1.leave (v := some (.int 1)) (fun h => by rw [Bd.returns] at h; cases h) (BodyLoose.notSynchronized Bd)
  refine ⟨_, _, ?_, hP _ _ ⟨hrun, hended, _, _, rfl, ?_, ⟨_, rfl⟩, hW, hsame.mono (by decide) (by decide)⟩⟩
  · exact retN X1 hx (t := .boolean) Bd.returns (by simp) (hb hby dc37_6) hr
  · show (some (.int 1) : Option Value) = some (.int (1 : Int32)) ∧ Fr n0 _ ∧ T1.heap = h0
    rw [e1]
    exact ⟨rfl, N1, rfl⟩
theorem dc38_0 : decode jdk_42_method_77_code 0 = .ok (.aload_n 0, 1) := by decide +kernel
theorem dc38_1 : decode jdk_42_method_77_code 1 = .ok (.aload_n 1, 1) := by decide +kernel
theorem dc38_2 : decode jdk_42_method_77_code 2 = .ok (.aload_n 0, 1) := by decide +kernel
theorem dc38_3 : decode jdk_42_method_77_code 3 = .ok (.invokevirtual 505, 3) := by decide +kernel
theorem dc38_6 : decode jdk_42_method_77_code 6 = .ok (.aload_n 1, 1) := by decide +kernel
theorem dc38_7 : decode jdk_42_method_77_code 7 = .ok (.invokevirtual 505, 3) := by decide +kernel
theorem dc38_10 : decode jdk_42_method_77_code 10 = .ok (.isub, 1) := by decide +kernel
theorem dc38_11 : decode jdk_42_method_77_code 11 = .ok (.invokevirtual 624, 3) := by decide +kernel
theorem dc38_14 : decode jdk_42_method_77_code 14 = .ok (.ireturn, 1) := by decide +kernel
theorem ef_rmEW (mi : MethodId) (o : Addr) (p : Addr) (b : Addr) (kb : ClassId) (n : Int32) (E : List Int32) (bp : Addr) (kp : ClassId) (cz : Int32) : entryFrame mi #[(.ref o), (.ref p)] 2 = mkF mi 0 #[.val (.ref o), .val (.ref p)] [] := by first | (simp [entryFrame, mkF, argsToLocals, Value.category]; done) | rfl
def Q_rmEW (Z : State) (o : Addr) (p : Addr) (b : Addr) (kb : ClassId) (n : Int32) (E : List Int32) (bp : Addr) (kp : ClassId) (cz : Int32) (h0 : Heap) (n0 : Nat) (vv_ : Option Value) (hh_ : Heap) (LL_ : List Loc) : Prop := vv_ = some (.int (1 : Int32)) ∧ Fr n0 LL_ ∧ hh_ = h0
set_option maxRecDepth 65536 in
set_option maxHeartbeats 40000000 in
theorem rmEW (l : Launch) (Z : State) (a0 : Array Value) (hw : ∀ d ∈ tables_1, d.before a0 Z = true) (ws : List Jvm.Cond) (o : Addr) (p : Addr) (b : Addr) (kb : ClassId) (n : Int32) (E : List Int32) (bp : Addr) (kp : ClassId) (cz : Int32) (h0 : Heap) (n0 : Nat) (Z0 : n0 ≤ h0.size) (SE : Exa Z h0 o "java/lang/String") (SCo : Fld Z h0 o "java/lang/String" "coder" "B" (.int (0 : Int32))) (SVa : Fld Z h0 o "java/lang/String" "value" "[B" (.ref b)) (SAr : Arv Z h0 b kb .byte n (E.map Value.int) (.int (0 : Int32))) (SEb : Exa Z h0 b "[B") (SEp : Exa Z h0 p "java/lang/String") (SCop : Fld Z h0 p "java/lang/String" "coder" "B" (.int (0 : Int32))) (SVap : Fld Z h0 p "java/lang/String" "value" "[B" (.ref bp)) (SArp : Arv Z h0 bp kp .byte (0 : Int32) (([] : List Int32).map Value.int) (.int (0 : Int32))) (SEbp : Exa Z h0 bp "[B") (SC : Sta Z h0 "java/lang/String" "COMPACT_STRINGS" "Z" (.int cz)) (hcz : ¬ (cz = (0 : Int32))) (hn : ¬ n < 0) :
    MetFree l (⟨"java/lang/String", "endsWith", "(Ljava/lang/String;)Z"⟩ : MethodName) (head1 (Jvm.Cond.code (⟨"java/lang/String", "endsWith", "(Ljava/lang/String;)Z"⟩ : MethodName) jdk_42_method_77_code 2 (some .boolean) :: ws) ({ frames := 3, cells := 0, slots := 0, locals := 46 } : Room)) (fun aa_ U => aa_ = #[(.ref o), (.ref p)] ∧ Z.Warmed39 U.vm ∧ U.heap = h0) (fun _ _ _ _ _ => True) (fun _ U oo_ UV_ => ∃ vv_ LL_, oo_ = .returned vv_ ∧ Q_rmEW Z o p b kb n E bp kp cz h0 n0 vv_ UV_.heap LL_ ∧ FrameEnd U oo_ UV_ LL_ ({ frames := 3, cells := 0, slots := 0, locals := 46 } : Room).cells ({ frames := 3, cells := 0, slots := 0, locals := 46 } : Room).slots) := by
  refine MetFree.of_bodySF (plainFor_of_name pn_0) hisR ?_
  intro pg ev si mi args below meth ci s₁ Bd hml0 hP0 hK
  obtain ⟨rfl, hZ, hh⟩ := hP0
  have hx := Bd.exec
  have hby := Bd.bytes
  have hml : ci.maxLocals = 2 := hml0
  have hown : si.vm.findClass "java/lang/String" = some mi.cls := findClass_of_methodNamed Bd.named
  have hnm := (name_of_methodNamed Bd.named Bd.method).1
  have X0 : Stand pg l ev ({ frames := 3, cells := 0, slots := 0, locals := 46 } : Room) si mi #[(.ref o), (.ref p)] below meth ci s₁ [] 0 0 := Stand.of_body Bd
  have e0 : s₁.heap = h0 := by rw [← hh, Bd.state]; rfl
  have N0 := Fr.nil n0
  refine Go.start (fun P hP => ?_)
  refine Go.st (fun t_ k_ => castTop (ef_rmEW mi o p b kb n E bp kp cz) k_) (A := s₁.setTop (mkF mi 0 #[.val (.ref o), .val (.ref p)] [])) ?_
  show Go _ _ _ (s₁.setTop (mkF mi 0 #[.val (.ref o), .val (.ref p)] [])) _
  refine g_aloadN X0 hx hby dc38_0 rfl rfl ?_
  refine g_aloadN X0 hx hby dc38_1 rfl rfl ?_
  refine g_aloadN X0 hx hby dc38_2 rfl rfl ?_
  obtain ⟨cq1, kq1, q1a, q1b, q1c⟩ := isOf hZ e0 SE
  obtain ⟨_, _, ⟨T1, L1, k1, n1⟩, -, X1, ⟨Lc1, hQ1, l1, y1, z1⟩, st1⟩ := X0.virtualBack hx (y := (⟨"java/lang/String", "length", "()I"⟩ : MethodName)) (z := (⟨"java/lang/String", "length", "()I"⟩ : MethodName)) hown (mvT hZ (hw _ (own_m 233 rfl))) (mvT hZ (hw _ (own_m 65 rfl))) (notFace_of_selects (args := #[]) (mvT hZ (hw _ (own_m 67 rfl)))) (mvT hZ (hw _ (own_m 67 rfl))) (mvT hZ (hw _ (own_m 66 rfl))) (by decide) (backOf (W := 2) (rmLn l Z a0 hw [] o b kb n E cz h0 n0 Z0 SE SCo SVa SAr SEb SC hcz) hZ (hw _ (own_m 68 rfl)) (hw _ (own_m 7 rfl)) (by decide) (by decide)) q1a q1c (g := (mkF mi 3 #[.val (.ref o), .val (.ref p)] [(.ref o), (.ref p), (.ref o)])) rfl (by rw [hml]; rfl) (Steps.refl _) (argsL := []) (rest := [(.ref p), (.ref o)]) (lenOf pd_8 rfl) rfl (by show 2 * 0 + _ ≤ _; exact Nat.le_of_eq rfl) (hb hby dc38_3) (fun _ _ => ⟨rfl, e0, (by decide : 0 + 0 ≤ _), (by decide : 0 + 0 ≤ _)⟩)
  dsimp only [Pt.U, Pt.locs, Pt.cells, Pt.slots] at X1 l1 y1 z1 st1 hQ1
  subst y1 z1
  have X1 := own_cs X1 (cells' := 0) (slots' := 0) rfl rfl
  obtain ⟨rfl, N1q, e1⟩ := hQ1
  have N1 := own_fr l1 (Fr.app N0 N1q)
  refine Go.tr st1 ?_
  refine g_aloadN X1 hx hby dc38_6 rfl rfl ?_
  obtain ⟨cq2, kq2, q2a, q2b, q2c⟩ := isOf hZ e1 SEp
  obtain ⟨_, _, ⟨T2, L2, k2, n2⟩, -, X2, ⟨Lc2, hQ2, l2, y2, z2⟩, st2⟩ := X1.virtualBack hx (y := (⟨"java/lang/String", "length", "()I"⟩ : MethodName)) (z := (⟨"java/lang/String", "length", "()I"⟩ : MethodName)) hown (mvT hZ (hw _ (own_m 233 rfl))) (mvT hZ (hw _ (own_m 65 rfl))) (notFace_of_selects (args := #[]) (mvT hZ (hw _ (own_m 67 rfl)))) (mvT hZ (hw _ (own_m 67 rfl))) (mvT hZ (hw _ (own_m 66 rfl))) (by decide) (backOf (W := 3) (rmLn l Z a0 hw [] p bp kp (0 : Int32) ([] : List Int32) cz h0 n0 Z0 SEp SCop SVap SArp SEbp SC hcz) hZ (hw _ (own_m 68 rfl)) (hw _ (own_m 7 rfl)) (by decide) (by decide)) q2a q2c (g := (mkF mi 7 #[.val (.ref o), .val (.ref p)] [(.ref p), (.int n), (.ref p), (.ref o)])) rfl (by rw [hml]; rfl) (Steps.refl _) (argsL := []) (rest := [(.int n), (.ref p), (.ref o)]) (lenOf pd_8 rfl) rfl (by show 2 * 0 + _ ≤ _; exact Nat.le_of_eq rfl) (hb hby dc38_7) (fun _ _ => ⟨rfl, e1, (by decide : 0 + 0 ≤ _), (by decide : 0 + 0 ≤ _)⟩)
  dsimp only [Pt.U, Pt.locs, Pt.cells, Pt.slots] at X2 l2 y2 z2 st2 hQ2
  subst y2 z2
  have X2 := own_cs X2 (cells' := 0) (slots' := 0) rfl rfl
  obtain ⟨rfl, N2q, e2⟩ := hQ2
  have N2 := own_fr l2 (Fr.app N1 N2q)
  refine Go.tr st2 ?_
  refine g_isub X2 hx hby dc38_10 rfl ?_
  obtain ⟨cq3, kq3, q3a, q3b, q3c⟩ := isOf hZ e2 SE
  obtain ⟨_, _, ⟨T3, L3, k3, n3⟩, -, X3, ⟨Lc3, hQ3, l3, y3, z3⟩, st3⟩ := X2.virtualBack hx (y := (⟨"java/lang/String", "startsWith", "(Ljava/lang/String;I)Z"⟩ : MethodName)) (z := (⟨"java/lang/String", "startsWith", "(Ljava/lang/String;I)Z"⟩ : MethodName)) hown (mvT hZ (hw _ (own_m 228 rfl))) (mvT hZ (hw _ (own_m 229 rfl))) (notFace_of_selects (args := #[]) (mvT hZ (hw _ (own_m 231 rfl)))) (mvT hZ (hw _ (own_m 231 rfl))) (mvT hZ (hw _ (own_m 230 rfl))) (by decide) (backOf (W := 0) (rmSW l Z a0 hw [] o p (n - (0 : Int32)) b kb n E bp kp cz h0 n0 Z0 SE SCo SVa SAr SEb SEp SCop SVap SArp SEbp SC hcz (own_s0 hn) Int32.lt_irrefl) hZ (hw _ (own_m 232 rfl)) (hw _ (own_m 7 rfl)) (by decide) (by decide)) q3a q3c (g := (mkF mi 11 #[.val (.ref o), .val (.ref p)] [(.int (n - (0 : Int32))), (.ref p), (.ref o)])) rfl (by rw [hml]; rfl) (Steps.refl _) (argsL := [(.ref p), (.int (n - (0 : Int32)))]) (rest := []) (lenOf pd_27 rfl) rfl (by show 2 * 0 + _ ≤ _; exact Nat.le_of_eq rfl) (hb hby dc38_11) (fun _ _ => ⟨rfl, e2, (by decide : 0 + 0 ≤ _), (by decide : 0 + 0 ≤ _)⟩)
  dsimp only [Pt.U, Pt.locs, Pt.cells, Pt.slots] at X3 l3 y3 z3 st3 hQ3
  subst y3 z3
  have X3 := own_cs X3 (cells' := 0) (slots' := 0) rfl rfl
  obtain ⟨rfl, N3q, e3⟩ := hQ3
  have N3 := own_fr l3 (Fr.app N2 N3q)
  refine Go.tr st3 ?_
  obtain ⟨fs, hr, hrun, hended, hW, hsame⟩ := X3.leave (v := some (.int 1)) (fun h => by rw [Bd.returns] at h; cases h) (BodyLoose.notSynchronized Bd)
  refine ⟨_, _, ?_, hP _ _ ⟨hrun, hended, _, _, rfl, ?_, ⟨_, rfl⟩, hW, hsame.mono (by decide) (by decide)⟩⟩
  · exact retN X3 hx (t := .boolean) Bd.returns (by simp) (hb hby dc38_14) hr
  · show (some (.int 1) : Option Value) = some (.int (1 : Int32)) ∧ Fr n0 _ ∧ T3.heap = h0
    rw [e3]
    exact ⟨rfl, N3, rfl⟩
def dv (x : Int32) : Nat := (x.toInt - 48).toNat
def pv (E : List Int32) : Nat := E.foldl (fun a c => a * 10 + dv c) 0
theorem pv_snoc (E : List Int32) (x : Int32) : pv (E ++ [x]) = pv E * 10 + dv x := by unfold pv; rw [List.foldl_append]; rfl
theorem pv_le : ∀ (E : List Int32) (a : Nat), a ≤ E.foldl (fun a c => a * 10 + dv c) a
  | [], a => Nat.le_refl _
  | x :: r, a => Nat.le_trans (by omega) (pv_le r (a * 10 + dv x))
theorem pv_take (E : List Int32) (t : Nat) : pv (E.take t) ≤ pv E := by
  have e : pv E = (E.drop t).foldl (fun a c => a * 10 + dv c) (pv (E.take t)) := by unfold pv; rw [← List.foldl_append, List.take_append_drop]
  rw [e]; exact pv_le _ _
def Dig (x : Int32) : Prop := 48 ≤ x.toInt ∧ x.toInt ≤ 57
theorem own_d255 {x : Int32} (h : Dig x) : (x &&& (255 : Int32)) = x := by
  have e := c_mask x 255 8 (by decide) (by decide)
  obtain ⟨h1, h2⟩ := h
  apply Int32.toInt_inj.mp; omega
theorem own_d128 {x : Int32} (h : Dig x) : ¬ x < 0 ∧ x < (128 : Int32) := by
  have l : (128 : Int32).toInt = 128 := rfl
  obtain ⟨h1, h2⟩ := h
  simp only [Int32.lt_iff_toInt_lt, own_z0]; omega
theorem own_dv {x : Int32} (h : Dig x) : (x - (48 : Int32)).toInt = dv x ∧ dv x ≤ 9 := by
  have e := c_isub x 48
  have l : (48 : Int32).toInt = 48 := rfl
  have b1 := Int32.le_toInt (x - 48)
  have b2 := Int32.toInt_lt (x - 48)
  obtain ⟨h1, h2⟩ := h
  unfold dv; omega
theorem own_dlt {x : Int32} (h : Dig x) : ¬ ((x - (48 : Int32)) < (0 : Int32)) ∧ (x - (48 : Int32)) < (10 : Int32) := by
  have e := own_dv h
  have l : (10 : Int32).toInt = 10 := rfl
  simp only [Int32.lt_iff_toInt_lt, own_z0]; omega
set_option maxHeartbeats 400000 in
theorem own_ovf2 {v : Int32} {acc : Int64} {A d : Nat} (h : v.toInt = d) (hd : d ≤ 9) (ha : acc.toInt = A) (hb : A * 10 + d ≤ 9223372036854775807) : ¬ (((9223372036854775807 : Int64) - v.toInt64) / (10 : Int64) < acc) ∧ ((acc * (10 : Int64)) + v.toInt64).toInt = ((A * 10 + d : Nat) : Int) := by
  have e1 := c_i2l v
  obtain ⟨M, hM⟩ : ∃ M : Int64, M = (9223372036854775807 : Int64) := ⟨_, rfl⟩
  have l9 : M.toInt = 9223372036854775807 := by rw [hM]; decide +kernel
  rw [← hM]
  have e2 := c_lsub M v.toInt64
  have l10 : (10 : Int64).toInt = 10 := by decide +kernel
  have b1 := Int64.le_toInt (M - v.toInt64)
  have b2 := Int64.toInt_lt (M - v.toInt64)
  have e3 := (c_ldiv (M - v.toInt64) 10 10 l10 (by decide)).1 (by omega)
  have e4 := c_lmul acc 10
  have e5 := c_ladd (acc * 10) v.toInt64
  have b3 := Int64.le_toInt (acc * 10 + v.toInt64)
  have b4 := Int64.toInt_lt (acc * 10 + v.toInt64)
  have b5 := Int64.le_toInt (acc * 10)
  have b6 := Int64.toInt_lt (acc * 10)
  rw [l10, ha] at e4
  constructor
  · rw [Int64.lt_iff_toInt_lt]; omega
  · omega
theorem own_ovf {x : Int32} {acc : Int64} {A : Nat} (h : Dig x) (ha : acc.toInt = A) (hb : A * 10 + dv x ≤ 9223372036854775807) : ¬ (((9223372036854775807 : Int64) - (x - (48 : Int32)).toInt64) / (10 : Int64) < acc) ∧ ((acc * (10 : Int64)) + (x - (48 : Int32)).toInt64).toInt = ((A * 10 + dv x : Nat) : Int) := own_ovf2 (own_dv h).1 (own_dv h).2 ha hb
theorem dc39_119 : decode prog_6_method_8_code 119 = .ok (.iload 6, 2) := by decide +kernel
theorem dc39_121 : decode prog_6_method_8_code 121 = .ok (.iload_n 3, 1) := by decide +kernel
theorem dc39_122 : decode prog_6_method_8_code 122 = .ok (.if_icmp .ge 108, 3) := by decide +kernel
theorem dc39_125 : decode prog_6_method_8_code 125 = .ok (.aload_n 1, 1) := by decide +kernel
theorem dc39_126 : decode prog_6_method_8_code 126 = .ok (.iload 6, 2) := by decide +kernel
theorem dc39_128 : decode prog_6_method_8_code 128 = .ok (.invokevirtual 50, 3) := by decide +kernel
theorem dc39_131 : decode prog_6_method_8_code 131 = .ok (.istore 7, 2) := by decide +kernel
theorem dc39_133 : decode prog_6_method_8_code 133 = .ok (.iload 7, 2) := by decide +kernel
theorem dc39_135 : decode prog_6_method_8_code 135 = .ok (.getstatic 109, 3) := by decide +kernel
theorem dc39_138 : decode prog_6_method_8_code 138 = .ok (.arraylength, 1) := by decide +kernel
theorem dc39_139 : decode prog_6_method_8_code 139 = .ok (.if_icmp .ge 12, 3) := by decide +kernel
theorem dc39_142 : decode prog_6_method_8_code 142 = .ok (.getstatic 109, 3) := by decide +kernel
theorem dc39_145 : decode prog_6_method_8_code 145 = .ok (.iload 7, 2) := by decide +kernel
theorem dc39_147 : decode prog_6_method_8_code 147 = .ok (.baload, 1) := by decide +kernel
theorem dc39_148 : decode prog_6_method_8_code 148 = .ok (.goto 4, 3) := by decide +kernel
theorem dc39_152 : decode prog_6_method_8_code 152 = .ok (.istore 8, 2) := by decide +kernel
theorem dc39_154 : decode prog_6_method_8_code 154 = .ok (.iload 8, 2) := by decide +kernel
theorem dc39_156 : decode prog_6_method_8_code 156 = .ok (.ifCond .lt 12, 3) := by decide +kernel
theorem dc39_159 : decode prog_6_method_8_code 159 = .ok (.iload 8, 2) := by decide +kernel
theorem dc39_161 : decode prog_6_method_8_code 161 = .ok (.aload_n 0, 1) := by decide +kernel
theorem dc39_162 : decode prog_6_method_8_code 162 = .ok (.getfield 7, 3) := by decide +kernel
theorem dc39_165 : decode prog_6_method_8_code 165 = .ok (.if_icmp .lt 19, 3) := by decide +kernel
theorem dc39_184 : decode prog_6_method_8_code 184 = .ok (.lload 4, 2) := by decide +kernel
theorem dc39_186 : decode prog_6_method_8_code 186 = .ok (.ldc2_w 118, 3) := by decide +kernel
theorem dc39_189 : decode prog_6_method_8_code 189 = .ok (.iload 8, 2) := by decide +kernel
theorem dc39_191 : decode prog_6_method_8_code 191 = .ok (.i2l, 1) := by decide +kernel
theorem dc39_192 : decode prog_6_method_8_code 192 = .ok (.lsub, 1) := by decide +kernel
theorem dc39_193 : decode prog_6_method_8_code 193 = .ok (.aload_n 0, 1) := by decide +kernel
theorem dc39_194 : decode prog_6_method_8_code 194 = .ok (.getfield 7, 3) := by decide +kernel
theorem dc39_197 : decode prog_6_method_8_code 197 = .ok (.i2l, 1) := by decide +kernel
theorem dc39_198 : decode prog_6_method_8_code 198 = .ok (.ldiv, 1) := by decide +kernel
theorem dc39_199 : decode prog_6_method_8_code 199 = .ok (.lcmp, 1) := by decide +kernel
theorem dc39_200 : decode prog_6_method_8_code 200 = .ok (.ifCond .le 10, 3) := by decide +kernel
theorem dc39_210 : decode prog_6_method_8_code 210 = .ok (.lload 4, 2) := by decide +kernel
theorem dc39_212 : decode prog_6_method_8_code 212 = .ok (.aload_n 0, 1) := by decide +kernel
theorem dc39_213 : decode prog_6_method_8_code 213 = .ok (.getfield 7, 3) := by decide +kernel
theorem dc39_216 : decode prog_6_method_8_code 216 = .ok (.i2l, 1) := by decide +kernel
theorem dc39_217 : decode prog_6_method_8_code 217 = .ok (.lmul, 1) := by decide +kernel
theorem dc39_218 : decode prog_6_method_8_code 218 = .ok (.iload 8, 2) := by decide +kernel
theorem dc39_220 : decode prog_6_method_8_code 220 = .ok (.i2l, 1) := by decide +kernel
theorem dc39_221 : decode prog_6_method_8_code 221 = .ok (.ladd, 1) := by decide +kernel
theorem dc39_222 : decode prog_6_method_8_code 222 = .ok (.lstore 4, 2) := by decide +kernel
theorem dc39_224 : decode prog_6_method_8_code 224 = .ok (.iinc 6 1, 3) := by decide +kernel
theorem dc39_227 : decode prog_6_method_8_code 227 = .ok (.goto (-108), 3) := by decide +kernel
set_option maxRecDepth 65536 in
set_option maxHeartbeats 40000000 in
theorem own_pau (l : Launch) (Z : State) (a0 : Array Value) (hw : ∀ d ∈ tables_1, d.before a0 Z = true) {pg : Program} {ev : Env} {si : State} {mi : MethodId} {args : Array Value} {below : List Frame} {meth : Method} {ci : Code} {s₁ : State} {locs : List Loc} (X0 : Stand pg l ev ({ frames := 6, cells := 2, slots := 24, locals := 110 } : Room) si mi args below meth ci s₁ locs 2 20) (hx : pg.tables.exec = Jvm.exec) (hby : ci.code = prog_6_method_8_code) (hml : ci.maxLocals = 9) (hZ : Z.Warmed39 si.vm) (hown : si.vm.findClass "com/example/hoarfrost/hoarfrost/IdForm" = some mi.cls) {P : State → Outcome → Prop} (o : Addr) (t : Addr) (acc : Int64) (i : Int32) (A : Nat) (b : Addr) (kb : ClassId) (n : Int32) (E : List Int32) (cz : Int32) (fm : Value) (va : Addr) (kv : ClassId) (vals : List Value) (h0 : Heap) (n0 : Nat) (Z0 : n0 ≤ h0.size) (e0 : s₁.heap = h0) (N0 : Fr n0 locs) (FR : Fld Z h0 o "com/example/hoarfrost/hoarfrost/IdForm" "radix" "I" (.int (10 : Int32))) (SE : Exa Z h0 t "java/lang/String") (SCo : Fld Z h0 t "java/lang/String" "coder" "B" (.int (0 : Int32))) (SVa : Fld Z h0 t "java/lang/String" "value" "[B" (.ref b)) (SAr : Arv Z h0 b kb .byte n (E.map Value.int) (.int (0 : Int32))) (SEb : Exa Z h0 b "[B") (SC : Sta Z h0 "java/lang/String" "COMPACT_STRINGS" "Z" (.int cz)) (hcz : ¬ (cz = (0 : Int32))) (SF : Sta Z h0 "jdk/internal/util/Preconditions" "SIOOBE_FORMATTER" "Ljava/util/function/BiFunction;" fm) (hfm : fm.isRef = true) (SV : Sta Z h0 "com/example/hoarfrost/hoarfrost/IdForm" "VALUES" "[B" (.ref va)) (VA : Arv Z h0 va kv .byte (128 : Int32) vals (.int (0 : Int32))) (hVal : ∀ x : Int32, Dig x → vals.getD x.toNatClampNeg (.int (0 : Int32)) = .int (x - (48 : Int32))) (h1 : ¬ (i < (0 : Int32))) (h2 : i < n) (hD : Dig (E.getD i.toNatClampNeg 0)) (ha : acc.toInt = A) (hbv : A * 10 + dv (E.getD i.toNatClampNeg 0) ≤ 9223372036854775807) (K : ∀ (T' : State) (locs' : List Loc), Stand pg l ev ({ frames := 6, cells := 2, slots := 24, locals := 110 } : Room) si mi args below meth ci T' locs' 2 20 → T'.heap = h0 → Fr n0 locs' → Go pg.tables ev below (T'.setTop (mkF mi 119 #[.val (.ref o), .val (.ref t), .val (.int 0), .val (.int n), .val (.long ((acc * (10 : Int64)) + ((E.getD i.toNatClampNeg 0) - (48 : Int32)).toInt64)), .second, .val (.int (i + (1 : Int32))), .val (.int (E.getD i.toNatClampNeg 0)), .val (.int ((E.getD i.toNatClampNeg 0) - (48 : Int32)))] [])) P) :
    Go pg.tables ev below (s₁.setTop (mkF mi 119 #[.val (.ref o), .val (.ref t), .val (.int 0), .val (.int n), .val (.long acc), .second, .val (.int i), .unset, .unset] [])) P := by
  refine g_iload X0 hx hby dc39_119 rfl ?_
  refine g_iloadN X0 hx hby dc39_121 rfl ?_
  refine g_icmpNo X0 hx hby dc39_122 (tlt h2).2.1 ?_
  refine g_aloadN X0 hx hby dc39_125 rfl rfl ?_
  refine g_iload X0 hx hby dc39_126 rfl ?_
  obtain ⟨cq1, kq1, q1a, q1b, q1c⟩ := isOf hZ e0 SE
  obtain ⟨_, _, ⟨T1, L1, k1, n1⟩, -, X1, ⟨Lc1, hQ1, l1, y1, z1⟩, st1⟩ := X0.virtualBack hx (y := (⟨"java/lang/String", "charAt", "(I)C"⟩ : MethodName)) (z := (⟨"java/lang/String", "charAt", "(I)C"⟩ : MethodName)) hown (mvT hZ (hw _ (own_m 36 rfl))) (mvT hZ (hw _ (own_m 37 rfl))) (notFace_of_selects (args := #[]) (mvT hZ (hw _ (own_m 39 rfl)))) (mvT hZ (hw _ (own_m 39 rfl))) (mvT hZ (hw _ (own_m 38 rfl))) (by decide) (backOf (W := 0) (rmCA l Z a0 hw [] t i b kb n E cz fm h0 n0 Z0 SE SCo SVa SAr SEb SC hcz SF hfm h1 h2) hZ (hw _ (own_m 40 rfl)) (hw _ (own_m 7 rfl)) (by decide) (by decide)) q1a q1c (g := (mkF mi 128 #[.val (.ref o), .val (.ref t), .val (.int 0), .val (.int n), .val (.long acc), .second, .val (.int i), .unset, .unset] [(.int i), (.ref t)])) rfl (by rw [hml]; rfl) (Steps.refl _) (argsL := [(.int i)]) (rest := []) (lenOf pd_20 rfl) rfl (by show 2 * 0 + _ ≤ _; exact Nat.le_of_eq rfl) (hb hby dc39_128) (fun _ _ => ⟨rfl, e0, (by decide : 2 + 0 ≤ _), (by decide : 20 + 0 ≤ _)⟩)
  dsimp only [Pt.U, Pt.locs, Pt.cells, Pt.slots] at X1 l1 y1 z1 st1 hQ1
  subst y1 z1
  have X1 := own_cs X1 (cells' := 2) (slots' := 20) rfl rfl
  obtain ⟨rfl, N1q, e1⟩ := hQ1
  have N1 := own_fr l1 (Fr.app N0 N1q)
  refine Go.tr st1 ?_
  show Go _ _ _ (T1.setTop (mkF mi 131 #[.val (.ref o), .val (.ref t), .val (.int 0), .val (.int n), .val (.long acc), .second, .val (.int i), .unset, .unset] [(.int ((E.getD i.toNatClampNeg 0) &&& (255 : Int32)))])) _
  rw [own_d255 hD]
  show Go _ _ _ (T1.setTop (mkF mi 131 #[.val (.ref o), .val (.ref t), .val (.int 0), .val (.int n), .val (.long acc), .second, .val (.int i), .unset, .unset] [(.int (E.getD i.toNatClampNeg 0))])) _
  refine g_istore X1 hx hby dc39_131 (l' := #[.val (.ref o), .val (.ref t), .val (.int 0), .val (.int n), .val (.long acc), .second, .val (.int i), .val (.int (E.getD i.toNatClampNeg 0)), .unset]) rfl ?_
  refine g_iload X1 hx hby dc39_133 rfl ?_
  obtain ⟨T2, X2, e2, st2⟩ := getS2 X1 hx hZ hown (host := "") (Or.inl (hw _ (own_m 243 rfl))) Via.refl e1 SV (g := (mkF mi 135 #[.val (.ref o), .val (.ref t), .val (.int 0), .val (.int n), .val (.long acc), .second, .val (.int i), .val (.int (E.getD i.toNatClampNeg 0)), .unset] [(.int (E.getD i.toNatClampNeg 0))])) rfl (hb hby dc39_135)
  refine Go.st st2 ?_
  have ov3 := VA
  obtain ⟨cl3, Ar3, q3, S3, M3, H3, G3⟩ := ov3
  refine Go.st (X2.arraylength hx (by rw [e2]; exact Ar3.1) (State.isArrayOf_alike hZ.alike Ar3.2.1) (g := (mkF mi 138 #[.val (.ref o), .val (.ref t), .val (.int 0), .val (.int n), .val (.long acc), .second, .val (.int i), .val (.int (E.getD i.toNatClampNeg 0)), .unset] [(.ref va), (.int (E.getD i.toNatClampNeg 0))])) rfl rfl (hb hby dc39_138)) ?_
  rw [len_of S3 M3]
  refine g_icmpNo X2 hx hby dc39_139 (tlt (own_d128 hD).2).2.1 ?_
  obtain ⟨T4, X4, e4, st4⟩ := getS2 X2 hx hZ hown (host := "") (Or.inl (hw _ (own_m 243 rfl))) Via.refl e2 SV (g := (mkF mi 142 #[.val (.ref o), .val (.ref t), .val (.int 0), .val (.int n), .val (.long acc), .second, .val (.int i), .val (.int (E.getD i.toNatClampNeg 0)), .unset] [])) rfl (hb hby dc39_142)
  refine Go.st st4 ?_
  refine g_iload X4 hx hby dc39_145 rfl ?_
  have ov5 := VA
  obtain ⟨cl5, Ar5, q5, S5, M5, H5, G5⟩ := ov5
  have hin5 : ¬ ((E.getD i.toNatClampNeg 0) < 0 ∨ cl5.slots.size ≤ ((E.getD i.toNatClampNeg 0)).toNatClampNeg) := inb_of S5 (own_d128 hD)
  have hat5 : cl5.slots[((E.getD i.toNatClampNeg 0)).toNatClampNeg]? = some (.int ((E.getD i.toNatClampNeg 0) - (48 : Int32))) := Has.at H5 hin5 (hVal _ hD)
  refine Go.st (X4.baloadBytes hx (j := (E.getD i.toNatClampNeg 0)) (v := (.int ((E.getD i.toNatClampNeg 0) - (48 : Int32)))) (by rw [e4]; exact Ar5.1) (State.isArrayOf_alike hZ.alike Ar5.2.1) Ar5.2.2 hin5 hat5 (g := (mkF mi 147 #[.val (.ref o), .val (.ref t), .val (.int 0), .val (.int n), .val (.long acc), .second, .val (.int i), .val (.int (E.getD i.toNatClampNeg 0)), .unset] [(.int (E.getD i.toNatClampNeg 0)), (.ref va)])) rfl rfl (hb hby dc39_147)) ?_
  refine g_goto X4 hx hby dc39_148 (pc0 := 148) (pc' := 152) rfl (by decide) (by decide) ?_
  refine g_istore X4 hx hby dc39_152 (l' := #[.val (.ref o), .val (.ref t), .val (.int 0), .val (.int n), .val (.long acc), .second, .val (.int i), .val (.int (E.getD i.toNatClampNeg 0)), .val (.int ((E.getD i.toNatClampNeg 0) - (48 : Int32)))]) rfl ?_
  refine g_iload X4 hx hby dc39_154 rfl ?_
  refine g_ifNo X4 hx hby dc39_156 ((if0 _ _).trans (flt (own_dlt hD).1).1) ?_
  refine g_iload X4 hx hby dc39_159 rfl ?_
  refine g_aloadN X4 hx hby dc39_161 rfl rfl ?_
  obtain ⟨T6, X6, e6, st6⟩ := getF X4 hx hZ hown (host := "") (Or.inl (hw _ (own_m 20 rfl))) Via.refl e4 FR (g := (mkF mi 162 #[.val (.ref o), .val (.ref t), .val (.int 0), .val (.int n), .val (.long acc), .second, .val (.int i), .val (.int (E.getD i.toNatClampNeg 0)), .val (.int ((E.getD i.toNatClampNeg 0) - (48 : Int32)))] [(.ref o), (.int ((E.getD i.toNatClampNeg 0) - (48 : Int32)))])) rfl rfl (hb hby dc39_162)
  refine Go.st st6 ?_
  refine g_icmpYes X6 hx hby dc39_165 (tlt (own_dlt hD).2).1 (pc0 := 165) (pc' := 184) rfl (by decide) (by decide) ?_
  refine g_lload X6 hx hby dc39_184 rfl ?_
  refine Go.st (X6.ldc2Long hx hown (mvT hZ (hw _ (own_m 245 rfl))) (g := (mkF mi 186 #[.val (.ref o), .val (.ref t), .val (.int 0), .val (.int n), .val (.long acc), .second, .val (.int i), .val (.int (E.getD i.toNatClampNeg 0)), .val (.int ((E.getD i.toNatClampNeg 0) - (48 : Int32)))] [(.long acc)])) rfl (hb hby dc39_186)) ?_
  refine g_iload X6 hx hby dc39_189 rfl ?_
  refine Go.s (XS.i2l X6.here hx rfl (hb hby dc39_191) rfl) ?_
  show Go _ _ _ (T6.setTop (mkF mi 192 #[.val (.ref o), .val (.ref t), .val (.int 0), .val (.int n), .val (.long acc), .second, .val (.int i), .val (.int (E.getD i.toNatClampNeg 0)), .val (.int ((E.getD i.toNatClampNeg 0) - (48 : Int32)))] [(.long (((E.getD i.toNatClampNeg 0) - (48 : Int32)).toInt64)), (.long 9223372036854775807), (.long acc)])) _
  refine Go.s (XS.lsub X6.here hx rfl (hb hby dc39_192) rfl) ?_
  refine g_aloadN X6 hx hby dc39_193 rfl rfl ?_
  obtain ⟨T7, X7, e7, st7⟩ := getF X6 hx hZ hown (host := "") (Or.inl (hw _ (own_m 20 rfl))) Via.refl e6 FR (g := (mkF mi 194 #[.val (.ref o), .val (.ref t), .val (.int 0), .val (.int n), .val (.long acc), .second, .val (.int i), .val (.int (E.getD i.toNatClampNeg 0)), .val (.int ((E.getD i.toNatClampNeg 0) - (48 : Int32)))] [(.ref o), (.long ((9223372036854775807 : Int64) - (((E.getD i.toNatClampNeg 0) - (48 : Int32)).toInt64))), (.long acc)])) rfl rfl (hb hby dc39_194)
  refine Go.st st7 ?_
  refine Go.s (XS.i2l X7.here hx rfl (hb hby dc39_197) rfl) ?_
  refine Go.s (XS.ldiv X7.here hx rfl (hb hby dc39_198) rfl (by decide)) ?_
  refine Go.s (XS.lcmp X7.here hx rfl (hb hby dc39_199) rfl) ?_
  show Go _ _ _ (T7.setTop (mkF mi 200 #[.val (.ref o), .val (.ref t), .val (.int 0), .val (.int n), .val (.long acc), .second, .val (.int i), .val (.int (E.getD i.toNatClampNeg 0)), .val (.int ((E.getD i.toNatClampNeg 0) - (48 : Int32)))] [(.int (lcmpW acc (((9223372036854775807 : Int64) - (((E.getD i.toNatClampNeg 0) - (48 : Int32)).toInt64)) / (10 : Int64))))])) _
  refine g_ifYes X7 hx hby dc39_200 ((if0 _ _).trans (flt (own_ngt (own_ovf hD ha hbv).1)).2.2.2) (pc0 := 200) (pc' := 210) rfl (by decide) (by decide) ?_
  refine g_lload X7 hx hby dc39_210 rfl ?_
  refine g_aloadN X7 hx hby dc39_212 rfl rfl ?_
  obtain ⟨T8, X8, e8, st8⟩ := getF X7 hx hZ hown (host := "") (Or.inl (hw _ (own_m 20 rfl))) Via.refl e7 FR (g := (mkF mi 213 #[.val (.ref o), .val (.ref t), .val (.int 0), .val (.int n), .val (.long acc), .second, .val (.int i), .val (.int (E.getD i.toNatClampNeg 0)), .val (.int ((E.getD i.toNatClampNeg 0) - (48 : Int32)))] [(.ref o), (.long acc)])) rfl rfl (hb hby dc39_213)
  refine Go.st st8 ?_
  refine Go.s (XS.i2l X8.here hx rfl (hb hby dc39_216) rfl) ?_
  refine Go.s (XS.lmul X8.here hx rfl (hb hby dc39_217) rfl) ?_
  refine g_iload X8 hx hby dc39_218 rfl ?_
  refine Go.s (XS.i2l X8.here hx rfl (hb hby dc39_220) rfl) ?_
  show Go _ _ _ (T8.setTop (mkF mi 221 #[.val (.ref o), .val (.ref t), .val (.int 0), .val (.int n), .val (.long acc), .second, .val (.int i), .val (.int (E.getD i.toNatClampNeg 0)), .val (.int ((E.getD i.toNatClampNeg 0) - (48 : Int32)))] [(.long (((E.getD i.toNatClampNeg 0) - (48 : Int32)).toInt64)), (.long (acc * (10 : Int64)))])) _
  refine Go.s (XS.ladd X8.here hx rfl (hb hby dc39_221) rfl) ?_
  refine Go.s (XS.lstore X8.here hx rfl (hb hby dc39_222) rfl (l' := #[.val (.ref o), .val (.ref t), .val (.int 0), .val (.int n), .val (.long ((acc * (10 : Int64)) + (((E.getD i.toNatClampNeg 0) - (48 : Int32)).toInt64))), .second, .val (.int i), .val (.int (E.getD i.toNatClampNeg 0)), .val (.int ((E.getD i.toNatClampNeg 0) - (48 : Int32)))]) rfl) ?_
  refine g_iinc X8 hx hby dc39_224 rfl rfl (l' := #[.val (.ref o), .val (.ref t), .val (.int 0), .val (.int n), .val (.long ((acc * (10 : Int64)) + (((E.getD i.toNatClampNeg 0) - (48 : Int32)).toInt64))), .second, .val (.int (i + (1 : Int32))), .val (.int (E.getD i.toNatClampNeg 0)), .val (.int ((E.getD i.toNatClampNeg 0) - (48 : Int32)))]) rfl ?_
  refine g_goto X8 hx hby dc39_227 (pc0 := 227) (pc' := 119) rfl (by decide) (by decide) ?_
  show Go _ _ _ (T8.setTop (mkF mi 119 #[.val (.ref o), .val (.ref t), .val (.int 0), .val (.int n), .val (.long ((acc * (10 : Int64)) + (((E.getD i.toNatClampNeg 0) - (48 : Int32)).toInt64))), .second, .val (.int (i + (1 : Int32))), .val (.int (E.getD i.toNatClampNeg 0)), .val (.int ((E.getD i.toNatClampNeg 0) - (48 : Int32)))] [])) _
  exact K _ _ X8 e8 N1
set_option maxRecDepth 65536 in
set_option maxHeartbeats 40000000 in
theorem own_par (l : Launch) (Z : State) (a0 : Array Value) (hw : ∀ d ∈ tables_1, d.before a0 Z = true) {pg : Program} {ev : Env} {si : State} {mi : MethodId} {args : Array Value} {below : List Frame} {meth : Method} {ci : Code} {s₁ : State} {locs : List Loc} (X0 : Stand pg l ev ({ frames := 6, cells := 2, slots := 24, locals := 110 } : Room) si mi args below meth ci s₁ locs 2 20) (hx : pg.tables.exec = Jvm.exec) (hby : ci.code = prog_6_method_8_code) (hml : ci.maxLocals = 9) (hZ : Z.Warmed39 si.vm) (hown : si.vm.findClass "com/example/hoarfrost/hoarfrost/IdForm" = some mi.cls) {P : State → Outcome → Prop} (o : Addr) (t : Addr) (acc : Int64) (i : Int32) (A : Nat) (b : Addr) (kb : ClassId) (n : Int32) (E : List Int32) (cz : Int32) (fm : Value) (va : Addr) (kv : ClassId) (vals : List Value) (u7 : Int32) (u8 : Int32) (h0 : Heap) (n0 : Nat) (Z0 : n0 ≤ h0.size) (e0 : s₁.heap = h0) (N0 : Fr n0 locs) (FR : Fld Z h0 o "com/example/hoarfrost/hoarfrost/IdForm" "radix" "I" (.int (10 : Int32))) (SE : Exa Z h0 t "java/lang/String") (SCo : Fld Z h0 t "java/lang/String" "coder" "B" (.int (0 : Int32))) (SVa : Fld Z h0 t "java/lang/String" "value" "[B" (.ref b)) (SAr : Arv Z h0 b kb .byte n (E.map Value.int) (.int (0 : Int32))) (SEb : Exa Z h0 b "[B") (SC : Sta Z h0 "java/lang/String" "COMPACT_STRINGS" "Z" (.int cz)) (hcz : ¬ (cz = (0 : Int32))) (SF : Sta Z h0 "jdk/internal/util/Preconditions" "SIOOBE_FORMATTER" "Ljava/util/function/BiFunction;" fm) (hfm : fm.isRef = true) (SV : Sta Z h0 "com/example/hoarfrost/hoarfrost/IdForm" "VALUES" "[B" (.ref va)) (VA : Arv Z h0 va kv .byte (128 : Int32) vals (.int (0 : Int32))) (hVal : ∀ x : Int32, Dig x → vals.getD x.toNatClampNeg (.int (0 : Int32)) = .int (x - (48 : Int32))) (h1 : ¬ (i < (0 : Int32))) (h2 : i < n) (hD : Dig (E.getD i.toNatClampNeg 0)) (ha : acc.toInt = A) (hbv : A * 10 + dv (E.getD i.toNatClampNeg 0) ≤ 9223372036854775807) (K : ∀ (T' : State) (locs' : List Loc), Stand pg l ev ({ frames := 6, cells := 2, slots := 24, locals := 110 } : Room) si mi args below meth ci T' locs' 2 20 → T'.heap = h0 → Fr n0 locs' → Go pg.tables ev below (T'.setTop (mkF mi 119 #[.val (.ref o), .val (.ref t), .val (.int 0), .val (.int n), .val (.long ((acc * (10 : Int64)) + ((E.getD i.toNatClampNeg 0) - (48 : Int32)).toInt64)), .second, .val (.int (i + (1 : Int32))), .val (.int (E.getD i.toNatClampNeg 0)), .val (.int ((E.getD i.toNatClampNeg 0) - (48 : Int32)))] [])) P) :
    Go pg.tables ev below (s₁.setTop (mkF mi 119 #[.val (.ref o), .val (.ref t), .val (.int 0), .val (.int n), .val (.long acc), .second, .val (.int i), .val (.int u7), .val (.int u8)] [])) P := by
  refine g_iload X0 hx hby dc39_119 rfl ?_
  refine g_iloadN X0 hx hby dc39_121 rfl ?_
  refine g_icmpNo X0 hx hby dc39_122 (tlt h2).2.1 ?_
  refine g_aloadN X0 hx hby dc39_125 rfl rfl ?_
  refine g_iload X0 hx hby dc39_126 rfl ?_
  obtain ⟨cq1, kq1, q1a, q1b, q1c⟩ := isOf hZ e0 SE
  obtain ⟨_, _, ⟨T1, L1, k1, n1⟩, -, X1, ⟨Lc1, hQ1, l1, y1, z1⟩, st1⟩ := X0.virtualBack hx (y := (⟨"java/lang/String", "charAt", "(I)C"⟩ : MethodName)) (z := (⟨"java/lang/String", "charAt", "(I)C"⟩ : MethodName)) hown (mvT hZ (hw _ (own_m 36 rfl))) (mvT hZ (hw _ (own_m 37 rfl))) (notFace_of_selects (args := #[]) (mvT hZ (hw _ (own_m 39 rfl)))) (mvT hZ (hw _ (own_m 39 rfl))) (mvT hZ (hw _ (own_m 38 rfl))) (by decide) (backOf (W := 0) (rmCA l Z a0 hw [] t i b kb n E cz fm h0 n0 Z0 SE SCo SVa SAr SEb SC hcz SF hfm h1 h2) hZ (hw _ (own_m 40 rfl)) (hw _ (own_m 7 rfl)) (by decide) (by decide)) q1a q1c (g := (mkF mi 128 #[.val (.ref o), .val (.ref t), .val (.int 0), .val (.int n), .val (.long acc), .second, .val (.int i), .val (.int u7), .val (.int u8)] [(.int i), (.ref t)])) rfl (by rw [hml]; rfl) (Steps.refl _) (argsL := [(.int i)]) (rest := []) (lenOf pd_20 rfl) rfl (by show 2 * 0 + _ ≤ _; exact Nat.le_of_eq rfl) (hb hby dc39_128) (fun _ _ => ⟨rfl, e0, (by decide : 2 + 0 ≤ _), (by decide : 20 + 0 ≤ _)⟩)
  dsimp only [Pt.U, Pt.locs, Pt.cells, Pt.slots] at X1 l1 y1 z1 st1 hQ1
  subst y1 z1
  have X1 := own_cs X1 (cells' := 2) (slots' := 20) rfl rfl
  obtain ⟨rfl, N1q, e1⟩ := hQ1
  have N1 := own_fr l1 (Fr.app N0 N1q)
  refine Go.tr st1 ?_
  show Go _ _ _ (T1.setTop (mkF mi 131 #[.val (.ref o), .val (.ref t), .val (.int 0), .val (.int n), .val (.long acc), .second, .val (.int i), .val (.int u7), .val (.int u8)] [(.int ((E.getD i.toNatClampNeg 0) &&& (255 : Int32)))])) _
  rw [own_d255 hD]
  show Go _ _ _ (T1.setTop (mkF mi 131 #[.val (.ref o), .val (.ref t), .val (.int 0), .val (.int n), .val (.long acc), .second, .val (.int i), .val (.int u7), .val (.int u8)] [(.int (E.getD i.toNatClampNeg 0))])) _
  refine g_istore X1 hx hby dc39_131 (l' := #[.val (.ref o), .val (.ref t), .val (.int 0), .val (.int n), .val (.long acc), .second, .val (.int i), .val (.int (E.getD i.toNatClampNeg 0)), .val (.int u8)]) rfl ?_
  refine g_iload X1 hx hby dc39_133 rfl ?_
  obtain ⟨T2, X2, e2, st2⟩ := getS2 X1 hx hZ hown (host := "") (Or.inl (hw _ (own_m 243 rfl))) Via.refl e1 SV (g := (mkF mi 135 #[.val (.ref o), .val (.ref t), .val (.int 0), .val (.int n), .val (.long acc), .second, .val (.int i), .val (.int (E.getD i.toNatClampNeg 0)), .val (.int u8)] [(.int (E.getD i.toNatClampNeg 0))])) rfl (hb hby dc39_135)
  refine Go.st st2 ?_
  have ov3 := VA
  obtain ⟨cl3, Ar3, q3, S3, M3, H3, G3⟩ := ov3
  refine Go.st (X2.arraylength hx (by rw [e2]; exact Ar3.1) (State.isArrayOf_alike hZ.alike Ar3.2.1) (g := (mkF mi 138 #[.val (.ref o), .val (.ref t), .val (.int 0), .val (.int n), .val (.long acc), .second, .val (.int i), .val (.int (E.getD i.toNatClampNeg 0)), .val (.int u8)] [(.ref va), (.int (E.getD i.toNatClampNeg 0))])) rfl rfl (hb hby dc39_138)) ?_
  rw [len_of S3 M3]
  refine g_icmpNo X2 hx hby dc39_139 (tlt (own_d128 hD).2).2.1 ?_
  obtain ⟨T4, X4, e4, st4⟩ := getS2 X2 hx hZ hown (host := "") (Or.inl (hw _ (own_m 243 rfl))) Via.refl e2 SV (g := (mkF mi 142 #[.val (.ref o), .val (.ref t), .val (.int 0), .val (.int n), .val (.long acc), .second, .val (.int i), .val (.int (E.getD i.toNatClampNeg 0)), .val (.int u8)] [])) rfl (hb hby dc39_142)
  refine Go.st st4 ?_
  refine g_iload X4 hx hby dc39_145 rfl ?_
  have ov5 := VA
  obtain ⟨cl5, Ar5, q5, S5, M5, H5, G5⟩ := ov5
  have hin5 : ¬ ((E.getD i.toNatClampNeg 0) < 0 ∨ cl5.slots.size ≤ ((E.getD i.toNatClampNeg 0)).toNatClampNeg) := inb_of S5 (own_d128 hD)
  have hat5 : cl5.slots[((E.getD i.toNatClampNeg 0)).toNatClampNeg]? = some (.int ((E.getD i.toNatClampNeg 0) - (48 : Int32))) := Has.at H5 hin5 (hVal _ hD)
  refine Go.st (X4.baloadBytes hx (j := (E.getD i.toNatClampNeg 0)) (v := (.int ((E.getD i.toNatClampNeg 0) - (48 : Int32)))) (by rw [e4]; exact Ar5.1) (State.isArrayOf_alike hZ.alike Ar5.2.1) Ar5.2.2 hin5 hat5 (g := (mkF mi 147 #[.val (.ref o), .val (.ref t), .val (.int 0), .val (.int n), .val (.long acc), .second, .val (.int i), .val (.int (E.getD i.toNatClampNeg 0)), .val (.int u8)] [(.int (E.getD i.toNatClampNeg 0)), (.ref va)])) rfl rfl (hb hby dc39_147)) ?_
  refine g_goto X4 hx hby dc39_148 (pc0 := 148) (pc' := 152) rfl (by decide) (by decide) ?_
  refine g_istore X4 hx hby dc39_152 (l' := #[.val (.ref o), .val (.ref t), .val (.int 0), .val (.int n), .val (.long acc), .second, .val (.int i), .val (.int (E.getD i.toNatClampNeg 0)), .val (.int ((E.getD i.toNatClampNeg 0) - (48 : Int32)))]) rfl ?_
  refine g_iload X4 hx hby dc39_154 rfl ?_
  refine g_ifNo X4 hx hby dc39_156 ((if0 _ _).trans (flt (own_dlt hD).1).1) ?_
  refine g_iload X4 hx hby dc39_159 rfl ?_
  refine g_aloadN X4 hx hby dc39_161 rfl rfl ?_
  obtain ⟨T6, X6, e6, st6⟩ := getF X4 hx hZ hown (host := "") (Or.inl (hw _ (own_m 20 rfl))) Via.refl e4 FR (g := (mkF mi 162 #[.val (.ref o), .val (.ref t), .val (.int 0), .val (.int n), .val (.long acc), .second, .val (.int i), .val (.int (E.getD i.toNatClampNeg 0)), .val (.int ((E.getD i.toNatClampNeg 0) - (48 : Int32)))] [(.ref o), (.int ((E.getD i.toNatClampNeg 0) - (48 : Int32)))])) rfl rfl (hb hby dc39_162)
  refine Go.st st6 ?_
  refine g_icmpYes X6 hx hby dc39_165 (tlt (own_dlt hD).2).1 (pc0 := 165) (pc' := 184) rfl (by decide) (by decide) ?_
  refine g_lload X6 hx hby dc39_184 rfl ?_
  refine Go.st (X6.ldc2Long hx hown (mvT hZ (hw _ (own_m 245 rfl))) (g := (mkF mi 186 #[.val (.ref o), .val (.ref t), .val (.int 0), .val (.int n), .val (.long acc), .second, .val (.int i), .val (.int (E.getD i.toNatClampNeg 0)), .val (.int ((E.getD i.toNatClampNeg 0) - (48 : Int32)))] [(.long acc)])) rfl (hb hby dc39_186)) ?_
  refine g_iload X6 hx hby dc39_189 rfl ?_
  refine Go.s (XS.i2l X6.here hx rfl (hb hby dc39_191) rfl) ?_
  show Go _ _ _ (T6.setTop (mkF mi 192 #[.val (.ref o), .val (.ref t), .val (.int 0), .val (.int n), .val (.long acc), .second, .val (.int i), .val (.int (E.getD i.toNatClampNeg 0)), .val (.int ((E.getD i.toNatClampNeg 0) - (48 : Int32)))] [(.long (((E.getD i.toNatClampNeg 0) - (48 : Int32)).toInt64)), (.long 9223372036854775807), (.long acc)])) _
  refine Go.s (XS.lsub X6.here hx rfl (hb hby dc39_192) rfl) ?_
  refine g_aloadN X6 hx hby dc39_193 rfl rfl ?_
  obtain ⟨T7, X7, e7, st7⟩ := getF X6 hx hZ hown (host := "") (Or.inl (hw _ (own_m 20 rfl))) Via.refl e6 FR (g := (mkF mi 194 #[.val (.ref o), .val (.ref t), .val (.int 0), .val (.int n), .val (.long acc), .second, .val (.int i), .val (.int (E.getD i.toNatClampNeg 0)), .val (.int ((E.getD i.toNatClampNeg 0) - (48 : Int32)))] [(.ref o), (.long ((9223372036854775807 : Int64) - (((E.getD i.toNatClampNeg 0) - (48 : Int32)).toInt64))), (.long acc)])) rfl rfl (hb hby dc39_194)
  refine Go.st st7 ?_
  refine Go.s (XS.i2l X7.here hx rfl (hb hby dc39_197) rfl) ?_
  refine Go.s (XS.ldiv X7.here hx rfl (hb hby dc39_198) rfl (by decide)) ?_
  refine Go.s (XS.lcmp X7.here hx rfl (hb hby dc39_199) rfl) ?_
  show Go _ _ _ (T7.setTop (mkF mi 200 #[.val (.ref o), .val (.ref t), .val (.int 0), .val (.int n), .val (.long acc), .second, .val (.int i), .val (.int (E.getD i.toNatClampNeg 0)), .val (.int ((E.getD i.toNatClampNeg 0) - (48 : Int32)))] [(.int (lcmpW acc (((9223372036854775807 : Int64) - (((E.getD i.toNatClampNeg 0) - (48 : Int32)).toInt64)) / (10 : Int64))))])) _
  refine g_ifYes X7 hx hby dc39_200 ((if0 _ _).trans (flt (own_ngt (own_ovf hD ha hbv).1)).2.2.2) (pc0 := 200) (pc' := 210) rfl (by decide) (by decide) ?_
  refine g_lload X7 hx hby dc39_210 rfl ?_
  refine g_aloadN X7 hx hby dc39_212 rfl rfl ?_
  obtain ⟨T8, X8, e8, st8⟩ := getF X7 hx hZ hown (host := "") (Or.inl (hw _ (own_m 20 rfl))) Via.refl e7 FR (g := (mkF mi 213 #[.val (.ref o), .val (.ref t), .val (.int 0), .val (.int n), .val (.long acc), .second, .val (.int i), .val (.int (E.getD i.toNatClampNeg 0)), .val (.int ((E.getD i.toNatClampNeg 0) - (48 : Int32)))] [(.ref o), (.long acc)])) rfl rfl (hb hby dc39_213)
  refine Go.st st8 ?_
  refine Go.s (XS.i2l X8.here hx rfl (hb hby dc39_216) rfl) ?_
  refine Go.s (XS.lmul X8.here hx rfl (hb hby dc39_217) rfl) ?_
  refine g_iload X8 hx hby dc39_218 rfl ?_
  refine Go.s (XS.i2l X8.here hx rfl (hb hby dc39_220) rfl) ?_
  show Go _ _ _ (T8.setTop (mkF mi 221 #[.val (.ref o), .val (.ref t), .val (.int 0), .val (.int n), .val (.long acc), .second, .val (.int i), .val (.int (E.getD i.toNatClampNeg 0)), .val (.int ((E.getD i.toNatClampNeg 0) - (48 : Int32)))] [(.long (((E.getD i.toNatClampNeg 0) - (48 : Int32)).toInt64)), (.long (acc * (10 : Int64)))])) _
  refine Go.s (XS.ladd X8.here hx rfl (hb hby dc39_221) rfl) ?_
  refine Go.s (XS.lstore X8.here hx rfl (hb hby dc39_222) rfl (l' := #[.val (.ref o), .val (.ref t), .val (.int 0), .val (.int n), .val (.long ((acc * (10 : Int64)) + (((E.getD i.toNatClampNeg 0) - (48 : Int32)).toInt64))), .second, .val (.int i), .val (.int (E.getD i.toNatClampNeg 0)), .val (.int ((E.getD i.toNatClampNeg 0) - (48 : Int32)))]) rfl) ?_
  refine g_iinc X8 hx hby dc39_224 rfl rfl (l' := #[.val (.ref o), .val (.ref t), .val (.int 0), .val (.int n), .val (.long ((acc * (10 : Int64)) + (((E.getD i.toNatClampNeg 0) - (48 : Int32)).toInt64))), .second, .val (.int (i + (1 : Int32))), .val (.int (E.getD i.toNatClampNeg 0)), .val (.int ((E.getD i.toNatClampNeg 0) - (48 : Int32)))]) rfl ?_
  refine g_goto X8 hx hby dc39_227 (pc0 := 227) (pc' := 119) rfl (by decide) (by decide) ?_
  show Go _ _ _ (T8.setTop (mkF mi 119 #[.val (.ref o), .val (.ref t), .val (.int 0), .val (.int n), .val (.long ((acc * (10 : Int64)) + (((E.getD i.toNatClampNeg 0) - (48 : Int32)).toInt64))), .second, .val (.int (i + (1 : Int32))), .val (.int (E.getD i.toNatClampNeg 0)), .val (.int ((E.getD i.toNatClampNeg 0) - (48 : Int32)))] [])) _
  exact K _ _ X8 e8 N1
theorem own_paL (l : Launch) (Z : State) (a0 : Array Value) (hw : ∀ d ∈ tables_1, d.before a0 Z = true) {pg : Program} {ev : Env} {si : State} {mi : MethodId} {args : Array Value} {below : List Frame} {meth : Method} {ci : Code} (hx : pg.tables.exec = Jvm.exec) (hby : ci.code = prog_6_method_8_code) (hml : ci.maxLocals = 9) (hZ : Z.Warmed39 si.vm) (hown : si.vm.findClass "com/example/hoarfrost/hoarfrost/IdForm" = some mi.cls) {P : State → Outcome → Prop} (o t : Addr) (b : Addr) (kb : ClassId) (n : Int32) (E : List Int32) (cz : Int32) (fm : Value) (va : Addr) (kv : ClassId) (vals : List Value) (h0 : Heap) (n0 : Nat) (Z0 : n0 ≤ h0.size) (hcz : ¬ (cz = (0 : Int32))) (hfm : fm.isRef = true) (hVal : ∀ x : Int32, Dig x → vals.getD x.toNatClampNeg (.int (0 : Int32)) = .int (x - (48 : Int32))) (hn : n.toInt = E.length) (hE19 : E.length ≤ 19) (hD : ∀ t, t < E.length → Dig (E.getD t 0)) (hmax : pv E ≤ 9223372036854775807) (FR : Fld Z h0 o "com/example/hoarfrost/hoarfrost/IdForm" "radix" "I" (.int (10 : Int32))) (SE : Exa Z h0 t "java/lang/String") (SCo : Fld Z h0 t "java/lang/String" "coder" "B" (.int (0 : Int32))) (SVa : Fld Z h0 t "java/lang/String" "value" "[B" (.ref b)) (SAr : Arv Z h0 b kb .byte n (E.map Value.int) (.int (0 : Int32))) (SEb : Exa Z h0 b "[B") (SC : Sta Z h0 "java/lang/String" "COMPACT_STRINGS" "Z" (.int cz)) (SF : Sta Z h0 "jdk/internal/util/Preconditions" "SIOOBE_FORMATTER" "Ljava/util/function/BiFunction;" fm) (SV : Sta Z h0 "com/example/hoarfrost/hoarfrost/IdForm" "VALUES" "[B" (.ref va)) (VA : Arv Z h0 va kv .byte (128 : Int32) vals (.int (0 : Int32)))
    (K : ∀ (T' : State) (locs' : List Loc) (s7 s8 : Slot) (z : Int64), z.toInt = pv E → Stand pg l ev ({ frames := 6, cells := 2, slots := 24, locals := 110 } : Room) si mi args below meth ci T' locs' 2 20 → T'.heap = h0 → Fr n0 locs' → Go pg.tables ev below (T'.setTop (mkF mi 119 #[.val (.ref o), .val (.ref t), .val (.int 0), .val (.int n), .val (.long z), .second, .val (.int n), s7, s8] [])) P) :
    ∀ (r k : Nat) (acc : Int64) (s₁ : State) (locs : List Loc) (s7 s8 : Slot), k + r = E.length → acc.toInt = pv (E.take k) → ((s7 = .unset ∧ s8 = .unset) ∨ ∃ u7 u8, s7 = .val (.int u7) ∧ s8 = .val (.int u8)) → Stand pg l ev ({ frames := 6, cells := 2, slots := 24, locals := 110 } : Room) si mi args below meth ci s₁ locs 2 20 → s₁.heap = h0 → Fr n0 locs → Go pg.tables ev below (s₁.setTop (mkF mi 119 #[.val (.ref o), .val (.ref t), .val (.int 0), .val (.int n), .val (.long acc), .second, .val (.int (Int32.ofNat k)), s7, s8] [])) P := by
  intro r
  induction r with
  | zero =>
    intro k acc s₁ locs s7 s8 hk ha h78 X0 e0 N0
    obtain rfl : k = E.length := by omega
    rw [List.take_length] at ha
    have q := K s₁ locs s7 s8 acc ha X0 e0 N0
    have en : Int32.ofNat E.length = n := by apply Int32.toInt_inj.mp; rw [own_ofN (by omega), hn]
    rw [en]; exact q
  | succ r ih =>
    intro k acc s₁ locs s7 s8 hkr ha h78 X0 e0 N0
    have hk : k < E.length := by omega
    have hps : pv (E.take (k + 1)) = pv (E.take k) * 10 + dv (E.getD k 0) := by
      rw [List.take_succ, ← pv_snoc]
      have : E[k]?.toList = [E.getD k 0] := by rw [List.getD_eq_getElem?_getD, List.getElem?_eq_getElem hk]; rfl
      rw [this]
    have kk : ∀ (T' : State) (locs' : List Loc), Stand pg l ev ({ frames := 6, cells := 2, slots := 24, locals := 110 } : Room) si mi args below meth ci T' locs' 2 20 → T'.heap = h0 → Fr n0 locs' → Go pg.tables ev below (T'.setTop (mkF mi 119 #[.val (.ref o), .val (.ref t), .val (.int 0), .val (.int n), .val (.long ((acc * (10 : Int64)) + ((E.getD (Int32.ofNat k).toNatClampNeg 0) - (48 : Int32)).toInt64)), .second, .val (.int ((Int32.ofNat k) + (1 : Int32))), .val (.int (E.getD (Int32.ofNat k).toNatClampNeg 0)), .val (.int ((E.getD (Int32.ofNat k).toNatClampNeg 0) - (48 : Int32)))] [])) P := by
      intro T' locs' X' e' N'
      rw [own_ofNn (by omega), own_ofS]
      exact ih (k + 1) _ T' locs' _ _ (by omega) (by rw [(own_ovf (hD k hk) ha (by rw [← hps]; exact Nat.le_trans (pv_take E _) hmax)).2, hps]) (Or.inr ⟨_, _, rfl, rfl⟩) X' e' N'
    rcases h78 with ⟨rfl, rfl⟩ | ⟨u7, u8, rfl, rfl⟩
    · exact own_pau l Z a0 hw X0 hx hby hml hZ hown o t acc (Int32.ofNat k) (pv (E.take k)) b kb n E cz fm va kv vals h0 n0 Z0 e0 N0 FR SE SCo SVa SAr SEb SC hcz SF hfm SV VA hVal (own_ofN0 (by omega)) (by rw [Int32.lt_iff_toInt_lt, own_ofN (by omega), hn]; omega) (by rw [own_ofNn (by omega)]; exact hD k hk) ha (by rw [own_ofNn (by omega), ← hps]; exact Nat.le_trans (pv_take E _) hmax) kk
    · exact own_par l Z a0 hw X0 hx hby hml hZ hown o t acc (Int32.ofNat k) (pv (E.take k)) b kb n E cz fm va kv vals u7 u8 h0 n0 Z0 e0 N0 FR SE SCo SVa SAr SEb SC hcz SF hfm SV VA hVal (own_ofN0 (by omega)) (by rw [Int32.lt_iff_toInt_lt, own_ofN (by omega), hn]; omega) (by rw [own_ofNn (by omega)]; exact hD k hk) ha (by rw [own_ofNn (by omega), ← hps]; exact Nat.le_trans (pv_take E _) hmax) kk
theorem dc39_0 : decode prog_6_method_8_code 0 = .ok (.aload_n 1, 1) := by decide +kernel
theorem dc39_1 : decode prog_6_method_8_code 1 = .ok (.ldc 87, 2) := by decide +kernel
theorem dc39_3 : decode prog_6_method_8_code 3 = .ok (.invokestatic 38, 3) := by decide +kernel
theorem pd_28 : parseMethodDescriptor "(Ljava/lang/Object;Ljava/lang/String;)Ljava/lang/Object;" = some ⟨[(.object "java/lang/Object"), (.object "java/lang/String")], some (.object "java/lang/Object")⟩ := by decide +kernel
theorem dc39_6 : decode prog_6_method_8_code 6 = .ok (.pop, 1) := by decide +kernel
theorem dc39_7 : decode prog_6_method_8_code 7 = .ok (.aload_n 0, 1) := by decide +kernel
theorem dc39_8 : decode prog_6_method_8_code 8 = .ok (.getfield 16, 3) := by decide +kernel
theorem dc39_11 : decode prog_6_method_8_code 11 = .ok (.invokevirtual 58, 3) := by decide +kernel
theorem dc39_14 : decode prog_6_method_8_code 14 = .ok (.istore_n 2, 1) := by decide +kernel
theorem dc39_15 : decode prog_6_method_8_code 15 = .ok (.aload_n 1, 1) := by decide +kernel
theorem dc39_16 : decode prog_6_method_8_code 16 = .ok (.invokevirtual 58, 3) := by decide +kernel
theorem dc39_19 : decode prog_6_method_8_code 19 = .ok (.aload_n 0, 1) := by decide +kernel
theorem dc39_20 : decode prog_6_method_8_code 20 = .ok (.getfield 20, 3) := by decide +kernel
theorem dc39_23 : decode prog_6_method_8_code 23 = .ok (.invokevirtual 58, 3) := by decide +kernel
theorem dc39_26 : decode prog_6_method_8_code 26 = .ok (.isub, 1) := by decide +kernel
theorem dc39_27 : decode prog_6_method_8_code 27 = .ok (.istore_n 3, 1) := by decide +kernel
theorem dc39_28 : decode prog_6_method_8_code 28 = .ok (.aload_n 1, 1) := by decide +kernel
theorem dc39_29 : decode prog_6_method_8_code 29 = .ok (.aload_n 0, 1) := by decide +kernel
theorem dc39_30 : decode prog_6_method_8_code 30 = .ok (.getfield 16, 3) := by decide +kernel
theorem dc39_33 : decode prog_6_method_8_code 33 = .ok (.invokevirtual 89, 3) := by decide +kernel
theorem pd_29 : parseMethodDescriptor "(Ljava/lang/String;)Z" = some ⟨[(.object "java/lang/String")], some .boolean⟩ := by decide +kernel
theorem dc39_36 : decode prog_6_method_8_code 36 = .ok (.ifCond .ne 17, 3) := by decide +kernel
theorem dc39_53 : decode prog_6_method_8_code 53 = .ok (.iload_n 3, 1) := by decide +kernel
theorem dc39_54 : decode prog_6_method_8_code 54 = .ok (.iload_n 2, 1) := by decide +kernel
theorem dc39_55 : decode prog_6_method_8_code 55 = .ok (.if_icmp .ge 21, 3) := by decide +kernel
theorem dc39_76 : decode prog_6_method_8_code 76 = .ok (.aload_n 1, 1) := by decide +kernel
theorem dc39_77 : decode prog_6_method_8_code 77 = .ok (.aload_n 0, 1) := by decide +kernel
theorem dc39_78 : decode prog_6_method_8_code 78 = .ok (.getfield 20, 3) := by decide +kernel
theorem dc39_81 : decode prog_6_method_8_code 81 = .ok (.invokevirtual 103, 3) := by decide +kernel
theorem dc39_84 : decode prog_6_method_8_code 84 = .ok (.ifCond .ne 17, 3) := by decide +kernel
theorem dc39_101 : decode prog_6_method_8_code 101 = .ok (.iload_n 3, 1) := by decide +kernel
theorem dc39_102 : decode prog_6_method_8_code 102 = .ok (.iload_n 2, 1) := by decide +kernel
theorem dc39_103 : decode prog_6_method_8_code 103 = .ok (.if_icmp .ne 10, 3) := by decide +kernel
theorem dc39_113 : decode prog_6_method_8_code 113 = .ok (.lconst 0, 1) := by decide +kernel
theorem dc39_114 : decode prog_6_method_8_code 114 = .ok (.lstore 4, 2) := by decide +kernel
theorem dc39_116 : decode prog_6_method_8_code 116 = .ok (.iload_n 2, 1) := by decide +kernel
theorem dc39_117 : decode prog_6_method_8_code 117 = .ok (.istore 6, 2) := by decide +kernel
theorem dc39_230 : decode prog_6_method_8_code 230 = .ok (.lload 4, 2) := by decide +kernel
theorem dc39_232 : decode prog_6_method_8_code 232 = .ok (.lreturn, 1) := by decide +kernel
theorem ef_rmP (mi : MethodId) (o : Addr) (t : Addr) (p : Addr) (s : Addr) (bp : Addr) (bs : Addr) (kp : ClassId) (ks : ClassId) (b : Addr) (kb : ClassId) (n : Int32) (E : List Int32) (cz : Int32) (fm : Value) (va : Addr) (kv : ClassId) (vals : List Value) : entryFrame mi #[(.ref o), (.ref t)] 9 = mkF mi 0 #[.val (.ref o), .val (.ref t), .unset, .unset, .unset, .unset, .unset, .unset, .unset] [] := by first | (simp [entryFrame, mkF, argsToLocals, Value.category]; done) | rfl
def Q_rmP (Z : State) (o : Addr) (t : Addr) (p : Addr) (s : Addr) (bp : Addr) (bs : Addr) (kp : ClassId) (ks : ClassId) (b : Addr) (kb : ClassId) (n : Int32) (E : List Int32) (cz : Int32) (fm : Value) (va : Addr) (kv : ClassId) (vals : List Value) (h0 : Heap) (n0 : Nat) (vv_ : Option Value) (hh_ : Heap) (LL_ : List Loc) : Prop := ∃ z : Int64, vv_ = some (.long z) ∧ Fr n0 LL_ ∧ Keep h0 hh_ [] ∧ z.toInt = pv E
set_option maxRecDepth 65536 in
set_option maxHeartbeats 40000000 in
theorem rmP (l : Launch) (Z : State) (a0 : Array Value) (hw : ∀ d ∈ tables_1, d.before a0 Z = true) (ws : List Jvm.Cond) (o : Addr) (t : Addr) (p : Addr) (s : Addr) (bp : Addr) (bs : Addr) (kp : ClassId) (ks : ClassId) (b : Addr) (kb : ClassId) (n : Int32) (E : List Int32) (cz : Int32) (fm : Value) (va : Addr) (kv : ClassId) (vals : List Value) (h0 : Heap) (n0 : Nat) (Z0 : n0 ≤ h0.size) (hEL : EW Z a0 own_EL) (IE : Exa Z h0 o "com/example/hoarfrost/hoarfrost/IdForm") (IR : Fld Z h0 o "com/example/hoarfrost/hoarfrost/IdForm" "radix" "I" (.int (10 : Int32))) (IW : Fld Z h0 o "com/example/hoarfrost/hoarfrost/IdForm" "width" "I" (.int (1 : Int32))) (IP : Fld Z h0 o "com/example/hoarfrost/hoarfrost/IdForm" "prefix" "Ljava/lang/String;" (.ref p)) (IS : Fld Z h0 o "com/example/hoarfrost/hoarfrost/IdForm" "suffix" "Ljava/lang/String;" (.ref s)) (SEp : Exa Z h0 p "java/lang/String") (SCop : Fld Z h0 p "java/lang/String" "coder" "B" (.int (0 : Int32))) (SVap : Fld Z h0 p "java/lang/String" "value" "[B" (.ref bp)) (SArp : Arv Z h0 bp kp .byte (0 : Int32) (([] : List Int32).map Value.int) (.int (0 : Int32))) (SEbp : Exa Z h0 bp "[B") (SEs : Exa Z h0 s "java/lang/String") (SCos : Fld Z h0 s "java/lang/String" "coder" "B" (.int (0 : Int32))) (SVas : Fld Z h0 s "java/lang/String" "value" "[B" (.ref bs)) (SArs : Arv Z h0 bs ks .byte (0 : Int32) (([] : List Int32).map Value.int) (.int (0 : Int32))) (SEbs : Exa Z h0 bs "[B") (SE : Exa Z h0 t "java/lang/String") (SCo : Fld Z h0 t "java/lang/String" "coder" "B" (.int (0 : Int32))) (SVa : Fld Z h0 t "java/lang/String" "value" "[B" (.ref b)) (SAr : Arv Z h0 b kb .byte n (E.map Value.int) (.int (0 : Int32))) (SEb : Exa Z h0 b "[B") (SC : Sta Z h0 "java/lang/String" "COMPACT_STRINGS" "Z" (.int cz)) (hcz : ¬ (cz = (0 : Int32))) (SF : Sta Z h0 "jdk/internal/util/Preconditions" "SIOOBE_FORMATTER" "Ljava/util/function/BiFunction;" fm) (hfm : fm.isRef = true) (SV : Sta Z h0 "com/example/hoarfrost/hoarfrost/IdForm" "VALUES" "[B" (.ref va)) (VA : Arv Z h0 va kv .byte (128 : Int32) vals (.int (0 : Int32))) (hVal : ∀ x : Int32, Dig x → vals.getD x.toNatClampNeg (.int (0 : Int32)) = .int (x - (48 : Int32))) (hn : n.toInt = E.length) (hE1 : 1 ≤ E.length) (hE19 : E.length ≤ 19) (hD : ∀ t, t < E.length → Dig (E.getD t 0)) (hmax : pv E ≤ 9223372036854775807) :
    MetFree l (⟨"com/example/hoarfrost/hoarfrost/IdForm", "parse", "(Ljava/lang/String;)J"⟩ : MethodName) (head1 (Jvm.Cond.code (⟨"com/example/hoarfrost/hoarfrost/IdForm", "parse", "(Ljava/lang/String;)J"⟩ : MethodName) prog_6_method_8_code 9 (some .long) :: ws) ({ frames := 6, cells := 2, slots := 24, locals := 110 } : Room)) (fun aa_ U => aa_ = #[(.ref o), (.ref t)] ∧ Z.Warmed39 U.vm ∧ U.heap = h0 ∧ CHv Z own_EL U.vm h0) (fun _ _ _ _ _ => True) (fun _ U oo_ UV_ => ∃ vv_ LL_, oo_ = .returned vv_ ∧ Q_rmP Z o t p s bp bs kp ks b kb n E cz fm va kv vals h0 n0 vv_ UV_.heap LL_ ∧ CHr Z own_EL U.vm U.heap UV_.vm UV_.heap ∧ ReturnedEndW U oo_ UV_ LL_ ({ frames := 6, cells := 2, slots := 24, locals := 110 } : Room).cells ({ frames := 6, cells := 2, slots := 24, locals := 110 } : Room).slots) := by
  refine MetFree.of_bodySF (plainFor_of_name pn_7) hisR ?_
  intro pg ev si mi args below meth ci s₁ Bd hml0 hP0 hK
  obtain ⟨rfl, hZ, hh, hCH⟩ := hP0
  have hx := Bd.exec
  have hby := Bd.bytes
  have hml : ci.maxLocals = 9 := hml0
  have hown : si.vm.findClass "com/example/hoarfrost/hoarfrost/IdForm" = some mi.cls := findClass_of_methodNamed Bd.named
  have hnm := (name_of_methodNamed Bd.named Bd.method).1
  have X0 : Stand pg l ev ({ frames := 6, cells := 2, slots := 24, locals := 110 } : Room) si mi #[(.ref o), (.ref t)] below meth ci s₁ [] 0 0 := Stand.of_body Bd
  have e0 : s₁.heap = h0 := by rw [← hh, Bd.state]; rfl
  have N0 := Fr.nil n0
  refine Go.start (fun P hP => ?_)
  refine Go.st (fun t_ k_ => castTop (ef_rmP mi o t p s bp bs kp ks b kb n E cz fm va kv vals) k_) (A := s₁.setTop (mkF mi 0 #[.val (.ref o), .val (.ref t), .unset, .unset, .unset, .unset, .unset, .unset, .unset] [])) ?_
  have hnn : ¬ n < (0 : Int32) := by rw [Int32.lt_iff_toInt_lt, own_z0]; omega
  have hn1 : ¬ (n = (0 : Int32)) := fun q => by rw [q, own_z0] at hn; omega
  show Go _ _ _ (s₁.setTop (mkF mi 0 #[.val (.ref o), .val (.ref t), .unset, .unset, .unset, .unset, .unset, .unset, .unset] [])) _
  refine g_aloadN X0 hx hby dc39_0 rfl rfl ?_
  show Go _ _ _ (s₁.setTop (mkF mi 1 #[.val (.ref o), .val (.ref t), .unset, .unset, .unset, .unset, .unset, .unset, .unset] [(.ref t)])) _
  have CR1 : CHr Z own_EL si.vm h0 si.vm h0 := (CHr.refl hCH).trans (CHr.keep (Keep.refl h0 []) sf0 (CHr.refl hCH).1)
  have hwS : ∀ a ∈ Bundle.stringAtoms, a.before a0 Z = true := fun d hd => hw d ((by decide +kernel : ∀ d ∈ Bundle.stringAtoms, d ∈ tables_1) d hd)
  obtain ⟨os2, T2, h2, k12, bs2, ks2, X2, e2, E2, hSi2, hk12, hZ2, hown2, SE2, SCo2, SVa2, SA2, -, -, hCr2, hLi2, -, st2⟩ := ldcCH (s := si) (vm0 := si.vm) (EL := own_EL) (own_rb X0) hx hZ hown (hw _ (own_m 218 rfl)) hwS e0 ((State.WarmedH.refl si).since h0.size) (Nat.le_trans (Nat.le_refl _) (Keep.refl h0 []).1) hEL (List.mem_of_getElem? (i := 3) rfl) CR1.1 (vs := [(.int 116), (.int 101), (.int 120), (.int 116)]) (z := (4 : Int32)) ⟨by decide +kernel, by decide +kernel⟩ (by decide) (by decide +kernel) (g := (mkF mi 1 #[.val (.ref o), .val (.ref t), .unset, .unset, .unset, .unset, .unset, .unset, .unset] [(.ref t)])) rfl (hb hby dc39_1) (n := 16) (by decide +kernel) (by decide) (by decide) (by decide)
  have SAr2 : Arv Z h2 bs2 ks2 .byte (4 : Int32) (([116, 101, 120, 116] : List Int32).map Value.int) (.int (0 : Int32)) := SA2
  have SEb2 : Exa Z h2 bs2 "[B" := own_exB (s := si) hZ2 (hw _ (own_m 218 rfl)) (EL := own_EL) (List.mem_of_getElem? (i := 3) rfl) hCr2.1 hLi2 SVa2 SA2
  have hZ : Z.Warmed39 (si.setVm T2.vm).vm := hZ2
  have hown : (si.setVm T2.vm).vm.findClass "com/example/hoarfrost/hoarfrost/IdForm" = some mi.cls := hown2
  have Zs3 : n0 ≤ h2.size := Nat.le_trans Z0 E2.1
  have KC3 : Keep h0 h2 [] := (Keep.refl h0 []).ext E2
  have KL3 : Keep h0 h2 [] := (Keep.refl h0 []).ext E2
  have CS2 : CHr Z own_EL si.vm h0 T2.vm h2 := CR1.trans hCr2
  refine Go.st st2 ?_
  show Go _ _ _ (T2.setTop (mkF mi 3 #[.val (.ref o), .val (.ref t), .unset, .unset, .unset, .unset, .unset, .unset, .unset] [(.ref os2), (.ref t)])) _
  obtain ⟨_, _, ⟨T4, L4, k4, n4⟩, -, X4, ⟨Lc4, hQ4, l4, y4, z4⟩, st4⟩ := Jvm.LawKit.callS X2 hx (y := (⟨"java/util/Objects", "requireNonNull", "(Ljava/lang/Object;Ljava/lang/String;)Ljava/lang/Object;"⟩ : MethodName)) hown (mvT hZ (hw _ (own_m 219 rfl))) (mvT hZ (hw _ (own_m 220 rfl))) (mvT hZ (hw _ (own_m 221 rfl))) (mvT hZ (hw _ (own_m 222 rfl))) (by decide) (backOf (W := 0) (rmRN l Z a0 hw [] t os2 h2 n0 Zs3) hZ (hw _ (own_m 222 rfl)) (hw _ (own_m 221 rfl)) (by decide) (by decide)) (g := (mkF mi 3 #[.val (.ref o), .val (.ref t), .unset, .unset, .unset, .unset, .unset, .unset, .unset] [(.ref os2), (.ref t)])) rfl (by rw [hml]; rfl) (argsL := [(.ref t), (.ref os2)]) (rest := []) (lenOf pd_28 rfl) rfl (by show 2 * 0 + _ ≤ _; exact Nat.le_of_eq rfl) (hb hby dc39_3) (fun _ _ => ⟨rfl, e2, (by decide : 2 + 0 ≤ _), (by decide : 20 + 0 ≤ _)⟩)
  dsimp only [Pt.U, Pt.locs, Pt.cells, Pt.slots] at X4 l4 y4 z4 st4 hQ4
  subst y4 z4
  have X4 := own_cs X4 (cells' := 2) (slots' := 20) rfl rfl
  obtain ⟨rfl, N4q, e4⟩ := hQ4
  have N4 := own_fr l4 (Fr.app N0 N4q)
  refine Go.st st4 ?_
  refine Go.s (XS.pop X4.here hx rfl (hb hby dc39_6) rfl rfl) ?_
  refine g_aloadN X4 hx hby dc39_7 rfl rfl ?_
  have f5 := (IP.ext E2)
  obtain ⟨T6, X6, e6, st6⟩ := getF X4 hx hZ hown (host := "") (Or.inl (hw _ (own_m 24 rfl))) Via.refl e4 f5 (g := (mkF mi 8 #[.val (.ref o), .val (.ref t), .unset, .unset, .unset, .unset, .unset, .unset, .unset] [(.ref o)])) rfl rfl (hb hby dc39_8)
  refine Go.st st6 ?_
  have f8 := (SEp.ext E2)
  have f9 := (SCop.ext E2)
  have f10 := (SVap.ext E2)
  have f11 := (SArp.ext E2)
  have f12 := (SEbp.ext E2)
  have f13 := (SC.ext E2)
  obtain ⟨cq7, kq7, q7a, q7b, q7c⟩ := isOf hZ e6 f8
  obtain ⟨_, _, ⟨T7, L7, k7, n7⟩, -, X7, ⟨Lc7, hQ7, l7, y7, z7⟩, st7⟩ := X6.virtualBack hx (y := (⟨"java/lang/String", "length", "()I"⟩ : MethodName)) (z := (⟨"java/lang/String", "length", "()I"⟩ : MethodName)) hown (mvT hZ (hw _ (own_m 64 rfl))) (mvT hZ (hw _ (own_m 65 rfl))) (notFace_of_selects (args := #[]) (mvT hZ (hw _ (own_m 67 rfl)))) (mvT hZ (hw _ (own_m 67 rfl))) (mvT hZ (hw _ (own_m 66 rfl))) (by decide) (backOf (W := 0) (rmLn l Z a0 hw [] p bp kp (0 : Int32) ([] : List Int32) cz h2 n0 Zs3 f8 f9 f10 f11 f12 f13 hcz) hZ (hw _ (own_m 68 rfl)) (hw _ (own_m 7 rfl)) (by decide) (by decide)) q7a q7c (g := (mkF mi 11 #[.val (.ref o), .val (.ref t), .unset, .unset, .unset, .unset, .unset, .unset, .unset] [(.ref p)])) rfl (by rw [hml]; rfl) (Steps.refl _) (argsL := []) (rest := []) (lenOf pd_8 rfl) rfl (by show 2 * 0 + _ ≤ _; exact Nat.le_of_eq rfl) (hb hby dc39_11) (fun _ _ => ⟨rfl, e6, (by decide : 2 + 0 ≤ _), (by decide : 20 + 0 ≤ _)⟩)
  dsimp only [Pt.U, Pt.locs, Pt.cells, Pt.slots] at X7 l7 y7 z7 st7 hQ7
  subst y7 z7
  have X7 := own_cs X7 (cells' := 2) (slots' := 20) rfl rfl
  obtain ⟨rfl, N7q, e7⟩ := hQ7
  have N7 := own_fr l7 (Fr.app N4 N7q)
  refine Go.tr st7 ?_
  refine g_istoreN X7 hx hby dc39_14 (l' := #[.val (.ref o), .val (.ref t), .val (.int 0), .unset, .unset, .unset, .unset, .unset, .unset]) rfl ?_
  refine g_aloadN X7 hx hby dc39_15 rfl rfl ?_
  have f15 := (SE.ext E2)
  have f16 := (SCo.ext E2)
  have f17 := (SVa.ext E2)
  have f18 := (SAr.ext E2)
  have f19 := (SEb.ext E2)
  obtain ⟨cq14, kq14, q14a, q14b, q14c⟩ := isOf hZ e7 f15
  obtain ⟨_, _, ⟨T14, L14, k14, n14⟩, -, X14, ⟨Lc14, hQ14, l14, y14, z14⟩, st14⟩ := X7.virtualBack hx (y := (⟨"java/lang/String", "length", "()I"⟩ : MethodName)) (z := (⟨"java/lang/String", "length", "()I"⟩ : MethodName)) hown (mvT hZ (hw _ (own_m 64 rfl))) (mvT hZ (hw _ (own_m 65 rfl))) (notFace_of_selects (args := #[]) (mvT hZ (hw _ (own_m 67 rfl)))) (mvT hZ (hw _ (own_m 67 rfl))) (mvT hZ (hw _ (own_m 66 rfl))) (by decide) (backOf (W := 0) (rmLn l Z a0 hw [] t b kb n E cz h2 n0 Zs3 f15 f16 f17 f18 f19 f13 hcz) hZ (hw _ (own_m 68 rfl)) (hw _ (own_m 7 rfl)) (by decide) (by decide)) q14a q14c (g := (mkF mi 16 #[.val (.ref o), .val (.ref t), .val (.int 0), .unset, .unset, .unset, .unset, .unset, .unset] [(.ref t)])) rfl (by rw [hml]; rfl) (Steps.refl _) (argsL := []) (rest := []) (lenOf pd_8 rfl) rfl (by show 2 * 0 + _ ≤ _; exact Nat.le_of_eq rfl) (hb hby dc39_16) (fun _ _ => ⟨rfl, e7, (by decide : 2 + 0 ≤ _), (by decide : 20 + 0 ≤ _)⟩)
  dsimp only [Pt.U, Pt.locs, Pt.cells, Pt.slots] at X14 l14 y14 z14 st14 hQ14
  subst y14 z14
  have X14 := own_cs X14 (cells' := 2) (slots' := 20) rfl rfl
  obtain ⟨rfl, N14q, e14⟩ := hQ14
  have N14 := own_fr l14 (Fr.app N7 N14q)
  refine Go.tr st14 ?_
  refine g_aloadN X14 hx hby dc39_19 rfl rfl ?_
  have f20 := (IS.ext E2)
  obtain ⟨T21, X21, e21, st21⟩ := getF X14 hx hZ hown (host := "") (Or.inl (hw _ (own_m 26 rfl))) Via.refl e14 f20 (g := (mkF mi 20 #[.val (.ref o), .val (.ref t), .val (.int 0), .unset, .unset, .unset, .unset, .unset, .unset] [(.ref o), (.int n)])) rfl rfl (hb hby dc39_20)
  refine Go.st st21 ?_
  have f23 := (SEs.ext E2)
  have f24 := (SCos.ext E2)
  have f25 := (SVas.ext E2)
  have f26 := (SArs.ext E2)
  have f27 := (SEbs.ext E2)
  obtain ⟨cq22, kq22, q22a, q22b, q22c⟩ := isOf hZ e21 f23
  obtain ⟨_, _, ⟨T22, L22, k22, n22⟩, -, X22, ⟨Lc22, hQ22, l22, y22, z22⟩, st22⟩ := X21.virtualBack hx (y := (⟨"java/lang/String", "length", "()I"⟩ : MethodName)) (z := (⟨"java/lang/String", "length", "()I"⟩ : MethodName)) hown (mvT hZ (hw _ (own_m 64 rfl))) (mvT hZ (hw _ (own_m 65 rfl))) (notFace_of_selects (args := #[]) (mvT hZ (hw _ (own_m 67 rfl)))) (mvT hZ (hw _ (own_m 67 rfl))) (mvT hZ (hw _ (own_m 66 rfl))) (by decide) (backOf (W := 1) (rmLn l Z a0 hw [] s bs ks (0 : Int32) ([] : List Int32) cz h2 n0 Zs3 f23 f24 f25 f26 f27 f13 hcz) hZ (hw _ (own_m 68 rfl)) (hw _ (own_m 7 rfl)) (by decide) (by decide)) q22a q22c (g := (mkF mi 23 #[.val (.ref o), .val (.ref t), .val (.int 0), .unset, .unset, .unset, .unset, .unset, .unset] [(.ref s), (.int n)])) rfl (by rw [hml]; rfl) (Steps.refl _) (argsL := []) (rest := [(.int n)]) (lenOf pd_8 rfl) rfl (by show 2 * 0 + _ ≤ _; exact Nat.le_of_eq rfl) (hb hby dc39_23) (fun _ _ => ⟨rfl, e21, (by decide : 2 + 0 ≤ _), (by decide : 20 + 0 ≤ _)⟩)
  dsimp only [Pt.U, Pt.locs, Pt.cells, Pt.slots] at X22 l22 y22 z22 st22 hQ22
  subst y22 z22
  have X22 := own_cs X22 (cells' := 2) (slots' := 20) rfl rfl
  obtain ⟨rfl, N22q, e22⟩ := hQ22
  have N22 := own_fr l22 (Fr.app N14 N22q)
  refine Go.tr st22 ?_
  refine g_isub X22 hx hby dc39_26 rfl ?_
  show Go _ _ _ (T22.setTop (mkF mi 27 #[.val (.ref o), .val (.ref t), .val (.int 0), .unset, .unset, .unset, .unset, .unset, .unset] [(.int (n - (0 : Int32)))])) _
  rw [Int32.sub_zero]
  show Go _ _ _ (T22.setTop (mkF mi 27 #[.val (.ref o), .val (.ref t), .val (.int 0), .unset, .unset, .unset, .unset, .unset, .unset] [(.int n)])) _
  refine g_istoreN X22 hx hby dc39_27 (l' := #[.val (.ref o), .val (.ref t), .val (.int 0), .val (.int n), .unset, .unset, .unset, .unset, .unset]) rfl ?_
  refine g_aloadN X22 hx hby dc39_28 rfl rfl ?_
  refine g_aloadN X22 hx hby dc39_29 rfl rfl ?_
  obtain ⟨T28, X28, e28, st28⟩ := getF X22 hx hZ hown (host := "") (Or.inl (hw _ (own_m 24 rfl))) Via.refl e22 f5 (g := (mkF mi 30 #[.val (.ref o), .val (.ref t), .val (.int 0), .val (.int n), .unset, .unset, .unset, .unset, .unset] [(.ref o), (.ref t)])) rfl rfl (hb hby dc39_30)
  refine Go.st st28 ?_
  obtain ⟨cq29, kq29, q29a, q29b, q29c⟩ := isOf hZ e28 f15
  obtain ⟨_, _, ⟨T29, L29, k29, n29⟩, -, X29, ⟨Lc29, hQ29, l29, y29, z29⟩, st29⟩ := X28.virtualBack hx (y := (⟨"java/lang/String", "startsWith", "(Ljava/lang/String;)Z"⟩ : MethodName)) (z := (⟨"java/lang/String", "startsWith", "(Ljava/lang/String;)Z"⟩ : MethodName)) hown (mvT hZ (hw _ (own_m 223 rfl))) (mvT hZ (hw _ (own_m 224 rfl))) (notFace_of_selects (args := #[]) (mvT hZ (hw _ (own_m 226 rfl)))) (mvT hZ (hw _ (own_m 226 rfl))) (mvT hZ (hw _ (own_m 225 rfl))) (by decide) (backOf (W := 0) (rmS1 l Z a0 hw [] t p b kb n E bp kp cz h2 n0 Zs3 f15 f16 f17 f18 f19 f8 f9 f10 f11 f12 f13 hcz hnn) hZ (hw _ (own_m 227 rfl)) (hw _ (own_m 7 rfl)) (by decide) (by decide)) q29a q29c (g := (mkF mi 33 #[.val (.ref o), .val (.ref t), .val (.int 0), .val (.int n), .unset, .unset, .unset, .unset, .unset] [(.ref p), (.ref t)])) rfl (by rw [hml]; rfl) (Steps.refl _) (argsL := [(.ref p)]) (rest := []) (lenOf pd_29 rfl) rfl (by show 2 * 0 + _ ≤ _; exact Nat.le_of_eq rfl) (hb hby dc39_33) (fun _ _ => ⟨rfl, e28, (by decide : 2 + 0 ≤ _), (by decide : 20 + 0 ≤ _)⟩)
  dsimp only [Pt.U, Pt.locs, Pt.cells, Pt.slots] at X29 l29 y29 z29 st29 hQ29
  subst y29 z29
  have X29 := own_cs X29 (cells' := 2) (slots' := 20) rfl rfl
  obtain ⟨rfl, N29q, e29⟩ := hQ29
  have N29 := own_fr l29 (Fr.app N22 N29q)
  refine Go.tr st29 ?_
  refine g_ifYes X29 hx hby dc39_36 ((if0 _ _).trans (feq (by decide)).2) (pc0 := 36) (pc' := 53) rfl (by decide) (by decide) ?_
  refine g_iloadN X29 hx hby dc39_53 rfl ?_
  refine g_iloadN X29 hx hby dc39_54 rfl ?_
  refine g_icmpYes X29 hx hby dc39_55 (flt hnn).2.1 (pc0 := 55) (pc' := 76) rfl (by decide) (by decide) ?_
  refine g_aloadN X29 hx hby dc39_76 rfl rfl ?_
  refine g_aloadN X29 hx hby dc39_77 rfl rfl ?_
  obtain ⟨T30, X30, e30, st30⟩ := getF X29 hx hZ hown (host := "") (Or.inl (hw _ (own_m 26 rfl))) Via.refl e29 f20 (g := (mkF mi 78 #[.val (.ref o), .val (.ref t), .val (.int 0), .val (.int n), .unset, .unset, .unset, .unset, .unset] [(.ref o), (.ref t)])) rfl rfl (hb hby dc39_78)
  refine Go.st st30 ?_
  obtain ⟨cq31, kq31, q31a, q31b, q31c⟩ := isOf hZ e30 f15
  obtain ⟨_, _, ⟨T31, L31, k31, n31⟩, -, X31, ⟨Lc31, hQ31, l31, y31, z31⟩, st31⟩ := X30.virtualBack hx (y := (⟨"java/lang/String", "endsWith", "(Ljava/lang/String;)Z"⟩ : MethodName)) (z := (⟨"java/lang/String", "endsWith", "(Ljava/lang/String;)Z"⟩ : MethodName)) hown (mvT hZ (hw _ (own_m 238 rfl))) (mvT hZ (hw _ (own_m 239 rfl))) (notFace_of_selects (args := #[]) (mvT hZ (hw _ (own_m 241 rfl)))) (mvT hZ (hw _ (own_m 241 rfl))) (mvT hZ (hw _ (own_m 240 rfl))) (by decide) (backOf (W := 0) (rmEW l Z a0 hw [] t s b kb n E bs ks cz h2 n0 Zs3 f15 f16 f17 f18 f19 f23 f24 f25 f26 f27 f13 hcz hnn) hZ (hw _ (own_m 242 rfl)) (hw _ (own_m 7 rfl)) (by decide) (by decide)) q31a q31c (g := (mkF mi 81 #[.val (.ref o), .val (.ref t), .val (.int 0), .val (.int n), .unset, .unset, .unset, .unset, .unset] [(.ref s), (.ref t)])) rfl (by rw [hml]; rfl) (Steps.refl _) (argsL := [(.ref s)]) (rest := []) (lenOf pd_29 rfl) rfl (by show 2 * 0 + _ ≤ _; exact Nat.le_of_eq rfl) (hb hby dc39_81) (fun _ _ => ⟨rfl, e30, (by decide : 2 + 0 ≤ _), (by decide : 20 + 0 ≤ _)⟩)
  dsimp only [Pt.U, Pt.locs, Pt.cells, Pt.slots] at X31 l31 y31 z31 st31 hQ31
  subst y31 z31
  have X31 := own_cs X31 (cells' := 2) (slots' := 20) rfl rfl
  obtain ⟨rfl, N31q, e31⟩ := hQ31
  have N31 := own_fr l31 (Fr.app N29 N31q)
  refine Go.tr st31 ?_
  refine g_ifYes X31 hx hby dc39_84 ((if0 _ _).trans (feq (by decide)).2) (pc0 := 84) (pc' := 101) rfl (by decide) (by decide) ?_
  refine g_iloadN X31 hx hby dc39_101 rfl ?_
  refine g_iloadN X31 hx hby dc39_102 rfl ?_
  refine g_icmpYes X31 hx hby dc39_103 (feq hn1).2 (pc0 := 103) (pc' := 113) rfl (by decide) (by decide) ?_
  refine Go.s (XS.lconst X31.here hx rfl (hb hby dc39_113)) ?_
  refine Go.s (XS.lstore X31.here hx rfl (hb hby dc39_114) rfl (l' := #[.val (.ref o), .val (.ref t), .val (.int 0), .val (.int n), .val (.long 0), .second, .unset, .unset, .unset]) rfl) ?_
  show Go _ _ _ (T31.setTop (mkF mi 116 #[.val (.ref o), .val (.ref t), .val (.int 0), .val (.int n), .val (.long 0), .second, .unset, .unset, .unset] [])) _
  refine g_iloadN X31 hx hby dc39_116 rfl ?_
  refine g_istore X31 hx hby dc39_117 (l' := #[.val (.ref o), .val (.ref t), .val (.int 0), .val (.int n), .val (.long 0), .second, .val (.int 0), .unset, .unset]) rfl ?_
  show Go _ _ _ (T31.setTop (mkF mi 119 #[.val (.ref o), .val (.ref t), .val (.int 0), .val (.int n), .val (.long 0), .second, .val (.int 0), .unset, .unset] [])) _
  have f33 := (IR.ext E2)
  have f34 := (SF.ext E2)
  have f35 := (SV.ext E2)
  have f36 := (VA.ext E2)
  refine own_paL l Z a0 hw hx hby hml hZ hown o t b kb n E cz fm va kv vals h2 n0 Zs3 hcz hfm hVal hn hE19 hD hmax f33 f15 f16 f17 f18 f19 f13 f34 f35 f36 (fun T32 L32 s7 s8 z32 hz32 X32 e32 N32 => ?_) E.length 0 (0 : Int64) _ _ .unset .unset (Nat.zero_add _) rfl (Or.inl ⟨rfl, rfl⟩) X31 e31 N31
  show Go _ _ _ (T32.setTop (mkF mi 119 #[.val (.ref o), .val (.ref t), .val (.int 0), .val (.int n), .val (.long z32), .second, .val (.int n), s7, s8] [])) _
  refine g_iload X32 hx hby dc39_119 rfl ?_
  refine g_iloadN X32 hx hby dc39_121 rfl ?_
  refine g_icmpYes X32 hx hby dc39_122 (flt Int32.lt_irrefl).2.1 (pc0 := 122) (pc' := 230) rfl (by decide) (by decide) ?_
  refine g_lload X32 hx hby dc39_230 rfl ?_
  show Go _ _ _ (T32.setTop (mkF mi 232 #[.val (.ref o), .val (.ref t), .val (.int 0), .val (.int n), .val (.long z32), .second, .val (.int n), s7, s8] [(.long z32)])) _
  obtain ⟨fs, hr, hrun, hended, -, hW, hpr, hsame⟩ := Stand.leaveW (v := some (.long z32)) X32 hSi2 (own_leT e32 (Nat.le_trans hk12 (Keep.refl h2 []).1)) (fun h => by rw [Bd.returns] at h; cases h) (BodyLoose.notSynchronized Bd)
  refine ⟨_, _, ?_, hP _ _ ⟨hrun, hended, _, _, rfl, ?_, (show CHr Z own_EL si.vm si.heap T32.vm T32.heap from own_chr hh e32 ((CS2.trans (CHr.keep (Keep.refl h2 []) sf0 CS2.1)).trans (CHv.at X32 hZ hEL (CHr.keep (Keep.refl h2 []) sf0 CS2.1).1))), ⟨_, rfl⟩, hW, hpr, hsame.mono (by decide) (by decide)⟩⟩
  · exact retOut X32 hx Bd.returns rfl (Or.inr (Or.inl ⟨rfl, rfl, _, rfl⟩)) (hb hby dc39_232) hr
  · show ∃ z : Int64, (some (.long z32) : Option Value) = some (.long z) ∧ Fr n0 _ ∧ Keep h0 T32.heap [] ∧ z.toInt = pv E
    rw [e32]
    exact ⟨_, rfl, N32, KC3, hz32⟩
theorem own_dgc {x : Int32} (h : Dig x) : x.toUInt32.toUInt16.toUInt32.toInt32 = x := by
  have e := c_i2c x
  obtain ⟨h1, h2⟩ := h
  apply Int32.toInt_inj.mp; omega
theorem own_dgb {x : Int32} (h : Dig x) : x.toInt8.toInt32 = x := by
  have e := c_i2b x
  obtain ⟨h1, h2⟩ := h
  apply Int32.toInt_inj.mp; omega
theorem own_dg255 {x : Int32} (h : Dig x) : ¬ ((255 : Int32) < x) := own_255 (by obtain ⟨h1, h2⟩ := h; omega)
theorem own_dgcan {x : Int32} (h : Dig x) : fCan x = (1 : Int32) := own_can (by obtain ⟨h1, h2⟩ := h; omega)
theorem dch_dig (q : Nat) : Dig (dch q) := by
  have e := own_dchI q
  constructor <;> omega
theorem own_dg {d : Int32} {q : Nat} (h : d.toInt = ((q % 10 : Nat) : Int)) : fDg d = dch q := by
  have e := own_dchI q
  have e1 := c_iadd 48 d
  have l : (48 : Int32).toInt = 48 := rfl
  have e2 := c_i2c (48 + d)
  have e3 := c_i2c (48 + d).toUInt32.toUInt16.toUInt32.toInt32
  have b1 := Int32.le_toInt (48 + d)
  have b2 := Int32.toInt_lt (48 + d)
  unfold fDg
  apply Int32.toInt_inj.mp; omega
theorem dc40_0 : decode jdk_43_method_46_code 0 = .ok (.iconst 1, 1) := by decide +kernel
theorem dc40_1 : decode jdk_43_method_46_code 1 = .ok (.newarray .byte, 2) := by decide +kernel
theorem dc40_3 : decode jdk_43_method_46_code 3 = .ok (.dup, 1) := by decide +kernel
theorem dc40_4 : decode jdk_43_method_46_code 4 = .ok (.iconst 0, 1) := by decide +kernel
theorem dc40_5 : decode jdk_43_method_46_code 5 = .ok (.iload_n 0, 1) := by decide +kernel
theorem dc40_6 : decode jdk_43_method_46_code 6 = .ok (.i2b, 1) := by decide +kernel
theorem dc40_7 : decode jdk_43_method_46_code 7 = .ok (.bastore, 1) := by decide +kernel
theorem dc40_8 : decode jdk_43_method_46_code 8 = .ok (.areturn, 1) := by decide +kernel
theorem ef_rmTB (mi : MethodId) (x : Int32) : entryFrame mi #[(.int x)] 1 = mkF mi 0 #[.val (.int x)] [] := by first | (simp [entryFrame, mkF, argsToLocals, Value.category]; done) | rfl
def Q_rmTB (Z : State) (x : Int32) (h0 : Heap) (n0 : Nat) (vv_ : Option Value) (hh_ : Heap) (LL_ : List Loc) : Prop := ∃ (r : Addr) (kr : ClassId), vv_ = some (.ref r) ∧ Fr n0 LL_ ∧ Keep h0 hh_ [] ∧ h0.size ≤ r ∧ n0 ≤ r ∧ Arv Z hh_ r kr .byte (1 : Int32) [(.int x)] (.int (0 : Int32)) ∧ Exa Z hh_ r "[B"
set_option maxRecDepth 65536 in
set_option maxHeartbeats 40000000 in
theorem rmTB (l : Launch) (Z : State) (a0 : Array Value) (hw : ∀ d ∈ tables_1, d.before a0 Z = true) (ws : List Jvm.Cond) (x : Int32) (h0 : Heap) (n0 : Nat) (Z0 : n0 ≤ h0.size) (dx : Dig x) :
    MetFree l (⟨"java/lang/StringLatin1", "toBytes", "(C)[B"⟩ : MethodName) (head1 (Jvm.Cond.code (⟨"java/lang/StringLatin1", "toBytes", "(C)[B"⟩ : MethodName) jdk_43_method_46_code 1 (some (.array .byte)) :: ws) ({ frames := 0, cells := 1, slots := 1, locals := 0 } : Room)) (fun aa_ U => aa_ = #[(.int x)] ∧ Z.Warmed39 U.vm ∧ U.heap = h0) (fun _ _ _ _ _ => True) (fun _ U oo_ UV_ => ∃ vv_ LL_, oo_ = .returned vv_ ∧ Q_rmTB Z x h0 n0 vv_ UV_.heap LL_ ∧ FrameEnd U oo_ UV_ LL_ ({ frames := 0, cells := 1, slots := 1, locals := 0 } : Room).cells ({ frames := 0, cells := 1, slots := 1, locals := 0 } : Room).slots) := by
  refine MetFree.of_bodySF (plainFor_of_name pn_2) hisR ?_
  intro pg ev si mi args below meth ci s₁ Bd hml0 hP0 hK
  obtain ⟨rfl, hZ, hh⟩ := hP0
  have hx := Bd.exec
  have hby := Bd.bytes
  have hml : ci.maxLocals = 1 := hml0
  have hown : si.vm.findClass "java/lang/StringLatin1" = some mi.cls := findClass_of_methodNamed Bd.named
  have hnm := (name_of_methodNamed Bd.named Bd.method).1
  have X0 : Stand pg l ev ({ frames := 0, cells := 1, slots := 1, locals := 0 } : Room) si mi #[(.int x)] below meth ci s₁ [] 0 0 := Stand.of_body Bd
  have e0 : s₁.heap = h0 := by rw [← hh, Bd.state]; rfl
  have N0 := Fr.nil n0
  refine Go.start (fun P hP => ?_)
  refine Go.st (fun t_ k_ => castTop (ef_rmTB mi x) k_) (A := s₁.setTop (mkF mi 0 #[.val (.int x)] [])) ?_
  show Go _ _ _ (s₁.setTop (mkF mi 0 #[.val (.int x)] [])) _
  refine g_iconst X0 hx hby dc40_0 (v := 1) rfl ?_
  obtain ⟨T1, h1, k1, X1, e1, E1, A1, EX1, st1⟩ := newPE X0 hx hZ (hw _ (own_m 9 rfl)) e0 (g := (mkF mi 1 #[.val (.int x)] [(.int 1)])) rfl (hb hby dc40_1) rfl (by decide) (cap := 1) (by decide) (by decide) (by decide) (by decide) (ad := "[B") (by decide)
  obtain ⟨ob1, g1⟩ : ∃ z, z = h0.size := ⟨_, rfl⟩
  rw [← g1] at A1 EX1 st1
  have Zs2 : n0 ≤ h1.size := Nat.le_trans Z0 E1.1
  have KC2 : Keep h0 h1 [] := (Keep.refl h0 []).ext E1
  have g_ob1 : n0 ≤ ob1 := Nat.le_trans Z0 (Nat.le_of_eq g1.symm)
  have sz_ob1 : h0.size ≤ ob1 := Nat.le_trans (Keep.refl h0 []).1 (Nat.le_of_eq g1.symm)
  have V1 : Arv Z h1 ob1 k1 .byte (1 : Int32) [(.int (0 : Int32))] (.int (0 : Int32)) := (Arv.new A1 (by decide)).pad (pad_rep [] (.int (0 : Int32)) 1)
  refine Go.st st1 ?_
  refine g_dup X1 hx hby dc40_3 rfl ?_
  refine g_iconst X1 hx hby dc40_4 (v := 0) rfl ?_
  refine g_iloadN X1 hx hby dc40_5 rfl ?_
  refine g_i2b X1 hx hby dc40_6 rfl ?_
  have ov3 := V1
  obtain ⟨cl3, Ar3, q3, S3, M3, H3, G3⟩ := ov3
  have hin3 : ¬ ((0 : Int32) < 0 ∨ cl3.slots.size ≤ ((0 : Int32)).toNatClampNeg) := inb_of S3 ⟨by decide, by decide⟩
  obtain ⟨T4, h4, X4, e4, W4, st4⟩ := stB X1 hx hZ e1 Ar3 (j := (0 : Int32)) hin3 (g := (mkF mi 7 #[.val (.int x)] [(.int (x.toInt8.toInt32)), (.int 0), (.ref ob1), (.ref ob1)])) rfl rfl (hb hby dc40_7)
  have Zs5 : n0 ≤ h4.size := Nat.le_trans Zs2 (Keep.of_wr W4).1
  have KC5 : Keep h0 h4 [] := KC2.wr W4 (Or.inr sz_ob1)
  have N5 := Fr.snoc X4 N0 g_ob1
  have V4 : Arv Z h4 ob1 k1 .byte (1 : Int32) [(.int ((x.toInt8.toInt32).toInt8.toInt32))] (.int (0 : Int32)) := Arv.set Ar3 q3 S3 M3 H3 G3 (fits_nar_byte _) W4 0 rfl (Nat.le_of_ble_eq_true rfl)
  rw [own_bb, own_dgb dx] at V4
  refine Go.st st4 ?_
  obtain ⟨fs, hr, hrun, hended, hW, hsame⟩ := X4.leave (v := some (.ref ob1)) (fun h => by rw [Bd.returns] at h; cases h) (BodyLoose.notSynchronized Bd)
  have f6 := (EX1.wr W4)
  refine ⟨_, _, ?_, hP _ _ ⟨hrun, hended, _, _, rfl, ?_, ⟨_, rfl⟩, hW, hsame.mono (by decide) (by decide)⟩⟩
  · exact retOut X4 hx Bd.returns rfl (Or.inr (Or.inr (Or.inr (Or.inr ⟨rfl, rfl, rfl⟩)))) (hb hby dc40_8) hr
  · show ∃ (r : Addr) (kr : ClassId), (some (.ref ob1) : Option Value) = some (.ref r) ∧ Fr n0 _ ∧ Keep h0 T4.heap [] ∧ h0.size ≤ r ∧ n0 ≤ r ∧ Arv Z T4.heap r kr .byte (1 : Int32) [(.int x)] (.int (0 : Int32)) ∧ Exa Z T4.heap r "[B"
    rw [e4]
    exact ⟨ob1, k1, rfl, N5, KC5, sz_ob1, g_ob1, V4, f6⟩
theorem dc41_0 : decode jdk_42_method_151_code 0 = .ok (.aload_n 0, 1) := by decide +kernel
theorem dc41_1 : decode jdk_42_method_151_code 1 = .ok (.invokespecial 1, 3) := by decide +kernel
theorem dc41_4 : decode jdk_42_method_151_code 4 = .ok (.aload_n 0, 1) := by decide +kernel
theorem dc41_5 : decode jdk_42_method_151_code 5 = .ok (.aload_n 1, 1) := by decide +kernel
theorem dc41_6 : decode jdk_42_method_151_code 6 = .ok (.putfield 9, 3) := by decide +kernel
theorem dc41_9 : decode jdk_42_method_151_code 9 = .ok (.aload_n 0, 1) := by decide +kernel
theorem dc41_10 : decode jdk_42_method_151_code 10 = .ok (.iload_n 2, 1) := by decide +kernel
theorem dc41_11 : decode jdk_42_method_151_code 11 = .ok (.putfield 15, 3) := by decide +kernel
theorem dc41_14 : decode jdk_42_method_151_code 14 = .ok (.return_, 1) := by decide +kernel
theorem ef_rmSB (mi : MethodId) (o : Addr) (b : Addr) : entryFrame mi #[(.ref o), (.ref b), (.int 0)] 3 = mkF mi 0 #[.val (.ref o), .val (.ref b), .val (.int 0)] [] := by first | (simp [entryFrame, mkF, argsToLocals, Value.category]; done) | rfl
def Q_rmSB (Z : State) (o : Addr) (b : Addr) (h0 : Heap) (n0 : Nat) (vv_ : Option Value) (hh_ : Heap) (LL_ : List Loc) : Prop := vv_ = none ∧ Fr n0 LL_ ∧ Keep h0 hh_ [o] ∧ Exa Z hh_ o "java/lang/String" ∧ Fld Z hh_ o "java/lang/String" "coder" "B" (.int (0 : Int32)) ∧ Fld Z hh_ o "java/lang/String" "value" "[B" (.ref b)
set_option maxRecDepth 65536 in
set_option maxHeartbeats 40000000 in
theorem rmSB (l : Launch) (Z : State) (a0 : Array Value) (hw : ∀ d ∈ tables_1, d.before a0 Z = true) (ws : List Jvm.Cond) (o : Addr) (b : Addr) (h0 : Heap) (n0 : Nat) (Z0 : n0 ≤ h0.size) (E0 : Exa Z h0 o "java/lang/String") (FS1 : Fld Z h0 o "java/lang/String" "coder" "B" (.int (0 : Int32))) (FS2 : Fld Z h0 o "java/lang/String" "value" "[B" .null) (g_o : n0 ≤ o) :
    MetFree l (⟨"java/lang/String", "<init>", "([BB)V"⟩ : MethodName) (head1 (Jvm.Cond.code (⟨"java/lang/String", "<init>", "([BB)V"⟩ : MethodName) jdk_42_method_151_code 3 none :: ws) ({ frames := 1, cells := 0, slots := 0, locals := 12 } : Room)) (fun aa_ U => aa_ = #[(.ref o), (.ref b), (.int 0)] ∧ Z.Warmed39 U.vm ∧ U.heap = h0) (fun _ _ _ _ _ => True) (fun _ U oo_ UV_ => ∃ vv_ LL_, oo_ = .returned vv_ ∧ Q_rmSB Z o b h0 n0 vv_ UV_.heap LL_ ∧ FrameEnd U oo_ UV_ LL_ ({ frames := 1, cells := 0, slots := 0, locals := 12 } : Room).cells ({ frames := 1, cells := 0, slots := 0, locals := 12 } : Room).slots) := by
  refine MetFree.of_bodySF (plainFor_of_name pn_0) hisR ?_
  intro pg ev si mi args below meth ci s₁ Bd hml0 hP0 hK
  obtain ⟨rfl, hZ, hh⟩ := hP0
  have hx := Bd.exec
  have hby := Bd.bytes
  have hml : ci.maxLocals = 3 := hml0
  have hown : si.vm.findClass "java/lang/String" = some mi.cls := findClass_of_methodNamed Bd.named
  have hnm := (name_of_methodNamed Bd.named Bd.method).1
  have X0 : Stand pg l ev ({ frames := 1, cells := 0, slots := 0, locals := 12 } : Room) si mi #[(.ref o), (.ref b), (.int 0)] below meth ci s₁ [] 0 0 := Stand.of_body Bd
  have e0 : s₁.heap = h0 := by rw [← hh, Bd.state]; rfl
  have N0 := Fr.nil n0
  refine Go.start (fun P hP => ?_)
  refine Go.st (fun t_ k_ => castTop (ef_rmSB mi o b) k_) (A := s₁.setTop (mkF mi 0 #[.val (.ref o), .val (.ref b), .val (.int 0)] [])) ?_
  show Go _ _ _ (s₁.setTop (mkF mi 0 #[.val (.ref o), .val (.ref b), .val (.int 0)] [])) _
  refine g_aloadN X0 hx hby dc41_0 rfl rfl ?_
  obtain ⟨T1, X1, e1, st1⟩ := initO X0 hx hZ hown (hw _ (own_m 178 rfl)) (hw _ (own_m 18 rfl)) (hw _ (own_m 19 rfl)) e0 (g := (mkF mi 1 #[.val (.ref o), .val (.ref b), .val (.int 0)] [(.ref o)])) rfl (by rw [hml]; rfl) rfl (hb hby dc41_1) (by decide) (W := 0) (by show 2 * 0 + _ ≤ _; exact Nat.le_of_eq rfl) (by decide)
  refine Go.st st1 ?_
  refine g_aloadN X1 hx hby dc41_4 rfl rfl ?_
  refine g_aloadN X1 hx hby dc41_5 rfl rfl ?_
  obtain ⟨T2, h2, X2, e2, W2, st2⟩ := putF X1 hx hZ hown (host := "") (Or.inl (hw _ (own_m 48 rfl))) Via.refl e1 FS2 E0 (Or.inr ⟨(hw _ (own_m 10 rfl)), rfl, hnm⟩) (hw _ (own_m 8 rfl)) (ty := (.array .byte)) (by decide) rfl rfl (g := (mkF mi 6 #[.val (.ref o), .val (.ref b), .val (.int 0)] [(.ref b), (.ref o)])) rfl rfl (hb hby dc41_6)
  have Zs3 : n0 ≤ h2.size := Nat.le_trans Z0 (Keep.of_wr W2).1
  have KC3 : Keep h0 h2 [o] := (Keep.refl h0 [o]).wr W2 (Or.inl (List.mem_of_getElem? (i := 0) rfl))
  have N3 := Fr.snoc X2 N0 g_o
  have F2 : Fld Z h2 o "java/lang/String" "value" "[B" (.ref b) := FS2.same W2
  refine Go.st st2 ?_
  refine g_aloadN X2 hx hby dc41_9 rfl rfl ?_
  refine g_iloadN X2 hx hby dc41_10 rfl ?_
  have f4 := (FS1.other W2 (Or.inr (slot_ne (Or.inr (hw _ (own_m 11 rfl))) (Or.inr (hw _ (own_m 10 rfl))) (by decide) (t := .byte) (t' := (.array .byte)) (by decide) (by decide))))
  have f5 := (E0.wr W2)
  obtain ⟨T6, h6, X6, e6, W6, st6⟩ := putFN X2 hx hZ hown (hw _ (own_m 47 rfl)) Via.refl e2 f4 f5 (Or.inr ⟨(hw _ (own_m 11 rfl)), rfl, hnm⟩) (hw _ (own_m 8 rfl)) (ty := .byte) (v' := (.int 0)) (by decide) rfl (by decide) (g := (mkF mi 11 #[.val (.ref o), .val (.ref b), .val (.int 0)] [(.int 0), (.ref o)])) rfl rfl (hb hby dc41_11)
  have Zs7 : n0 ≤ h6.size := Nat.le_trans Zs3 (Keep.of_wr W6).1
  have KC7 : Keep h0 h6 [o] := KC3.wr W6 (Or.inl (List.mem_of_getElem? (i := 0) rfl))
  have N7 := Fr.snoc X6 N3 g_o
  have F6 : Fld Z h6 o "java/lang/String" "coder" "B" (.int 0) := f4.same W6
  refine Go.st st6 ?_
  obtain ⟨fs, hr, hrun, hended, hW, hsame⟩ := X6.leave (v := none) (fun _ => rfl) (BodyLoose.notSynchronized Bd)
  have f8 := (f5.wr W6)
  have f9 := (F2.other W6 (Or.inr (slot_ne (Or.inr (hw _ (own_m 10 rfl))) (Or.inr (hw _ (own_m 11 rfl))) (by decide) (t := (.array .byte)) (t' := .byte) (by decide) (by decide))))
  refine ⟨_, _, ?_, hP _ _ ⟨hrun, hended, _, _, rfl, ?_, ⟨_, rfl⟩, hW, hsame.mono (by decide) (by decide)⟩⟩
  · exact X6.returnOut hx Bd.returns (hb hby dc41_14) hr
  · show (none : Option Value) = none ∧ Fr n0 _ ∧ Keep h0 T6.heap [o] ∧ Exa Z T6.heap o "java/lang/String" ∧ Fld Z T6.heap o "java/lang/String" "coder" "B" (.int (0 : Int32)) ∧ Fld Z T6.heap o "java/lang/String" "value" "[B" (.ref b)
    rw [e6]
    exact ⟨rfl, N7, KC7, f8, F6, f9⟩
theorem dc42_0 : decode jdk_42_method_139_code 0 = .ok (.getstatic 38, 3) := by decide +kernel
theorem dc42_3 : decode jdk_42_method_139_code 3 = .ok (.ifCond .eq 23, 3) := by decide +kernel
theorem dc42_6 : decode jdk_42_method_139_code 6 = .ok (.iload_n 0, 1) := by decide +kernel
theorem dc42_7 : decode jdk_42_method_139_code 7 = .ok (.invokestatic 1015, 3) := by decide +kernel
theorem dc42_10 : decode jdk_42_method_139_code 10 = .ok (.ifCond .eq 16, 3) := by decide +kernel
theorem dc42_13 : decode jdk_42_method_139_code 13 = .ok (.new 10, 3) := by decide +kernel
theorem dc42_16 : decode jdk_42_method_139_code 16 = .ok (.dup, 1) := by decide +kernel
theorem dc42_17 : decode jdk_42_method_139_code 17 = .ok (.iload_n 0, 1) := by decide +kernel
theorem dc42_18 : decode jdk_42_method_139_code 18 = .ok (.invokestatic 1018, 3) := by decide +kernel
theorem pd_30 : parseMethodDescriptor "(C)[B" = some ⟨[.char], some (.array .byte)⟩ := by decide +kernel
theorem dc42_21 : decode jdk_42_method_139_code 21 = .ok (.iconst 0, 1) := by decide +kernel
theorem dc42_22 : decode jdk_42_method_139_code 22 = .ok (.invokespecial 209, 3) := by decide +kernel
theorem pd_31 : parseMethodDescriptor "([BB)V" = some ⟨[(.array .byte), .byte], none⟩ := by decide +kernel
theorem dc42_25 : decode jdk_42_method_139_code 25 = .ok (.areturn, 1) := by decide +kernel
theorem ef_rmVO (mi : MethodId) (x : Int32) (cz : Int32) : entryFrame mi #[(.int x)] 1 = mkF mi 0 #[.val (.int x)] [] := by first | (simp [entryFrame, mkF, argsToLocals, Value.category]; done) | rfl
def Q_rmVO (Z : State) (x : Int32) (cz : Int32) (h0 : Heap) (n0 : Nat) (vv_ : Option Value) (hh_ : Heap) (LL_ : List Loc) : Prop := ∃ (s b : Addr) (kb : ClassId), vv_ = some (.ref s) ∧ Fr n0 LL_ ∧ Keep h0 hh_ [] ∧ h0.size ≤ s ∧ Exa Z hh_ s "java/lang/String" ∧ Fld Z hh_ s "java/lang/String" "coder" "B" (.int (0 : Int32)) ∧ Fld Z hh_ s "java/lang/String" "value" "[B" (.ref b) ∧ Arv Z hh_ b kb .byte (1 : Int32) ([x].map Value.int) (.int (0 : Int32)) ∧ Exa Z hh_ b "[B"
set_option maxRecDepth 65536 in
set_option maxHeartbeats 40000000 in
theorem rmVO (l : Launch) (Z : State) (a0 : Array Value) (hw : ∀ d ∈ tables_1, d.before a0 Z = true) (ws : List Jvm.Cond) (x : Int32) (cz : Int32) (h0 : Heap) (n0 : Nat) (Z0 : n0 ≤ h0.size) (SC : Sta Z h0 "java/lang/String" "COMPACT_STRINGS" "Z" (.int cz)) (hcz : ¬ (cz = (0 : Int32))) (dx : Dig x) :
    MetFree l (⟨"java/lang/String", "valueOf", "(C)Ljava/lang/String;"⟩ : MethodName) (head1 (Jvm.Cond.code (⟨"java/lang/String", "valueOf", "(C)Ljava/lang/String;"⟩ : MethodName) jdk_42_method_139_code 1 (some (.object "java/lang/String")) :: ws) ({ frames := 2, cells := 2, slots := 5, locals := 27 } : Room)) (fun aa_ U => aa_ = #[(.int x)] ∧ Z.Warmed39 U.vm ∧ U.heap = h0) (fun _ _ _ _ _ => True) (fun _ U oo_ UV_ => ∃ vv_ LL_, oo_ = .returned vv_ ∧ Q_rmVO Z x cz h0 n0 vv_ UV_.heap LL_ ∧ FrameEnd U oo_ UV_ LL_ ({ frames := 2, cells := 2, slots := 5, locals := 27 } : Room).cells ({ frames := 2, cells := 2, slots := 5, locals := 27 } : Room).slots) := by
  refine MetFree.of_bodySF (plainFor_of_name pn_0) hisR ?_
  intro pg ev si mi args below meth ci s₁ Bd hml0 hP0 hK
  obtain ⟨rfl, hZ, hh⟩ := hP0
  have hx := Bd.exec
  have hby := Bd.bytes
  have hml : ci.maxLocals = 1 := hml0
  have hown : si.vm.findClass "java/lang/String" = some mi.cls := findClass_of_methodNamed Bd.named
  have hnm := (name_of_methodNamed Bd.named Bd.method).1
  have X0 : Stand pg l ev ({ frames := 2, cells := 2, slots := 5, locals := 27 } : Room) si mi #[(.int x)] below meth ci s₁ [] 0 0 := Stand.of_body Bd
  have e0 : s₁.heap = h0 := by rw [← hh, Bd.state]; rfl
  have N0 := Fr.nil n0
  refine Go.start (fun P hP => ?_)
  refine Go.st (fun t_ k_ => castTop (ef_rmVO mi x cz) k_) (A := s₁.setTop (mkF mi 0 #[.val (.int x)] [])) ?_
  show Go _ _ _ (s₁.setTop (mkF mi 0 #[.val (.int x)] [])) _
  obtain ⟨T1, X1, e1, st1⟩ := getS2 X0 hx hZ hown (host := "") (Or.inl (hw _ (own_m 46 rfl))) Via.refl e0 SC (g := (mkF mi 0 #[.val (.int x)] [])) rfl (hb hby dc42_0)
  refine Go.st st1 ?_
  refine g_ifNo X1 hx hby dc42_3 ((if0 _ _).trans (feq hcz).1) ?_
  refine g_iloadN X1 hx hby dc42_6 rfl ?_
  obtain ⟨_, _, ⟨T2, L2, k2, n2⟩, -, X2, ⟨Lc2, hQ2, l2, y2, z2⟩, st2⟩ := Jvm.LawKit.callS X1 hx (y := (⟨"java/lang/StringLatin1", "canEncode", "(C)Z"⟩ : MethodName)) hown (mvT hZ (hw _ (own_m 253 rfl))) (mvT hZ (hw _ (own_m 163 rfl))) (mvT hZ (hw _ (own_m 51 rfl))) (mvT hZ (hw _ (own_m 164 rfl))) (by decide) (backOf (W := 0) (rmCan l Z a0 hw [] x h0 n0 Z0) hZ (hw _ (own_m 164 rfl)) (hw _ (own_m 51 rfl)) (by decide) (by decide)) (g := (mkF mi 7 #[.val (.int x)] [(.int x)])) rfl (by rw [hml]; rfl) (argsL := [(.int x)]) (rest := []) (lenOf pd_11 rfl) rfl (by show 2 * 0 + _ ≤ _; exact Nat.le_of_eq rfl) (hb hby dc42_7) (fun _ _ => ⟨rfl, e1, (by decide : 0 + 0 ≤ _), (by decide : 0 + 0 ≤ _)⟩)
  dsimp only [Pt.U, Pt.locs, Pt.cells, Pt.slots] at X2 l2 y2 z2 st2 hQ2
  subst y2 z2
  have X2 := own_cs X2 (cells' := 0) (slots' := 0) rfl rfl
  obtain ⟨rfl, N2q, e2⟩ := hQ2
  have N2 := own_fr l2 (Fr.app N0 N2q)
  refine Go.st st2 ?_
  show Go _ _ _ (T2.setTop (mkF mi 10 #[.val (.int x)] [(.int (fCan x))])) _
  rw [own_dgcan dx]
  show Go _ _ _ (T2.setTop (mkF mi 10 #[.val (.int x)] [(.int 1)])) _
  refine g_ifNo X2 hx hby dc42_10 ((if0 _ _).trans (feq (by decide)).1) ?_
  obtain ⟨T3, h3, X3, e3, E3, A3, D3, -, st3⟩ := newO X2 hx hZ hown (hw _ (own_m 254 rfl)) (hw _ (own_m 8 rfl)) (hw _ (own_m 7 rfl)) e2 (g := (mkF mi 13 #[.val (.int x)] [])) rfl (hb hby dc42_13) (by decide) (by decide)
  obtain ⟨ob3, g3⟩ : ∃ z, z = h0.size := ⟨_, rfl⟩
  rw [← g3] at A3 D3 st3
  have Zs4 : n0 ≤ h3.size := Nat.le_trans Z0 E3.1
  have KC4 : Keep h0 h3 [] := (Keep.refl h0 []).ext E3
  have g_ob3 : n0 ≤ ob3 := Nat.le_trans Z0 (Nat.le_of_eq g3.symm)
  have sz_ob3 : h0.size ≤ ob3 := Nat.le_trans (Keep.refl h0 []).1 (Nat.le_of_eq g3.symm)
  have F3_10 : Fld Z h3 ob3 "java/lang/String" "value" "[B" .null := D3 (Or.inr (hw _ (own_m 10 rfl))) (ty := (.array .byte)) (by decide)
  have F3_11 : Fld Z h3 ob3 "java/lang/String" "coder" "B" (.int 0) := D3 (Or.inr (hw _ (own_m 11 rfl))) (ty := .byte) (by decide)
  refine Go.st st3 ?_
  refine g_dup X3 hx hby dc42_16 rfl ?_
  refine g_iloadN X3 hx hby dc42_17 rfl ?_
  obtain ⟨_, _, ⟨T5, L5, k5, n5⟩, -, X5, ⟨Lc5, hQ5, l5, y5, z5⟩, st5⟩ := Jvm.LawKit.callS X3 hx (y := (⟨"java/lang/StringLatin1", "toBytes", "(C)[B"⟩ : MethodName)) hown (mvT hZ (hw _ (own_m 255 rfl))) (mvT hZ (hw _ (own_m 256 rfl))) (mvT hZ (hw _ (own_m 51 rfl))) (mvT hZ (hw _ (own_m 257 rfl))) (by decide) (backOf (W := 2) (rmTB l Z a0 hw [] x h3 n0 Zs4 dx) hZ (hw _ (own_m 257 rfl)) (hw _ (own_m 51 rfl)) (by decide) (by decide)) (g := (mkF mi 18 #[.val (.int x)] [(.int x), (.ref ob3), (.ref ob3)])) rfl (by rw [hml]; rfl) (argsL := [(.int x)]) (rest := [(.ref ob3), (.ref ob3)]) (lenOf pd_30 rfl) rfl (by show 2 * 0 + _ ≤ _; exact Nat.le_of_eq rfl) (hb hby dc42_18) (fun _ _ => ⟨rfl, e3, (by decide : 1 + 1 ≤ _), (by decide : 4 + 1 ≤ _)⟩)
  dsimp only [Pt.U, Pt.locs, Pt.cells, Pt.slots] at X5 l5 y5 z5 st5 hQ5
  subst y5 z5
  have X5 := own_cs X5 (cells' := 2) (slots' := 5) rfl rfl
  obtain ⟨h5, e5⟩ : ∃ z, T5.heap = z := ⟨_, rfl⟩
  rw [e5] at hQ5
  obtain ⟨r5, kr5, rfl, N5q, K5, z_r5, g_r5, V_r5, E_r5⟩ := hQ5
  have N5 := own_fr l5 (Fr.app N2 N5q)
  have Zs6 : n0 ≤ h5.size := Nat.le_trans Zs4 K5.1
  have KC6 : Keep h0 h5 [] := KC4.trans K5 all0
  have sz_r5 : h0.size ≤ r5 := Nat.le_trans KC4.1 z_r5
  refine Go.st st5 ?_
  refine g_iconst X5 hx hby dc42_21 (v := 0) rfl ?_
  have f8 := (A3.keep K5)
  have f9 := (F3_11.keep K5 nin0)
  have f10 := (F3_10.keep K5 nin0)
  obtain ⟨_, _, ⟨T7, L7, k7, n7⟩, -, X7, ⟨Lc7, hQ7, l7, y7, z7⟩, st7⟩ := X5.specialBack hx (y := (⟨"java/lang/String", "<init>", "([BB)V"⟩ : MethodName)) rfl hown (mvT hZ (hw _ (own_m 258 rfl))) (mvT hZ (hw _ (own_m 259 rfl))) (mvT hZ (hw _ (own_m 260 rfl))) (by decide) (backOf (W := 1) (rmSB l Z a0 hw [] ob3 r5 h5 n0 Zs6 f8 f9 f10 g_ob3) hZ (hw _ (own_m 260 rfl)) (hw _ (own_m 7 rfl)) (by decide) (by decide)) (g := (mkF mi 22 #[.val (.int x)] [(.int 0), (.ref r5), (.ref ob3), (.ref ob3)])) rfl (by rw [hml]; rfl) (Steps.refl _) (a := ob3) (argsL := [(.ref r5), (.int 0)]) (rest := [(.ref ob3)]) (lenOf pd_31 rfl) rfl (by show 2 * 0 + _ ≤ _; exact Nat.le_of_eq rfl) (hb hby dc42_22) (fun _ _ => ⟨rfl, e5, (by decide : 2 + 0 ≤ _), (by decide : 5 + 0 ≤ _)⟩)
  dsimp only [Pt.U, Pt.locs, Pt.cells, Pt.slots] at X7 l7 y7 z7 st7 hQ7
  subst y7 z7
  have X7 := own_cs X7 (cells' := 2) (slots' := 5) rfl rfl
  obtain ⟨h7, e7⟩ : ∃ z, T7.heap = z := ⟨_, rfl⟩
  rw [e7] at hQ7
  obtain ⟨rfl, N7q, K7, A_7, FC_7, FV_7⟩ := hQ7
  have N7 := own_fr l7 (Fr.app N5 N7q)
  have Zs11 : n0 ≤ h7.size := Nat.le_trans Zs6 K7.1
  have KC11 : Keep h0 h7 [] := KC6.trans K7 (allS (P := fun x => x ∈ [] ∨ h0.size ≤ x) (Or.inr sz_ob3) all0)
  refine Go.tr st7 ?_
  obtain ⟨fs, hr, hrun, hended, hW, hsame⟩ := X7.leave (v := some (.ref ob3)) (fun h => by rw [Bd.returns] at h; cases h) (BodyLoose.notSynchronized Bd)
  have ne_ob3_r5 : ob3 ≠ r5 := Nat.ne_of_lt (Nat.lt_of_lt_of_le A3.lt z_r5)
  have f12 := (V_r5.keep K7 (ninS (Ne.symm ne_ob3_r5) nin0))
  have f13 := (E_r5.keep K7)
  refine ⟨_, _, ?_, hP _ _ ⟨hrun, hended, _, _, rfl, ?_, ⟨_, rfl⟩, hW, hsame.mono (by decide) (by decide)⟩⟩
  · exact retOut X7 hx Bd.returns rfl (Or.inr (Or.inr (Or.inr (Or.inr ⟨rfl, rfl, rfl⟩)))) (hb hby dc42_25) hr
  · show ∃ (s b : Addr) (kb : ClassId), (some (.ref ob3) : Option Value) = some (.ref s) ∧ Fr n0 _ ∧ Keep h0 T7.heap [] ∧ h0.size ≤ s ∧ Exa Z T7.heap s "java/lang/String" ∧ Fld Z T7.heap s "java/lang/String" "coder" "B" (.int (0 : Int32)) ∧ Fld Z T7.heap s "java/lang/String" "value" "[B" (.ref b) ∧ Arv Z T7.heap b kb .byte (1 : Int32) ([x].map Value.int) (.int (0 : Int32)) ∧ Exa Z T7.heap b "[B"
    rw [e7]
    exact ⟨ob3, r5, kr5, rfl, N7, KC11, sz_ob3, A_7, FC_7, FV_7, f12, f13⟩
theorem dc43_0 : decode jdk_52_method_21_code 0 = .ok (.iconst 0, 1) := by decide +kernel
theorem dc43_1 : decode jdk_52_method_21_code 1 = .ok (.istore 5, 2) := by decide +kernel
theorem dc43_3 : decode jdk_52_method_21_code 3 = .ok (.iload 5, 2) := by decide +kernel
theorem dc43_5 : decode jdk_52_method_21_code 5 = .ok (.iload 4, 2) := by decide +kernel
theorem dc43_7 : decode jdk_52_method_21_code 7 = .ok (.if_icmp .ge 37, 3) := by decide +kernel
theorem dc43_10 : decode jdk_52_method_21_code 10 = .ok (.aload_n 0, 1) := by decide +kernel
theorem dc43_11 : decode jdk_52_method_21_code 11 = .ok (.iload_n 1, 1) := by decide +kernel
theorem dc43_12 : decode jdk_52_method_21_code 12 = .ok (.caload, 1) := by decide +kernel
theorem dc43_13 : decode jdk_52_method_21_code 13 = .ok (.istore 6, 2) := by decide +kernel
theorem dc43_15 : decode jdk_52_method_21_code 15 = .ok (.iload 6, 2) := by decide +kernel
theorem dc43_17 : decode jdk_52_method_21_code 17 = .ok (.sipush 255, 3) := by decide +kernel
theorem dc43_20 : decode jdk_52_method_21_code 20 = .ok (.if_icmp .le 6, 3) := by decide +kernel
theorem dc43_26 : decode jdk_52_method_21_code 26 = .ok (.aload_n 2, 1) := by decide +kernel
theorem dc43_27 : decode jdk_52_method_21_code 27 = .ok (.iload_n 3, 1) := by decide +kernel
theorem dc43_28 : decode jdk_52_method_21_code 28 = .ok (.iload 6, 2) := by decide +kernel
theorem dc43_30 : decode jdk_52_method_21_code 30 = .ok (.i2b, 1) := by decide +kernel
theorem dc43_31 : decode jdk_52_method_21_code 31 = .ok (.bastore, 1) := by decide +kernel
theorem dc43_32 : decode jdk_52_method_21_code 32 = .ok (.iinc 1 1, 3) := by decide +kernel
theorem dc43_35 : decode jdk_52_method_21_code 35 = .ok (.iinc 3 1, 3) := by decide +kernel
theorem dc43_38 : decode jdk_52_method_21_code 38 = .ok (.iinc 5 1, 3) := by decide +kernel
theorem dc43_41 : decode jdk_52_method_21_code 41 = .ok (.goto (-38), 3) := by decide +kernel
theorem dc43_44 : decode jdk_52_method_21_code 44 = .ok (.iload 4, 2) := by decide +kernel
theorem dc43_46 : decode jdk_52_method_21_code 46 = .ok (.ireturn, 1) := by decide +kernel
theorem pn_10 : plainName "java/lang/StringUTF16" = true := by first | (simp [plainName, overriddenIn]; done) | decide +kernel
theorem ef_rmCo3 (mi : MethodId) (ca : Addr) (bb : Addr) (kc : ClassId) (x : Int32) (y : Int32) (z : Int32) (kb : ClassId) : entryFrame mi #[(.ref ca), (.int 0), (.ref bb), (.int 0), (.int 3)] 7 = mkF mi 0 #[.val (.ref ca), .val (.int 0), .val (.ref bb), .val (.int 0), .val (.int 3), .unset, .unset] [] := by first | (simp [entryFrame, mkF, argsToLocals, Value.category]; done) | rfl
def Q_rmCo3 (Z : State) (ca : Addr) (bb : Addr) (kc : ClassId) (x : Int32) (y : Int32) (z : Int32) (kb : ClassId) (h0 : Heap) (n0 : Nat) (vv_ : Option Value) (hh_ : Heap) (LL_ : List Loc) : Prop := vv_ = some (.int (3 : Int32)) ∧ Fr n0 LL_ ∧ Keep h0 hh_ [bb] ∧ Arv Z hh_ bb kb .byte (3 : Int32) [(.int x), (.int y), (.int z)] (.int (0 : Int32))
set_option maxRecDepth 65536 in
set_option maxHeartbeats 40000000 in
theorem rmCo3 (l : Launch) (Z : State) (a0 : Array Value) (hw : ∀ d ∈ tables_1, d.before a0 Z = true) (ws : List Jvm.Cond) (ca : Addr) (bb : Addr) (kc : ClassId) (x : Int32) (y : Int32) (z : Int32) (kb : ClassId) (h0 : Heap) (n0 : Nat) (Z0 : n0 ≤ h0.size) (CA0 : Arv Z h0 ca kc .char (3 : Int32) [(.int x), (.int y), (.int z)] (.int (0 : Int32))) (CB0 : Arv Z h0 bb kb .byte (3 : Int32) [(.int (0 : Int32)), (.int (0 : Int32)), (.int (0 : Int32))] (.int (0 : Int32))) (g_b : n0 ≤ bb) (ne_b : ca ≠ bb) (dx : Dig x) (dy : Dig y) (dz : Dig z) :
    MetFree l (⟨"java/lang/StringUTF16", "compress", "([CI[BII)I"⟩ : MethodName) (head1 (Jvm.Cond.code (⟨"java/lang/StringUTF16", "compress", "([CI[BII)I"⟩ : MethodName) jdk_52_method_21_code 7 (some .int) :: ws) ({ frames := 0, cells := 0, slots := 0, locals := 0 } : Room)) (fun aa_ U => aa_ = #[(.ref ca), (.int 0), (.ref bb), (.int 0), (.int 3)] ∧ Z.Warmed39 U.vm ∧ U.heap = h0) (fun _ _ _ _ _ => True) (fun _ U oo_ UV_ => ∃ vv_ LL_, oo_ = .returned vv_ ∧ Q_rmCo3 Z ca bb kc x y z kb h0 n0 vv_ UV_.heap LL_ ∧ FrameEnd U oo_ UV_ LL_ ({ frames := 0, cells := 0, slots := 0, locals := 0 } : Room).cells ({ frames := 0, cells := 0, slots := 0, locals := 0 } : Room).slots) := by
  refine MetFree.of_bodySF (plainFor_of_name pn_10) hisR ?_
  intro pg ev si mi args below meth ci s₁ Bd hml0 hP0 hK
  obtain ⟨rfl, hZ, hh⟩ := hP0
  have hx := Bd.exec
  have hby := Bd.bytes
  have hml : ci.maxLocals = 7 := hml0
  have hown : si.vm.findClass "java/lang/StringUTF16" = some mi.cls := findClass_of_methodNamed Bd.named
  have hnm := (name_of_methodNamed Bd.named Bd.method).1
  have X0 : Stand pg l ev ({ frames := 0, cells := 0, slots := 0, locals := 0 } : Room) si mi #[(.ref ca), (.int 0), (.ref bb), (.int 0), (.int 3)] below meth ci s₁ [] 0 0 := Stand.of_body Bd
  have e0 : s₁.heap = h0 := by rw [← hh, Bd.state]; rfl
  have N0 := Fr.nil n0
  refine Go.start (fun P hP => ?_)
  refine Go.st (fun t_ k_ => castTop (ef_rmCo3 mi ca bb kc x y z kb) k_) (A := s₁.setTop (mkF mi 0 #[.val (.ref ca), .val (.int 0), .val (.ref bb), .val (.int 0), .val (.int 3), .unset, .unset] [])) ?_
  show Go _ _ _ (s₁.setTop (mkF mi 0 #[.val (.ref ca), .val (.int 0), .val (.ref bb), .val (.int 0), .val (.int 3), .unset, .unset] [])) _
  refine g_iconst X0 hx hby dc43_0 (v := 0) rfl ?_
  refine g_istore X0 hx hby dc43_1 (l' := #[.val (.ref ca), .val (.int 0), .val (.ref bb), .val (.int 0), .val (.int 3), .val (.int 0), .unset]) rfl ?_
  refine g_iload X0 hx hby dc43_3 rfl ?_
  refine g_iload X0 hx hby dc43_5 rfl ?_
  refine g_icmpNo X0 hx hby dc43_7 (tlt (by decide)).2.1 ?_
  refine g_aloadN X0 hx hby dc43_10 rfl rfl ?_
  refine g_iloadN X0 hx hby dc43_11 rfl ?_
  have ov1 := CA0
  obtain ⟨cl1, Ar1, q1, S1, M1, H1, G1⟩ := ov1
  have hin1 : ¬ ((0 : Int32) < 0 ∨ cl1.slots.size ≤ ((0 : Int32)).toNatClampNeg) := inb_of S1 ⟨by decide, by decide⟩
  have hat1 : cl1.slots[((0 : Int32)).toNatClampNeg]? = some (.int x) := Has.at H1 hin1 rfl
  refine Go.st (X0.caload hx (j := (0 : Int32)) (v := (.int x)) (by rw [e0]; exact Ar1.1) (State.isArrayOf_alike hZ.alike Ar1.2.1) Ar1.2.2 hin1 hat1 (g := (mkF mi 12 #[.val (.ref ca), .val (.int 0), .val (.ref bb), .val (.int 0), .val (.int 3), .val (.int 0), .unset] [(.int 0), (.ref ca)])) rfl rfl (hb hby dc43_12)) ?_
  refine g_istore X0 hx hby dc43_13 (l' := #[.val (.ref ca), .val (.int 0), .val (.ref bb), .val (.int 0), .val (.int 3), .val (.int 0), .val (.int x)]) rfl ?_
  refine g_iload X0 hx hby dc43_15 rfl ?_
  refine g_sipush X0 hx hby dc43_17 (v := 255) rfl ?_
  refine g_icmpYes X0 hx hby dc43_20 (flt (own_dg255 dx)).2.2.2 (pc0 := 20) (pc' := 26) rfl (by decide) (by decide) ?_
  refine g_aloadN X0 hx hby dc43_26 rfl rfl ?_
  refine g_iloadN X0 hx hby dc43_27 rfl ?_
  refine g_iload X0 hx hby dc43_28 rfl ?_
  refine g_i2b X0 hx hby dc43_30 rfl ?_
  have ov2 := CB0
  obtain ⟨cl2, Ar2, q2, S2, M2, H2, G2⟩ := ov2
  have hin2 : ¬ ((0 : Int32) < 0 ∨ cl2.slots.size ≤ ((0 : Int32)).toNatClampNeg) := inb_of S2 ⟨by decide, by decide⟩
  obtain ⟨T3, h3, X3, e3, W3, st3⟩ := stB X0 hx hZ e0 Ar2 (j := (0 : Int32)) hin2 (g := (mkF mi 31 #[.val (.ref ca), .val (.int 0), .val (.ref bb), .val (.int 0), .val (.int 3), .val (.int 0), .val (.int x)] [(.int (x.toInt8.toInt32)), (.int 0), (.ref bb)])) rfl rfl (hb hby dc43_31)
  have Zs4 : n0 ≤ h3.size := Nat.le_trans Z0 (Keep.of_wr W3).1
  have KC4 : Keep h0 h3 [bb] := (Keep.refl h0 [bb]).wr W3 (Or.inl (List.mem_of_getElem? (i := 0) rfl))
  have N4 := Fr.snoc X3 N0 g_b
  have V3 : Arv Z h3 bb kb .byte (3 : Int32) [(.int ((x.toInt8.toInt32).toInt8.toInt32)), (.int 0), (.int 0)] (.int (0 : Int32)) := Arv.set Ar2 q2 S2 M2 H2 G2 (fits_nar_byte _) W3 0 rfl (Nat.le_of_ble_eq_true rfl)
  rw [own_bb, own_dgb dx] at V3
  refine Go.st st3 ?_
  refine g_iinc X3 hx hby dc43_32 rfl (x' := 1) rfl (l' := #[.val (.ref ca), .val (.int 1), .val (.ref bb), .val (.int 0), .val (.int 3), .val (.int 0), .val (.int x)]) rfl ?_
  refine g_iinc X3 hx hby dc43_35 rfl (x' := 1) rfl (l' := #[.val (.ref ca), .val (.int 1), .val (.ref bb), .val (.int 1), .val (.int 3), .val (.int 0), .val (.int x)]) rfl ?_
  refine g_iinc X3 hx hby dc43_38 rfl (x' := 1) rfl (l' := #[.val (.ref ca), .val (.int 1), .val (.ref bb), .val (.int 1), .val (.int 3), .val (.int 1), .val (.int x)]) rfl ?_
  refine g_goto X3 hx hby dc43_41 (pc0 := 41) (pc' := 3) rfl (by decide) (by decide) ?_
  refine g_iload X3 hx hby dc43_3 rfl ?_
  refine g_iload X3 hx hby dc43_5 rfl ?_
  refine g_icmpNo X3 hx hby dc43_7 (tlt (by decide)).2.1 ?_
  refine g_aloadN X3 hx hby dc43_10 rfl rfl ?_
  refine g_iloadN X3 hx hby dc43_11 rfl ?_
  have f5 := (CA0.other W3 ne_b)
  have ov6 := f5
  obtain ⟨cl6, Ar6, q6, S6, M6, H6, G6⟩ := ov6
  have hin6 : ¬ ((1 : Int32) < 0 ∨ cl6.slots.size ≤ ((1 : Int32)).toNatClampNeg) := inb_of S6 ⟨by decide, by decide⟩
  have hat6 : cl6.slots[((1 : Int32)).toNatClampNeg]? = some (.int y) := Has.at H6 hin6 rfl
  refine Go.st (X3.caload hx (j := (1 : Int32)) (v := (.int y)) (by rw [e3]; exact Ar6.1) (State.isArrayOf_alike hZ.alike Ar6.2.1) Ar6.2.2 hin6 hat6 (g := (mkF mi 12 #[.val (.ref ca), .val (.int 1), .val (.ref bb), .val (.int 1), .val (.int 3), .val (.int 1), .val (.int x)] [(.int 1), (.ref ca)])) rfl rfl (hb hby dc43_12)) ?_
  refine g_istore X3 hx hby dc43_13 (l' := #[.val (.ref ca), .val (.int 1), .val (.ref bb), .val (.int 1), .val (.int 3), .val (.int 1), .val (.int y)]) rfl ?_
  refine g_iload X3 hx hby dc43_15 rfl ?_
  refine g_sipush X3 hx hby dc43_17 (v := 255) rfl ?_
  refine g_icmpYes X3 hx hby dc43_20 (flt (own_dg255 dy)).2.2.2 (pc0 := 20) (pc' := 26) rfl (by decide) (by decide) ?_
  show Go _ _ _ (T3.setTop (mkF mi 26 #[.val (.ref ca), .val (.int 1), .val (.ref bb), .val (.int 1), .val (.int 3), .val (.int 1), .val (.int y)] [])) _
  refine g_aloadN X3 hx hby dc43_26 rfl rfl ?_
  refine g_iloadN X3 hx hby dc43_27 rfl ?_
  refine g_iload X3 hx hby dc43_28 rfl ?_
  refine g_i2b X3 hx hby dc43_30 rfl ?_
  have ov7 := V3
  obtain ⟨cl7, Ar7, q7, S7, M7, H7, G7⟩ := ov7
  have hin7 : ¬ ((1 : Int32) < 0 ∨ cl7.slots.size ≤ ((1 : Int32)).toNatClampNeg) := inb_of S7 ⟨by decide, by decide⟩
  obtain ⟨T8, h8, X8, e8, W8, st8⟩ := stB X3 hx hZ e3 Ar7 (j := (1 : Int32)) hin7 (g := (mkF mi 31 #[.val (.ref ca), .val (.int 1), .val (.ref bb), .val (.int 1), .val (.int 3), .val (.int 1), .val (.int y)] [(.int (y.toInt8.toInt32)), (.int 1), (.ref bb)])) rfl rfl (hb hby dc43_31)
  have Zs9 : n0 ≤ h8.size := Nat.le_trans Zs4 (Keep.of_wr W8).1
  have KC9 : Keep h0 h8 [bb] := KC4.wr W8 (Or.inl (List.mem_of_getElem? (i := 0) rfl))
  have N9 := Fr.snoc X8 N4 g_b
  have V8 : Arv Z h8 bb kb .byte (3 : Int32) [(.int x), (.int ((y.toInt8.toInt32).toInt8.toInt32)), (.int 0)] (.int (0 : Int32)) := Arv.set Ar7 q7 S7 M7 H7 G7 (fits_nar_byte _) W8 1 rfl (Nat.le_of_ble_eq_true rfl)
  rw [own_bb, own_dgb dy] at V8
  refine Go.st st8 ?_
  refine g_iinc X8 hx hby dc43_32 rfl (x' := 2) rfl (l' := #[.val (.ref ca), .val (.int 2), .val (.ref bb), .val (.int 1), .val (.int 3), .val (.int 1), .val (.int y)]) rfl ?_
  refine g_iinc X8 hx hby dc43_35 rfl (x' := 2) rfl (l' := #[.val (.ref ca), .val (.int 2), .val (.ref bb), .val (.int 2), .val (.int 3), .val (.int 1), .val (.int y)]) rfl ?_
  refine g_iinc X8 hx hby dc43_38 rfl (x' := 2) rfl (l' := #[.val (.ref ca), .val (.int 2), .val (.ref bb), .val (.int 2), .val (.int 3), .val (.int 2), .val (.int y)]) rfl ?_
  refine g_goto X8 hx hby dc43_41 (pc0 := 41) (pc' := 3) rfl (by decide) (by decide) ?_
  refine g_iload X8 hx hby dc43_3 rfl ?_
  refine g_iload X8 hx hby dc43_5 rfl ?_
  refine g_icmpNo X8 hx hby dc43_7 (tlt (by decide)).2.1 ?_
  refine g_aloadN X8 hx hby dc43_10 rfl rfl ?_
  refine g_iloadN X8 hx hby dc43_11 rfl ?_
  have f10 := (f5.other W8 ne_b)
  have ov11 := f10
  obtain ⟨cl11, Ar11, q11, S11, M11, H11, G11⟩ := ov11
  have hin11 : ¬ ((2 : Int32) < 0 ∨ cl11.slots.size ≤ ((2 : Int32)).toNatClampNeg) := inb_of S11 ⟨by decide, by decide⟩
  have hat11 : cl11.slots[((2 : Int32)).toNatClampNeg]? = some (.int z) := Has.at H11 hin11 rfl
  refine Go.st (X8.caload hx (j := (2 : Int32)) (v := (.int z)) (by rw [e8]; exact Ar11.1) (State.isArrayOf_alike hZ.alike Ar11.2.1) Ar11.2.2 hin11 hat11 (g := (mkF mi 12 #[.val (.ref ca), .val (.int 2), .val (.ref bb), .val (.int 2), .val (.int 3), .val (.int 2), .val (.int y)] [(.int 2), (.ref ca)])) rfl rfl (hb hby dc43_12)) ?_
  refine g_istore X8 hx hby dc43_13 (l' := #[.val (.ref ca), .val (.int 2), .val (.ref bb), .val (.int 2), .val (.int 3), .val (.int 2), .val (.int z)]) rfl ?_
  refine g_iload X8 hx hby dc43_15 rfl ?_
  refine g_sipush X8 hx hby dc43_17 (v := 255) rfl ?_
  refine g_icmpYes X8 hx hby dc43_20 (flt (own_dg255 dz)).2.2.2 (pc0 := 20) (pc' := 26) rfl (by decide) (by decide) ?_
  refine g_aloadN X8 hx hby dc43_26 rfl rfl ?_
  refine g_iloadN X8 hx hby dc43_27 rfl ?_
  refine g_iload X8 hx hby dc43_28 rfl ?_
  refine g_i2b X8 hx hby dc43_30 rfl ?_
  have ov12 := V8
  obtain ⟨cl12, Ar12, q12, S12, M12, H12, G12⟩ := ov12
  have hin12 : ¬ ((2 : Int32) < 0 ∨ cl12.slots.size ≤ ((2 : Int32)).toNatClampNeg) := inb_of S12 ⟨by decide, by decide⟩
  obtain ⟨T13, h13, X13, e13, W13, st13⟩ := stB X8 hx hZ e8 Ar12 (j := (2 : Int32)) hin12 (g := (mkF mi 31 #[.val (.ref ca), .val (.int 2), .val (.ref bb), .val (.int 2), .val (.int 3), .val (.int 2), .val (.int z)] [(.int (z.toInt8.toInt32)), (.int 2), (.ref bb)])) rfl rfl (hb hby dc43_31)
  have Zs14 : n0 ≤ h13.size := Nat.le_trans Zs9 (Keep.of_wr W13).1
  have KC14 : Keep h0 h13 [bb] := KC9.wr W13 (Or.inl (List.mem_of_getElem? (i := 0) rfl))
  have N14 := Fr.snoc X13 N9 g_b
  have V13 : Arv Z h13 bb kb .byte (3 : Int32) [(.int x), (.int y), (.int ((z.toInt8.toInt32).toInt8.toInt32))] (.int (0 : Int32)) := Arv.set Ar12 q12 S12 M12 H12 G12 (fits_nar_byte _) W13 2 rfl (Nat.le_of_ble_eq_true rfl)
  rw [own_bb, own_dgb dz] at V13
  refine Go.st st13 ?_
  refine g_iinc X13 hx hby dc43_32 rfl (x' := 3) rfl (l' := #[.val (.ref ca), .val (.int 3), .val (.ref bb), .val (.int 2), .val (.int 3), .val (.int 2), .val (.int z)]) rfl ?_
  refine g_iinc X13 hx hby dc43_35 rfl (x' := 3) rfl (l' := #[.val (.ref ca), .val (.int 3), .val (.ref bb), .val (.int 3), .val (.int 3), .val (.int 2), .val (.int z)]) rfl ?_
  refine g_iinc X13 hx hby dc43_38 rfl (x' := 3) rfl (l' := #[.val (.ref ca), .val (.int 3), .val (.ref bb), .val (.int 3), .val (.int 3), .val (.int 3), .val (.int z)]) rfl ?_
  refine g_goto X13 hx hby dc43_41 (pc0 := 41) (pc' := 3) rfl (by decide) (by decide) ?_
  refine g_iload X13 hx hby dc43_3 rfl ?_
  refine g_iload X13 hx hby dc43_5 rfl ?_
  refine g_icmpYes X13 hx hby dc43_7 (flt (by decide)).2.1 (pc0 := 7) (pc' := 44) rfl (by decide) (by decide) ?_
  show Go _ _ _ (T13.setTop (mkF mi 44 #[.val (.ref ca), .val (.int 3), .val (.ref bb), .val (.int 3), .val (.int 3), .val (.int 3), .val (.int z)] [])) _
  refine g_iload X13 hx hby dc43_44 rfl ?_
  obtain ⟨fs, hr, hrun, hended, hW, hsame⟩ := X13.leave (v := some (.int 3)) (fun h => by rw [Bd.returns] at h; cases h) (BodyLoose.notSynchronized Bd)
  refine ⟨_, _, ?_, hP _ _ ⟨hrun, hended, _, _, rfl, ?_, ⟨_, rfl⟩, hW, hsame.mono (by decide) (by decide)⟩⟩
  · exact retI X13 hx Bd.returns (hb hby dc43_46) hr
  · show (some (.int 3) : Option Value) = some (.int (3 : Int32)) ∧ Fr n0 _ ∧ Keep h0 T13.heap [bb] ∧ Arv Z T13.heap bb kb .byte (3 : Int32) [(.int x), (.int y), (.int z)] (.int (0 : Int32))
    rw [e13]
    exact ⟨rfl, N14, KC14, V13⟩
theorem dc44_0 : decode jdk_52_method_16_code 0 = .ok (.iload_n 2, 1) := by decide +kernel
theorem dc44_1 : decode jdk_52_method_16_code 1 = .ok (.newarray .byte, 2) := by decide +kernel
theorem dc44_3 : decode jdk_52_method_16_code 3 = .ok (.astore_n 3, 1) := by decide +kernel
theorem dc44_4 : decode jdk_52_method_16_code 4 = .ok (.aload_n 0, 1) := by decide +kernel
theorem dc44_5 : decode jdk_52_method_16_code 5 = .ok (.iload_n 1, 1) := by decide +kernel
theorem dc44_6 : decode jdk_52_method_16_code 6 = .ok (.aload_n 3, 1) := by decide +kernel
theorem dc44_7 : decode jdk_52_method_16_code 7 = .ok (.iconst 0, 1) := by decide +kernel
theorem dc44_8 : decode jdk_52_method_16_code 8 = .ok (.iload_n 2, 1) := by decide +kernel
theorem dc44_9 : decode jdk_52_method_16_code 9 = .ok (.invokestatic 115, 3) := by decide +kernel
theorem pd_32 : parseMethodDescriptor "([CI[BII)I" = some ⟨[(.array .char), .int, (.array .byte), .int, .int], some .int⟩ := by decide +kernel
theorem dc44_12 : decode jdk_52_method_16_code 12 = .ok (.istore 4, 2) := by decide +kernel
theorem dc44_14 : decode jdk_52_method_16_code 14 = .ok (.iload 4, 2) := by decide +kernel
theorem dc44_16 : decode jdk_52_method_16_code 16 = .ok (.iload_n 2, 1) := by decide +kernel
theorem dc44_17 : decode jdk_52_method_16_code 17 = .ok (.if_icmp .eq 40, 3) := by decide +kernel
theorem dc44_57 : decode jdk_52_method_16_code 57 = .ok (.aload_n 3, 1) := by decide +kernel
theorem dc44_58 : decode jdk_52_method_16_code 58 = .ok (.areturn, 1) := by decide +kernel
theorem ef_rmCp3 (mi : MethodId) (ca : Addr) (kc : ClassId) (x : Int32) (y : Int32) (z : Int32) : entryFrame mi #[(.ref ca), (.int 0), (.int 3)] 6 = mkF mi 0 #[.val (.ref ca), .val (.int 0), .val (.int 3), .unset, .unset, .unset] [] := by first | (simp [entryFrame, mkF, argsToLocals, Value.category]; done) | rfl
def Q_rmCp3 (Z : State) (ca : Addr) (kc : ClassId) (x : Int32) (y : Int32) (z : Int32) (h0 : Heap) (n0 : Nat) (vv_ : Option Value) (hh_ : Heap) (LL_ : List Loc) : Prop := ∃ (r : Addr) (kr : ClassId), vv_ = some (.ref r) ∧ Fr n0 LL_ ∧ Keep h0 hh_ [] ∧ h0.size ≤ r ∧ n0 ≤ r ∧ Arv Z hh_ r kr .byte (3 : Int32) [(.int x), (.int y), (.int z)] (.int (0 : Int32)) ∧ Exa Z hh_ r "[B"
set_option maxRecDepth 65536 in
set_option maxHeartbeats 40000000 in
theorem rmCp3 (l : Launch) (Z : State) (a0 : Array Value) (hw : ∀ d ∈ tables_1, d.before a0 Z = true) (ws : List Jvm.Cond) (ca : Addr) (kc : ClassId) (x : Int32) (y : Int32) (z : Int32) (h0 : Heap) (n0 : Nat) (Z0 : n0 ≤ h0.size) (CA0 : Arv Z h0 ca kc .char (3 : Int32) [(.int x), (.int y), (.int z)] (.int (0 : Int32))) (dx : Dig x) (dy : Dig y) (dz : Dig z) :
    MetFree l (⟨"java/lang/StringUTF16", "compress", "([CII)[B"⟩ : MethodName) (head1 (Jvm.Cond.code (⟨"java/lang/StringUTF16", "compress", "([CII)[B"⟩ : MethodName) jdk_52_method_16_code 6 (some (.array .byte)) :: ws) ({ frames := 1, cells := 1, slots := 3, locals := 18 } : Room)) (fun aa_ U => aa_ = #[(.ref ca), (.int 0), (.int 3)] ∧ Z.Warmed39 U.vm ∧ U.heap = h0) (fun _ _ _ _ _ => True) (fun _ U oo_ UV_ => ∃ vv_ LL_, oo_ = .returned vv_ ∧ Q_rmCp3 Z ca kc x y z h0 n0 vv_ UV_.heap LL_ ∧ FrameEnd U oo_ UV_ LL_ ({ frames := 1, cells := 1, slots := 3, locals := 18 } : Room).cells ({ frames := 1, cells := 1, slots := 3, locals := 18 } : Room).slots) := by
  refine MetFree.of_bodySF (plainFor_of_name pn_10) hisR ?_
  intro pg ev si mi args below meth ci s₁ Bd hml0 hP0 hK
  obtain ⟨rfl, hZ, hh⟩ := hP0
  have hx := Bd.exec
  have hby := Bd.bytes
  have hml : ci.maxLocals = 6 := hml0
  have hown : si.vm.findClass "java/lang/StringUTF16" = some mi.cls := findClass_of_methodNamed Bd.named
  have hnm := (name_of_methodNamed Bd.named Bd.method).1
  have X0 : Stand pg l ev ({ frames := 1, cells := 1, slots := 3, locals := 18 } : Room) si mi #[(.ref ca), (.int 0), (.int 3)] below meth ci s₁ [] 0 0 := Stand.of_body Bd
  have e0 : s₁.heap = h0 := by rw [← hh, Bd.state]; rfl
  have N0 := Fr.nil n0
  refine Go.start (fun P hP => ?_)
  refine Go.st (fun t_ k_ => castTop (ef_rmCp3 mi ca kc x y z) k_) (A := s₁.setTop (mkF mi 0 #[.val (.ref ca), .val (.int 0), .val (.int 3), .unset, .unset, .unset] [])) ?_
  show Go _ _ _ (s₁.setTop (mkF mi 0 #[.val (.ref ca), .val (.int 0), .val (.int 3), .unset, .unset, .unset] [])) _
  refine g_iloadN X0 hx hby dc44_0 rfl ?_
  obtain ⟨T1, h1, k1, X1, e1, E1, A1, EX1, st1⟩ := newPE X0 hx hZ (hw _ (own_m 9 rfl)) e0 (g := (mkF mi 1 #[.val (.ref ca), .val (.int 0), .val (.int 3), .unset, .unset, .unset] [(.int 3)])) rfl (hb hby dc44_1) rfl (by decide) (cap := 3) (by decide) (by decide) (by decide) (by decide) (ad := "[B") (by decide)
  obtain ⟨ob1, g1⟩ : ∃ z, z = h0.size := ⟨_, rfl⟩
  rw [← g1] at A1 EX1 st1
  have Zs2 : n0 ≤ h1.size := Nat.le_trans Z0 E1.1
  have KC2 : Keep h0 h1 [] := (Keep.refl h0 []).ext E1
  have g_ob1 : n0 ≤ ob1 := Nat.le_trans Z0 (Nat.le_of_eq g1.symm)
  have sz_ob1 : h0.size ≤ ob1 := Nat.le_trans (Keep.refl h0 []).1 (Nat.le_of_eq g1.symm)
  have V1 : Arv Z h1 ob1 k1 .byte (3 : Int32) [(.int (0 : Int32)), (.int (0 : Int32)), (.int (0 : Int32))] (.int (0 : Int32)) := (Arv.new A1 (by decide)).pad (pad_rep [] (.int (0 : Int32)) 3)
  refine Go.st st1 ?_
  refine g_astoreN X1 hx hby dc44_3 rfl (l' := #[.val (.ref ca), .val (.int 0), .val (.int 3), .val (.ref ob1), .unset, .unset]) rfl ?_
  refine g_aloadN X1 hx hby dc44_4 rfl rfl ?_
  refine g_iloadN X1 hx hby dc44_5 rfl ?_
  refine g_aloadN X1 hx hby dc44_6 rfl rfl ?_
  refine g_iconst X1 hx hby dc44_7 (v := 0) rfl ?_
  refine g_iloadN X1 hx hby dc44_8 rfl ?_
  have f4 := (CA0.ext E1)
  have ne_ca_ob1 : ca ≠ ob1 := Nat.ne_of_lt (Nat.lt_of_lt_of_le CA0.lt (Nat.le_of_eq g1.symm))
  obtain ⟨_, _, ⟨T3, L3, k3, n3⟩, -, X3, ⟨Lc3, hQ3, l3, y3, z3⟩, st3⟩ := Jvm.LawKit.callS X1 hx (y := (⟨"java/lang/StringUTF16", "compress", "([CI[BII)I"⟩ : MethodName)) hown (mvT hZ (hw _ (own_m 280 rfl))) (mvT hZ (hw _ (own_m 281 rfl))) (mvT hZ (hw _ (own_m 278 rfl))) (mvT hZ (hw _ (own_m 282 rfl))) (by decide) (backOf (W := 0) (rmCo3 l Z a0 hw [] ca ob1 kc x y z k1 h1 n0 Zs2 f4 V1 g_ob1 ne_ca_ob1 dx dy dz) hZ (hw _ (own_m 282 rfl)) (hw _ (own_m 278 rfl)) (by decide) (by decide)) (g := (mkF mi 9 #[.val (.ref ca), .val (.int 0), .val (.int 3), .val (.ref ob1), .unset, .unset] [(.int 3), (.int 0), (.ref ob1), (.int 0), (.ref ca)])) rfl (by rw [hml]; rfl) (argsL := [(.ref ca), (.int 0), (.ref ob1), (.int 0), (.int 3)]) (rest := []) (lenOf pd_32 rfl) rfl (by show 2 * 0 + _ ≤ _; exact Nat.le_of_eq rfl) (hb hby dc44_9) (fun _ _ => ⟨rfl, e1, (by decide : 1 + 0 ≤ _), (by decide : 3 + 0 ≤ _)⟩)
  dsimp only [Pt.U, Pt.locs, Pt.cells, Pt.slots] at X3 l3 y3 z3 st3 hQ3
  subst y3 z3
  have X3 := own_cs X3 (cells' := 1) (slots' := 3) rfl rfl
  obtain ⟨h3, e3⟩ : ∃ z, T3.heap = z := ⟨_, rfl⟩
  rw [e3] at hQ3
  obtain ⟨rfl, N3q, K3, VV_3⟩ := hQ3
  have N3 := own_fr l3 (Fr.app N0 N3q)
  have Zs5 : n0 ≤ h3.size := Nat.le_trans Zs2 K3.1
  have KC5 : Keep h0 h3 [] := KC2.trans K3 (allS (P := fun x => x ∈ [] ∨ h0.size ≤ x) (Or.inr sz_ob1) all0)
  refine Go.st st3 ?_
  refine g_istore X3 hx hby dc44_12 (l' := #[.val (.ref ca), .val (.int 0), .val (.int 3), .val (.ref ob1), .val (.int 3), .unset]) rfl ?_
  refine g_iload X3 hx hby dc44_14 rfl ?_
  refine g_iloadN X3 hx hby dc44_16 rfl ?_
  refine g_icmpYes X3 hx hby dc44_17 (teq rfl).1 (pc0 := 17) (pc' := 57) rfl (by decide) (by decide) ?_
  refine g_aloadN X3 hx hby dc44_57 rfl rfl ?_
  obtain ⟨fs, hr, hrun, hended, hW, hsame⟩ := X3.leave (v := some (.ref ob1)) (fun h => by rw [Bd.returns] at h; cases h) (BodyLoose.notSynchronized Bd)
  have f6 := (EX1.keep K3)
  refine ⟨_, _, ?_, hP _ _ ⟨hrun, hended, _, _, rfl, ?_, ⟨_, rfl⟩, hW, hsame.mono (by decide) (by decide)⟩⟩
  · exact retOut X3 hx Bd.returns rfl (Or.inr (Or.inr (Or.inr (Or.inr ⟨rfl, rfl, rfl⟩)))) (hb hby dc44_58) hr
  · show ∃ (r : Addr) (kr : ClassId), (some (.ref ob1) : Option Value) = some (.ref r) ∧ Fr n0 _ ∧ Keep h0 T3.heap [] ∧ h0.size ≤ r ∧ n0 ≤ r ∧ Arv Z T3.heap r kr .byte (3 : Int32) [(.int x), (.int y), (.int z)] (.int (0 : Int32)) ∧ Exa Z T3.heap r "[B"
    rw [e3]
    exact ⟨ob1, k1, rfl, N3, KC5, sz_ob1, g_ob1, VV_3, f6⟩
theorem dc45_0 : decode jdk_52_method_15_code 0 = .ok (.iload_n 1, 1) := by decide +kernel
theorem dc45_1 : decode jdk_52_method_15_code 1 = .ok (.aload_n 0, 1) := by decide +kernel
theorem dc45_2 : decode jdk_52_method_15_code 2 = .ok (.arraylength, 1) := by decide +kernel
theorem dc45_3 : decode jdk_52_method_15_code 3 = .ok (.isub, 1) := by decide +kernel
theorem dc45_4 : decode jdk_52_method_15_code 4 = .ok (.bipush 31, 2) := by decide +kernel
theorem dc45_6 : decode jdk_52_method_15_code 6 = .ok (.iushr, 1) := by decide +kernel
theorem dc45_7 : decode jdk_52_method_15_code 7 = .ok (.i2b, 1) := by decide +kernel
theorem dc45_8 : decode jdk_52_method_15_code 8 = .ok (.ireturn, 1) := by decide +kernel
theorem ef_rmCL3 (mi : MethodId) (bb : Addr) (kb : ClassId) (vs : List Value) : entryFrame mi #[(.ref bb), (.int 3)] 2 = mkF mi 0 #[.val (.ref bb), .val (.int 3)] [] := by first | (simp [entryFrame, mkF, argsToLocals, Value.category]; done) | rfl
def Q_rmCL3 (Z : State) (bb : Addr) (kb : ClassId) (vs : List Value) (h0 : Heap) (n0 : Nat) (vv_ : Option Value) (hh_ : Heap) (LL_ : List Loc) : Prop := vv_ = some (.int (0 : Int32)) ∧ Fr n0 LL_ ∧ hh_ = h0
set_option maxRecDepth 65536 in
set_option maxHeartbeats 40000000 in
theorem rmCL3 (l : Launch) (Z : State) (a0 : Array Value) (hw : ∀ d ∈ tables_1, d.before a0 Z = true) (ws : List Jvm.Cond) (bb : Addr) (kb : ClassId) (vs : List Value) (h0 : Heap) (n0 : Nat) (Z0 : n0 ≤ h0.size) (CB0 : Arv Z h0 bb kb .byte (3 : Int32) vs (.int (0 : Int32))) :
    MetFree l (⟨"java/lang/StringUTF16", "coderFromArrayLen", "([BI)B"⟩ : MethodName) (head1 (Jvm.Cond.code (⟨"java/lang/StringUTF16", "coderFromArrayLen", "([BI)B"⟩ : MethodName) jdk_52_method_15_code 2 (some .byte) :: ws) ({ frames := 0, cells := 0, slots := 0, locals := 0 } : Room)) (fun aa_ U => aa_ = #[(.ref bb), (.int 3)] ∧ Z.Warmed39 U.vm ∧ U.heap = h0) (fun _ _ _ _ _ => True) (fun _ U oo_ UV_ => ∃ vv_ LL_, oo_ = .returned vv_ ∧ Q_rmCL3 Z bb kb vs h0 n0 vv_ UV_.heap LL_ ∧ FrameEnd U oo_ UV_ LL_ ({ frames := 0, cells := 0, slots := 0, locals := 0 } : Room).cells ({ frames := 0, cells := 0, slots := 0, locals := 0 } : Room).slots) := by
  refine MetFree.of_bodySF (plainFor_of_name pn_10) hisR ?_
  intro pg ev si mi args below meth ci s₁ Bd hml0 hP0 hK
  obtain ⟨rfl, hZ, hh⟩ := hP0
  have hx := Bd.exec
  have hby := Bd.bytes
  have hml : ci.maxLocals = 2 := hml0
  have hown : si.vm.findClass "java/lang/StringUTF16" = some mi.cls := findClass_of_methodNamed Bd.named
  have hnm := (name_of_methodNamed Bd.named Bd.method).1
  have X0 : Stand pg l ev ({ frames := 0, cells := 0, slots := 0, locals := 0 } : Room) si mi #[(.ref bb), (.int 3)] below meth ci s₁ [] 0 0 := Stand.of_body Bd
  have e0 : s₁.heap = h0 := by rw [← hh, Bd.state]; rfl
  have N0 := Fr.nil n0
  refine Go.start (fun P hP => ?_)
  refine Go.st (fun t_ k_ => castTop (ef_rmCL3 mi bb kb vs) k_) (A := s₁.setTop (mkF mi 0 #[.val (.ref bb), .val (.int 3)] [])) ?_
  show Go _ _ _ (s₁.setTop (mkF mi 0 #[.val (.ref bb), .val (.int 3)] [])) _
  refine g_iloadN X0 hx hby dc45_0 rfl ?_
  refine g_aloadN X0 hx hby dc45_1 rfl rfl ?_
  have ov1 := CB0
  obtain ⟨cl1, Ar1, q1, S1, M1, H1, G1⟩ := ov1
  refine Go.st (X0.arraylength hx (by rw [e0]; exact Ar1.1) (State.isArrayOf_alike hZ.alike Ar1.2.1) (g := (mkF mi 2 #[.val (.ref bb), .val (.int 3)] [(.ref bb), (.int 3)])) rfl rfl (hb hby dc45_2)) ?_
  rw [len_of S1 M1]
  refine g_isub X0 hx hby dc45_3 (z := 0) rfl ?_
  refine g_bipush X0 hx hby dc45_4 (v := 31) rfl ?_
  refine Go.s (XS.iushr X0.here hx rfl (hb hby dc45_6) rfl) ?_
  refine g_i2b X0 hx hby dc45_7 (z := 0) rfl ?_
  obtain ⟨fs, hr, hrun, hended, hW, hsame⟩ := X0.leave (v := some (.int 0)) (fun h => by rw [Bd.returns] at h; cases h) (BodyLoose.notSynchronized Bd)
  refine ⟨_, _, ?_, hP _ _ ⟨hrun, hended, _, _, rfl, ?_, ⟨_, rfl⟩, hW, hsame.mono (by decide) (by decide)⟩⟩
  · exact retN X0 hx (t := .byte) Bd.returns (by simp) (hb hby dc45_8) hr
  · show (some (.int 0) : Option Value) = some (.int (0 : Int32)) ∧ Fr n0 _ ∧ s₁.heap = h0
    rw [e0]
    exact ⟨rfl, N0, rfl⟩
theorem dc46_0 : decode jdk_42_method_149_code 0 = .ok (.aload_n 0, 1) := by decide +kernel
theorem dc46_1 : decode jdk_42_method_149_code 1 = .ok (.invokespecial 1, 3) := by decide +kernel
theorem dc46_4 : decode jdk_42_method_149_code 4 = .ok (.iload_n 3, 1) := by decide +kernel
theorem dc46_5 : decode jdk_42_method_149_code 5 = .ok (.ifCond .ne 22, 3) := by decide +kernel
theorem dc46_27 : decode jdk_42_method_149_code 27 = .ok (.getstatic 38, 3) := by decide +kernel
theorem dc46_30 : decode jdk_42_method_149_code 30 = .ok (.ifCond .eq 28, 3) := by decide +kernel
theorem dc46_33 : decode jdk_42_method_149_code 33 = .ok (.aload_n 1, 1) := by decide +kernel
theorem dc46_34 : decode jdk_42_method_149_code 34 = .ok (.iload_n 2, 1) := by decide +kernel
theorem dc46_35 : decode jdk_42_method_149_code 35 = .ok (.iload_n 3, 1) := by decide +kernel
theorem dc46_36 : decode jdk_42_method_149_code 36 = .ok (.invokestatic 177, 3) := by decide +kernel
theorem pd_33 : parseMethodDescriptor "([CII)[B" = some ⟨[(.array .char), .int, .int], some (.array .byte)⟩ := by decide +kernel
theorem dc46_39 : decode jdk_42_method_149_code 39 = .ok (.astore 5, 2) := by decide +kernel
theorem dc46_41 : decode jdk_42_method_149_code 41 = .ok (.aload_n 0, 1) := by decide +kernel
theorem dc46_42 : decode jdk_42_method_149_code 42 = .ok (.aload 5, 2) := by decide +kernel
theorem dc46_44 : decode jdk_42_method_149_code 44 = .ok (.iload_n 3, 1) := by decide +kernel
theorem dc46_45 : decode jdk_42_method_149_code 45 = .ok (.invokestatic 47, 3) := by decide +kernel
theorem pd_34 : parseMethodDescriptor "([BI)B" = some ⟨[(.array .byte), .int], some .byte⟩ := by decide +kernel
theorem dc46_48 : decode jdk_42_method_149_code 48 = .ok (.putfield 15, 3) := by decide +kernel
theorem dc46_51 : decode jdk_42_method_149_code 51 = .ok (.aload_n 0, 1) := by decide +kernel
theorem dc46_52 : decode jdk_42_method_149_code 52 = .ok (.aload 5, 2) := by decide +kernel
theorem dc46_54 : decode jdk_42_method_149_code 54 = .ok (.putfield 9, 3) := by decide +kernel
theorem dc46_57 : decode jdk_42_method_149_code 57 = .ok (.return_, 1) := by decide +kernel
theorem ef_rmSV3 (mi : MethodId) (o : Addr) (ca : Addr) (kc : ClassId) (x : Int32) (y : Int32) (z : Int32) (cz : Int32) : entryFrame mi #[(.ref o), (.ref ca), (.int 0), (.int 3), .null] 6 = mkF mi 0 #[.val (.ref o), .val (.ref ca), .val (.int 0), .val (.int 3), .val .null, .unset] [] := by first | (simp [entryFrame, mkF, argsToLocals, Value.category]; done) | rfl
def Q_rmSV3 (Z : State) (o : Addr) (ca : Addr) (kc : ClassId) (x : Int32) (y : Int32) (z : Int32) (cz : Int32) (h0 : Heap) (n0 : Nat) (vv_ : Option Value) (hh_ : Heap) (LL_ : List Loc) : Prop := vv_ = none ∧ Fr n0 LL_ ∧ Keep h0 hh_ [o] ∧ ∃ (b : Addr) (kb : ClassId), Exa Z hh_ o "java/lang/String" ∧ Fld Z hh_ o "java/lang/String" "coder" "B" (.int (0 : Int32)) ∧ Fld Z hh_ o "java/lang/String" "value" "[B" (.ref b) ∧ Arv Z hh_ b kb .byte (3 : Int32) ([x, y, z].map Value.int) (.int (0 : Int32)) ∧ Exa Z hh_ b "[B"
set_option maxRecDepth 65536 in
set_option maxHeartbeats 40000000 in
theorem rmSV3 (l : Launch) (Z : State) (a0 : Array Value) (hw : ∀ d ∈ tables_1, d.before a0 Z = true) (ws : List Jvm.Cond) (o : Addr) (ca : Addr) (kc : ClassId) (x : Int32) (y : Int32) (z : Int32) (cz : Int32) (h0 : Heap) (n0 : Nat) (Z0 : n0 ≤ h0.size) (E0 : Exa Z h0 o "java/lang/String") (FS1 : Fld Z h0 o "java/lang/String" "coder" "B" (.int (0 : Int32))) (FS2 : Fld Z h0 o "java/lang/String" "value" "[B" .null) (g_o : n0 ≤ o) (CA0 : Arv Z h0 ca kc .char (3 : Int32) [(.int x), (.int y), (.int z)] (.int (0 : Int32))) (ne_o : ca ≠ o) (SC : Sta Z h0 "java/lang/String" "COMPACT_STRINGS" "Z" (.int cz)) (hcz : ¬ (cz = (0 : Int32))) (dx : Dig x) (dy : Dig y) (dz : Dig z) :
    MetFree l (⟨"java/lang/String", "<init>", "([CIILjava/lang/Void;)V"⟩ : MethodName) (head1 (Jvm.Cond.code (⟨"java/lang/String", "<init>", "([CIILjava/lang/Void;)V"⟩ : MethodName) jdk_42_method_149_code 6 none :: ws) ({ frames := 2, cells := 1, slots := 3, locals := 35 } : Room)) (fun aa_ U => aa_ = #[(.ref o), (.ref ca), (.int 0), (.int 3), .null] ∧ Z.Warmed39 U.vm ∧ U.heap = h0) (fun _ _ _ _ _ => True) (fun _ U oo_ UV_ => ∃ vv_ LL_, oo_ = .returned vv_ ∧ Q_rmSV3 Z o ca kc x y z cz h0 n0 vv_ UV_.heap LL_ ∧ FrameEnd U oo_ UV_ LL_ ({ frames := 2, cells := 1, slots := 3, locals := 35 } : Room).cells ({ frames := 2, cells := 1, slots := 3, locals := 35 } : Room).slots) := by
  refine MetFree.of_bodySF (plainFor_of_name pn_0) hisR ?_
  intro pg ev si mi args below meth ci s₁ Bd hml0 hP0 hK
  obtain ⟨rfl, hZ, hh⟩ := hP0
  have hx := Bd.exec
  have hby := Bd.bytes
  have hml : ci.maxLocals = 6 := hml0
  have hown : si.vm.findClass "java/lang/String" = some mi.cls := findClass_of_methodNamed Bd.named
  have hnm := (name_of_methodNamed Bd.named Bd.method).1
  have X0 : Stand pg l ev ({ frames := 2, cells := 1, slots := 3, locals := 35 } : Room) si mi #[(.ref o), (.ref ca), (.int 0), (.int 3), .null] below meth ci s₁ [] 0 0 := Stand.of_body Bd
  have e0 : s₁.heap = h0 := by rw [← hh, Bd.state]; rfl
  have N0 := Fr.nil n0
  refine Go.start (fun P hP => ?_)
  refine Go.st (fun t_ k_ => castTop (ef_rmSV3 mi o ca kc x y z cz) k_) (A := s₁.setTop (mkF mi 0 #[.val (.ref o), .val (.ref ca), .val (.int 0), .val (.int 3), .val .null, .unset] [])) ?_
  show Go _ _ _ (s₁.setTop (mkF mi 0 #[.val (.ref o), .val (.ref ca), .val (.int 0), .val (.int 3), .val .null, .unset] [])) _
  refine g_aloadN X0 hx hby dc46_0 rfl rfl ?_
  obtain ⟨T1, X1, e1, st1⟩ := initO X0 hx hZ hown (hw _ (own_m 178 rfl)) (hw _ (own_m 18 rfl)) (hw _ (own_m 19 rfl)) e0 (g := (mkF mi 1 #[.val (.ref o), .val (.ref ca), .val (.int 0), .val (.int 3), .val .null, .unset] [(.ref o)])) rfl (by rw [hml]; rfl) rfl (hb hby dc46_1) (by decide) (W := 0) (by show 2 * 0 + _ ≤ _; exact Nat.le_of_eq rfl) (by decide)
  refine Go.st st1 ?_
  refine g_iloadN X1 hx hby dc46_4 rfl ?_
  refine g_ifYes X1 hx hby dc46_5 ((if0 _ _).trans (feq (by decide)).2) (pc0 := 5) (pc' := 27) rfl (by decide) (by decide) ?_
  obtain ⟨T2, X2, e2, st2⟩ := getS2 X1 hx hZ hown (host := "") (Or.inl (hw _ (own_m 46 rfl))) Via.refl e1 SC (g := (mkF mi 27 #[.val (.ref o), .val (.ref ca), .val (.int 0), .val (.int 3), .val .null, .unset] [])) rfl (hb hby dc46_27)
  refine Go.st st2 ?_
  refine g_ifNo X2 hx hby dc46_30 ((if0 _ _).trans (feq hcz).1) ?_
  refine g_aloadN X2 hx hby dc46_33 rfl rfl ?_
  refine g_iloadN X2 hx hby dc46_34 rfl ?_
  refine g_iloadN X2 hx hby dc46_35 rfl ?_
  obtain ⟨_, _, ⟨T3, L3, k3, n3⟩, -, X3, ⟨Lc3, hQ3, l3, y3, z3⟩, st3⟩ := Jvm.LawKit.callS X2 hx (y := (⟨"java/lang/StringUTF16", "compress", "([CII)[B"⟩ : MethodName)) hown (mvT hZ (hw _ (own_m 276 rfl))) (mvT hZ (hw _ (own_m 277 rfl))) (mvT hZ (hw _ (own_m 278 rfl))) (mvT hZ (hw _ (own_m 279 rfl))) (by decide) (backOf (W := 0) (rmCp3 l Z a0 hw [] ca kc x y z h0 n0 Z0 CA0 dx dy dz) hZ (hw _ (own_m 279 rfl)) (hw _ (own_m 278 rfl)) (by decide) (by decide)) (g := (mkF mi 36 #[.val (.ref o), .val (.ref ca), .val (.int 0), .val (.int 3), .val .null, .unset] [(.int 3), (.int 0), (.ref ca)])) rfl (by rw [hml]; rfl) (argsL := [(.ref ca), (.int 0), (.int 3)]) (rest := []) (lenOf pd_33 rfl) rfl (by show 2 * 0 + _ ≤ _; exact Nat.le_of_eq rfl) (hb hby dc46_36) (fun _ _ => ⟨rfl, e2, (by decide : 0 + 1 ≤ _), (by decide : 0 + 3 ≤ _)⟩)
  dsimp only [Pt.U, Pt.locs, Pt.cells, Pt.slots] at X3 l3 y3 z3 st3 hQ3
  subst y3 z3
  have X3 := own_cs X3 (cells' := 1) (slots' := 3) rfl rfl
  obtain ⟨h3, e3⟩ : ∃ z, T3.heap = z := ⟨_, rfl⟩
  rw [e3] at hQ3
  obtain ⟨r3, kr3, rfl, N3q, K3, z_r3, g_r3, V_r3, E_r3⟩ := hQ3
  have N3 := own_fr l3 (Fr.app N0 N3q)
  have Zs4 : n0 ≤ h3.size := Nat.le_trans Z0 K3.1
  have KC4 : Keep h0 h3 [o] := (Keep.refl h0 [o]).trans K3 all0
  have sz_r3 : h0.size ≤ r3 := Nat.le_trans (Keep.refl h0 [o]).1 z_r3
  refine Go.st st3 ?_
  refine g_astore X3 hx hby dc46_39 rfl (l' := #[.val (.ref o), .val (.ref ca), .val (.int 0), .val (.int 3), .val .null, .val (.ref r3)]) rfl ?_
  refine g_aloadN X3 hx hby dc46_41 rfl rfl ?_
  refine g_aload X3 hx hby dc46_42 rfl rfl ?_
  refine g_iloadN X3 hx hby dc46_44 rfl ?_
  obtain ⟨_, _, ⟨T5, L5, k5, n5⟩, -, X5, ⟨Lc5, hQ5, l5, y5, z5⟩, st5⟩ := Jvm.LawKit.callS X3 hx (y := (⟨"java/lang/StringUTF16", "coderFromArrayLen", "([BI)B"⟩ : MethodName)) hown (mvT hZ (hw _ (own_m 283 rfl))) (mvT hZ (hw _ (own_m 284 rfl))) (mvT hZ (hw _ (own_m 278 rfl))) (mvT hZ (hw _ (own_m 285 rfl))) (by decide) (backOf (W := 1) (rmCL3 l Z a0 hw [] r3 kr3 [(.int x), (.int y), (.int z)] h3 n0 Zs4 V_r3) hZ (hw _ (own_m 285 rfl)) (hw _ (own_m 278 rfl)) (by decide) (by decide)) (g := (mkF mi 45 #[.val (.ref o), .val (.ref ca), .val (.int 0), .val (.int 3), .val .null, .val (.ref r3)] [(.int 3), (.ref r3), (.ref o)])) rfl (by rw [hml]; rfl) (argsL := [(.ref r3), (.int 3)]) (rest := [(.ref o)]) (lenOf pd_34 rfl) rfl (by show 2 * 0 + _ ≤ _; exact Nat.le_of_eq rfl) (hb hby dc46_45) (fun _ _ => ⟨rfl, e3, (by decide : 1 + 0 ≤ _), (by decide : 3 + 0 ≤ _)⟩)
  dsimp only [Pt.U, Pt.locs, Pt.cells, Pt.slots] at X5 l5 y5 z5 st5 hQ5
  subst y5 z5
  have X5 := own_cs X5 (cells' := 1) (slots' := 3) rfl rfl
  obtain ⟨rfl, N5q, e5⟩ := hQ5
  have N5 := own_fr l5 (Fr.app N3 N5q)
  refine Go.st st5 ?_
  have f6 := (FS1.keep K3 nin0)
  have f7 := (E0.keep K3)
  obtain ⟨T8, h8, X8, e8, W8, st8⟩ := putFN X5 hx hZ hown (hw _ (own_m 47 rfl)) Via.refl e5 f6 f7 (Or.inr ⟨(hw _ (own_m 11 rfl)), rfl, hnm⟩) (hw _ (own_m 8 rfl)) (ty := .byte) (v' := (.int 0)) (by decide) rfl (by decide) (g := (mkF mi 48 #[.val (.ref o), .val (.ref ca), .val (.int 0), .val (.int 3), .val .null, .val (.ref r3)] [(.int 0), (.ref o)])) rfl rfl (hb hby dc46_48)
  have Zs9 : n0 ≤ h8.size := Nat.le_trans Zs4 (Keep.of_wr W8).1
  have KC9 : Keep h0 h8 [o] := KC4.wr W8 (Or.inl (List.mem_of_getElem? (i := 0) rfl))
  have N9 := Fr.snoc X8 N5 g_o
  have F8 : Fld Z h8 o "java/lang/String" "coder" "B" (.int 0) := f6.same W8
  refine Go.st st8 ?_
  refine g_aloadN X8 hx hby dc46_51 rfl rfl ?_
  refine g_aload X8 hx hby dc46_52 rfl rfl ?_
  have f10 := ((FS2.keep K3 nin0).other W8 (Or.inr (slot_ne (Or.inr (hw _ (own_m 10 rfl))) (Or.inr (hw _ (own_m 11 rfl))) (by decide) (t := (.array .byte)) (t' := .byte) (by decide) (by decide))))
  have f11 := (f7.wr W8)
  obtain ⟨T12, h12, X12, e12, W12, st12⟩ := putF X8 hx hZ hown (host := "") (Or.inl (hw _ (own_m 48 rfl))) Via.refl e8 f10 f11 (Or.inr ⟨(hw _ (own_m 10 rfl)), rfl, hnm⟩) (hw _ (own_m 8 rfl)) (ty := (.array .byte)) (by decide) rfl rfl (g := (mkF mi 54 #[.val (.ref o), .val (.ref ca), .val (.int 0), .val (.int 3), .val .null, .val (.ref r3)] [(.ref r3), (.ref o)])) rfl rfl (hb hby dc46_54)
  have Zs13 : n0 ≤ h12.size := Nat.le_trans Zs9 (Keep.of_wr W12).1
  have KC13 : Keep h0 h12 [o] := KC9.wr W12 (Or.inl (List.mem_of_getElem? (i := 0) rfl))
  have N13 := Fr.snoc X12 N9 g_o
  have F12 : Fld Z h12 o "java/lang/String" "value" "[B" (.ref r3) := f10.same W12
  refine Go.st st12 ?_
  obtain ⟨fs, hr, hrun, hended, hW, hsame⟩ := X12.leave (v := none) (fun _ => rfl) (BodyLoose.notSynchronized Bd)
  have f14 := (f11.wr W12)
  have f15 := (F8.other W12 (Or.inr (slot_ne (Or.inr (hw _ (own_m 11 rfl))) (Or.inr (hw _ (own_m 10 rfl))) (by decide) (t := .byte) (t' := (.array .byte)) (by decide) (by decide))))
  have ne_o_r3 : o ≠ r3 := Nat.ne_of_lt (Nat.lt_of_lt_of_le E0.lt z_r3)
  have f16 := ((V_r3.other W8 (Ne.symm ne_o_r3)).other W12 (Ne.symm ne_o_r3))
  have f17 := ((E_r3.wr W8).wr W12)
  refine ⟨_, _, ?_, hP _ _ ⟨hrun, hended, _, _, rfl, ?_, ⟨_, rfl⟩, hW, hsame.mono (by decide) (by decide)⟩⟩
  · exact X12.returnOut hx Bd.returns (hb hby dc46_57) hr
  · show (none : Option Value) = none ∧ Fr n0 _ ∧ Keep h0 T12.heap [o] ∧ ∃ (b : Addr) (kb : ClassId), Exa Z T12.heap o "java/lang/String" ∧ Fld Z T12.heap o "java/lang/String" "coder" "B" (.int (0 : Int32)) ∧ Fld Z T12.heap o "java/lang/String" "value" "[B" (.ref b) ∧ Arv Z T12.heap b kb .byte (3 : Int32) ([x, y, z].map Value.int) (.int (0 : Int32)) ∧ Exa Z T12.heap b "[B"
    rw [e12]
    exact ⟨rfl, N13, KC13, r3, kr3, f14, f15, F12, f16, f17⟩
theorem dc47_0 : decode jdk_42_method_3_code 0 = .ok (.aload_n 0, 1) := by decide +kernel
theorem dc47_1 : decode jdk_42_method_3_code 1 = .ok (.aload_n 1, 1) := by decide +kernel
theorem dc47_2 : decode jdk_42_method_3_code 2 = .ok (.iconst 0, 1) := by decide +kernel
theorem dc47_3 : decode jdk_42_method_3_code 3 = .ok (.aload_n 1, 1) := by decide +kernel
theorem dc47_4 : decode jdk_42_method_3_code 4 = .ok (.arraylength, 1) := by decide +kernel
theorem dc47_5 : decode jdk_42_method_3_code 5 = .ok (.aconst_null, 1) := by decide +kernel
theorem dc47_6 : decode jdk_42_method_3_code 6 = .ok (.invokespecial 27, 3) := by decide +kernel
theorem pd_35 : parseMethodDescriptor "([CIILjava/lang/Void;)V" = some ⟨[(.array .char), .int, .int, (.object "java/lang/Void")], none⟩ := by decide +kernel
theorem dc47_9 : decode jdk_42_method_3_code 9 = .ok (.return_, 1) := by decide +kernel
theorem ef_rmSC3 (mi : MethodId) (o : Addr) (ca : Addr) (kc : ClassId) (x : Int32) (y : Int32) (z : Int32) (cz : Int32) : entryFrame mi #[(.ref o), (.ref ca)] 2 = mkF mi 0 #[.val (.ref o), .val (.ref ca)] [] := by first | (simp [entryFrame, mkF, argsToLocals, Value.category]; done) | rfl
def Q_rmSC3 (Z : State) (o : Addr) (ca : Addr) (kc : ClassId) (x : Int32) (y : Int32) (z : Int32) (cz : Int32) (h0 : Heap) (n0 : Nat) (vv_ : Option Value) (hh_ : Heap) (LL_ : List Loc) : Prop := vv_ = none ∧ Fr n0 LL_ ∧ Keep h0 hh_ [o] ∧ ∃ (b : Addr) (kb : ClassId), Exa Z hh_ o "java/lang/String" ∧ Fld Z hh_ o "java/lang/String" "coder" "B" (.int (0 : Int32)) ∧ Fld Z hh_ o "java/lang/String" "value" "[B" (.ref b) ∧ Arv Z hh_ b kb .byte (3 : Int32) ([x, y, z].map Value.int) (.int (0 : Int32)) ∧ Exa Z hh_ b "[B"
set_option maxRecDepth 65536 in
set_option maxHeartbeats 40000000 in
theorem rmSC3 (l : Launch) (Z : State) (a0 : Array Value) (hw : ∀ d ∈ tables_1, d.before a0 Z = true) (ws : List Jvm.Cond) (o : Addr) (ca : Addr) (kc : ClassId) (x : Int32) (y : Int32) (z : Int32) (cz : Int32) (h0 : Heap) (n0 : Nat) (Z0 : n0 ≤ h0.size) (E0 : Exa Z h0 o "java/lang/String") (FS1 : Fld Z h0 o "java/lang/String" "coder" "B" (.int (0 : Int32))) (FS2 : Fld Z h0 o "java/lang/String" "value" "[B" .null) (g_o : n0 ≤ o) (CA0 : Arv Z h0 ca kc .char (3 : Int32) [(.int x), (.int y), (.int z)] (.int (0 : Int32))) (ne_o : ca ≠ o) (SC : Sta Z h0 "java/lang/String" "COMPACT_STRINGS" "Z" (.int cz)) (hcz : ¬ (cz = (0 : Int32))) (dx : Dig x) (dy : Dig y) (dz : Dig z) :
    MetFree l (⟨"java/lang/String", "<init>", "([C)V"⟩ : MethodName) (head1 (Jvm.Cond.code (⟨"java/lang/String", "<init>", "([C)V"⟩ : MethodName) jdk_42_method_3_code 2 none :: ws) ({ frames := 3, cells := 1, slots := 3, locals := 52 } : Room)) (fun aa_ U => aa_ = #[(.ref o), (.ref ca)] ∧ Z.Warmed39 U.vm ∧ U.heap = h0) (fun _ _ _ _ _ => True) (fun _ U oo_ UV_ => ∃ vv_ LL_, oo_ = .returned vv_ ∧ Q_rmSC3 Z o ca kc x y z cz h0 n0 vv_ UV_.heap LL_ ∧ FrameEnd U oo_ UV_ LL_ ({ frames := 3, cells := 1, slots := 3, locals := 52 } : Room).cells ({ frames := 3, cells := 1, slots := 3, locals := 52 } : Room).slots) := by
  refine MetFree.of_bodySF (plainFor_of_name pn_0) hisR ?_
  intro pg ev si mi args below meth ci s₁ Bd hml0 hP0 hK
  obtain ⟨rfl, hZ, hh⟩ := hP0
  have hx := Bd.exec
  have hby := Bd.bytes
  have hml : ci.maxLocals = 2 := hml0
  have hown : si.vm.findClass "java/lang/String" = some mi.cls := findClass_of_methodNamed Bd.named
  have hnm := (name_of_methodNamed Bd.named Bd.method).1
  have X0 : Stand pg l ev ({ frames := 3, cells := 1, slots := 3, locals := 52 } : Room) si mi #[(.ref o), (.ref ca)] below meth ci s₁ [] 0 0 := Stand.of_body Bd
  have e0 : s₁.heap = h0 := by rw [← hh, Bd.state]; rfl
  have N0 := Fr.nil n0
  refine Go.start (fun P hP => ?_)
  refine Go.st (fun t_ k_ => castTop (ef_rmSC3 mi o ca kc x y z cz) k_) (A := s₁.setTop (mkF mi 0 #[.val (.ref o), .val (.ref ca)] [])) ?_
  show Go _ _ _ (s₁.setTop (mkF mi 0 #[.val (.ref o), .val (.ref ca)] [])) _
  refine g_aloadN X0 hx hby dc47_0 rfl rfl ?_
  refine g_aloadN X0 hx hby dc47_1 rfl rfl ?_
  refine g_iconst X0 hx hby dc47_2 (v := 0) rfl ?_
  refine g_aloadN X0 hx hby dc47_3 rfl rfl ?_
  have ov1 := CA0
  obtain ⟨cl1, Ar1, q1, S1, M1, H1, G1⟩ := ov1
  refine Go.st (X0.arraylength hx (by rw [e0]; exact Ar1.1) (State.isArrayOf_alike hZ.alike Ar1.2.1) (g := (mkF mi 4 #[.val (.ref o), .val (.ref ca)] [(.ref ca), (.int 0), (.ref ca), (.ref o)])) rfl rfl (hb hby dc47_4)) ?_
  rw [len_of S1 M1]
  refine Go.s (XS.aconstNull X0.here hx rfl (hb hby dc47_5)) ?_
  obtain ⟨_, _, ⟨T2, L2, k2, n2⟩, -, X2, ⟨Lc2, hQ2, l2, y2, z2⟩, st2⟩ := X0.specialBack hx (y := (⟨"java/lang/String", "<init>", "([CIILjava/lang/Void;)V"⟩ : MethodName)) rfl hown (mvT hZ (hw _ (own_m 273 rfl))) (mvT hZ (hw _ (own_m 274 rfl))) (mvT hZ (hw _ (own_m 275 rfl))) (by decide) (backOf (W := 0) (rmSV3 l Z a0 hw [] o ca kc x y z cz h0 n0 Z0 E0 FS1 FS2 g_o CA0 ne_o SC hcz dx dy dz) hZ (hw _ (own_m 275 rfl)) (hw _ (own_m 7 rfl)) (by decide) (by decide)) (g := (mkF mi 6 #[.val (.ref o), .val (.ref ca)] [.null, (.int 3), (.int 0), (.ref ca), (.ref o)])) rfl (by rw [hml]; rfl) (Steps.refl _) (a := o) (argsL := [(.ref ca), (.int 0), (.int 3), .null]) (rest := []) (lenOf pd_35 rfl) rfl (by show 2 * 0 + _ ≤ _; exact Nat.le_of_eq rfl) (hb hby dc47_6) (fun _ _ => ⟨rfl, e0, (by decide : 0 + 1 ≤ _), (by decide : 0 + 3 ≤ _)⟩)
  dsimp only [Pt.U, Pt.locs, Pt.cells, Pt.slots] at X2 l2 y2 z2 st2 hQ2
  subst y2 z2
  have X2 := own_cs X2 (cells' := 1) (slots' := 3) rfl rfl
  obtain ⟨h2, e2⟩ : ∃ z, T2.heap = z := ⟨_, rfl⟩
  rw [e2] at hQ2
  obtain ⟨rfl, N2q, K2, sb2, sk2, SE2, SCo2, SVa2, SAr2, SEb2⟩ := hQ2
  have N2 := own_fr l2 (Fr.app N0 N2q)
  have Zs3 : n0 ≤ h2.size := Nat.le_trans Z0 K2.1
  have KC3 : Keep h0 h2 [o] := (Keep.refl h0 [o]).trans K2 (allS (P := fun x => x ∈ [o] ∨ h0.size ≤ x) (Or.inl (List.mem_of_getElem? (i := 0) rfl)) all0)
  refine Go.tr st2 ?_
  obtain ⟨fs, hr, hrun, hended, hW, hsame⟩ := X2.leave (v := none) (fun _ => rfl) (BodyLoose.notSynchronized Bd)
  refine ⟨_, _, ?_, hP _ _ ⟨hrun, hended, _, _, rfl, ?_, ⟨_, rfl⟩, hW, hsame.mono (by decide) (by decide)⟩⟩
  · exact X2.returnOut hx Bd.returns (hb hby dc47_9) hr
  · show (none : Option Value) = none ∧ Fr n0 _ ∧ Keep h0 T2.heap [o] ∧ ∃ (b : Addr) (kb : ClassId), Exa Z T2.heap o "java/lang/String" ∧ Fld Z T2.heap o "java/lang/String" "coder" "B" (.int (0 : Int32)) ∧ Fld Z T2.heap o "java/lang/String" "value" "[B" (.ref b) ∧ Arv Z T2.heap b kb .byte (3 : Int32) ([x, y, z].map Value.int) (.int (0 : Int32)) ∧ Exa Z T2.heap b "[B"
    rw [e2]
    exact ⟨rfl, N2, KC3, sb2, sk2, SE2, SCo2, SVa2, SAr2, SEb2⟩
theorem ef_rmCo2 (mi : MethodId) (ca : Addr) (bb : Addr) (kc : ClassId) (x : Int32) (y : Int32) (kb : ClassId) : entryFrame mi #[(.ref ca), (.int 0), (.ref bb), (.int 0), (.int 2)] 7 = mkF mi 0 #[.val (.ref ca), .val (.int 0), .val (.ref bb), .val (.int 0), .val (.int 2), .unset, .unset] [] := by first | (simp [entryFrame, mkF, argsToLocals, Value.category]; done) | rfl
def Q_rmCo2 (Z : State) (ca : Addr) (bb : Addr) (kc : ClassId) (x : Int32) (y : Int32) (kb : ClassId) (h0 : Heap) (n0 : Nat) (vv_ : Option Value) (hh_ : Heap) (LL_ : List Loc) : Prop := vv_ = some (.int (2 : Int32)) ∧ Fr n0 LL_ ∧ Keep h0 hh_ [bb] ∧ Arv Z hh_ bb kb .byte (2 : Int32) [(.int x), (.int y)] (.int (0 : Int32))
set_option maxRecDepth 65536 in
set_option maxHeartbeats 40000000 in
theorem rmCo2 (l : Launch) (Z : State) (a0 : Array Value) (hw : ∀ d ∈ tables_1, d.before a0 Z = true) (ws : List Jvm.Cond) (ca : Addr) (bb : Addr) (kc : ClassId) (x : Int32) (y : Int32) (kb : ClassId) (h0 : Heap) (n0 : Nat) (Z0 : n0 ≤ h0.size) (CA0 : Arv Z h0 ca kc .char (2 : Int32) [(.int x), (.int y)] (.int (0 : Int32))) (CB0 : Arv Z h0 bb kb .byte (2 : Int32) [(.int (0 : Int32)), (.int (0 : Int32))] (.int (0 : Int32))) (g_b : n0 ≤ bb) (ne_b : ca ≠ bb) (dx : Dig x) (dy : Dig y) :
    MetFree l (⟨"java/lang/StringUTF16", "compress", "([CI[BII)I"⟩ : MethodName) (head1 (Jvm.Cond.code (⟨"java/lang/StringUTF16", "compress", "([CI[BII)I"⟩ : MethodName) jdk_52_method_21_code 7 (some .int) :: ws) ({ frames := 0, cells := 0, slots := 0, locals := 0 } : Room)) (fun aa_ U => aa_ = #[(.ref ca), (.int 0), (.ref bb), (.int 0), (.int 2)] ∧ Z.Warmed39 U.vm ∧ U.heap = h0) (fun _ _ _ _ _ => True) (fun _ U oo_ UV_ => ∃ vv_ LL_, oo_ = .returned vv_ ∧ Q_rmCo2 Z ca bb kc x y kb h0 n0 vv_ UV_.heap LL_ ∧ FrameEnd U oo_ UV_ LL_ ({ frames := 0, cells := 0, slots := 0, locals := 0 } : Room).cells ({ frames := 0, cells := 0, slots := 0, locals := 0 } : Room).slots) := by
  refine MetFree.of_bodySF (plainFor_of_name pn_10) hisR ?_
  intro pg ev si mi args below meth ci s₁ Bd hml0 hP0 hK
  obtain ⟨rfl, hZ, hh⟩ := hP0
  have hx := Bd.exec
  have hby := Bd.bytes
  have hml : ci.maxLocals = 7 := hml0
  have hown : si.vm.findClass "java/lang/StringUTF16" = some mi.cls := findClass_of_methodNamed Bd.named
  have hnm := (name_of_methodNamed Bd.named Bd.method).1
  have X0 : Stand pg l ev ({ frames := 0, cells := 0, slots := 0, locals := 0 } : Room) si mi #[(.ref ca), (.int 0), (.ref bb), (.int 0), (.int 2)] below meth ci s₁ [] 0 0 := Stand.of_body Bd
  have e0 : s₁.heap = h0 := by rw [← hh, Bd.state]; rfl
  have N0 := Fr.nil n0
  refine Go.start (fun P hP => ?_)
  refine Go.st (fun t_ k_ => castTop (ef_rmCo2 mi ca bb kc x y kb) k_) (A := s₁.setTop (mkF mi 0 #[.val (.ref ca), .val (.int 0), .val (.ref bb), .val (.int 0), .val (.int 2), .unset, .unset] [])) ?_
  show Go _ _ _ (s₁.setTop (mkF mi 0 #[.val (.ref ca), .val (.int 0), .val (.ref bb), .val (.int 0), .val (.int 2), .unset, .unset] [])) _
  refine g_iconst X0 hx hby dc43_0 (v := 0) rfl ?_
  refine g_istore X0 hx hby dc43_1 (l' := #[.val (.ref ca), .val (.int 0), .val (.ref bb), .val (.int 0), .val (.int 2), .val (.int 0), .unset]) rfl ?_
  refine g_iload X0 hx hby dc43_3 rfl ?_
  refine g_iload X0 hx hby dc43_5 rfl ?_
  refine g_icmpNo X0 hx hby dc43_7 (tlt (by decide)).2.1 ?_
  refine g_aloadN X0 hx hby dc43_10 rfl rfl ?_
  refine g_iloadN X0 hx hby dc43_11 rfl ?_
  have ov1 := CA0
  obtain ⟨cl1, Ar1, q1, S1, M1, H1, G1⟩ := ov1
  have hin1 : ¬ ((0 : Int32) < 0 ∨ cl1.slots.size ≤ ((0 : Int32)).toNatClampNeg) := inb_of S1 ⟨by decide, by decide⟩
  have hat1 : cl1.slots[((0 : Int32)).toNatClampNeg]? = some (.int x) := Has.at H1 hin1 rfl
  refine Go.st (X0.caload hx (j := (0 : Int32)) (v := (.int x)) (by rw [e0]; exact Ar1.1) (State.isArrayOf_alike hZ.alike Ar1.2.1) Ar1.2.2 hin1 hat1 (g := (mkF mi 12 #[.val (.ref ca), .val (.int 0), .val (.ref bb), .val (.int 0), .val (.int 2), .val (.int 0), .unset] [(.int 0), (.ref ca)])) rfl rfl (hb hby dc43_12)) ?_
  refine g_istore X0 hx hby dc43_13 (l' := #[.val (.ref ca), .val (.int 0), .val (.ref bb), .val (.int 0), .val (.int 2), .val (.int 0), .val (.int x)]) rfl ?_
  refine g_iload X0 hx hby dc43_15 rfl ?_
  refine g_sipush X0 hx hby dc43_17 (v := 255) rfl ?_
  refine g_icmpYes X0 hx hby dc43_20 (flt (own_dg255 dx)).2.2.2 (pc0 := 20) (pc' := 26) rfl (by decide) (by decide) ?_
  refine g_aloadN X0 hx hby dc43_26 rfl rfl ?_
  refine g_iloadN X0 hx hby dc43_27 rfl ?_
  refine g_iload X0 hx hby dc43_28 rfl ?_
  refine g_i2b X0 hx hby dc43_30 rfl ?_
  have ov2 := CB0
  obtain ⟨cl2, Ar2, q2, S2, M2, H2, G2⟩ := ov2
  have hin2 : ¬ ((0 : Int32) < 0 ∨ cl2.slots.size ≤ ((0 : Int32)).toNatClampNeg) := inb_of S2 ⟨by decide, by decide⟩
  obtain ⟨T3, h3, X3, e3, W3, st3⟩ := stB X0 hx hZ e0 Ar2 (j := (0 : Int32)) hin2 (g := (mkF mi 31 #[.val (.ref ca), .val (.int 0), .val (.ref bb), .val (.int 0), .val (.int 2), .val (.int 0), .val (.int x)] [(.int (x.toInt8.toInt32)), (.int 0), (.ref bb)])) rfl rfl (hb hby dc43_31)
  have Zs4 : n0 ≤ h3.size := Nat.le_trans Z0 (Keep.of_wr W3).1
  have KC4 : Keep h0 h3 [bb] := (Keep.refl h0 [bb]).wr W3 (Or.inl (List.mem_of_getElem? (i := 0) rfl))
  have N4 := Fr.snoc X3 N0 g_b
  have V3 : Arv Z h3 bb kb .byte (2 : Int32) [(.int ((x.toInt8.toInt32).toInt8.toInt32)), (.int 0)] (.int (0 : Int32)) := Arv.set Ar2 q2 S2 M2 H2 G2 (fits_nar_byte _) W3 0 rfl (Nat.le_of_ble_eq_true rfl)
  rw [own_bb, own_dgb dx] at V3
  refine Go.st st3 ?_
  refine g_iinc X3 hx hby dc43_32 rfl (x' := 1) rfl (l' := #[.val (.ref ca), .val (.int 1), .val (.ref bb), .val (.int 0), .val (.int 2), .val (.int 0), .val (.int x)]) rfl ?_
  refine g_iinc X3 hx hby dc43_35 rfl (x' := 1) rfl (l' := #[.val (.ref ca), .val (.int 1), .val (.ref bb), .val (.int 1), .val (.int 2), .val (.int 0), .val (.int x)]) rfl ?_
  refine g_iinc X3 hx hby dc43_38 rfl (x' := 1) rfl (l' := #[.val (.ref ca), .val (.int 1), .val (.ref bb), .val (.int 1), .val (.int 2), .val (.int 1), .val (.int x)]) rfl ?_
  refine g_goto X3 hx hby dc43_41 (pc0 := 41) (pc' := 3) rfl (by decide) (by decide) ?_
  refine g_iload X3 hx hby dc43_3 rfl ?_
  refine g_iload X3 hx hby dc43_5 rfl ?_
  refine g_icmpNo X3 hx hby dc43_7 (tlt (by decide)).2.1 ?_
  refine g_aloadN X3 hx hby dc43_10 rfl rfl ?_
  refine g_iloadN X3 hx hby dc43_11 rfl ?_
  have f5 := (CA0.other W3 ne_b)
  have ov6 := f5
  obtain ⟨cl6, Ar6, q6, S6, M6, H6, G6⟩ := ov6
  have hin6 : ¬ ((1 : Int32) < 0 ∨ cl6.slots.size ≤ ((1 : Int32)).toNatClampNeg) := inb_of S6 ⟨by decide, by decide⟩
  have hat6 : cl6.slots[((1 : Int32)).toNatClampNeg]? = some (.int y) := Has.at H6 hin6 rfl
  refine Go.st (X3.caload hx (j := (1 : Int32)) (v := (.int y)) (by rw [e3]; exact Ar6.1) (State.isArrayOf_alike hZ.alike Ar6.2.1) Ar6.2.2 hin6 hat6 (g := (mkF mi 12 #[.val (.ref ca), .val (.int 1), .val (.ref bb), .val (.int 1), .val (.int 2), .val (.int 1), .val (.int x)] [(.int 1), (.ref ca)])) rfl rfl (hb hby dc43_12)) ?_
  refine g_istore X3 hx hby dc43_13 (l' := #[.val (.ref ca), .val (.int 1), .val (.ref bb), .val (.int 1), .val (.int 2), .val (.int 1), .val (.int y)]) rfl ?_
  refine g_iload X3 hx hby dc43_15 rfl ?_
  refine g_sipush X3 hx hby dc43_17 (v := 255) rfl ?_
  refine g_icmpYes X3 hx hby dc43_20 (flt (own_dg255 dy)).2.2.2 (pc0 := 20) (pc' := 26) rfl (by decide) (by decide) ?_
  show Go _ _ _ (T3.setTop (mkF mi 26 #[.val (.ref ca), .val (.int 1), .val (.ref bb), .val (.int 1), .val (.int 2), .val (.int 1), .val (.int y)] [])) _
  refine g_aloadN X3 hx hby dc43_26 rfl rfl ?_
  refine g_iloadN X3 hx hby dc43_27 rfl ?_
  refine g_iload X3 hx hby dc43_28 rfl ?_
  refine g_i2b X3 hx hby dc43_30 rfl ?_
  have ov7 := V3
  obtain ⟨cl7, Ar7, q7, S7, M7, H7, G7⟩ := ov7
  have hin7 : ¬ ((1 : Int32) < 0 ∨ cl7.slots.size ≤ ((1 : Int32)).toNatClampNeg) := inb_of S7 ⟨by decide, by decide⟩
  obtain ⟨T8, h8, X8, e8, W8, st8⟩ := stB X3 hx hZ e3 Ar7 (j := (1 : Int32)) hin7 (g := (mkF mi 31 #[.val (.ref ca), .val (.int 1), .val (.ref bb), .val (.int 1), .val (.int 2), .val (.int 1), .val (.int y)] [(.int (y.toInt8.toInt32)), (.int 1), (.ref bb)])) rfl rfl (hb hby dc43_31)
  have Zs9 : n0 ≤ h8.size := Nat.le_trans Zs4 (Keep.of_wr W8).1
  have KC9 : Keep h0 h8 [bb] := KC4.wr W8 (Or.inl (List.mem_of_getElem? (i := 0) rfl))
  have N9 := Fr.snoc X8 N4 g_b
  have V8 : Arv Z h8 bb kb .byte (2 : Int32) [(.int x), (.int ((y.toInt8.toInt32).toInt8.toInt32))] (.int (0 : Int32)) := Arv.set Ar7 q7 S7 M7 H7 G7 (fits_nar_byte _) W8 1 rfl (Nat.le_of_ble_eq_true rfl)
  rw [own_bb, own_dgb dy] at V8
  refine Go.st st8 ?_
  refine g_iinc X8 hx hby dc43_32 rfl (x' := 2) rfl (l' := #[.val (.ref ca), .val (.int 2), .val (.ref bb), .val (.int 1), .val (.int 2), .val (.int 1), .val (.int y)]) rfl ?_
  refine g_iinc X8 hx hby dc43_35 rfl (x' := 2) rfl (l' := #[.val (.ref ca), .val (.int 2), .val (.ref bb), .val (.int 2), .val (.int 2), .val (.int 1), .val (.int y)]) rfl ?_
  refine g_iinc X8 hx hby dc43_38 rfl (x' := 2) rfl (l' := #[.val (.ref ca), .val (.int 2), .val (.ref bb), .val (.int 2), .val (.int 2), .val (.int 2), .val (.int y)]) rfl ?_
  refine g_goto X8 hx hby dc43_41 (pc0 := 41) (pc' := 3) rfl (by decide) (by decide) ?_
  refine g_iload X8 hx hby dc43_3 rfl ?_
  refine g_iload X8 hx hby dc43_5 rfl ?_
  refine g_icmpYes X8 hx hby dc43_7 (flt (by decide)).2.1 (pc0 := 7) (pc' := 44) rfl (by decide) (by decide) ?_
  refine g_iload X8 hx hby dc43_44 rfl ?_
  obtain ⟨fs, hr, hrun, hended, hW, hsame⟩ := X8.leave (v := some (.int 2)) (fun h => by rw [Bd.returns] at h; cases h) (BodyLoose.notSynchronized Bd)
  refine ⟨_, _, ?_, hP _ _ ⟨hrun, hended, _, _, rfl, ?_, ⟨_, rfl⟩, hW, hsame.mono (by decide) (by decide)⟩⟩
  · exact retI X8 hx Bd.returns (hb hby dc43_46) hr
  · show (some (.int 2) : Option Value) = some (.int (2 : Int32)) ∧ Fr n0 _ ∧ Keep h0 T8.heap [bb] ∧ Arv Z T8.heap bb kb .byte (2 : Int32) [(.int x), (.int y)] (.int (0 : Int32))
    rw [e8]
    exact ⟨rfl, N9, KC9, V8⟩
theorem ef_rmCp2 (mi : MethodId) (ca : Addr) (kc : ClassId) (x : Int32) (y : Int32) : entryFrame mi #[(.ref ca), (.int 0), (.int 2)] 6 = mkF mi 0 #[.val (.ref ca), .val (.int 0), .val (.int 2), .unset, .unset, .unset] [] := by first | (simp [entryFrame, mkF, argsToLocals, Value.category]; done) | rfl
def Q_rmCp2 (Z : State) (ca : Addr) (kc : ClassId) (x : Int32) (y : Int32) (h0 : Heap) (n0 : Nat) (vv_ : Option Value) (hh_ : Heap) (LL_ : List Loc) : Prop := ∃ (r : Addr) (kr : ClassId), vv_ = some (.ref r) ∧ Fr n0 LL_ ∧ Keep h0 hh_ [] ∧ h0.size ≤ r ∧ n0 ≤ r ∧ Arv Z hh_ r kr .byte (2 : Int32) [(.int x), (.int y)] (.int (0 : Int32)) ∧ Exa Z hh_ r "[B"
set_option maxRecDepth 65536 in
set_option maxHeartbeats 40000000 in
theorem rmCp2 (l : Launch) (Z : State) (a0 : Array Value) (hw : ∀ d ∈ tables_1, d.before a0 Z = true) (ws : List Jvm.Cond) (ca : Addr) (kc : ClassId) (x : Int32) (y : Int32) (h0 : Heap) (n0 : Nat) (Z0 : n0 ≤ h0.size) (CA0 : Arv Z h0 ca kc .char (2 : Int32) [(.int x), (.int y)] (.int (0 : Int32))) (dx : Dig x) (dy : Dig y) :
    MetFree l (⟨"java/lang/StringUTF16", "compress", "([CII)[B"⟩ : MethodName) (head1 (Jvm.Cond.code (⟨"java/lang/StringUTF16", "compress", "([CII)[B"⟩ : MethodName) jdk_52_method_16_code 6 (some (.array .byte)) :: ws) ({ frames := 1, cells := 1, slots := 2, locals := 18 } : Room)) (fun aa_ U => aa_ = #[(.ref ca), (.int 0), (.int 2)] ∧ Z.Warmed39 U.vm ∧ U.heap = h0) (fun _ _ _ _ _ => True) (fun _ U oo_ UV_ => ∃ vv_ LL_, oo_ = .returned vv_ ∧ Q_rmCp2 Z ca kc x y h0 n0 vv_ UV_.heap LL_ ∧ FrameEnd U oo_ UV_ LL_ ({ frames := 1, cells := 1, slots := 2, locals := 18 } : Room).cells ({ frames := 1, cells := 1, slots := 2, locals := 18 } : Room).slots) := by
  refine MetFree.of_bodySF (plainFor_of_name pn_10) hisR ?_
  intro pg ev si mi args below meth ci s₁ Bd hml0 hP0 hK
  obtain ⟨rfl, hZ, hh⟩ := hP0
  have hx := Bd.exec
  have hby := Bd.bytes
  have hml : ci.maxLocals = 6 := hml0
  have hown : si.vm.findClass "java/lang/StringUTF16" = some mi.cls := findClass_of_methodNamed Bd.named
  have hnm := (name_of_methodNamed Bd.named Bd.method).1
  have X0 : Stand pg l ev ({ frames := 1, cells := 1, slots := 2, locals := 18 } : Room) si mi #[(.ref ca), (.int 0), (.int 2)] below meth ci s₁ [] 0 0 := Stand.of_body Bd
  have e0 : s₁.heap = h0 := by rw [← hh, Bd.state]; rfl
  have N0 := Fr.nil n0
  refine Go.start (fun P hP => ?_)
  refine Go.st (fun t_ k_ => castTop (ef_rmCp2 mi ca kc x y) k_) (A := s₁.setTop (mkF mi 0 #[.val (.ref ca), .val (.int 0), .val (.int 2), .unset, .unset, .unset] [])) ?_
  show Go _ _ _ (s₁.setTop (mkF mi 0 #[.val (.ref ca), .val (.int 0), .val (.int 2), .unset, .unset, .unset] [])) _
  refine g_iloadN X0 hx hby dc44_0 rfl ?_
  obtain ⟨T1, h1, k1, X1, e1, E1, A1, EX1, st1⟩ := newPE X0 hx hZ (hw _ (own_m 9 rfl)) e0 (g := (mkF mi 1 #[.val (.ref ca), .val (.int 0), .val (.int 2), .unset, .unset, .unset] [(.int 2)])) rfl (hb hby dc44_1) rfl (by decide) (cap := 2) (by decide) (by decide) (by decide) (by decide) (ad := "[B") (by decide)
  obtain ⟨ob1, g1⟩ : ∃ z, z = h0.size := ⟨_, rfl⟩
  rw [← g1] at A1 EX1 st1
  have Zs2 : n0 ≤ h1.size := Nat.le_trans Z0 E1.1
  have KC2 : Keep h0 h1 [] := (Keep.refl h0 []).ext E1
  have g_ob1 : n0 ≤ ob1 := Nat.le_trans Z0 (Nat.le_of_eq g1.symm)
  have sz_ob1 : h0.size ≤ ob1 := Nat.le_trans (Keep.refl h0 []).1 (Nat.le_of_eq g1.symm)
  have V1 : Arv Z h1 ob1 k1 .byte (2 : Int32) [(.int (0 : Int32)), (.int (0 : Int32))] (.int (0 : Int32)) := (Arv.new A1 (by decide)).pad (pad_rep [] (.int (0 : Int32)) 2)
  refine Go.st st1 ?_
  refine g_astoreN X1 hx hby dc44_3 rfl (l' := #[.val (.ref ca), .val (.int 0), .val (.int 2), .val (.ref ob1), .unset, .unset]) rfl ?_
  refine g_aloadN X1 hx hby dc44_4 rfl rfl ?_
  refine g_iloadN X1 hx hby dc44_5 rfl ?_
  refine g_aloadN X1 hx hby dc44_6 rfl rfl ?_
  refine g_iconst X1 hx hby dc44_7 (v := 0) rfl ?_
  refine g_iloadN X1 hx hby dc44_8 rfl ?_
  have f4 := (CA0.ext E1)
  have ne_ca_ob1 : ca ≠ ob1 := Nat.ne_of_lt (Nat.lt_of_lt_of_le CA0.lt (Nat.le_of_eq g1.symm))
  obtain ⟨_, _, ⟨T3, L3, k3, n3⟩, -, X3, ⟨Lc3, hQ3, l3, y3, z3⟩, st3⟩ := Jvm.LawKit.callS X1 hx (y := (⟨"java/lang/StringUTF16", "compress", "([CI[BII)I"⟩ : MethodName)) hown (mvT hZ (hw _ (own_m 280 rfl))) (mvT hZ (hw _ (own_m 281 rfl))) (mvT hZ (hw _ (own_m 278 rfl))) (mvT hZ (hw _ (own_m 282 rfl))) (by decide) (backOf (W := 0) (rmCo2 l Z a0 hw [] ca ob1 kc x y k1 h1 n0 Zs2 f4 V1 g_ob1 ne_ca_ob1 dx dy) hZ (hw _ (own_m 282 rfl)) (hw _ (own_m 278 rfl)) (by decide) (by decide)) (g := (mkF mi 9 #[.val (.ref ca), .val (.int 0), .val (.int 2), .val (.ref ob1), .unset, .unset] [(.int 2), (.int 0), (.ref ob1), (.int 0), (.ref ca)])) rfl (by rw [hml]; rfl) (argsL := [(.ref ca), (.int 0), (.ref ob1), (.int 0), (.int 2)]) (rest := []) (lenOf pd_32 rfl) rfl (by show 2 * 0 + _ ≤ _; exact Nat.le_of_eq rfl) (hb hby dc44_9) (fun _ _ => ⟨rfl, e1, (by decide : 1 + 0 ≤ _), (by decide : 2 + 0 ≤ _)⟩)
  dsimp only [Pt.U, Pt.locs, Pt.cells, Pt.slots] at X3 l3 y3 z3 st3 hQ3
  subst y3 z3
  have X3 := own_cs X3 (cells' := 1) (slots' := 2) rfl rfl
  obtain ⟨h3, e3⟩ : ∃ z, T3.heap = z := ⟨_, rfl⟩
  rw [e3] at hQ3
  obtain ⟨rfl, N3q, K3, VV_3⟩ := hQ3
  have N3 := own_fr l3 (Fr.app N0 N3q)
  have Zs5 : n0 ≤ h3.size := Nat.le_trans Zs2 K3.1
  have KC5 : Keep h0 h3 [] := KC2.trans K3 (allS (P := fun x => x ∈ [] ∨ h0.size ≤ x) (Or.inr sz_ob1) all0)
  refine Go.st st3 ?_
  refine g_istore X3 hx hby dc44_12 (l' := #[.val (.ref ca), .val (.int 0), .val (.int 2), .val (.ref ob1), .val (.int 2), .unset]) rfl ?_
  refine g_iload X3 hx hby dc44_14 rfl ?_
  refine g_iloadN X3 hx hby dc44_16 rfl ?_
  refine g_icmpYes X3 hx hby dc44_17 (teq rfl).1 (pc0 := 17) (pc' := 57) rfl (by decide) (by decide) ?_
  refine g_aloadN X3 hx hby dc44_57 rfl rfl ?_
  obtain ⟨fs, hr, hrun, hended, hW, hsame⟩ := X3.leave (v := some (.ref ob1)) (fun h => by rw [Bd.returns] at h; cases h) (BodyLoose.notSynchronized Bd)
  have f6 := (EX1.keep K3)
  refine ⟨_, _, ?_, hP _ _ ⟨hrun, hended, _, _, rfl, ?_, ⟨_, rfl⟩, hW, hsame.mono (by decide) (by decide)⟩⟩
  · exact retOut X3 hx Bd.returns rfl (Or.inr (Or.inr (Or.inr (Or.inr ⟨rfl, rfl, rfl⟩)))) (hb hby dc44_58) hr
  · show ∃ (r : Addr) (kr : ClassId), (some (.ref ob1) : Option Value) = some (.ref r) ∧ Fr n0 _ ∧ Keep h0 T3.heap [] ∧ h0.size ≤ r ∧ n0 ≤ r ∧ Arv Z T3.heap r kr .byte (2 : Int32) [(.int x), (.int y)] (.int (0 : Int32)) ∧ Exa Z T3.heap r "[B"
    rw [e3]
    exact ⟨ob1, k1, rfl, N3, KC5, sz_ob1, g_ob1, VV_3, f6⟩
theorem ef_rmCL2 (mi : MethodId) (bb : Addr) (kb : ClassId) (vs : List Value) : entryFrame mi #[(.ref bb), (.int 2)] 2 = mkF mi 0 #[.val (.ref bb), .val (.int 2)] [] := by first | (simp [entryFrame, mkF, argsToLocals, Value.category]; done) | rfl
def Q_rmCL2 (Z : State) (bb : Addr) (kb : ClassId) (vs : List Value) (h0 : Heap) (n0 : Nat) (vv_ : Option Value) (hh_ : Heap) (LL_ : List Loc) : Prop := vv_ = some (.int (0 : Int32)) ∧ Fr n0 LL_ ∧ hh_ = h0
set_option maxRecDepth 65536 in
set_option maxHeartbeats 40000000 in
theorem rmCL2 (l : Launch) (Z : State) (a0 : Array Value) (hw : ∀ d ∈ tables_1, d.before a0 Z = true) (ws : List Jvm.Cond) (bb : Addr) (kb : ClassId) (vs : List Value) (h0 : Heap) (n0 : Nat) (Z0 : n0 ≤ h0.size) (CB0 : Arv Z h0 bb kb .byte (2 : Int32) vs (.int (0 : Int32))) :
    MetFree l (⟨"java/lang/StringUTF16", "coderFromArrayLen", "([BI)B"⟩ : MethodName) (head1 (Jvm.Cond.code (⟨"java/lang/StringUTF16", "coderFromArrayLen", "([BI)B"⟩ : MethodName) jdk_52_method_15_code 2 (some .byte) :: ws) ({ frames := 0, cells := 0, slots := 0, locals := 0 } : Room)) (fun aa_ U => aa_ = #[(.ref bb), (.int 2)] ∧ Z.Warmed39 U.vm ∧ U.heap = h0) (fun _ _ _ _ _ => True) (fun _ U oo_ UV_ => ∃ vv_ LL_, oo_ = .returned vv_ ∧ Q_rmCL2 Z bb kb vs h0 n0 vv_ UV_.heap LL_ ∧ FrameEnd U oo_ UV_ LL_ ({ frames := 0, cells := 0, slots := 0, locals := 0 } : Room).cells ({ frames := 0, cells := 0, slots := 0, locals := 0 } : Room).slots) := by
  refine MetFree.of_bodySF (plainFor_of_name pn_10) hisR ?_
  intro pg ev si mi args below meth ci s₁ Bd hml0 hP0 hK
  obtain ⟨rfl, hZ, hh⟩ := hP0
  have hx := Bd.exec
  have hby := Bd.bytes
  have hml : ci.maxLocals = 2 := hml0
  have hown : si.vm.findClass "java/lang/StringUTF16" = some mi.cls := findClass_of_methodNamed Bd.named
  have hnm := (name_of_methodNamed Bd.named Bd.method).1
  have X0 : Stand pg l ev ({ frames := 0, cells := 0, slots := 0, locals := 0 } : Room) si mi #[(.ref bb), (.int 2)] below meth ci s₁ [] 0 0 := Stand.of_body Bd
  have e0 : s₁.heap = h0 := by rw [← hh, Bd.state]; rfl
  have N0 := Fr.nil n0
  refine Go.start (fun P hP => ?_)
  refine Go.st (fun t_ k_ => castTop (ef_rmCL2 mi bb kb vs) k_) (A := s₁.setTop (mkF mi 0 #[.val (.ref bb), .val (.int 2)] [])) ?_
  show Go _ _ _ (s₁.setTop (mkF mi 0 #[.val (.ref bb), .val (.int 2)] [])) _
  refine g_iloadN X0 hx hby dc45_0 rfl ?_
  refine g_aloadN X0 hx hby dc45_1 rfl rfl ?_
  have ov1 := CB0
  obtain ⟨cl1, Ar1, q1, S1, M1, H1, G1⟩ := ov1
  refine Go.st (X0.arraylength hx (by rw [e0]; exact Ar1.1) (State.isArrayOf_alike hZ.alike Ar1.2.1) (g := (mkF mi 2 #[.val (.ref bb), .val (.int 2)] [(.ref bb), (.int 2)])) rfl rfl (hb hby dc45_2)) ?_
  rw [len_of S1 M1]
  refine g_isub X0 hx hby dc45_3 (z := 0) rfl ?_
  refine g_bipush X0 hx hby dc45_4 (v := 31) rfl ?_
  refine Go.s (XS.iushr X0.here hx rfl (hb hby dc45_6) rfl) ?_
  refine g_i2b X0 hx hby dc45_7 (z := 0) rfl ?_
  obtain ⟨fs, hr, hrun, hended, hW, hsame⟩ := X0.leave (v := some (.int 0)) (fun h => by rw [Bd.returns] at h; cases h) (BodyLoose.notSynchronized Bd)
  refine ⟨_, _, ?_, hP _ _ ⟨hrun, hended, _, _, rfl, ?_, ⟨_, rfl⟩, hW, hsame.mono (by decide) (by decide)⟩⟩
  · exact retN X0 hx (t := .byte) Bd.returns (by simp) (hb hby dc45_8) hr
  · show (some (.int 0) : Option Value) = some (.int (0 : Int32)) ∧ Fr n0 _ ∧ s₁.heap = h0
    rw [e0]
    exact ⟨rfl, N0, rfl⟩
theorem ef_rmSV2 (mi : MethodId) (o : Addr) (ca : Addr) (kc : ClassId) (x : Int32) (y : Int32) (cz : Int32) : entryFrame mi #[(.ref o), (.ref ca), (.int 0), (.int 2), .null] 6 = mkF mi 0 #[.val (.ref o), .val (.ref ca), .val (.int 0), .val (.int 2), .val .null, .unset] [] := by first | (simp [entryFrame, mkF, argsToLocals, Value.category]; done) | rfl
def Q_rmSV2 (Z : State) (o : Addr) (ca : Addr) (kc : ClassId) (x : Int32) (y : Int32) (cz : Int32) (h0 : Heap) (n0 : Nat) (vv_ : Option Value) (hh_ : Heap) (LL_ : List Loc) : Prop := vv_ = none ∧ Fr n0 LL_ ∧ Keep h0 hh_ [o] ∧ ∃ (b : Addr) (kb : ClassId), Exa Z hh_ o "java/lang/String" ∧ Fld Z hh_ o "java/lang/String" "coder" "B" (.int (0 : Int32)) ∧ Fld Z hh_ o "java/lang/String" "value" "[B" (.ref b) ∧ Arv Z hh_ b kb .byte (2 : Int32) ([x, y].map Value.int) (.int (0 : Int32)) ∧ Exa Z hh_ b "[B"
set_option maxRecDepth 65536 in
set_option maxHeartbeats 40000000 in
theorem rmSV2 (l : Launch) (Z : State) (a0 : Array Value) (hw : ∀ d ∈ tables_1, d.before a0 Z = true) (ws : List Jvm.Cond) (o : Addr) (ca : Addr) (kc : ClassId) (x : Int32) (y : Int32) (cz : Int32) (h0 : Heap) (n0 : Nat) (Z0 : n0 ≤ h0.size) (E0 : Exa Z h0 o "java/lang/String") (FS1 : Fld Z h0 o "java/lang/String" "coder" "B" (.int (0 : Int32))) (FS2 : Fld Z h0 o "java/lang/String" "value" "[B" .null) (g_o : n0 ≤ o) (CA0 : Arv Z h0 ca kc .char (2 : Int32) [(.int x), (.int y)] (.int (0 : Int32))) (ne_o : ca ≠ o) (SC : Sta Z h0 "java/lang/String" "COMPACT_STRINGS" "Z" (.int cz)) (hcz : ¬ (cz = (0 : Int32))) (dx : Dig x) (dy : Dig y) :
    MetFree l (⟨"java/lang/String", "<init>", "([CIILjava/lang/Void;)V"⟩ : MethodName) (head1 (Jvm.Cond.code (⟨"java/lang/String", "<init>", "([CIILjava/lang/Void;)V"⟩ : MethodName) jdk_42_method_149_code 6 none :: ws) ({ frames := 2, cells := 1, slots := 2, locals := 35 } : Room)) (fun aa_ U => aa_ = #[(.ref o), (.ref ca), (.int 0), (.int 2), .null] ∧ Z.Warmed39 U.vm ∧ U.heap = h0) (fun _ _ _ _ _ => True) (fun _ U oo_ UV_ => ∃ vv_ LL_, oo_ = .returned vv_ ∧ Q_rmSV2 Z o ca kc x y cz h0 n0 vv_ UV_.heap LL_ ∧ FrameEnd U oo_ UV_ LL_ ({ frames := 2, cells := 1, slots := 2, locals := 35 } : Room).cells ({ frames := 2, cells := 1, slots := 2, locals := 35 } : Room).slots) := by
  refine MetFree.of_bodySF (plainFor_of_name pn_0) hisR ?_
  intro pg ev si mi args below meth ci s₁ Bd hml0 hP0 hK
  obtain ⟨rfl, hZ, hh⟩ := hP0
  have hx := Bd.exec
  have hby := Bd.bytes
  have hml : ci.maxLocals = 6 := hml0
  have hown : si.vm.findClass "java/lang/String" = some mi.cls := findClass_of_methodNamed Bd.named
  have hnm := (name_of_methodNamed Bd.named Bd.method).1
  have X0 : Stand pg l ev ({ frames := 2, cells := 1, slots := 2, locals := 35 } : Room) si mi #[(.ref o), (.ref ca), (.int 0), (.int 2), .null] below meth ci s₁ [] 0 0 := Stand.of_body Bd
  have e0 : s₁.heap = h0 := by rw [← hh, Bd.state]; rfl
  have N0 := Fr.nil n0
  refine Go.start (fun P hP => ?_)
  refine Go.st (fun t_ k_ => castTop (ef_rmSV2 mi o ca kc x y cz) k_) (A := s₁.setTop (mkF mi 0 #[.val (.ref o), .val (.ref ca), .val (.int 0), .val (.int 2), .val .null, .unset] [])) ?_
  show Go _ _ _ (s₁.setTop (mkF mi 0 #[.val (.ref o), .val (.ref ca), .val (.int 0), .val (.int 2), .val .null, .unset] [])) _
  refine g_aloadN X0 hx hby dc46_0 rfl rfl ?_
  obtain ⟨T1, X1, e1, st1⟩ := initO X0 hx hZ hown (hw _ (own_m 178 rfl)) (hw _ (own_m 18 rfl)) (hw _ (own_m 19 rfl)) e0 (g := (mkF mi 1 #[.val (.ref o), .val (.ref ca), .val (.int 0), .val (.int 2), .val .null, .unset] [(.ref o)])) rfl (by rw [hml]; rfl) rfl (hb hby dc46_1) (by decide) (W := 0) (by show 2 * 0 + _ ≤ _; exact Nat.le_of_eq rfl) (by decide)
  refine Go.st st1 ?_
  refine g_iloadN X1 hx hby dc46_4 rfl ?_
  refine g_ifYes X1 hx hby dc46_5 ((if0 _ _).trans (feq (by decide)).2) (pc0 := 5) (pc' := 27) rfl (by decide) (by decide) ?_
  obtain ⟨T2, X2, e2, st2⟩ := getS2 X1 hx hZ hown (host := "") (Or.inl (hw _ (own_m 46 rfl))) Via.refl e1 SC (g := (mkF mi 27 #[.val (.ref o), .val (.ref ca), .val (.int 0), .val (.int 2), .val .null, .unset] [])) rfl (hb hby dc46_27)
  refine Go.st st2 ?_
  refine g_ifNo X2 hx hby dc46_30 ((if0 _ _).trans (feq hcz).1) ?_
  refine g_aloadN X2 hx hby dc46_33 rfl rfl ?_
  refine g_iloadN X2 hx hby dc46_34 rfl ?_
  refine g_iloadN X2 hx hby dc46_35 rfl ?_
  obtain ⟨_, _, ⟨T3, L3, k3, n3⟩, -, X3, ⟨Lc3, hQ3, l3, y3, z3⟩, st3⟩ := Jvm.LawKit.callS X2 hx (y := (⟨"java/lang/StringUTF16", "compress", "([CII)[B"⟩ : MethodName)) hown (mvT hZ (hw _ (own_m 276 rfl))) (mvT hZ (hw _ (own_m 277 rfl))) (mvT hZ (hw _ (own_m 278 rfl))) (mvT hZ (hw _ (own_m 279 rfl))) (by decide) (backOf (W := 0) (rmCp2 l Z a0 hw [] ca kc x y h0 n0 Z0 CA0 dx dy) hZ (hw _ (own_m 279 rfl)) (hw _ (own_m 278 rfl)) (by decide) (by decide)) (g := (mkF mi 36 #[.val (.ref o), .val (.ref ca), .val (.int 0), .val (.int 2), .val .null, .unset] [(.int 2), (.int 0), (.ref ca)])) rfl (by rw [hml]; rfl) (argsL := [(.ref ca), (.int 0), (.int 2)]) (rest := []) (lenOf pd_33 rfl) rfl (by show 2 * 0 + _ ≤ _; exact Nat.le_of_eq rfl) (hb hby dc46_36) (fun _ _ => ⟨rfl, e2, (by decide : 0 + 1 ≤ _), (by decide : 0 + 2 ≤ _)⟩)
  dsimp only [Pt.U, Pt.locs, Pt.cells, Pt.slots] at X3 l3 y3 z3 st3 hQ3
  subst y3 z3
  have X3 := own_cs X3 (cells' := 1) (slots' := 2) rfl rfl
  obtain ⟨h3, e3⟩ : ∃ z, T3.heap = z := ⟨_, rfl⟩
  rw [e3] at hQ3
  obtain ⟨r3, kr3, rfl, N3q, K3, z_r3, g_r3, V_r3, E_r3⟩ := hQ3
  have N3 := own_fr l3 (Fr.app N0 N3q)
  have Zs4 : n0 ≤ h3.size := Nat.le_trans Z0 K3.1
  have KC4 : Keep h0 h3 [o] := (Keep.refl h0 [o]).trans K3 all0
  have sz_r3 : h0.size ≤ r3 := Nat.le_trans (Keep.refl h0 [o]).1 z_r3
  refine Go.st st3 ?_
  refine g_astore X3 hx hby dc46_39 rfl (l' := #[.val (.ref o), .val (.ref ca), .val (.int 0), .val (.int 2), .val .null, .val (.ref r3)]) rfl ?_
  refine g_aloadN X3 hx hby dc46_41 rfl rfl ?_
  refine g_aload X3 hx hby dc46_42 rfl rfl ?_
  refine g_iloadN X3 hx hby dc46_44 rfl ?_
  obtain ⟨_, _, ⟨T5, L5, k5, n5⟩, -, X5, ⟨Lc5, hQ5, l5, y5, z5⟩, st5⟩ := Jvm.LawKit.callS X3 hx (y := (⟨"java/lang/StringUTF16", "coderFromArrayLen", "([BI)B"⟩ : MethodName)) hown (mvT hZ (hw _ (own_m 283 rfl))) (mvT hZ (hw _ (own_m 284 rfl))) (mvT hZ (hw _ (own_m 278 rfl))) (mvT hZ (hw _ (own_m 285 rfl))) (by decide) (backOf (W := 1) (rmCL2 l Z a0 hw [] r3 kr3 [(.int x), (.int y)] h3 n0 Zs4 V_r3) hZ (hw _ (own_m 285 rfl)) (hw _ (own_m 278 rfl)) (by decide) (by decide)) (g := (mkF mi 45 #[.val (.ref o), .val (.ref ca), .val (.int 0), .val (.int 2), .val .null, .val (.ref r3)] [(.int 2), (.ref r3), (.ref o)])) rfl (by rw [hml]; rfl) (argsL := [(.ref r3), (.int 2)]) (rest := [(.ref o)]) (lenOf pd_34 rfl) rfl (by show 2 * 0 + _ ≤ _; exact Nat.le_of_eq rfl) (hb hby dc46_45) (fun _ _ => ⟨rfl, e3, (by decide : 1 + 0 ≤ _), (by decide : 2 + 0 ≤ _)⟩)
  dsimp only [Pt.U, Pt.locs, Pt.cells, Pt.slots] at X5 l5 y5 z5 st5 hQ5
  subst y5 z5
  have X5 := own_cs X5 (cells' := 1) (slots' := 2) rfl rfl
  obtain ⟨rfl, N5q, e5⟩ := hQ5
  have N5 := own_fr l5 (Fr.app N3 N5q)
  refine Go.st st5 ?_
  have f6 := (FS1.keep K3 nin0)
  have f7 := (E0.keep K3)
  obtain ⟨T8, h8, X8, e8, W8, st8⟩ := putFN X5 hx hZ hown (hw _ (own_m 47 rfl)) Via.refl e5 f6 f7 (Or.inr ⟨(hw _ (own_m 11 rfl)), rfl, hnm⟩) (hw _ (own_m 8 rfl)) (ty := .byte) (v' := (.int 0)) (by decide) rfl (by decide) (g := (mkF mi 48 #[.val (.ref o), .val (.ref ca), .val (.int 0), .val (.int 2), .val .null, .val (.ref r3)] [(.int 0), (.ref o)])) rfl rfl (hb hby dc46_48)
  have Zs9 : n0 ≤ h8.size := Nat.le_trans Zs4 (Keep.of_wr W8).1
  have KC9 : Keep h0 h8 [o] := KC4.wr W8 (Or.inl (List.mem_of_getElem? (i := 0) rfl))
  have N9 := Fr.snoc X8 N5 g_o
  have F8 : Fld Z h8 o "java/lang/String" "coder" "B" (.int 0) := f6.same W8
  refine Go.st st8 ?_
  refine g_aloadN X8 hx hby dc46_51 rfl rfl ?_
  refine g_aload X8 hx hby dc46_52 rfl rfl ?_
  have f10 := ((FS2.keep K3 nin0).other W8 (Or.inr (slot_ne (Or.inr (hw _ (own_m 10 rfl))) (Or.inr (hw _ (own_m 11 rfl))) (by decide) (t := (.array .byte)) (t' := .byte) (by decide) (by decide))))
  have f11 := (f7.wr W8)
  obtain ⟨T12, h12, X12, e12, W12, st12⟩ := putF X8 hx hZ hown (host := "") (Or.inl (hw _ (own_m 48 rfl))) Via.refl e8 f10 f11 (Or.inr ⟨(hw _ (own_m 10 rfl)), rfl, hnm⟩) (hw _ (own_m 8 rfl)) (ty := (.array .byte)) (by decide) rfl rfl (g := (mkF mi 54 #[.val (.ref o), .val (.ref ca), .val (.int 0), .val (.int 2), .val .null, .val (.ref r3)] [(.ref r3), (.ref o)])) rfl rfl (hb hby dc46_54)
  have Zs13 : n0 ≤ h12.size := Nat.le_trans Zs9 (Keep.of_wr W12).1
  have KC13 : Keep h0 h12 [o] := KC9.wr W12 (Or.inl (List.mem_of_getElem? (i := 0) rfl))
  have N13 := Fr.snoc X12 N9 g_o
  have F12 : Fld Z h12 o "java/lang/String" "value" "[B" (.ref r3) := f10.same W12
  refine Go.st st12 ?_
  obtain ⟨fs, hr, hrun, hended, hW, hsame⟩ := X12.leave (v := none) (fun _ => rfl) (BodyLoose.notSynchronized Bd)
  have f14 := (f11.wr W12)
  have f15 := (F8.other W12 (Or.inr (slot_ne (Or.inr (hw _ (own_m 11 rfl))) (Or.inr (hw _ (own_m 10 rfl))) (by decide) (t := .byte) (t' := (.array .byte)) (by decide) (by decide))))
  have ne_o_r3 : o ≠ r3 := Nat.ne_of_lt (Nat.lt_of_lt_of_le E0.lt z_r3)
  have f16 := ((V_r3.other W8 (Ne.symm ne_o_r3)).other W12 (Ne.symm ne_o_r3))
  have f17 := ((E_r3.wr W8).wr W12)
  refine ⟨_, _, ?_, hP _ _ ⟨hrun, hended, _, _, rfl, ?_, ⟨_, rfl⟩, hW, hsame.mono (by decide) (by decide)⟩⟩
  · exact X12.returnOut hx Bd.returns (hb hby dc46_57) hr
  · show (none : Option Value) = none ∧ Fr n0 _ ∧ Keep h0 T12.heap [o] ∧ ∃ (b : Addr) (kb : ClassId), Exa Z T12.heap o "java/lang/String" ∧ Fld Z T12.heap o "java/lang/String" "coder" "B" (.int (0 : Int32)) ∧ Fld Z T12.heap o "java/lang/String" "value" "[B" (.ref b) ∧ Arv Z T12.heap b kb .byte (2 : Int32) ([x, y].map Value.int) (.int (0 : Int32)) ∧ Exa Z T12.heap b "[B"
    rw [e12]
    exact ⟨rfl, N13, KC13, r3, kr3, f14, f15, F12, f16, f17⟩
theorem ef_rmSC2 (mi : MethodId) (o : Addr) (ca : Addr) (kc : ClassId) (x : Int32) (y : Int32) (cz : Int32) : entryFrame mi #[(.ref o), (.ref ca)] 2 = mkF mi 0 #[.val (.ref o), .val (.ref ca)] [] := by first | (simp [entryFrame, mkF, argsToLocals, Value.category]; done) | rfl
def Q_rmSC2 (Z : State) (o : Addr) (ca : Addr) (kc : ClassId) (x : Int32) (y : Int32) (cz : Int32) (h0 : Heap) (n0 : Nat) (vv_ : Option Value) (hh_ : Heap) (LL_ : List Loc) : Prop := vv_ = none ∧ Fr n0 LL_ ∧ Keep h0 hh_ [o] ∧ ∃ (b : Addr) (kb : ClassId), Exa Z hh_ o "java/lang/String" ∧ Fld Z hh_ o "java/lang/String" "coder" "B" (.int (0 : Int32)) ∧ Fld Z hh_ o "java/lang/String" "value" "[B" (.ref b) ∧ Arv Z hh_ b kb .byte (2 : Int32) ([x, y].map Value.int) (.int (0 : Int32)) ∧ Exa Z hh_ b "[B"
set_option maxRecDepth 65536 in
set_option maxHeartbeats 40000000 in
theorem rmSC2 (l : Launch) (Z : State) (a0 : Array Value) (hw : ∀ d ∈ tables_1, d.before a0 Z = true) (ws : List Jvm.Cond) (o : Addr) (ca : Addr) (kc : ClassId) (x : Int32) (y : Int32) (cz : Int32) (h0 : Heap) (n0 : Nat) (Z0 : n0 ≤ h0.size) (E0 : Exa Z h0 o "java/lang/String") (FS1 : Fld Z h0 o "java/lang/String" "coder" "B" (.int (0 : Int32))) (FS2 : Fld Z h0 o "java/lang/String" "value" "[B" .null) (g_o : n0 ≤ o) (CA0 : Arv Z h0 ca kc .char (2 : Int32) [(.int x), (.int y)] (.int (0 : Int32))) (ne_o : ca ≠ o) (SC : Sta Z h0 "java/lang/String" "COMPACT_STRINGS" "Z" (.int cz)) (hcz : ¬ (cz = (0 : Int32))) (dx : Dig x) (dy : Dig y) :
    MetFree l (⟨"java/lang/String", "<init>", "([C)V"⟩ : MethodName) (head1 (Jvm.Cond.code (⟨"java/lang/String", "<init>", "([C)V"⟩ : MethodName) jdk_42_method_3_code 2 none :: ws) ({ frames := 3, cells := 1, slots := 3, locals := 52 } : Room)) (fun aa_ U => aa_ = #[(.ref o), (.ref ca)] ∧ Z.Warmed39 U.vm ∧ U.heap = h0) (fun _ _ _ _ _ => True) (fun _ U oo_ UV_ => ∃ vv_ LL_, oo_ = .returned vv_ ∧ Q_rmSC2 Z o ca kc x y cz h0 n0 vv_ UV_.heap LL_ ∧ FrameEnd U oo_ UV_ LL_ ({ frames := 3, cells := 1, slots := 3, locals := 52 } : Room).cells ({ frames := 3, cells := 1, slots := 3, locals := 52 } : Room).slots) := by
  refine MetFree.of_bodySF (plainFor_of_name pn_0) hisR ?_
  intro pg ev si mi args below meth ci s₁ Bd hml0 hP0 hK
  obtain ⟨rfl, hZ, hh⟩ := hP0
  have hx := Bd.exec
  have hby := Bd.bytes
  have hml : ci.maxLocals = 2 := hml0
  have hown : si.vm.findClass "java/lang/String" = some mi.cls := findClass_of_methodNamed Bd.named
  have hnm := (name_of_methodNamed Bd.named Bd.method).1
  have X0 : Stand pg l ev ({ frames := 3, cells := 1, slots := 3, locals := 52 } : Room) si mi #[(.ref o), (.ref ca)] below meth ci s₁ [] 0 0 := Stand.of_body Bd
  have e0 : s₁.heap = h0 := by rw [← hh, Bd.state]; rfl
  have N0 := Fr.nil n0
  refine Go.start (fun P hP => ?_)
  refine Go.st (fun t_ k_ => castTop (ef_rmSC2 mi o ca kc x y cz) k_) (A := s₁.setTop (mkF mi 0 #[.val (.ref o), .val (.ref ca)] [])) ?_
  show Go _ _ _ (s₁.setTop (mkF mi 0 #[.val (.ref o), .val (.ref ca)] [])) _
  refine g_aloadN X0 hx hby dc47_0 rfl rfl ?_
  refine g_aloadN X0 hx hby dc47_1 rfl rfl ?_
  refine g_iconst X0 hx hby dc47_2 (v := 0) rfl ?_
  refine g_aloadN X0 hx hby dc47_3 rfl rfl ?_
  have ov1 := CA0
  obtain ⟨cl1, Ar1, q1, S1, M1, H1, G1⟩ := ov1
  refine Go.st (X0.arraylength hx (by rw [e0]; exact Ar1.1) (State.isArrayOf_alike hZ.alike Ar1.2.1) (g := (mkF mi 4 #[.val (.ref o), .val (.ref ca)] [(.ref ca), (.int 0), (.ref ca), (.ref o)])) rfl rfl (hb hby dc47_4)) ?_
  rw [len_of S1 M1]
  refine Go.s (XS.aconstNull X0.here hx rfl (hb hby dc47_5)) ?_
  obtain ⟨_, _, ⟨T2, L2, k2, n2⟩, -, X2, ⟨Lc2, hQ2, l2, y2, z2⟩, st2⟩ := X0.specialBack hx (y := (⟨"java/lang/String", "<init>", "([CIILjava/lang/Void;)V"⟩ : MethodName)) rfl hown (mvT hZ (hw _ (own_m 273 rfl))) (mvT hZ (hw _ (own_m 274 rfl))) (mvT hZ (hw _ (own_m 275 rfl))) (by decide) (backOf (W := 0) (rmSV2 l Z a0 hw [] o ca kc x y cz h0 n0 Z0 E0 FS1 FS2 g_o CA0 ne_o SC hcz dx dy) hZ (hw _ (own_m 275 rfl)) (hw _ (own_m 7 rfl)) (by decide) (by decide)) (g := (mkF mi 6 #[.val (.ref o), .val (.ref ca)] [.null, (.int 2), (.int 0), (.ref ca), (.ref o)])) rfl (by rw [hml]; rfl) (Steps.refl _) (a := o) (argsL := [(.ref ca), (.int 0), (.int 2), .null]) (rest := []) (lenOf pd_35 rfl) rfl (by show 2 * 0 + _ ≤ _; exact Nat.le_of_eq rfl) (hb hby dc47_6) (fun _ _ => ⟨rfl, e0, (by decide : 0 + 1 ≤ _), (by decide : 0 + 2 ≤ _)⟩)
  dsimp only [Pt.U, Pt.locs, Pt.cells, Pt.slots] at X2 l2 y2 z2 st2 hQ2
  subst y2 z2
  have X2 := own_cs X2 (cells' := 1) (slots' := 2) rfl rfl
  obtain ⟨h2, e2⟩ : ∃ z, T2.heap = z := ⟨_, rfl⟩
  rw [e2] at hQ2
  obtain ⟨rfl, N2q, K2, sb2, sk2, SE2, SCo2, SVa2, SAr2, SEb2⟩ := hQ2
  have N2 := own_fr l2 (Fr.app N0 N2q)
  have Zs3 : n0 ≤ h2.size := Nat.le_trans Z0 K2.1
  have KC3 : Keep h0 h2 [o] := (Keep.refl h0 [o]).trans K2 (allS (P := fun x => x ∈ [o] ∨ h0.size ≤ x) (Or.inl (List.mem_of_getElem? (i := 0) rfl)) all0)
  refine Go.tr st2 ?_
  obtain ⟨fs, hr, hrun, hended, hW, hsame⟩ := X2.leave (v := none) (fun _ => rfl) (BodyLoose.notSynchronized Bd)
  refine ⟨_, _, ?_, hP _ _ ⟨hrun, hended, _, _, rfl, ?_, ⟨_, rfl⟩, hW, hsame.mono (by decide) (by decide)⟩⟩
  · exact X2.returnOut hx Bd.returns (hb hby dc47_9) hr
  · show (none : Option Value) = none ∧ Fr n0 _ ∧ Keep h0 T2.heap [o] ∧ ∃ (b : Addr) (kb : ClassId), Exa Z T2.heap o "java/lang/String" ∧ Fld Z T2.heap o "java/lang/String" "coder" "B" (.int (0 : Int32)) ∧ Fld Z T2.heap o "java/lang/String" "value" "[B" (.ref b) ∧ Arv Z T2.heap b kb .byte (2 : Int32) ([x, y].map Value.int) (.int (0 : Int32)) ∧ Exa Z T2.heap b "[B"
    rw [e2]
    exact ⟨rfl, N2, KC3, sb2, sk2, SE2, SCo2, SVa2, SAr2, SEb2⟩
theorem own_i10 {m : Int32} {M : Nat} (h : m.toInt = M) : (m / (10 : Int32)).toInt = ((M / 10 : Nat) : Int) := by
  have e := (c_idiv m 10 10 rfl (by decide)).1 (by omega)
  omega
theorem own_i100 {m : Int32} {M : Nat} (h : m.toInt = M) : (m / (100 : Int32)).toInt = ((M / 100 : Nat) : Int) := by
  have e := (c_idiv m 100 100 rfl (by decide)).1 (by omega)
  omega
theorem own_r10 {m : Int32} {M : Nat} (h : m.toInt = M) : (m % (10 : Int32)).toInt = ((M % 10 : Nat) : Int) := by
  have e := (c_irem m 10 10 rfl).1 (by omega)
  omega
theorem dg_0 {m : Int32} {M : Nat} (h : m.toInt = M) (hl : M < 10) : fDg m = dch (M / 10 ^ 0) := own_dg (by show m.toInt = ((M / 1 % 10 : Nat) : Int); omega)
theorem dg_r {m : Int32} {M : Nat} (h : m.toInt = M) : fDg (m % (10 : Int32)) = dch (M / 10 ^ 0) := own_dg (by have := own_r10 h; show _ = ((M / 1 % 10 : Nat) : Int); omega)
theorem dg_10 {m : Int32} {M : Nat} (h : m.toInt = M) (hl : M < 100) : fDg (m / (10 : Int32)) = dch (M / 10 ^ 1) := own_dg (by have := own_i10 h; show _ = ((M / 10 % 10 : Nat) : Int); omega)
theorem dg_10r {m : Int32} {M : Nat} (h : m.toInt = M) : fDg ((m / (10 : Int32)) % (10 : Int32)) = dch (M / 10 ^ 1) := own_dg (by have := own_r10 (own_i10 h); show _ = ((M / 10 % 10 : Nat) : Int); omega)
theorem dg_100 {m : Int32} {M : Nat} (h : m.toInt = M) (hl : M < 1000) : fDg (m / (100 : Int32)) = dch (M / 10 ^ 2) := own_dg (by have := own_i100 h; show _ = ((M / 100 % 10 : Nat) : Int); omega)
theorem own_mlt {m c : Int32} {M k : Nat} (h : m.toInt = M) (hc : c.toInt = k) (q : m < c) : M < k := by rw [Int32.lt_iff_toInt_lt] at q; omega
theorem own_mge {m c : Int32} {M k : Nat} (h : m.toInt = M) (hc : c.toInt = k) (q : ¬ m < c) : k ≤ M := by rw [Int32.lt_iff_toInt_lt] at q; omega
theorem dc48_0 : decode method_4_code 0 = .ok (.iload_n 0, 1) := by decide +kernel
theorem dc48_1 : decode method_4_code 1 = .ok (.bipush 10, 2) := by decide +kernel
theorem dc48_3 : decode method_4_code 3 = .ok (.if_icmp .ge 11, 3) := by decide +kernel
theorem dc48_6 : decode method_4_code 6 = .ok (.iload_n 0, 1) := by decide +kernel
theorem dc48_7 : decode method_4_code 7 = .ok (.invokestatic 33, 3) := by decide +kernel
theorem dc48_10 : decode method_4_code 10 = .ok (.invokestatic 54, 3) := by decide +kernel
theorem pd_36 : parseMethodDescriptor "(C)Ljava/lang/String;" = some ⟨[.char], some (.object "java/lang/String")⟩ := by decide +kernel
theorem dc48_13 : decode method_4_code 13 = .ok (.areturn, 1) := by decide +kernel
theorem dc48_14 : decode method_4_code 14 = .ok (.iload_n 0, 1) := by decide +kernel
theorem dc48_15 : decode method_4_code 15 = .ok (.bipush 100, 2) := by decide +kernel
theorem dc48_17 : decode method_4_code 17 = .ok (.if_icmp .ge 34, 3) := by decide +kernel
theorem dc48_20 : decode method_4_code 20 = .ok (.new 22, 3) := by decide +kernel
theorem dc48_23 : decode method_4_code 23 = .ok (.dup, 1) := by decide +kernel
theorem dc48_24 : decode method_4_code 24 = .ok (.iconst 2, 1) := by decide +kernel
theorem dc48_25 : decode method_4_code 25 = .ok (.newarray .char, 2) := by decide +kernel
theorem dc48_27 : decode method_4_code 27 = .ok (.dup, 1) := by decide +kernel
theorem dc48_28 : decode method_4_code 28 = .ok (.iconst 0, 1) := by decide +kernel
theorem dc48_29 : decode method_4_code 29 = .ok (.iload_n 0, 1) := by decide +kernel
theorem dc48_30 : decode method_4_code 30 = .ok (.bipush 10, 2) := by decide +kernel
theorem dc48_32 : decode method_4_code 32 = .ok (.idiv, 1) := by decide +kernel
theorem dc48_33 : decode method_4_code 33 = .ok (.invokestatic 33, 3) := by decide +kernel
theorem dc48_36 : decode method_4_code 36 = .ok (.castore, 1) := by decide +kernel
theorem dc48_37 : decode method_4_code 37 = .ok (.dup, 1) := by decide +kernel
theorem dc48_38 : decode method_4_code 38 = .ok (.iconst 1, 1) := by decide +kernel
theorem dc48_39 : decode method_4_code 39 = .ok (.iload_n 0, 1) := by decide +kernel
theorem dc48_40 : decode method_4_code 40 = .ok (.bipush 10, 2) := by decide +kernel
theorem dc48_42 : decode method_4_code 42 = .ok (.irem, 1) := by decide +kernel
theorem dc48_43 : decode method_4_code 43 = .ok (.invokestatic 33, 3) := by decide +kernel
theorem dc48_46 : decode method_4_code 46 = .ok (.castore, 1) := by decide +kernel
theorem dc48_47 : decode method_4_code 47 = .ok (.invokespecial 51, 3) := by decide +kernel
theorem pd_37 : parseMethodDescriptor "([C)V" = some ⟨[(.array .char)], none⟩ := by decide +kernel
theorem dc48_50 : decode method_4_code 50 = .ok (.areturn, 1) := by decide +kernel
theorem dc48_51 : decode method_4_code 51 = .ok (.new 22, 3) := by decide +kernel
theorem dc48_54 : decode method_4_code 54 = .ok (.dup, 1) := by decide +kernel
theorem dc48_55 : decode method_4_code 55 = .ok (.iconst 3, 1) := by decide +kernel
theorem dc48_56 : decode method_4_code 56 = .ok (.newarray .char, 2) := by decide +kernel
theorem dc48_58 : decode method_4_code 58 = .ok (.dup, 1) := by decide +kernel
theorem dc48_59 : decode method_4_code 59 = .ok (.iconst 0, 1) := by decide +kernel
theorem dc48_60 : decode method_4_code 60 = .ok (.iload_n 0, 1) := by decide +kernel
theorem dc48_61 : decode method_4_code 61 = .ok (.bipush 100, 2) := by decide +kernel
theorem dc48_63 : decode method_4_code 63 = .ok (.idiv, 1) := by decide +kernel
theorem dc48_64 : decode method_4_code 64 = .ok (.invokestatic 33, 3) := by decide +kernel
theorem dc48_67 : decode method_4_code 67 = .ok (.castore, 1) := by decide +kernel
theorem dc48_68 : decode method_4_code 68 = .ok (.dup, 1) := by decide +kernel
theorem dc48_69 : decode method_4_code 69 = .ok (.iconst 1, 1) := by decide +kernel
theorem dc48_70 : decode method_4_code 70 = .ok (.iload_n 0, 1) := by decide +kernel
theorem dc48_71 : decode method_4_code 71 = .ok (.bipush 10, 2) := by decide +kernel
theorem dc48_73 : decode method_4_code 73 = .ok (.idiv, 1) := by decide +kernel
theorem dc48_74 : decode method_4_code 74 = .ok (.bipush 10, 2) := by decide +kernel
theorem dc48_76 : decode method_4_code 76 = .ok (.irem, 1) := by decide +kernel
theorem dc48_77 : decode method_4_code 77 = .ok (.invokestatic 33, 3) := by decide +kernel
theorem dc48_80 : decode method_4_code 80 = .ok (.castore, 1) := by decide +kernel
theorem dc48_81 : decode method_4_code 81 = .ok (.dup, 1) := by decide +kernel
theorem dc48_82 : decode method_4_code 82 = .ok (.iconst 2, 1) := by decide +kernel
theorem dc48_83 : decode method_4_code 83 = .ok (.iload_n 0, 1) := by decide +kernel
theorem dc48_84 : decode method_4_code 84 = .ok (.bipush 10, 2) := by decide +kernel
theorem dc48_86 : decode method_4_code 86 = .ok (.irem, 1) := by decide +kernel
theorem dc48_87 : decode method_4_code 87 = .ok (.invokestatic 33, 3) := by decide +kernel
theorem dc48_90 : decode method_4_code 90 = .ok (.castore, 1) := by decide +kernel
theorem dc48_91 : decode method_4_code 91 = .ok (.invokespecial 51, 3) := by decide +kernel
theorem dc48_94 : decode method_4_code 94 = .ok (.areturn, 1) := by decide +kernel
theorem ef_rmSm (mi : MethodId) (m : Int32) (M : Nat) (cz : Int32) : entryFrame mi #[(.int m)] 1 = mkF mi 0 #[.val (.int m)] [] := by first | (simp [entryFrame, mkF, argsToLocals, Value.category]; done) | rfl
def Q_rmSm (Z : State) (m : Int32) (M : Nat) (cz : Int32) (h0 : Heap) (n0 : Nat) (vv_ : Option Value) (hh_ : Heap) (LL_ : List Loc) : Prop := ∃ (s b : Addr) (kb : ClassId) (kk : Nat), vv_ = some (.ref s) ∧ Fr n0 LL_ ∧ Keep h0 hh_ [] ∧ h0.size ≤ s ∧ Exa Z hh_ s "java/lang/String" ∧ Fld Z hh_ s "java/lang/String" "coder" "B" (.int (0 : Int32)) ∧ Fld Z hh_ s "java/lang/String" "value" "[B" (.ref b) ∧ Arv Z hh_ b kb .byte (Int32.ofNat kk) ((dl kk M).map Value.int) (.int (0 : Int32)) ∧ Exa Z hh_ b "[B" ∧ 1 ≤ kk ∧ kk ≤ 3 ∧ M / 10 ^ kk = 0 ∧ (kk = 1 ∨ M / 10 ^ (kk - 1) ≠ 0)
set_option maxRecDepth 65536 in
set_option maxHeartbeats 40000000 in
theorem rmSm (l : Launch) (Z : State) (a0 : Array Value) (hw : ∀ d ∈ tables_1, d.before a0 Z = true) (ws : List Jvm.Cond) (m : Int32) (M : Nat) (cz : Int32) (h0 : Heap) (n0 : Nat) (Z0 : n0 ≤ h0.size) (hM : m.toInt = (M : Int)) (hM3 : M < 1000) (SC : Sta Z h0 "java/lang/String" "COMPACT_STRINGS" "Z" (.int cz)) (hcz : ¬ (cz = (0 : Int32))) :
    MetFree l (⟨"com/example/hoarfrost/hoarfrost/IdFormDecimalPinLaw", "small", "(I)Ljava/lang/String;"⟩ : MethodName) (head1 (Jvm.Cond.code (⟨"com/example/hoarfrost/hoarfrost/IdFormDecimalPinLaw", "small", "(I)Ljava/lang/String;"⟩ : MethodName) method_4_code 1 (some (.object "java/lang/String")) :: ws) ({ frames := 4, cells := 3, slots := 10, locals := 66 } : Room)) (fun aa_ U => aa_ = #[(.int m)] ∧ Z.Warmed39 U.vm ∧ U.heap = h0) (fun _ _ _ _ _ => True) (fun _ U oo_ UV_ => ∃ vv_ LL_, oo_ = .returned vv_ ∧ Q_rmSm Z m M cz h0 n0 vv_ UV_.heap LL_ ∧ FrameEnd U oo_ UV_ LL_ ({ frames := 4, cells := 3, slots := 10, locals := 66 } : Room).cells ({ frames := 4, cells := 3, slots := 10, locals := 66 } : Room).slots) := by
  refine MetFree.of_bodySF (plainFor_of_name pn_3) hisR ?_
  intro pg ev si mi args below meth ci s₁ Bd hml0 hP0 hK
  obtain ⟨rfl, hZ, hh⟩ := hP0
  have hx := Bd.exec
  have hby := Bd.bytes
  have hml : ci.maxLocals = 1 := hml0
  have hown : si.vm.findClass "com/example/hoarfrost/hoarfrost/IdFormDecimalPinLaw" = some mi.cls := findClass_of_methodNamed Bd.named
  have hnm := (name_of_methodNamed Bd.named Bd.method).1
  have X0 : Stand pg l ev ({ frames := 4, cells := 3, slots := 10, locals := 66 } : Room) si mi #[(.int m)] below meth ci s₁ [] 0 0 := Stand.of_body Bd
  have e0 : s₁.heap = h0 := by rw [← hh, Bd.state]; rfl
  have N0 := Fr.nil n0
  refine Go.start (fun P hP => ?_)
  refine Go.st (fun t_ k_ => castTop (ef_rmSm mi m M cz) k_) (A := s₁.setTop (mkF mi 0 #[.val (.int m)] [])) ?_
  show Go _ _ _ (s₁.setTop (mkF mi 0 #[.val (.int m)] [])) _
  refine g_iloadN X0 hx hby dc48_0 rfl ?_
  refine g_bipush X0 hx hby dc48_1 (v := 10) rfl ?_
  by_cases hc3_1 : m < (10 : Int32)
  · refine g_icmpNo X0 hx hby dc48_3 (tlt hc3_1).2.1 ?_
    refine g_iloadN X0 hx hby dc48_6 rfl ?_
    obtain ⟨_, _, ⟨T1, L1, k1, n1⟩, -, X1, ⟨Lc1, hQ1, l1, y1, z1⟩, st1⟩ := Jvm.LawKit.callS X0 hx (y := (⟨"com/example/hoarfrost/hoarfrost/IdFormDecimalPinLaw", "digit", "(I)C"⟩ : MethodName)) hown (mvT hZ (hw _ (own_m 209 rfl))) (mvT hZ (hw _ (own_m 210 rfl))) (mvT hZ (hw _ (own_m 211 rfl))) (mvT hZ (hw _ (own_m 212 rfl))) (by decide) (backOf (W := 0) (rmDg l Z a0 hw [] m h0 n0 Z0) hZ (hw _ (own_m 212 rfl)) (hw _ (own_m 211 rfl)) (by decide) (by decide)) (g := (mkF mi 7 #[.val (.int m)] [(.int m)])) rfl (by rw [hml]; rfl) (argsL := [(.int m)]) (rest := []) (lenOf pd_20 rfl) rfl (by show 2 * 0 + _ ≤ _; exact Nat.le_of_eq rfl) (hb hby dc48_7) (fun _ _ => ⟨rfl, e0, (by decide : 0 + 0 ≤ _), (by decide : 0 + 0 ≤ _)⟩)
    dsimp only [Pt.U, Pt.locs, Pt.cells, Pt.slots] at X1 l1 y1 z1 st1 hQ1
    subst y1 z1
    have X1 := own_cs X1 (cells' := 0) (slots' := 0) rfl rfl
    obtain ⟨rfl, N1q, e1⟩ := hQ1
    have N1 := own_fr l1 (Fr.app N0 N1q)
    refine Go.st st1 ?_
    show Go _ _ _ (T1.setTop (mkF mi 10 #[.val (.int m)] [(.int (fDg m))])) _
    have hl10 := own_mlt hM (k := 10) rfl hc3_1
    rw [dg_0 hM hl10]
    show Go _ _ _ (T1.setTop (mkF mi 10 #[.val (.int m)] [(.int (dch (M / 10 ^ 0)))])) _
    obtain ⟨_, _, ⟨T2, L2, k2, n2⟩, -, X2, ⟨Lc2, hQ2, l2, y2, z2⟩, st2⟩ := Jvm.LawKit.callS X1 hx (y := (⟨"java/lang/String", "valueOf", "(C)Ljava/lang/String;"⟩ : MethodName)) hown (mvT hZ (hw _ (own_m 250 rfl))) (mvT hZ (hw _ (own_m 251 rfl))) (mvT hZ (hw _ (own_m 7 rfl))) (mvT hZ (hw _ (own_m 252 rfl))) (by decide) (backOf (W := 0) (rmVO l Z a0 hw [] (dch (M / 10 ^ 0)) cz h0 n0 Z0 SC hcz (dch_dig _)) hZ (hw _ (own_m 252 rfl)) (hw _ (own_m 7 rfl)) (by decide) (by decide)) (g := (mkF mi 10 #[.val (.int m)] [(.int (dch (M / 10 ^ 0)))])) rfl (by rw [hml]; rfl) (argsL := [(.int (dch (M / 10 ^ 0)))]) (rest := []) (lenOf pd_36 rfl) rfl (by show 2 * 0 + _ ≤ _; exact Nat.le_of_eq rfl) (hb hby dc48_10) (fun _ _ => ⟨rfl, e1, (by decide : 0 + 2 ≤ _), (by decide : 0 + 5 ≤ _)⟩)
    dsimp only [Pt.U, Pt.locs, Pt.cells, Pt.slots] at X2 l2 y2 z2 st2 hQ2
    subst y2 z2
    have X2 := own_cs X2 (cells' := 2) (slots' := 5) rfl rfl
    obtain ⟨h2, e2⟩ : ∃ z, T2.heap = z := ⟨_, rfl⟩
    rw [e2] at hQ2
    obtain ⟨s2_, b2, kb2, rfl, N2q, K2, z_s2_, SE2, SCo2, SVa2, SAr2, SEb2⟩ := hQ2
    have N2 := own_fr l2 (Fr.app N1 N2q)
    have Zs3 : n0 ≤ h2.size := Nat.le_trans Z0 K2.1
    have KC3 : Keep h0 h2 [] := (Keep.refl h0 []).trans K2 all0
    have sz_s2_ : h0.size ≤ s2_ := Nat.le_trans (Keep.refl h0 []).1 z_s2_
    refine Go.st st2 ?_
    obtain ⟨fs, hr, hrun, hended, hW, hsame⟩ := X2.leave (v := some (.ref s2_)) (fun h => by rw [Bd.returns] at h; cases h) (BodyLoose.notSynchronized Bd)
    refine ⟨_, _, ?_, hP _ _ ⟨hrun, hended, _, _, rfl, ?_, ⟨_, rfl⟩, hW, hsame.mono (by decide) (by decide)⟩⟩
    · exact retOut X2 hx Bd.returns rfl (Or.inr (Or.inr (Or.inr (Or.inr ⟨rfl, rfl, rfl⟩)))) (hb hby dc48_13) hr
    · show ∃ (s b : Addr) (kb : ClassId) (kk : Nat), (some (.ref s2_) : Option Value) = some (.ref s) ∧ Fr n0 _ ∧ Keep h0 T2.heap [] ∧ h0.size ≤ s ∧ Exa Z T2.heap s "java/lang/String" ∧ Fld Z T2.heap s "java/lang/String" "coder" "B" (.int (0 : Int32)) ∧ Fld Z T2.heap s "java/lang/String" "value" "[B" (.ref b) ∧ Arv Z T2.heap b kb .byte (Int32.ofNat kk) ((dl kk M).map Value.int) (.int (0 : Int32)) ∧ Exa Z T2.heap b "[B" ∧ 1 ≤ kk ∧ kk ≤ 3 ∧ M / 10 ^ kk = 0 ∧ (kk = 1 ∨ M / 10 ^ (kk - 1) ≠ 0)
      rw [e2]
      exact ⟨s2_, b2, kb2, 1, rfl, N2, KC3, sz_s2_, SE2, SCo2, SVa2, SAr2, SEb2, by decide, by decide, (by show M / 10 = 0; omega), Or.inl rfl⟩
  · refine g_icmpYes X0 hx hby dc48_3 (flt hc3_1).2.1 (pc0 := 3) (pc' := 14) rfl (by decide) (by decide) ?_
    refine g_iloadN X0 hx hby dc48_14 rfl ?_
    refine g_bipush X0 hx hby dc48_15 (v := 100) rfl ?_
    by_cases hc17_2 : m < (100 : Int32)
    · refine g_icmpNo X0 hx hby dc48_17 (tlt hc17_2).2.1 ?_
      obtain ⟨T4, h4, X4, e4, E4, A4, D4, -, st4⟩ := newO X0 hx hZ hown (hw _ (own_m 269 rfl)) (hw _ (own_m 8 rfl)) (hw _ (own_m 7 rfl)) e0 (g := (mkF mi 20 #[.val (.int m)] [])) rfl (hb hby dc48_20) (by decide) (by decide)
      obtain ⟨ob4, g4⟩ : ∃ z, z = h0.size := ⟨_, rfl⟩
      rw [← g4] at A4 D4 st4
      have Zs5 : n0 ≤ h4.size := Nat.le_trans Z0 E4.1
      have KC5 : Keep h0 h4 [] := (Keep.refl h0 []).ext E4
      have g_ob4 : n0 ≤ ob4 := Nat.le_trans Z0 (Nat.le_of_eq g4.symm)
      have sz_ob4 : h0.size ≤ ob4 := Nat.le_trans (Keep.refl h0 []).1 (Nat.le_of_eq g4.symm)
      have F4_10 : Fld Z h4 ob4 "java/lang/String" "value" "[B" .null := D4 (Or.inr (hw _ (own_m 10 rfl))) (ty := (.array .byte)) (by decide)
      have F4_11 : Fld Z h4 ob4 "java/lang/String" "coder" "B" (.int 0) := D4 (Or.inr (hw _ (own_m 11 rfl))) (ty := .byte) (by decide)
      refine Go.st st4 ?_
      refine g_dup X4 hx hby dc48_23 rfl ?_
      refine g_iconst X4 hx hby dc48_24 (v := 2) rfl ?_
      obtain ⟨T6, h6, k6, X6, e6, E6, A6, EX6, st6⟩ := newPE X4 hx hZ (hw _ (own_m 34 rfl)) e4 (g := (mkF mi 25 #[.val (.int m)] [(.int 2), (.ref ob4), (.ref ob4)])) rfl (hb hby dc48_25) rfl (by decide) (cap := 2) (by decide) (by decide) (by decide) (by decide) (ad := "[C") (by decide)
      obtain ⟨ob6, g6⟩ : ∃ z, z = h4.size := ⟨_, rfl⟩
      rw [← g6] at A6 EX6 st6
      have Zs7 : n0 ≤ h6.size := Nat.le_trans Zs5 E6.1
      have KC7 : Keep h0 h6 [] := KC5.ext E6
      have g_ob6 : n0 ≤ ob6 := Nat.le_trans Zs5 (Nat.le_of_eq g6.symm)
      have sz_ob6 : h0.size ≤ ob6 := Nat.le_trans KC5.1 (Nat.le_of_eq g6.symm)
      have V6 : Arv Z h6 ob6 k6 .char (2 : Int32) [(.int (0 : Int32)), (.int (0 : Int32))] (.int (0 : Int32)) := (Arv.new A6 (by decide)).pad (pad_rep [] (.int (0 : Int32)) 2)
      refine Go.st st6 ?_
      refine g_dup X6 hx hby dc48_27 rfl ?_
      refine g_iconst X6 hx hby dc48_28 (v := 0) rfl ?_
      refine g_iloadN X6 hx hby dc48_29 rfl ?_
      refine g_bipush X6 hx hby dc48_30 (v := 10) rfl ?_
      refine Go.s (XS.idiv X6.here hx rfl (hb hby dc48_32) rfl (by decide)) ?_
      obtain ⟨_, _, ⟨T8, L8, k8, n8⟩, -, X8, ⟨Lc8, hQ8, l8, y8, z8⟩, st8⟩ := Jvm.LawKit.callS X6 hx (y := (⟨"com/example/hoarfrost/hoarfrost/IdFormDecimalPinLaw", "digit", "(I)C"⟩ : MethodName)) hown (mvT hZ (hw _ (own_m 209 rfl))) (mvT hZ (hw _ (own_m 210 rfl))) (mvT hZ (hw _ (own_m 211 rfl))) (mvT hZ (hw _ (own_m 212 rfl))) (by decide) (backOf (W := 5) (rmDg l Z a0 hw [] (m / (10 : Int32)) h6 n0 Zs7) hZ (hw _ (own_m 212 rfl)) (hw _ (own_m 211 rfl)) (by decide) (by decide)) (g := (mkF mi 33 #[.val (.int m)] [(.int (m / (10 : Int32))), (.int 0), (.ref ob6), (.ref ob6), (.ref ob4), (.ref ob4)])) rfl (by rw [hml]; rfl) (argsL := [(.int (m / (10 : Int32)))]) (rest := [(.int 0), (.ref ob6), (.ref ob6), (.ref ob4), (.ref ob4)]) (lenOf pd_20 rfl) rfl (by show 2 * 0 + _ ≤ _; exact Nat.le_of_eq rfl) (hb hby dc48_33) (fun _ _ => ⟨rfl, e6, (by decide : 2 + 0 ≤ _), (by decide : 6 + 0 ≤ _)⟩)
      dsimp only [Pt.U, Pt.locs, Pt.cells, Pt.slots] at X8 l8 y8 z8 st8 hQ8
      subst y8 z8
      have X8 := own_cs X8 (cells' := 2) (slots' := 6) rfl rfl
      obtain ⟨rfl, N8q, e8⟩ := hQ8
      have N8 := own_fr l8 (Fr.app N0 N8q)
      refine Go.st st8 ?_
      show Go _ _ _ (T8.setTop (mkF mi 36 #[.val (.int m)] [(.int (fDg (m / (10 : Int32)))), (.int 0), (.ref ob6), (.ref ob6), (.ref ob4), (.ref ob4)])) _
      have hl100 := own_mlt hM (k := 100) rfl hc17_2
      have hg10 := own_mge hM (k := 10) rfl hc3_1
      rw [dg_10 hM hl100]
      show Go _ _ _ (T8.setTop (mkF mi 36 #[.val (.int m)] [(.int (dch (M / 10 ^ 1))), (.int 0), (.ref ob6), (.ref ob6), (.ref ob4), (.ref ob4)])) _
      have ov9 := V6
      obtain ⟨cl9, Ar9, q9, S9, M9, H9, G9⟩ := ov9
      have hin9 : ¬ ((0 : Int32) < 0 ∨ cl9.slots.size ≤ ((0 : Int32)).toNatClampNeg) := inb_of S9 ⟨by decide, by decide⟩
      obtain ⟨T10, h10, X10, e10, W10, st10⟩ := stC X8 hx hZ e8 Ar9 (j := (0 : Int32)) hin9 (g := (mkF mi 36 #[.val (.int m)] [(.int (dch (M / 10 ^ 1))), (.int 0), (.ref ob6), (.ref ob6), (.ref ob4), (.ref ob4)])) rfl rfl (hb hby dc48_36)
      have Zs11 : n0 ≤ h10.size := Nat.le_trans Zs7 (Keep.of_wr W10).1
      have KC11 : Keep h0 h10 [] := KC7.wr W10 (Or.inr sz_ob6)
      have N11 := Fr.snoc X10 N8 g_ob6
      have V10 : Arv Z h10 ob6 k6 .char (2 : Int32) [(.int ((dch (M / 10 ^ 1)).toUInt32.toUInt16.toUInt32.toInt32)), (.int 0)] (.int (0 : Int32)) := Arv.set Ar9 q9 S9 M9 H9 G9 (fits_nar_char _) W10 0 rfl (Nat.le_of_ble_eq_true rfl)
      rw [own_ncd] at V10
      refine Go.st st10 ?_
      refine g_dup X10 hx hby dc48_37 rfl ?_
      refine g_iconst X10 hx hby dc48_38 (v := 1) rfl ?_
      refine g_iloadN X10 hx hby dc48_39 rfl ?_
      refine g_bipush X10 hx hby dc48_40 (v := 10) rfl ?_
      refine Go.s (iremM X10 hx rfl (hb hby dc48_42) rfl (by decide)) ?_
      obtain ⟨_, _, ⟨T12, L12, k12, n12⟩, -, X12, ⟨Lc12, hQ12, l12, y12, z12⟩, st12⟩ := Jvm.LawKit.callS X10 hx (y := (⟨"com/example/hoarfrost/hoarfrost/IdFormDecimalPinLaw", "digit", "(I)C"⟩ : MethodName)) hown (mvT hZ (hw _ (own_m 209 rfl))) (mvT hZ (hw _ (own_m 210 rfl))) (mvT hZ (hw _ (own_m 211 rfl))) (mvT hZ (hw _ (own_m 212 rfl))) (by decide) (backOf (W := 5) (rmDg l Z a0 hw [] (m % (10 : Int32)) h10 n0 Zs11) hZ (hw _ (own_m 212 rfl)) (hw _ (own_m 211 rfl)) (by decide) (by decide)) (g := (mkF mi 43 #[.val (.int m)] [(.int (m % (10 : Int32))), (.int 1), (.ref ob6), (.ref ob6), (.ref ob4), (.ref ob4)])) rfl (by rw [hml]; rfl) (argsL := [(.int (m % (10 : Int32)))]) (rest := [(.int 1), (.ref ob6), (.ref ob6), (.ref ob4), (.ref ob4)]) (lenOf pd_20 rfl) rfl (by show 2 * 0 + _ ≤ _; exact Nat.le_of_eq rfl) (hb hby dc48_43) (fun _ _ => ⟨rfl, e10, (by decide : 2 + 0 ≤ _), (by decide : 6 + 0 ≤ _)⟩)
      dsimp only [Pt.U, Pt.locs, Pt.cells, Pt.slots] at X12 l12 y12 z12 st12 hQ12
      subst y12 z12
      have X12 := own_cs X12 (cells' := 2) (slots' := 6) rfl rfl
      obtain ⟨rfl, N12q, e12⟩ := hQ12
      have N12 := own_fr l12 (Fr.app N11 N12q)
      refine Go.st st12 ?_
      show Go _ _ _ (T12.setTop (mkF mi 46 #[.val (.int m)] [(.int (fDg (m % (10 : Int32)))), (.int 1), (.ref ob6), (.ref ob6), (.ref ob4), (.ref ob4)])) _
      rw [dg_r hM]
      show Go _ _ _ (T12.setTop (mkF mi 46 #[.val (.int m)] [(.int (dch (M / 10 ^ 0))), (.int 1), (.ref ob6), (.ref ob6), (.ref ob4), (.ref ob4)])) _
      have ov13 := V10
      obtain ⟨cl13, Ar13, q13, S13, M13, H13, G13⟩ := ov13
      have hin13 : ¬ ((1 : Int32) < 0 ∨ cl13.slots.size ≤ ((1 : Int32)).toNatClampNeg) := inb_of S13 ⟨by decide, by decide⟩
      obtain ⟨T14, h14, X14, e14, W14, st14⟩ := stC X12 hx hZ e12 Ar13 (j := (1 : Int32)) hin13 (g := (mkF mi 46 #[.val (.int m)] [(.int (dch (M / 10 ^ 0))), (.int 1), (.ref ob6), (.ref ob6), (.ref ob4), (.ref ob4)])) rfl rfl (hb hby dc48_46)
      have Zs15 : n0 ≤ h14.size := Nat.le_trans Zs11 (Keep.of_wr W14).1
      have KC15 : Keep h0 h14 [] := KC11.wr W14 (Or.inr sz_ob6)
      have N15 := Fr.snoc X14 N12 g_ob6
      have V14 : Arv Z h14 ob6 k6 .char (2 : Int32) [(.int (dch (M / 10 ^ 1))), (.int ((dch (M / 10 ^ 0)).toUInt32.toUInt16.toUInt32.toInt32))] (.int (0 : Int32)) := Arv.set Ar13 q13 S13 M13 H13 G13 (fits_nar_char _) W14 1 rfl (Nat.le_of_ble_eq_true rfl)
      rw [own_ncd] at V14
      refine Go.st st14 ?_
      have f17 := (((A4.ext E6).wr W10).wr W14)
      have ne_ob4_ob6 : ob4 ≠ ob6 := Nat.ne_of_lt (Nat.lt_of_lt_of_le A4.lt (Nat.le_of_eq g6.symm))
      have f18 := (((F4_11.ext E6).other W10 (Or.inl ne_ob4_ob6)).other W14 (Or.inl ne_ob4_ob6))
      have f19 := (((F4_10.ext E6).other W10 (Or.inl ne_ob4_ob6)).other W14 (Or.inl ne_ob4_ob6))
      have f20 := ((((SC.ext E4).ext E6).wr W10).wr W14)
      obtain ⟨_, _, ⟨T16, L16, k16, n16⟩, -, X16, ⟨Lc16, hQ16, l16, y16, z16⟩, st16⟩ := X14.specialBack hx (y := (⟨"java/lang/String", "<init>", "([C)V"⟩ : MethodName)) rfl hown (mvT hZ (hw _ (own_m 270 rfl))) (mvT hZ (hw _ (own_m 271 rfl))) (mvT hZ (hw _ (own_m 272 rfl))) (by decide) (backOf (W := 1) (rmSC2 l Z a0 hw [] ob4 ob6 k6 (dch (M / 10 ^ 1)) (dch (M / 10 ^ 0)) cz h14 n0 Zs15 f17 f18 f19 g_ob4 V14 (Ne.symm ne_ob4_ob6) f20 hcz (dch_dig _) (dch_dig _)) hZ (hw _ (own_m 272 rfl)) (hw _ (own_m 7 rfl)) (by decide) (by decide)) (g := (mkF mi 47 #[.val (.int m)] [(.ref ob6), (.ref ob4), (.ref ob4)])) rfl (by rw [hml]; rfl) (Steps.refl _) (a := ob4) (argsL := [(.ref ob6)]) (rest := [(.ref ob4)]) (lenOf pd_37 rfl) rfl (by show 2 * 0 + _ ≤ _; exact Nat.le_of_eq rfl) (hb hby dc48_47) (fun _ _ => ⟨rfl, e14, (by decide : 2 + 1 ≤ _), (by decide : 6 + 3 ≤ _)⟩)
      dsimp only [Pt.U, Pt.locs, Pt.cells, Pt.slots] at X16 l16 y16 z16 st16 hQ16
      subst y16 z16
      have X16 := own_cs X16 (cells' := 3) (slots' := 9) rfl rfl
      obtain ⟨h16, e16⟩ : ∃ z, T16.heap = z := ⟨_, rfl⟩
      rw [e16] at hQ16
      obtain ⟨rfl, N16q, K16, sb16, sk16, SE16, SCo16, SVa16, SAr16, SEb16⟩ := hQ16
      have N16 := own_fr l16 (Fr.app N15 N16q)
      have Zs21 : n0 ≤ h16.size := Nat.le_trans Zs15 K16.1
      have KC21 : Keep h0 h16 [] := KC15.trans K16 (allS (P := fun x => x ∈ [] ∨ h0.size ≤ x) (Or.inr sz_ob4) all0)
      refine Go.tr st16 ?_
      obtain ⟨fs, hr, hrun, hended, hW, hsame⟩ := X16.leave (v := some (.ref ob4)) (fun h => by rw [Bd.returns] at h; cases h) (BodyLoose.notSynchronized Bd)
      refine ⟨_, _, ?_, hP _ _ ⟨hrun, hended, _, _, rfl, ?_, ⟨_, rfl⟩, hW, hsame.mono (by decide) (by decide)⟩⟩
      · exact retOut X16 hx Bd.returns rfl (Or.inr (Or.inr (Or.inr (Or.inr ⟨rfl, rfl, rfl⟩)))) (hb hby dc48_50) hr
      · show ∃ (s b : Addr) (kb : ClassId) (kk : Nat), (some (.ref ob4) : Option Value) = some (.ref s) ∧ Fr n0 _ ∧ Keep h0 T16.heap [] ∧ h0.size ≤ s ∧ Exa Z T16.heap s "java/lang/String" ∧ Fld Z T16.heap s "java/lang/String" "coder" "B" (.int (0 : Int32)) ∧ Fld Z T16.heap s "java/lang/String" "value" "[B" (.ref b) ∧ Arv Z T16.heap b kb .byte (Int32.ofNat kk) ((dl kk M).map Value.int) (.int (0 : Int32)) ∧ Exa Z T16.heap b "[B" ∧ 1 ≤ kk ∧ kk ≤ 3 ∧ M / 10 ^ kk = 0 ∧ (kk = 1 ∨ M / 10 ^ (kk - 1) ≠ 0)
        rw [e16]
        exact ⟨ob4, sb16, sk16, 2, rfl, N16, KC21, sz_ob4, SE16, SCo16, SVa16, SAr16, SEb16, by decide, by decide, (by show M / 100 = 0; omega), Or.inr (by show M / 10 ≠ 0; omega)⟩
    · refine g_icmpYes X0 hx hby dc48_17 (flt hc17_2).2.1 (pc0 := 17) (pc' := 51) rfl (by decide) (by decide) ?_
      obtain ⟨T22, h22, X22, e22, E22, A22, D22, -, st22⟩ := newO X0 hx hZ hown (hw _ (own_m 269 rfl)) (hw _ (own_m 8 rfl)) (hw _ (own_m 7 rfl)) e0 (g := (mkF mi 51 #[.val (.int m)] [])) rfl (hb hby dc48_51) (by decide) (by decide)
      obtain ⟨ob22, g22⟩ : ∃ z, z = h0.size := ⟨_, rfl⟩
      rw [← g22] at A22 D22 st22
      have Zs23 : n0 ≤ h22.size := Nat.le_trans Z0 E22.1
      have KC23 : Keep h0 h22 [] := (Keep.refl h0 []).ext E22
      have g_ob22 : n0 ≤ ob22 := Nat.le_trans Z0 (Nat.le_of_eq g22.symm)
      have sz_ob22 : h0.size ≤ ob22 := Nat.le_trans (Keep.refl h0 []).1 (Nat.le_of_eq g22.symm)
      have F22_10 : Fld Z h22 ob22 "java/lang/String" "value" "[B" .null := D22 (Or.inr (hw _ (own_m 10 rfl))) (ty := (.array .byte)) (by decide)
      have F22_11 : Fld Z h22 ob22 "java/lang/String" "coder" "B" (.int 0) := D22 (Or.inr (hw _ (own_m 11 rfl))) (ty := .byte) (by decide)
      refine Go.st st22 ?_
      refine g_dup X22 hx hby dc48_54 rfl ?_
      refine g_iconst X22 hx hby dc48_55 (v := 3) rfl ?_
      obtain ⟨T24, h24, k24, X24, e24, E24, A24, EX24, st24⟩ := newPE X22 hx hZ (hw _ (own_m 34 rfl)) e22 (g := (mkF mi 56 #[.val (.int m)] [(.int 3), (.ref ob22), (.ref ob22)])) rfl (hb hby dc48_56) rfl (by decide) (cap := 3) (by decide) (by decide) (by decide) (by decide) (ad := "[C") (by decide)
      obtain ⟨ob24, g24⟩ : ∃ z, z = h22.size := ⟨_, rfl⟩
      rw [← g24] at A24 EX24 st24
      have Zs25 : n0 ≤ h24.size := Nat.le_trans Zs23 E24.1
      have KC25 : Keep h0 h24 [] := KC23.ext E24
      have g_ob24 : n0 ≤ ob24 := Nat.le_trans Zs23 (Nat.le_of_eq g24.symm)
      have sz_ob24 : h0.size ≤ ob24 := Nat.le_trans KC23.1 (Nat.le_of_eq g24.symm)
      have V24 : Arv Z h24 ob24 k24 .char (3 : Int32) [(.int (0 : Int32)), (.int (0 : Int32)), (.int (0 : Int32))] (.int (0 : Int32)) := (Arv.new A24 (by decide)).pad (pad_rep [] (.int (0 : Int32)) 3)
      refine Go.st st24 ?_
      refine g_dup X24 hx hby dc48_58 rfl ?_
      refine g_iconst X24 hx hby dc48_59 (v := 0) rfl ?_
      refine g_iloadN X24 hx hby dc48_60 rfl ?_
      refine g_bipush X24 hx hby dc48_61 (v := 100) rfl ?_
      refine Go.s (XS.idiv X24.here hx rfl (hb hby dc48_63) rfl (by decide)) ?_
      obtain ⟨_, _, ⟨T26, L26, k26, n26⟩, -, X26, ⟨Lc26, hQ26, l26, y26, z26⟩, st26⟩ := Jvm.LawKit.callS X24 hx (y := (⟨"com/example/hoarfrost/hoarfrost/IdFormDecimalPinLaw", "digit", "(I)C"⟩ : MethodName)) hown (mvT hZ (hw _ (own_m 209 rfl))) (mvT hZ (hw _ (own_m 210 rfl))) (mvT hZ (hw _ (own_m 211 rfl))) (mvT hZ (hw _ (own_m 212 rfl))) (by decide) (backOf (W := 5) (rmDg l Z a0 hw [] (m / (100 : Int32)) h24 n0 Zs25) hZ (hw _ (own_m 212 rfl)) (hw _ (own_m 211 rfl)) (by decide) (by decide)) (g := (mkF mi 64 #[.val (.int m)] [(.int (m / (100 : Int32))), (.int 0), (.ref ob24), (.ref ob24), (.ref ob22), (.ref ob22)])) rfl (by rw [hml]; rfl) (argsL := [(.int (m / (100 : Int32)))]) (rest := [(.int 0), (.ref ob24), (.ref ob24), (.ref ob22), (.ref ob22)]) (lenOf pd_20 rfl) rfl (by show 2 * 0 + _ ≤ _; exact Nat.le_of_eq rfl) (hb hby dc48_64) (fun _ _ => ⟨rfl, e24, (by decide : 2 + 0 ≤ _), (by decide : 7 + 0 ≤ _)⟩)
      dsimp only [Pt.U, Pt.locs, Pt.cells, Pt.slots] at X26 l26 y26 z26 st26 hQ26
      subst y26 z26
      have X26 := own_cs X26 (cells' := 2) (slots' := 7) rfl rfl
      obtain ⟨rfl, N26q, e26⟩ := hQ26
      have N26 := own_fr l26 (Fr.app N0 N26q)
      refine Go.st st26 ?_
      show Go _ _ _ (T26.setTop (mkF mi 67 #[.val (.int m)] [(.int (fDg (m / (100 : Int32)))), (.int 0), (.ref ob24), (.ref ob24), (.ref ob22), (.ref ob22)])) _
      have hg100 := own_mge hM (k := 100) rfl hc17_2
      rw [dg_100 hM hM3]
      show Go _ _ _ (T26.setTop (mkF mi 67 #[.val (.int m)] [(.int (dch (M / 10 ^ 2))), (.int 0), (.ref ob24), (.ref ob24), (.ref ob22), (.ref ob22)])) _
      have ov27 := V24
      obtain ⟨cl27, Ar27, q27, S27, M27, H27, G27⟩ := ov27
      have hin27 : ¬ ((0 : Int32) < 0 ∨ cl27.slots.size ≤ ((0 : Int32)).toNatClampNeg) := inb_of S27 ⟨by decide, by decide⟩
      obtain ⟨T28, h28, X28, e28, W28, st28⟩ := stC X26 hx hZ e26 Ar27 (j := (0 : Int32)) hin27 (g := (mkF mi 67 #[.val (.int m)] [(.int (dch (M / 10 ^ 2))), (.int 0), (.ref ob24), (.ref ob24), (.ref ob22), (.ref ob22)])) rfl rfl (hb hby dc48_67)
      have Zs29 : n0 ≤ h28.size := Nat.le_trans Zs25 (Keep.of_wr W28).1
      have KC29 : Keep h0 h28 [] := KC25.wr W28 (Or.inr sz_ob24)
      have N29 := Fr.snoc X28 N26 g_ob24
      have V28 : Arv Z h28 ob24 k24 .char (3 : Int32) [(.int ((dch (M / 10 ^ 2)).toUInt32.toUInt16.toUInt32.toInt32)), (.int 0), (.int 0)] (.int (0 : Int32)) := Arv.set Ar27 q27 S27 M27 H27 G27 (fits_nar_char _) W28 0 rfl (Nat.le_of_ble_eq_true rfl)
      rw [own_ncd] at V28
      refine Go.st st28 ?_
      refine g_dup X28 hx hby dc48_68 rfl ?_
      refine g_iconst X28 hx hby dc48_69 (v := 1) rfl ?_
      refine g_iloadN X28 hx hby dc48_70 rfl ?_
      refine g_bipush X28 hx hby dc48_71 (v := 10) rfl ?_
      refine Go.s (XS.idiv X28.here hx rfl (hb hby dc48_73) rfl (by decide)) ?_
      refine g_bipush X28 hx hby dc48_74 (v := 10) rfl ?_
      refine Go.s (iremM X28 hx rfl (hb hby dc48_76) rfl (by decide)) ?_
      obtain ⟨_, _, ⟨T30, L30, k30, n30⟩, -, X30, ⟨Lc30, hQ30, l30, y30, z30⟩, st30⟩ := Jvm.LawKit.callS X28 hx (y := (⟨"com/example/hoarfrost/hoarfrost/IdFormDecimalPinLaw", "digit", "(I)C"⟩ : MethodName)) hown (mvT hZ (hw _ (own_m 209 rfl))) (mvT hZ (hw _ (own_m 210 rfl))) (mvT hZ (hw _ (own_m 211 rfl))) (mvT hZ (hw _ (own_m 212 rfl))) (by decide) (backOf (W := 5) (rmDg l Z a0 hw [] ((m / (10 : Int32)) % (10 : Int32)) h28 n0 Zs29) hZ (hw _ (own_m 212 rfl)) (hw _ (own_m 211 rfl)) (by decide) (by decide)) (g := (mkF mi 77 #[.val (.int m)] [(.int ((m / (10 : Int32)) % (10 : Int32))), (.int 1), (.ref ob24), (.ref ob24), (.ref ob22), (.ref ob22)])) rfl (by rw [hml]; rfl) (argsL := [(.int ((m / (10 : Int32)) % (10 : Int32)))]) (rest := [(.int 1), (.ref ob24), (.ref ob24), (.ref ob22), (.ref ob22)]) (lenOf pd_20 rfl) rfl (by show 2 * 0 + _ ≤ _; exact Nat.le_of_eq rfl) (hb hby dc48_77) (fun _ _ => ⟨rfl, e28, (by decide : 2 + 0 ≤ _), (by decide : 7 + 0 ≤ _)⟩)
      dsimp only [Pt.U, Pt.locs, Pt.cells, Pt.slots] at X30 l30 y30 z30 st30 hQ30
      subst y30 z30
      have X30 := own_cs X30 (cells' := 2) (slots' := 7) rfl rfl
      obtain ⟨rfl, N30q, e30⟩ := hQ30
      have N30 := own_fr l30 (Fr.app N29 N30q)
      refine Go.st st30 ?_
      show Go _ _ _ (T30.setTop (mkF mi 80 #[.val (.int m)] [(.int (fDg ((m / (10 : Int32)) % (10 : Int32)))), (.int 1), (.ref ob24), (.ref ob24), (.ref ob22), (.ref ob22)])) _
      rw [dg_10r hM]
      show Go _ _ _ (T30.setTop (mkF mi 80 #[.val (.int m)] [(.int (dch (M / 10 ^ 1))), (.int 1), (.ref ob24), (.ref ob24), (.ref ob22), (.ref ob22)])) _
      have ov31 := V28
      obtain ⟨cl31, Ar31, q31, S31, M31, H31, G31⟩ := ov31
      have hin31 : ¬ ((1 : Int32) < 0 ∨ cl31.slots.size ≤ ((1 : Int32)).toNatClampNeg) := inb_of S31 ⟨by decide, by decide⟩
      obtain ⟨T32, h32, X32, e32, W32, st32⟩ := stC X30 hx hZ e30 Ar31 (j := (1 : Int32)) hin31 (g := (mkF mi 80 #[.val (.int m)] [(.int (dch (M / 10 ^ 1))), (.int 1), (.ref ob24), (.ref ob24), (.ref ob22), (.ref ob22)])) rfl rfl (hb hby dc48_80)
      have Zs33 : n0 ≤ h32.size := Nat.le_trans Zs29 (Keep.of_wr W32).1
      have KC33 : Keep h0 h32 [] := KC29.wr W32 (Or.inr sz_ob24)
      have N33 := Fr.snoc X32 N30 g_ob24
      have V32 : Arv Z h32 ob24 k24 .char (3 : Int32) [(.int (dch (M / 10 ^ 2))), (.int ((dch (M / 10 ^ 1)).toUInt32.toUInt16.toUInt32.toInt32)), (.int 0)] (.int (0 : Int32)) := Arv.set Ar31 q31 S31 M31 H31 G31 (fits_nar_char _) W32 1 rfl (Nat.le_of_ble_eq_true rfl)
      rw [own_ncd] at V32
      refine Go.st st32 ?_
      refine g_dup X32 hx hby dc48_81 rfl ?_
      refine g_iconst X32 hx hby dc48_82 (v := 2) rfl ?_
      refine g_iloadN X32 hx hby dc48_83 rfl ?_
      refine g_bipush X32 hx hby dc48_84 (v := 10) rfl ?_
      refine Go.s (iremM X32 hx rfl (hb hby dc48_86) rfl (by decide)) ?_
      obtain ⟨_, _, ⟨T34, L34, k34, n34⟩, -, X34, ⟨Lc34, hQ34, l34, y34, z34⟩, st34⟩ := Jvm.LawKit.callS X32 hx (y := (⟨"com/example/hoarfrost/hoarfrost/IdFormDecimalPinLaw", "digit", "(I)C"⟩ : MethodName)) hown (mvT hZ (hw _ (own_m 209 rfl))) (mvT hZ (hw _ (own_m 210 rfl))) (mvT hZ (hw _ (own_m 211 rfl))) (mvT hZ (hw _ (own_m 212 rfl))) (by decide) (backOf (W := 5) (rmDg l Z a0 hw [] (m % (10 : Int32)) h32 n0 Zs33) hZ (hw _ (own_m 212 rfl)) (hw _ (own_m 211 rfl)) (by decide) (by decide)) (g := (mkF mi 87 #[.val (.int m)] [(.int (m % (10 : Int32))), (.int 2), (.ref ob24), (.ref ob24), (.ref ob22), (.ref ob22)])) rfl (by rw [hml]; rfl) (argsL := [(.int (m % (10 : Int32)))]) (rest := [(.int 2), (.ref ob24), (.ref ob24), (.ref ob22), (.ref ob22)]) (lenOf pd_20 rfl) rfl (by show 2 * 0 + _ ≤ _; exact Nat.le_of_eq rfl) (hb hby dc48_87) (fun _ _ => ⟨rfl, e32, (by decide : 2 + 0 ≤ _), (by decide : 7 + 0 ≤ _)⟩)
      dsimp only [Pt.U, Pt.locs, Pt.cells, Pt.slots] at X34 l34 y34 z34 st34 hQ34
      subst y34 z34
      have X34 := own_cs X34 (cells' := 2) (slots' := 7) rfl rfl
      obtain ⟨rfl, N34q, e34⟩ := hQ34
      have N34 := own_fr l34 (Fr.app N33 N34q)
      refine Go.st st34 ?_
      show Go _ _ _ (T34.setTop (mkF mi 90 #[.val (.int m)] [(.int (fDg (m % (10 : Int32)))), (.int 2), (.ref ob24), (.ref ob24), (.ref ob22), (.ref ob22)])) _
      rw [dg_r hM]
      show Go _ _ _ (T34.setTop (mkF mi 90 #[.val (.int m)] [(.int (dch (M / 10 ^ 0))), (.int 2), (.ref ob24), (.ref ob24), (.ref ob22), (.ref ob22)])) _
      have ov35 := V32
      obtain ⟨cl35, Ar35, q35, S35, M35, H35, G35⟩ := ov35
      have hin35 : ¬ ((2 : Int32) < 0 ∨ cl35.slots.size ≤ ((2 : Int32)).toNatClampNeg) := inb_of S35 ⟨by decide, by decide⟩
      obtain ⟨T36, h36, X36, e36, W36, st36⟩ := stC X34 hx hZ e34 Ar35 (j := (2 : Int32)) hin35 (g := (mkF mi 90 #[.val (.int m)] [(.int (dch (M / 10 ^ 0))), (.int 2), (.ref ob24), (.ref ob24), (.ref ob22), (.ref ob22)])) rfl rfl (hb hby dc48_90)
      have Zs37 : n0 ≤ h36.size := Nat.le_trans Zs33 (Keep.of_wr W36).1
      have KC37 : Keep h0 h36 [] := KC33.wr W36 (Or.inr sz_ob24)
      have N37 := Fr.snoc X36 N34 g_ob24
      have V36 : Arv Z h36 ob24 k24 .char (3 : Int32) [(.int (dch (M / 10 ^ 2))), (.int (dch (M / 10 ^ 1))), (.int ((dch (M / 10 ^ 0)).toUInt32.toUInt16.toUInt32.toInt32))] (.int (0 : Int32)) := Arv.set Ar35 q35 S35 M35 H35 G35 (fits_nar_char _) W36 2 rfl (Nat.le_of_ble_eq_true rfl)
      rw [own_ncd] at V36
      refine Go.st st36 ?_
      have f39 := ((((A22.ext E24).wr W28).wr W32).wr W36)
      have ne_ob22_ob24 : ob22 ≠ ob24 := Nat.ne_of_lt (Nat.lt_of_lt_of_le A22.lt (Nat.le_of_eq g24.symm))
      have f40 := ((((F22_11.ext E24).other W28 (Or.inl ne_ob22_ob24)).other W32 (Or.inl ne_ob22_ob24)).other W36 (Or.inl ne_ob22_ob24))
      have f41 := ((((F22_10.ext E24).other W28 (Or.inl ne_ob22_ob24)).other W32 (Or.inl ne_ob22_ob24)).other W36 (Or.inl ne_ob22_ob24))
      have f42 := (((((SC.ext E22).ext E24).wr W28).wr W32).wr W36)
      obtain ⟨_, _, ⟨T38, L38, k38, n38⟩, -, X38, ⟨Lc38, hQ38, l38, y38, z38⟩, st38⟩ := X36.specialBack hx (y := (⟨"java/lang/String", "<init>", "([C)V"⟩ : MethodName)) rfl hown (mvT hZ (hw _ (own_m 270 rfl))) (mvT hZ (hw _ (own_m 271 rfl))) (mvT hZ (hw _ (own_m 272 rfl))) (by decide) (backOf (W := 1) (rmSC3 l Z a0 hw [] ob22 ob24 k24 (dch (M / 10 ^ 2)) (dch (M / 10 ^ 1)) (dch (M / 10 ^ 0)) cz h36 n0 Zs37 f39 f40 f41 g_ob22 V36 (Ne.symm ne_ob22_ob24) f42 hcz (dch_dig _) (dch_dig _) (dch_dig _)) hZ (hw _ (own_m 272 rfl)) (hw _ (own_m 7 rfl)) (by decide) (by decide)) (g := (mkF mi 91 #[.val (.int m)] [(.ref ob24), (.ref ob22), (.ref ob22)])) rfl (by rw [hml]; rfl) (Steps.refl _) (a := ob22) (argsL := [(.ref ob24)]) (rest := [(.ref ob22)]) (lenOf pd_37 rfl) rfl (by show 2 * 0 + _ ≤ _; exact Nat.le_of_eq rfl) (hb hby dc48_91) (fun _ _ => ⟨rfl, e36, (by decide : 2 + 1 ≤ _), (by decide : 7 + 3 ≤ _)⟩)
      dsimp only [Pt.U, Pt.locs, Pt.cells, Pt.slots] at X38 l38 y38 z38 st38 hQ38
      subst y38 z38
      have X38 := own_cs X38 (cells' := 3) (slots' := 10) rfl rfl
      obtain ⟨h38, e38⟩ : ∃ z, T38.heap = z := ⟨_, rfl⟩
      rw [e38] at hQ38
      obtain ⟨rfl, N38q, K38, sb38, sk38, SE38, SCo38, SVa38, SAr38, SEb38⟩ := hQ38
      have N38 := own_fr l38 (Fr.app N37 N38q)
      have Zs43 : n0 ≤ h38.size := Nat.le_trans Zs37 K38.1
      have KC43 : Keep h0 h38 [] := KC37.trans K38 (allS (P := fun x => x ∈ [] ∨ h0.size ≤ x) (Or.inr sz_ob22) all0)
      refine Go.tr st38 ?_
      obtain ⟨fs, hr, hrun, hended, hW, hsame⟩ := X38.leave (v := some (.ref ob22)) (fun h => by rw [Bd.returns] at h; cases h) (BodyLoose.notSynchronized Bd)
      refine ⟨_, _, ?_, hP _ _ ⟨hrun, hended, _, _, rfl, ?_, ⟨_, rfl⟩, hW, hsame.mono (by decide) (by decide)⟩⟩
      · exact retOut X38 hx Bd.returns rfl (Or.inr (Or.inr (Or.inr (Or.inr ⟨rfl, rfl, rfl⟩)))) (hb hby dc48_94) hr
      · show ∃ (s b : Addr) (kb : ClassId) (kk : Nat), (some (.ref ob22) : Option Value) = some (.ref s) ∧ Fr n0 _ ∧ Keep h0 T38.heap [] ∧ h0.size ≤ s ∧ Exa Z T38.heap s "java/lang/String" ∧ Fld Z T38.heap s "java/lang/String" "coder" "B" (.int (0 : Int32)) ∧ Fld Z T38.heap s "java/lang/String" "value" "[B" (.ref b) ∧ Arv Z T38.heap b kb .byte (Int32.ofNat kk) ((dl kk M).map Value.int) (.int (0 : Int32)) ∧ Exa Z T38.heap b "[B" ∧ 1 ≤ kk ∧ kk ≤ 3 ∧ M / 10 ^ kk = 0 ∧ (kk = 1 ∨ M / 10 ^ (kk - 1) ≠ 0)
        rw [e38]
        exact ⟨ob22, sb38, sk38, 3, rfl, N38, KC43, sz_ob22, SE38, SCo38, SVa38, SAr38, SEb38, by decide, by decide, (by show M / 1000 = 0; omega), Or.inr (by show M / 100 ≠ 0; omega)⟩
theorem dc49_0 : decode jdk_43_method_13_code 0 = .ok (.aload_n 0, 1) := by decide +kernel
theorem dc49_1 : decode jdk_43_method_13_code 1 = .ok (.arraylength, 1) := by decide +kernel
theorem dc49_2 : decode jdk_43_method_13_code 2 = .ok (.aload_n 1, 1) := by decide +kernel
theorem dc49_3 : decode jdk_43_method_13_code 3 = .ok (.arraylength, 1) := by decide +kernel
theorem dc49_4 : decode jdk_43_method_13_code 4 = .ok (.if_icmp .ne 30, 3) := by decide +kernel
theorem dc49_7 : decode jdk_43_method_13_code 7 = .ok (.iconst 0, 1) := by decide +kernel
theorem dc49_8 : decode jdk_43_method_13_code 8 = .ok (.istore_n 2, 1) := by decide +kernel
theorem dc49_9 : decode jdk_43_method_13_code 9 = .ok (.iload_n 2, 1) := by decide +kernel
theorem dc49_10 : decode jdk_43_method_13_code 10 = .ok (.aload_n 0, 1) := by decide +kernel
theorem dc49_11 : decode jdk_43_method_13_code 11 = .ok (.arraylength, 1) := by decide +kernel
theorem dc49_12 : decode jdk_43_method_13_code 12 = .ok (.if_icmp .ge 20, 3) := by decide +kernel
theorem dc49_15 : decode jdk_43_method_13_code 15 = .ok (.aload_n 0, 1) := by decide +kernel
theorem dc49_16 : decode jdk_43_method_13_code 16 = .ok (.iload_n 2, 1) := by decide +kernel
theorem dc49_17 : decode jdk_43_method_13_code 17 = .ok (.baload, 1) := by decide +kernel
theorem dc49_18 : decode jdk_43_method_13_code 18 = .ok (.aload_n 1, 1) := by decide +kernel
theorem dc49_19 : decode jdk_43_method_13_code 19 = .ok (.iload_n 2, 1) := by decide +kernel
theorem dc49_20 : decode jdk_43_method_13_code 20 = .ok (.baload, 1) := by decide +kernel
theorem dc49_21 : decode jdk_43_method_13_code 21 = .ok (.if_icmp .eq 5, 3) := by decide +kernel
theorem dc49_26 : decode jdk_43_method_13_code 26 = .ok (.iinc 2 1, 3) := by decide +kernel
theorem dc49_29 : decode jdk_43_method_13_code 29 = .ok (.goto (-20), 3) := by decide +kernel
theorem dc49_32 : decode jdk_43_method_13_code 32 = .ok (.iconst 1, 1) := by decide +kernel
theorem dc49_33 : decode jdk_43_method_13_code 33 = .ok (.ireturn, 1) := by decide +kernel
theorem ef_rmLE (mi : MethodId) (b : Addr) (b2 : Addr) (kb : ClassId) (kb2 : ClassId) (n : Int32) (E : List Int32) : entryFrame mi #[(.ref b), (.ref b2)] 3 = mkF mi 0 #[.val (.ref b), .val (.ref b2), .unset] [] := by first | (simp [entryFrame, mkF, argsToLocals, Value.category]; done) | rfl
def Q_rmLE (Z : State) (b : Addr) (b2 : Addr) (kb : ClassId) (kb2 : ClassId) (n : Int32) (E : List Int32) (h0 : Heap) (n0 : Nat) (vv_ : Option Value) (hh_ : Heap) (LL_ : List Loc) : Prop := vv_ = some (.int (1 : Int32)) ∧ Fr n0 LL_ ∧ hh_ = h0
set_option maxRecDepth 65536 in
set_option maxHeartbeats 40000000 in
theorem rmLE (l : Launch) (Z : State) (a0 : Array Value) (hw : ∀ d ∈ tables_1, d.before a0 Z = true) (ws : List Jvm.Cond) (b : Addr) (b2 : Addr) (kb : ClassId) (kb2 : ClassId) (n : Int32) (E : List Int32) (h0 : Heap) (n0 : Nat) (Z0 : n0 ≤ h0.size) (SAr : Arv Z h0 b kb .byte n (E.map Value.int) (.int (0 : Int32))) (SAr2 : Arv Z h0 b2 kb2 .byte n (E.map Value.int) (.int (0 : Int32))) (hn3 : n = 1 ∨ n = 2 ∨ n = 3) :
    MetFree l (⟨"java/lang/StringLatin1", "equals", "([B[B)Z"⟩ : MethodName) (head1 (Jvm.Cond.code (⟨"java/lang/StringLatin1", "equals", "([B[B)Z"⟩ : MethodName) jdk_43_method_13_code 3 (some .boolean) :: ws) ({ frames := 0, cells := 0, slots := 0, locals := 0 } : Room)) (fun aa_ U => aa_ = #[(.ref b), (.ref b2)] ∧ Z.Warmed39 U.vm ∧ U.heap = h0) (fun _ _ _ _ _ => True) (fun _ U oo_ UV_ => ∃ vv_ LL_, oo_ = .returned vv_ ∧ Q_rmLE Z b b2 kb kb2 n E h0 n0 vv_ UV_.heap LL_ ∧ FrameEnd U oo_ UV_ LL_ ({ frames := 0, cells := 0, slots := 0, locals := 0 } : Room).cells ({ frames := 0, cells := 0, slots := 0, locals := 0 } : Room).slots) := by
  refine MetFree.of_bodySF (plainFor_of_name pn_2) hisR ?_
  intro pg ev si mi args below meth ci s₁ Bd hml0 hP0 hK
  obtain ⟨rfl, hZ, hh⟩ := hP0
  have hx := Bd.exec
  have hby := Bd.bytes
  have hml : ci.maxLocals = 3 := hml0
  have hown : si.vm.findClass "java/lang/StringLatin1" = some mi.cls := findClass_of_methodNamed Bd.named
  have hnm := (name_of_methodNamed Bd.named Bd.method).1
  have X0 : Stand pg l ev ({ frames := 0, cells := 0, slots := 0, locals := 0 } : Room) si mi #[(.ref b), (.ref b2)] below meth ci s₁ [] 0 0 := Stand.of_body Bd
  have e0 : s₁.heap = h0 := by rw [← hh, Bd.state]; rfl
  have N0 := Fr.nil n0
  refine Go.start (fun P hP => ?_)
  refine Go.st (fun t_ k_ => castTop (ef_rmLE mi b b2 kb kb2 n E) k_) (A := s₁.setTop (mkF mi 0 #[.val (.ref b), .val (.ref b2), .unset] [])) ?_
  show Go _ _ _ (s₁.setTop (mkF mi 0 #[.val (.ref b), .val (.ref b2), .unset] [])) _
  rcases hn3 with rfl | rfl | rfl
  ·
    show Go _ _ _ (s₁.setTop (mkF mi 0 #[.val (.ref b), .val (.ref b2), .unset] [])) _
    refine g_aloadN X0 hx hby dc49_0 rfl rfl ?_
    have ov1 := SAr
    obtain ⟨cl1, Ar1, q1, S1, M1, H1, G1⟩ := ov1
    refine Go.st (X0.arraylength hx (by rw [e0]; exact Ar1.1) (State.isArrayOf_alike hZ.alike Ar1.2.1) (g := (mkF mi 1 #[.val (.ref b), .val (.ref b2), .unset] [(.ref b)])) rfl rfl (hb hby dc49_1)) ?_
    rw [len_of S1 M1]
    refine g_aloadN X0 hx hby dc49_2 rfl rfl ?_
    have ov2 := SAr2
    obtain ⟨cl2, Ar2, q2, S2, M2, H2, G2⟩ := ov2
    refine Go.st (X0.arraylength hx (by rw [e0]; exact Ar2.1) (State.isArrayOf_alike hZ.alike Ar2.2.1) (g := (mkF mi 3 #[.val (.ref b), .val (.ref b2), .unset] [(.ref b2), (.int 1)])) rfl rfl (hb hby dc49_3)) ?_
    rw [len_of S2 M2]
    refine g_icmpNo X0 hx hby dc49_4 (teq rfl).2 ?_
    refine g_iconst X0 hx hby dc49_7 (v := 0) rfl ?_
    refine g_istoreN X0 hx hby dc49_8 (l' := #[.val (.ref b), .val (.ref b2), .val (.int 0)]) rfl ?_
    refine g_iloadN X0 hx hby dc49_9 rfl ?_
    refine g_aloadN X0 hx hby dc49_10 rfl rfl ?_
    have ov3 := SAr
    obtain ⟨cl3, Ar3, q3, S3, M3, H3, G3⟩ := ov3
    refine Go.st (X0.arraylength hx (by rw [e0]; exact Ar3.1) (State.isArrayOf_alike hZ.alike Ar3.2.1) (g := (mkF mi 11 #[.val (.ref b), .val (.ref b2), .val (.int 0)] [(.ref b), (.int 0)])) rfl rfl (hb hby dc49_11)) ?_
    rw [len_of S3 M3]
    refine g_icmpNo X0 hx hby dc49_12 (tlt (by decide)).2.1 ?_
    refine g_aloadN X0 hx hby dc49_15 rfl rfl ?_
    refine g_iloadN X0 hx hby dc49_16 rfl ?_
    have ov4 := SAr
    obtain ⟨cl4, Ar4, q4, S4, M4, H4, G4⟩ := ov4
    have hin4 : ¬ ((0 : Int32) < 0 ∨ cl4.slots.size ≤ ((0 : Int32)).toNatClampNeg) := inb_of S4 ⟨by decide, by decide⟩
    have hat4 : cl4.slots[((0 : Int32)).toNatClampNeg]? = some (.int (E.getD ((0 : Int32)).toNatClampNeg 0)) := Has.at H4 hin4 (own_gm E _)
    refine Go.st (X0.baloadBytes hx (j := (0 : Int32)) (v := (.int (E.getD (0 : Int32).toNatClampNeg 0))) (by rw [e0]; exact Ar4.1) (State.isArrayOf_alike hZ.alike Ar4.2.1) Ar4.2.2 hin4 hat4 (g := (mkF mi 17 #[.val (.ref b), .val (.ref b2), .val (.int 0)] [(.int 0), (.ref b)])) rfl rfl (hb hby dc49_17)) ?_
    refine g_aloadN X0 hx hby dc49_18 rfl rfl ?_
    refine g_iloadN X0 hx hby dc49_19 rfl ?_
    have ov5 := SAr2
    obtain ⟨cl5, Ar5, q5, S5, M5, H5, G5⟩ := ov5
    have hin5 : ¬ ((0 : Int32) < 0 ∨ cl5.slots.size ≤ ((0 : Int32)).toNatClampNeg) := inb_of S5 ⟨by decide, by decide⟩
    have hat5 : cl5.slots[((0 : Int32)).toNatClampNeg]? = some (.int (E.getD ((0 : Int32)).toNatClampNeg 0)) := Has.at H5 hin5 (own_gm E _)
    refine Go.st (X0.baloadBytes hx (j := (0 : Int32)) (v := (.int (E.getD (0 : Int32).toNatClampNeg 0))) (by rw [e0]; exact Ar5.1) (State.isArrayOf_alike hZ.alike Ar5.2.1) Ar5.2.2 hin5 hat5 (g := (mkF mi 20 #[.val (.ref b), .val (.ref b2), .val (.int 0)] [(.int 0), (.ref b2), (.int (E.getD (0 : Int32).toNatClampNeg 0))])) rfl rfl (hb hby dc49_20)) ?_
    refine g_icmpYes X0 hx hby dc49_21 (teq rfl).1 (pc0 := 21) (pc' := 26) rfl (by decide) (by decide) ?_
    refine g_iinc X0 hx hby dc49_26 rfl (x' := 1) rfl (l' := #[.val (.ref b), .val (.ref b2), .val (.int 1)]) rfl ?_
    refine g_goto X0 hx hby dc49_29 (pc0 := 29) (pc' := 9) rfl (by decide) (by decide) ?_
    refine g_iloadN X0 hx hby dc49_9 rfl ?_
    refine g_aloadN X0 hx hby dc49_10 rfl rfl ?_
    have ov6 := SAr
    obtain ⟨cl6, Ar6, q6, S6, M6, H6, G6⟩ := ov6
    refine Go.st (X0.arraylength hx (by rw [e0]; exact Ar6.1) (State.isArrayOf_alike hZ.alike Ar6.2.1) (g := (mkF mi 11 #[.val (.ref b), .val (.ref b2), .val (.int 1)] [(.ref b), (.int 1)])) rfl rfl (hb hby dc49_11)) ?_
    rw [len_of S6 M6]
    refine g_icmpYes X0 hx hby dc49_12 (flt (by decide)).2.1 (pc0 := 12) (pc' := 32) rfl (by decide) (by decide) ?_
    refine g_iconst X0 hx hby dc49_32 (v := 1) rfl ?_
    obtain ⟨fs, hr, hrun, hended, hW, hsame⟩ := X0.leave (v := some (.int 1)) (fun h => by rw [Bd.returns] at h; cases h) (BodyLoose.notSynchronized Bd)
    refine ⟨_, _, ?_, hP _ _ ⟨hrun, hended, _, _, rfl, ?_, ⟨_, rfl⟩, hW, hsame.mono (by decide) (by decide)⟩⟩
    · exact retN X0 hx (t := .boolean) Bd.returns (by simp) (hb hby dc49_33) hr
    · show (some (.int 1) : Option Value) = some (.int (1 : Int32)) ∧ Fr n0 _ ∧ s₁.heap = h0
      rw [e0]
      exact ⟨rfl, N0, rfl⟩
  ·
    show Go _ _ _ (s₁.setTop (mkF mi 0 #[.val (.ref b), .val (.ref b2), .unset] [])) _
    refine g_aloadN X0 hx hby dc49_0 rfl rfl ?_
    have ov7 := SAr
    obtain ⟨cl7, Ar7, q7, S7, M7, H7, G7⟩ := ov7
    refine Go.st (X0.arraylength hx (by rw [e0]; exact Ar7.1) (State.isArrayOf_alike hZ.alike Ar7.2.1) (g := (mkF mi 1 #[.val (.ref b), .val (.ref b2), .unset] [(.ref b)])) rfl rfl (hb hby dc49_1)) ?_
    rw [len_of S7 M7]
    refine g_aloadN X0 hx hby dc49_2 rfl rfl ?_
    have ov8 := SAr2
    obtain ⟨cl8, Ar8, q8, S8, M8, H8, G8⟩ := ov8
    refine Go.st (X0.arraylength hx (by rw [e0]; exact Ar8.1) (State.isArrayOf_alike hZ.alike Ar8.2.1) (g := (mkF mi 3 #[.val (.ref b), .val (.ref b2), .unset] [(.ref b2), (.int 2)])) rfl rfl (hb hby dc49_3)) ?_
    rw [len_of S8 M8]
    refine g_icmpNo X0 hx hby dc49_4 (teq rfl).2 ?_
    refine g_iconst X0 hx hby dc49_7 (v := 0) rfl ?_
    show Go _ _ _ (s₁.setTop (mkF mi 8 #[.val (.ref b), .val (.ref b2), .unset] [(.int 0)])) _
    refine g_istoreN X0 hx hby dc49_8 (l' := #[.val (.ref b), .val (.ref b2), .val (.int 0)]) rfl ?_
    refine g_iloadN X0 hx hby dc49_9 rfl ?_
    refine g_aloadN X0 hx hby dc49_10 rfl rfl ?_
    have ov9 := SAr
    obtain ⟨cl9, Ar9, q9, S9, M9, H9, G9⟩ := ov9
    refine Go.st (X0.arraylength hx (by rw [e0]; exact Ar9.1) (State.isArrayOf_alike hZ.alike Ar9.2.1) (g := (mkF mi 11 #[.val (.ref b), .val (.ref b2), .val (.int 0)] [(.ref b), (.int 0)])) rfl rfl (hb hby dc49_11)) ?_
    rw [len_of S9 M9]
    refine g_icmpNo X0 hx hby dc49_12 (tlt (by decide)).2.1 ?_
    refine g_aloadN X0 hx hby dc49_15 rfl rfl ?_
    refine g_iloadN X0 hx hby dc49_16 rfl ?_
    have ov10 := SAr
    obtain ⟨cl10, Ar10, q10, S10, M10, H10, G10⟩ := ov10
    have hin10 : ¬ ((0 : Int32) < 0 ∨ cl10.slots.size ≤ ((0 : Int32)).toNatClampNeg) := inb_of S10 ⟨by decide, by decide⟩
    have hat10 : cl10.slots[((0 : Int32)).toNatClampNeg]? = some (.int (E.getD ((0 : Int32)).toNatClampNeg 0)) := Has.at H10 hin10 (own_gm E _)
    refine Go.st (X0.baloadBytes hx (j := (0 : Int32)) (v := (.int (E.getD (0 : Int32).toNatClampNeg 0))) (by rw [e0]; exact Ar10.1) (State.isArrayOf_alike hZ.alike Ar10.2.1) Ar10.2.2 hin10 hat10 (g := (mkF mi 17 #[.val (.ref b), .val (.ref b2), .val (.int 0)] [(.int 0), (.ref b)])) rfl rfl (hb hby dc49_17)) ?_
    refine g_aloadN X0 hx hby dc49_18 rfl rfl ?_
    refine g_iloadN X0 hx hby dc49_19 rfl ?_
    have ov11 := SAr2
    obtain ⟨cl11, Ar11, q11, S11, M11, H11, G11⟩ := ov11
    have hin11 : ¬ ((0 : Int32) < 0 ∨ cl11.slots.size ≤ ((0 : Int32)).toNatClampNeg) := inb_of S11 ⟨by decide, by decide⟩
    have hat11 : cl11.slots[((0 : Int32)).toNatClampNeg]? = some (.int (E.getD ((0 : Int32)).toNatClampNeg 0)) := Has.at H11 hin11 (own_gm E _)
    refine Go.st (X0.baloadBytes hx (j := (0 : Int32)) (v := (.int (E.getD (0 : Int32).toNatClampNeg 0))) (by rw [e0]; exact Ar11.1) (State.isArrayOf_alike hZ.alike Ar11.2.1) Ar11.2.2 hin11 hat11 (g := (mkF mi 20 #[.val (.ref b), .val (.ref b2), .val (.int 0)] [(.int 0), (.ref b2), (.int (E.getD (0 : Int32).toNatClampNeg 0))])) rfl rfl (hb hby dc49_20)) ?_
    refine g_icmpYes X0 hx hby dc49_21 (teq rfl).1 (pc0 := 21) (pc' := 26) rfl (by decide) (by decide) ?_
    refine g_iinc X0 hx hby dc49_26 rfl (x' := 1) rfl (l' := #[.val (.ref b), .val (.ref b2), .val (.int 1)]) rfl ?_
    refine g_goto X0 hx hby dc49_29 (pc0 := 29) (pc' := 9) rfl (by decide) (by decide) ?_
    refine g_iloadN X0 hx hby dc49_9 rfl ?_
    refine g_aloadN X0 hx hby dc49_10 rfl rfl ?_
    have ov12 := SAr
    obtain ⟨cl12, Ar12, q12, S12, M12, H12, G12⟩ := ov12
    refine Go.st (X0.arraylength hx (by rw [e0]; exact Ar12.1) (State.isArrayOf_alike hZ.alike Ar12.2.1) (g := (mkF mi 11 #[.val (.ref b), .val (.ref b2), .val (.int 1)] [(.ref b), (.int 1)])) rfl rfl (hb hby dc49_11)) ?_
    rw [len_of S12 M12]
    refine g_icmpNo X0 hx hby dc49_12 (tlt (by decide)).2.1 ?_
    refine g_aloadN X0 hx hby dc49_15 rfl rfl ?_
    refine g_iloadN X0 hx hby dc49_16 rfl ?_
    have ov13 := SAr
    obtain ⟨cl13, Ar13, q13, S13, M13, H13, G13⟩ := ov13
    have hin13 : ¬ ((1 : Int32) < 0 ∨ cl13.slots.size ≤ ((1 : Int32)).toNatClampNeg) := inb_of S13 ⟨by decide, by decide⟩
    have hat13 : cl13.slots[((1 : Int32)).toNatClampNeg]? = some (.int (E.getD ((1 : Int32)).toNatClampNeg 0)) := Has.at H13 hin13 (own_gm E _)
    refine Go.st (X0.baloadBytes hx (j := (1 : Int32)) (v := (.int (E.getD (1 : Int32).toNatClampNeg 0))) (by rw [e0]; exact Ar13.1) (State.isArrayOf_alike hZ.alike Ar13.2.1) Ar13.2.2 hin13 hat13 (g := (mkF mi 17 #[.val (.ref b), .val (.ref b2), .val (.int 1)] [(.int 1), (.ref b)])) rfl rfl (hb hby dc49_17)) ?_
    refine g_aloadN X0 hx hby dc49_18 rfl rfl ?_
    refine g_iloadN X0 hx hby dc49_19 rfl ?_
    have ov14 := SAr2
    obtain ⟨cl14, Ar14, q14, S14, M14, H14, G14⟩ := ov14
    have hin14 : ¬ ((1 : Int32) < 0 ∨ cl14.slots.size ≤ ((1 : Int32)).toNatClampNeg) := inb_of S14 ⟨by decide, by decide⟩
    have hat14 : cl14.slots[((1 : Int32)).toNatClampNeg]? = some (.int (E.getD ((1 : Int32)).toNatClampNeg 0)) := Has.at H14 hin14 (own_gm E _)
    refine Go.st (X0.baloadBytes hx (j := (1 : Int32)) (v := (.int (E.getD (1 : Int32).toNatClampNeg 0))) (by rw [e0]; exact Ar14.1) (State.isArrayOf_alike hZ.alike Ar14.2.1) Ar14.2.2 hin14 hat14 (g := (mkF mi 20 #[.val (.ref b), .val (.ref b2), .val (.int 1)] [(.int 1), (.ref b2), (.int (E.getD (1 : Int32).toNatClampNeg 0))])) rfl rfl (hb hby dc49_20)) ?_
    refine g_icmpYes X0 hx hby dc49_21 (teq rfl).1 (pc0 := 21) (pc' := 26) rfl (by decide) (by decide) ?_
    refine g_iinc X0 hx hby dc49_26 rfl (x' := 2) rfl (l' := #[.val (.ref b), .val (.ref b2), .val (.int 2)]) rfl ?_
    refine g_goto X0 hx hby dc49_29 (pc0 := 29) (pc' := 9) rfl (by decide) (by decide) ?_
    refine g_iloadN X0 hx hby dc49_9 rfl ?_
    refine g_aloadN X0 hx hby dc49_10 rfl rfl ?_
    have ov15 := SAr
    obtain ⟨cl15, Ar15, q15, S15, M15, H15, G15⟩ := ov15
    refine Go.st (X0.arraylength hx (by rw [e0]; exact Ar15.1) (State.isArrayOf_alike hZ.alike Ar15.2.1) (g := (mkF mi 11 #[.val (.ref b), .val (.ref b2), .val (.int 2)] [(.ref b), (.int 2)])) rfl rfl (hb hby dc49_11)) ?_
    rw [len_of S15 M15]
    refine g_icmpYes X0 hx hby dc49_12 (flt (by decide)).2.1 (pc0 := 12) (pc' := 32) rfl (by decide) (by decide) ?_
    show Go _ _ _ (s₁.setTop (mkF mi 32 #[.val (.ref b), .val (.ref b2), .val (.int 2)] [])) _
    refine g_iconst X0 hx hby dc49_32 (v := 1) rfl ?_
    obtain ⟨fs, hr, hrun, hended, hW, hsame⟩ := X0.leave (v := some (.int 1)) (fun h => by rw [Bd.returns] at h; cases h) (BodyLoose.notSynchronized Bd)
    refine ⟨_, _, ?_, hP _ _ ⟨hrun, hended, _, _, rfl, ?_, ⟨_, rfl⟩, hW, hsame.mono (by decide) (by decide)⟩⟩
    · exact retN X0 hx (t := .boolean) Bd.returns (by simp) (hb hby dc49_33) hr
    · show (some (.int 1) : Option Value) = some (.int (1 : Int32)) ∧ Fr n0 _ ∧ s₁.heap = h0
      rw [e0]
      exact ⟨rfl, N0, rfl⟩
  ·
    show Go _ _ _ (s₁.setTop (mkF mi 0 #[.val (.ref b), .val (.ref b2), .unset] [])) _
    refine g_aloadN X0 hx hby dc49_0 rfl rfl ?_
    have ov16 := SAr
    obtain ⟨cl16, Ar16, q16, S16, M16, H16, G16⟩ := ov16
    refine Go.st (X0.arraylength hx (by rw [e0]; exact Ar16.1) (State.isArrayOf_alike hZ.alike Ar16.2.1) (g := (mkF mi 1 #[.val (.ref b), .val (.ref b2), .unset] [(.ref b)])) rfl rfl (hb hby dc49_1)) ?_
    rw [len_of S16 M16]
    refine g_aloadN X0 hx hby dc49_2 rfl rfl ?_
    have ov17 := SAr2
    obtain ⟨cl17, Ar17, q17, S17, M17, H17, G17⟩ := ov17
    refine Go.st (X0.arraylength hx (by rw [e0]; exact Ar17.1) (State.isArrayOf_alike hZ.alike Ar17.2.1) (g := (mkF mi 3 #[.val (.ref b), .val (.ref b2), .unset] [(.ref b2), (.int 3)])) rfl rfl (hb hby dc49_3)) ?_
    rw [len_of S17 M17]
    refine g_icmpNo X0 hx hby dc49_4 (teq rfl).2 ?_
    refine g_iconst X0 hx hby dc49_7 (v := 0) rfl ?_
    refine g_istoreN X0 hx hby dc49_8 (l' := #[.val (.ref b), .val (.ref b2), .val (.int 0)]) rfl ?_
    refine g_iloadN X0 hx hby dc49_9 rfl ?_
    refine g_aloadN X0 hx hby dc49_10 rfl rfl ?_
    have ov18 := SAr
    obtain ⟨cl18, Ar18, q18, S18, M18, H18, G18⟩ := ov18
    refine Go.st (X0.arraylength hx (by rw [e0]; exact Ar18.1) (State.isArrayOf_alike hZ.alike Ar18.2.1) (g := (mkF mi 11 #[.val (.ref b), .val (.ref b2), .val (.int 0)] [(.ref b), (.int 0)])) rfl rfl (hb hby dc49_11)) ?_
    rw [len_of S18 M18]
    refine g_icmpNo X0 hx hby dc49_12 (tlt (by decide)).2.1 ?_
    refine g_aloadN X0 hx hby dc49_15 rfl rfl ?_
    refine g_iloadN X0 hx hby dc49_16 rfl ?_
    have ov19 := SAr
    obtain ⟨cl19, Ar19, q19, S19, M19, H19, G19⟩ := ov19
    have hin19 : ¬ ((0 : Int32) < 0 ∨ cl19.slots.size ≤ ((0 : Int32)).toNatClampNeg) := inb_of S19 ⟨by decide, by decide⟩
    have hat19 : cl19.slots[((0 : Int32)).toNatClampNeg]? = some (.int (E.getD ((0 : Int32)).toNatClampNeg 0)) := Has.at H19 hin19 (own_gm E _)
    refine Go.st (X0.baloadBytes hx (j := (0 : Int32)) (v := (.int (E.getD (0 : Int32).toNatClampNeg 0))) (by rw [e0]; exact Ar19.1) (State.isArrayOf_alike hZ.alike Ar19.2.1) Ar19.2.2 hin19 hat19 (g := (mkF mi 17 #[.val (.ref b), .val (.ref b2), .val (.int 0)] [(.int 0), (.ref b)])) rfl rfl (hb hby dc49_17)) ?_
    refine g_aloadN X0 hx hby dc49_18 rfl rfl ?_
    refine g_iloadN X0 hx hby dc49_19 rfl ?_
    have ov20 := SAr2
    obtain ⟨cl20, Ar20, q20, S20, M20, H20, G20⟩ := ov20
    have hin20 : ¬ ((0 : Int32) < 0 ∨ cl20.slots.size ≤ ((0 : Int32)).toNatClampNeg) := inb_of S20 ⟨by decide, by decide⟩
    have hat20 : cl20.slots[((0 : Int32)).toNatClampNeg]? = some (.int (E.getD ((0 : Int32)).toNatClampNeg 0)) := Has.at H20 hin20 (own_gm E _)
    refine Go.st (X0.baloadBytes hx (j := (0 : Int32)) (v := (.int (E.getD (0 : Int32).toNatClampNeg 0))) (by rw [e0]; exact Ar20.1) (State.isArrayOf_alike hZ.alike Ar20.2.1) Ar20.2.2 hin20 hat20 (g := (mkF mi 20 #[.val (.ref b), .val (.ref b2), .val (.int 0)] [(.int 0), (.ref b2), (.int (E.getD (0 : Int32).toNatClampNeg 0))])) rfl rfl (hb hby dc49_20)) ?_
    refine g_icmpYes X0 hx hby dc49_21 (teq rfl).1 (pc0 := 21) (pc' := 26) rfl (by decide) (by decide) ?_
    refine g_iinc X0 hx hby dc49_26 rfl (x' := 1) rfl (l' := #[.val (.ref b), .val (.ref b2), .val (.int 1)]) rfl ?_
    refine g_goto X0 hx hby dc49_29 (pc0 := 29) (pc' := 9) rfl (by decide) (by decide) ?_
    refine g_iloadN X0 hx hby dc49_9 rfl ?_
    refine g_aloadN X0 hx hby dc49_10 rfl rfl ?_
    have ov21 := SAr
    obtain ⟨cl21, Ar21, q21, S21, M21, H21, G21⟩ := ov21
    refine Go.st (X0.arraylength hx (by rw [e0]; exact Ar21.1) (State.isArrayOf_alike hZ.alike Ar21.2.1) (g := (mkF mi 11 #[.val (.ref b), .val (.ref b2), .val (.int 1)] [(.ref b), (.int 1)])) rfl rfl (hb hby dc49_11)) ?_
    rw [len_of S21 M21]
    refine g_icmpNo X0 hx hby dc49_12 (tlt (by decide)).2.1 ?_
    refine g_aloadN X0 hx hby dc49_15 rfl rfl ?_
    refine g_iloadN X0 hx hby dc49_16 rfl ?_
    have ov22 := SAr
    obtain ⟨cl22, Ar22, q22, S22, M22, H22, G22⟩ := ov22
    have hin22 : ¬ ((1 : Int32) < 0 ∨ cl22.slots.size ≤ ((1 : Int32)).toNatClampNeg) := inb_of S22 ⟨by decide, by decide⟩
    have hat22 : cl22.slots[((1 : Int32)).toNatClampNeg]? = some (.int (E.getD ((1 : Int32)).toNatClampNeg 0)) := Has.at H22 hin22 (own_gm E _)
    refine Go.st (X0.baloadBytes hx (j := (1 : Int32)) (v := (.int (E.getD (1 : Int32).toNatClampNeg 0))) (by rw [e0]; exact Ar22.1) (State.isArrayOf_alike hZ.alike Ar22.2.1) Ar22.2.2 hin22 hat22 (g := (mkF mi 17 #[.val (.ref b), .val (.ref b2), .val (.int 1)] [(.int 1), (.ref b)])) rfl rfl (hb hby dc49_17)) ?_
    refine g_aloadN X0 hx hby dc49_18 rfl rfl ?_
    refine g_iloadN X0 hx hby dc49_19 rfl ?_
    have ov23 := SAr2
    obtain ⟨cl23, Ar23, q23, S23, M23, H23, G23⟩ := ov23
    have hin23 : ¬ ((1 : Int32) < 0 ∨ cl23.slots.size ≤ ((1 : Int32)).toNatClampNeg) := inb_of S23 ⟨by decide, by decide⟩
    have hat23 : cl23.slots[((1 : Int32)).toNatClampNeg]? = some (.int (E.getD ((1 : Int32)).toNatClampNeg 0)) := Has.at H23 hin23 (own_gm E _)
    refine Go.st (X0.baloadBytes hx (j := (1 : Int32)) (v := (.int (E.getD (1 : Int32).toNatClampNeg 0))) (by rw [e0]; exact Ar23.1) (State.isArrayOf_alike hZ.alike Ar23.2.1) Ar23.2.2 hin23 hat23 (g := (mkF mi 20 #[.val (.ref b), .val (.ref b2), .val (.int 1)] [(.int 1), (.ref b2), (.int (E.getD (1 : Int32).toNatClampNeg 0))])) rfl rfl (hb hby dc49_20)) ?_
    show Go _ _ _ (s₁.setTop (mkF mi 21 #[.val (.ref b), .val (.ref b2), .val (.int 1)] [(.int (E.getD (1 : Int32).toNatClampNeg 0)), (.int (E.getD (1 : Int32).toNatClampNeg 0))])) _
    refine g_icmpYes X0 hx hby dc49_21 (teq rfl).1 (pc0 := 21) (pc' := 26) rfl (by decide) (by decide) ?_
    refine g_iinc X0 hx hby dc49_26 rfl (x' := 2) rfl (l' := #[.val (.ref b), .val (.ref b2), .val (.int 2)]) rfl ?_
    refine g_goto X0 hx hby dc49_29 (pc0 := 29) (pc' := 9) rfl (by decide) (by decide) ?_
    refine g_iloadN X0 hx hby dc49_9 rfl ?_
    refine g_aloadN X0 hx hby dc49_10 rfl rfl ?_
    have ov24 := SAr
    obtain ⟨cl24, Ar24, q24, S24, M24, H24, G24⟩ := ov24
    refine Go.st (X0.arraylength hx (by rw [e0]; exact Ar24.1) (State.isArrayOf_alike hZ.alike Ar24.2.1) (g := (mkF mi 11 #[.val (.ref b), .val (.ref b2), .val (.int 2)] [(.ref b), (.int 2)])) rfl rfl (hb hby dc49_11)) ?_
    rw [len_of S24 M24]
    refine g_icmpNo X0 hx hby dc49_12 (tlt (by decide)).2.1 ?_
    refine g_aloadN X0 hx hby dc49_15 rfl rfl ?_
    refine g_iloadN X0 hx hby dc49_16 rfl ?_
    have ov25 := SAr
    obtain ⟨cl25, Ar25, q25, S25, M25, H25, G25⟩ := ov25
    have hin25 : ¬ ((2 : Int32) < 0 ∨ cl25.slots.size ≤ ((2 : Int32)).toNatClampNeg) := inb_of S25 ⟨by decide, by decide⟩
    have hat25 : cl25.slots[((2 : Int32)).toNatClampNeg]? = some (.int (E.getD ((2 : Int32)).toNatClampNeg 0)) := Has.at H25 hin25 (own_gm E _)
    refine Go.st (X0.baloadBytes hx (j := (2 : Int32)) (v := (.int (E.getD (2 : Int32).toNatClampNeg 0))) (by rw [e0]; exact Ar25.1) (State.isArrayOf_alike hZ.alike Ar25.2.1) Ar25.2.2 hin25 hat25 (g := (mkF mi 17 #[.val (.ref b), .val (.ref b2), .val (.int 2)] [(.int 2), (.ref b)])) rfl rfl (hb hby dc49_17)) ?_
    refine g_aloadN X0 hx hby dc49_18 rfl rfl ?_
    refine g_iloadN X0 hx hby dc49_19 rfl ?_
    have ov26 := SAr2
    obtain ⟨cl26, Ar26, q26, S26, M26, H26, G26⟩ := ov26
    have hin26 : ¬ ((2 : Int32) < 0 ∨ cl26.slots.size ≤ ((2 : Int32)).toNatClampNeg) := inb_of S26 ⟨by decide, by decide⟩
    have hat26 : cl26.slots[((2 : Int32)).toNatClampNeg]? = some (.int (E.getD ((2 : Int32)).toNatClampNeg 0)) := Has.at H26 hin26 (own_gm E _)
    refine Go.st (X0.baloadBytes hx (j := (2 : Int32)) (v := (.int (E.getD (2 : Int32).toNatClampNeg 0))) (by rw [e0]; exact Ar26.1) (State.isArrayOf_alike hZ.alike Ar26.2.1) Ar26.2.2 hin26 hat26 (g := (mkF mi 20 #[.val (.ref b), .val (.ref b2), .val (.int 2)] [(.int 2), (.ref b2), (.int (E.getD (2 : Int32).toNatClampNeg 0))])) rfl rfl (hb hby dc49_20)) ?_
    refine g_icmpYes X0 hx hby dc49_21 (teq rfl).1 (pc0 := 21) (pc' := 26) rfl (by decide) (by decide) ?_
    refine g_iinc X0 hx hby dc49_26 rfl (x' := 3) rfl (l' := #[.val (.ref b), .val (.ref b2), .val (.int 3)]) rfl ?_
    refine g_goto X0 hx hby dc49_29 (pc0 := 29) (pc' := 9) rfl (by decide) (by decide) ?_
    refine g_iloadN X0 hx hby dc49_9 rfl ?_
    refine g_aloadN X0 hx hby dc49_10 rfl rfl ?_
    have ov27 := SAr
    obtain ⟨cl27, Ar27, q27, S27, M27, H27, G27⟩ := ov27
    refine Go.st (X0.arraylength hx (by rw [e0]; exact Ar27.1) (State.isArrayOf_alike hZ.alike Ar27.2.1) (g := (mkF mi 11 #[.val (.ref b), .val (.ref b2), .val (.int 3)] [(.ref b), (.int 3)])) rfl rfl (hb hby dc49_11)) ?_
    rw [len_of S27 M27]
    refine g_icmpYes X0 hx hby dc49_12 (flt (by decide)).2.1 (pc0 := 12) (pc' := 32) rfl (by decide) (by decide) ?_
    refine g_iconst X0 hx hby dc49_32 (v := 1) rfl ?_
    obtain ⟨fs, hr, hrun, hended, hW, hsame⟩ := X0.leave (v := some (.int 1)) (fun h => by rw [Bd.returns] at h; cases h) (BodyLoose.notSynchronized Bd)
    refine ⟨_, _, ?_, hP _ _ ⟨hrun, hended, _, _, rfl, ?_, ⟨_, rfl⟩, hW, hsame.mono (by decide) (by decide)⟩⟩
    · exact retN X0 hx (t := .boolean) Bd.returns (by simp) (hb hby dc49_33) hr
    · show (some (.int 1) : Option Value) = some (.int (1 : Int32)) ∧ Fr n0 _ ∧ s₁.heap = h0
      rw [e0]
      exact ⟨rfl, N0, rfl⟩
theorem dc50_0 : decode jdk_42_method_66_code 0 = .ok (.aload_n 0, 1) := by decide +kernel
theorem dc50_1 : decode jdk_42_method_66_code 1 = .ok (.aload_n 1, 1) := by decide +kernel
theorem dc50_2 : decode jdk_42_method_66_code 2 = .ok (.if_acmp .ne 5, 3) := by decide +kernel
theorem dc50_7 : decode jdk_42_method_66_code 7 = .ok (.aload_n 1, 1) := by decide +kernel
theorem dc50_8 : decode jdk_42_method_66_code 8 = .ok (.instanceof 10, 3) := by decide +kernel
theorem dc50_11 : decode jdk_42_method_66_code 11 = .ok (.ifCond .eq 43, 3) := by decide +kernel
theorem dc50_14 : decode jdk_42_method_66_code 14 = .ok (.aload_n 1, 1) := by decide +kernel
theorem dc50_15 : decode jdk_42_method_66_code 15 = .ok (.checkcast 10, 3) := by decide +kernel
theorem dc50_18 : decode jdk_42_method_66_code 18 = .ok (.astore_n 2, 1) := by decide +kernel
theorem dc50_19 : decode jdk_42_method_66_code 19 = .ok (.getstatic 38, 3) := by decide +kernel
theorem dc50_22 : decode jdk_42_method_66_code 22 = .ok (.ifCond .eq 14, 3) := by decide +kernel
theorem dc50_25 : decode jdk_42_method_66_code 25 = .ok (.aload_n 0, 1) := by decide +kernel
theorem dc50_26 : decode jdk_42_method_66_code 26 = .ok (.getfield 15, 3) := by decide +kernel
theorem dc50_29 : decode jdk_42_method_66_code 29 = .ok (.aload_n 2, 1) := by decide +kernel
theorem dc50_30 : decode jdk_42_method_66_code 30 = .ok (.getfield 15, 3) := by decide +kernel
theorem dc50_33 : decode jdk_42_method_66_code 33 = .ok (.if_icmp .ne 21, 3) := by decide +kernel
theorem dc50_36 : decode jdk_42_method_66_code 36 = .ok (.aload_n 0, 1) := by decide +kernel
theorem dc50_37 : decode jdk_42_method_66_code 37 = .ok (.getfield 9, 3) := by decide +kernel
theorem dc50_40 : decode jdk_42_method_66_code 40 = .ok (.aload_n 2, 1) := by decide +kernel
theorem dc50_41 : decode jdk_42_method_66_code 41 = .ok (.getfield 9, 3) := by decide +kernel
theorem dc50_44 : decode jdk_42_method_66_code 44 = .ok (.invokestatic 541, 3) := by decide +kernel
theorem pd_38 : parseMethodDescriptor "([B[B)Z" = some ⟨[(.array .byte), (.array .byte)], some .boolean⟩ := by decide +kernel
theorem dc50_47 : decode jdk_42_method_66_code 47 = .ok (.ifCond .eq 7, 3) := by decide +kernel
theorem dc50_50 : decode jdk_42_method_66_code 50 = .ok (.iconst 1, 1) := by decide +kernel
theorem dc50_51 : decode jdk_42_method_66_code 51 = .ok (.goto 4, 3) := by decide +kernel
theorem dc50_55 : decode jdk_42_method_66_code 55 = .ok (.ireturn, 1) := by decide +kernel
theorem ef_rmEq (mi : MethodId) (o : Addr) (t : Addr) (b : Addr) (kb : ClassId) (n : Int32) (E : List Int32) (b2 : Addr) (kb2 : ClassId) (cz : Int32) : entryFrame mi #[(.ref o), (.ref t)] 3 = mkF mi 0 #[.val (.ref o), .val (.ref t), .unset] [] := by first | (simp [entryFrame, mkF, argsToLocals, Value.category]; done) | rfl
def Q_rmEq (Z : State) (o : Addr) (t : Addr) (b : Addr) (kb : ClassId) (n : Int32) (E : List Int32) (b2 : Addr) (kb2 : ClassId) (cz : Int32) (h0 : Heap) (n0 : Nat) (vv_ : Option Value) (hh_ : Heap) (LL_ : List Loc) : Prop := vv_ = some (.int (1 : Int32)) ∧ Fr n0 LL_ ∧ hh_ = h0
set_option maxRecDepth 65536 in
set_option maxHeartbeats 40000000 in
theorem rmEq (l : Launch) (Z : State) (a0 : Array Value) (hw : ∀ d ∈ tables_1, d.before a0 Z = true) (ws : List Jvm.Cond) (o : Addr) (t : Addr) (b : Addr) (kb : ClassId) (n : Int32) (E : List Int32) (b2 : Addr) (kb2 : ClassId) (cz : Int32) (h0 : Heap) (n0 : Nat) (Z0 : n0 ≤ h0.size) (SE : Exa Z h0 o "java/lang/String") (SCo : Fld Z h0 o "java/lang/String" "coder" "B" (.int (0 : Int32))) (SVa : Fld Z h0 o "java/lang/String" "value" "[B" (.ref b)) (SAr : Arv Z h0 b kb .byte n (E.map Value.int) (.int (0 : Int32))) (SEb : Exa Z h0 b "[B") (SEt : Exa Z h0 t "java/lang/String") (SCot : Fld Z h0 t "java/lang/String" "coder" "B" (.int (0 : Int32))) (SVat : Fld Z h0 t "java/lang/String" "value" "[B" (.ref b2)) (SArt : Arv Z h0 b2 kb2 .byte n (E.map Value.int) (.int (0 : Int32))) (SEbt : Exa Z h0 b2 "[B") (SC : Sta Z h0 "java/lang/String" "COMPACT_STRINGS" "Z" (.int cz)) (hcz : ¬ (cz = (0 : Int32))) (hn3 : n = 1 ∨ n = 2 ∨ n = 3) (n_ot : o ≠ t) :
    MetFree l (⟨"java/lang/String", "equals", "(Ljava/lang/Object;)Z"⟩ : MethodName) (head1 (Jvm.Cond.code (⟨"java/lang/String", "equals", "(Ljava/lang/Object;)Z"⟩ : MethodName) jdk_42_method_66_code 3 (some .boolean) :: ws) ({ frames := 1, cells := 0, slots := 0, locals := 14 } : Room)) (fun aa_ U => aa_ = #[(.ref o), (.ref t)] ∧ Z.Warmed39 U.vm ∧ U.heap = h0) (fun _ _ _ _ _ => True) (fun _ U oo_ UV_ => ∃ vv_ LL_, oo_ = .returned vv_ ∧ Q_rmEq Z o t b kb n E b2 kb2 cz h0 n0 vv_ UV_.heap LL_ ∧ FrameEnd U oo_ UV_ LL_ ({ frames := 1, cells := 0, slots := 0, locals := 14 } : Room).cells ({ frames := 1, cells := 0, slots := 0, locals := 14 } : Room).slots) := by
  refine MetFree.of_bodySF (plainFor_of_name pn_0) hisR ?_
  intro pg ev si mi args below meth ci s₁ Bd hml0 hP0 hK
  obtain ⟨rfl, hZ, hh⟩ := hP0
  have hx := Bd.exec
  have hby := Bd.bytes
  have hml : ci.maxLocals = 3 := hml0
  have hown : si.vm.findClass "java/lang/String" = some mi.cls := findClass_of_methodNamed Bd.named
  have hnm := (name_of_methodNamed Bd.named Bd.method).1
  have X0 : Stand pg l ev ({ frames := 1, cells := 0, slots := 0, locals := 14 } : Room) si mi #[(.ref o), (.ref t)] below meth ci s₁ [] 0 0 := Stand.of_body Bd
  have e0 : s₁.heap = h0 := by rw [← hh, Bd.state]; rfl
  have N0 := Fr.nil n0
  refine Go.start (fun P hP => ?_)
  refine Go.st (fun t_ k_ => castTop (ef_rmEq mi o t b kb n E b2 kb2 cz) k_) (A := s₁.setTop (mkF mi 0 #[.val (.ref o), .val (.ref t), .unset] [])) ?_
  show Go _ _ _ (s₁.setTop (mkF mi 0 #[.val (.ref o), .val (.ref t), .unset] [])) _
  refine g_aloadN X0 hx hby dc50_0 rfl rfl ?_
  refine g_aloadN X0 hx hby dc50_1 rfl rfl ?_
  refine Go.st (fun t_ k_ => Jvm.RoadKit.acmp (g := (mkF mi 2 #[.val (.ref o), .val (.ref t), .unset] [(.ref t), (.ref o)])) X0 hx rfl rfl rfl (pc0 := 2) (pc' := 7) (same := false) rfl (hb hby dc50_2) rfl (decide_eq_false fun q => n_ot (Value.ref.inj q)) (by decide) (by decide) k_) ?_
  refine g_aloadN X0 hx hby dc50_7 rfl rfl ?_
  obtain ⟨T1, X1, e1, st1⟩ := instY X0 hx hZ hown (hw _ (own_m 254 rfl)) e0 (Ins.self SEt) (g := (mkF mi 8 #[.val (.ref o), .val (.ref t), .unset] [(.ref t)])) rfl rfl (hb hby dc50_8)
  refine Go.st st1 ?_
  refine g_ifNo X1 hx hby dc50_11 ((if0 _ _).trans (feq (by decide)).1) ?_
  refine g_aloadN X1 hx hby dc50_14 rfl rfl ?_
  obtain ⟨T2, X2, e2, st2⟩ := castY X1 hx hZ hown (hw _ (own_m 254 rfl)) e1 (Ins.self SEt) (g := (mkF mi 15 #[.val (.ref o), .val (.ref t), .unset] [(.ref t)])) rfl rfl (hb hby dc50_15)
  refine Go.st st2 ?_
  refine g_astoreN X2 hx hby dc50_18 rfl (l' := #[.val (.ref o), .val (.ref t), .val (.ref t)]) rfl ?_
  obtain ⟨T3, X3, e3, st3⟩ := getS2 X2 hx hZ hown (host := "") (Or.inl (hw _ (own_m 46 rfl))) Via.refl e2 SC (g := (mkF mi 19 #[.val (.ref o), .val (.ref t), .val (.ref t)] [])) rfl (hb hby dc50_19)
  refine Go.st st3 ?_
  refine g_ifNo X3 hx hby dc50_22 ((if0 _ _).trans (feq hcz).1) ?_
  refine g_aloadN X3 hx hby dc50_25 rfl rfl ?_
  obtain ⟨T4, X4, e4, st4⟩ := getF X3 hx hZ hown (host := "") (Or.inl (hw _ (own_m 47 rfl))) Via.refl e3 SCo (g := (mkF mi 26 #[.val (.ref o), .val (.ref t), .val (.ref t)] [(.ref o)])) rfl rfl (hb hby dc50_26)
  refine Go.st st4 ?_
  refine g_aloadN X4 hx hby dc50_29 rfl rfl ?_
  obtain ⟨T5, X5, e5, st5⟩ := getF X4 hx hZ hown (host := "") (Or.inl (hw _ (own_m 47 rfl))) Via.refl e4 SCot (g := (mkF mi 30 #[.val (.ref o), .val (.ref t), .val (.ref t)] [(.ref t), (.int 0)])) rfl rfl (hb hby dc50_30)
  refine Go.st st5 ?_
  refine g_icmpNo X5 hx hby dc50_33 (teq rfl).2 ?_
  refine g_aloadN X5 hx hby dc50_36 rfl rfl ?_
  obtain ⟨T6, X6, e6, st6⟩ := getF X5 hx hZ hown (host := "") (Or.inl (hw _ (own_m 48 rfl))) Via.refl e5 SVa (g := (mkF mi 37 #[.val (.ref o), .val (.ref t), .val (.ref t)] [(.ref o)])) rfl rfl (hb hby dc50_37)
  refine Go.st st6 ?_
  refine g_aloadN X6 hx hby dc50_40 rfl rfl ?_
  obtain ⟨T7, X7, e7, st7⟩ := getF X6 hx hZ hown (host := "") (Or.inl (hw _ (own_m 48 rfl))) Via.refl e6 SVat (g := (mkF mi 41 #[.val (.ref o), .val (.ref t), .val (.ref t)] [(.ref t), (.ref b)])) rfl rfl (hb hby dc50_41)
  refine Go.st st7 ?_
  obtain ⟨_, _, ⟨T8, L8, k8, n8⟩, -, X8, ⟨Lc8, hQ8, l8, y8, z8⟩, st8⟩ := Jvm.LawKit.callS X7 hx (y := (⟨"java/lang/StringLatin1", "equals", "([B[B)Z"⟩ : MethodName)) hown (mvT hZ (hw _ (own_m 266 rfl))) (mvT hZ (hw _ (own_m 267 rfl))) (mvT hZ (hw _ (own_m 51 rfl))) (mvT hZ (hw _ (own_m 268 rfl))) (by decide) (backOf (W := 0) (rmLE l Z a0 hw [] b b2 kb kb2 n E h0 n0 Z0 SAr SArt hn3) hZ (hw _ (own_m 268 rfl)) (hw _ (own_m 51 rfl)) (by decide) (by decide)) (g := (mkF mi 44 #[.val (.ref o), .val (.ref t), .val (.ref t)] [(.ref b2), (.ref b)])) rfl (by rw [hml]; rfl) (argsL := [(.ref b), (.ref b2)]) (rest := []) (lenOf pd_38 rfl) rfl (by show 2 * 0 + _ ≤ _; exact Nat.le_of_eq rfl) (hb hby dc50_44) (fun _ _ => ⟨rfl, e7, (by decide : 0 + 0 ≤ _), (by decide : 0 + 0 ≤ _)⟩)
  dsimp only [Pt.U, Pt.locs, Pt.cells, Pt.slots] at X8 l8 y8 z8 st8 hQ8
  subst y8 z8
  have X8 := own_cs X8 (cells' := 0) (slots' := 0) rfl rfl
  obtain ⟨rfl, N8q, e8⟩ := hQ8
  have N8 := own_fr l8 (Fr.app N0 N8q)
  refine Go.st st8 ?_
  refine g_ifNo X8 hx hby dc50_47 ((if0 _ _).trans (feq (by decide)).1) ?_
  refine g_iconst X8 hx hby dc50_50 (v := 1) rfl ?_
  refine g_goto X8 hx hby dc50_51 (pc0 := 51) (pc' := 55) rfl (by decide) (by decide) ?_
  obtain ⟨fs, hr, hrun, hended, hW, hsame⟩ := X8.leave (v := some (.int 1)) (fun h => by rw [Bd.returns] at h; cases h) (BodyLoose.notSynchronized Bd)
  refine ⟨_, _, ?_, hP _ _ ⟨hrun, hended, _, _, rfl, ?_, ⟨_, rfl⟩, hW, hsame.mono (by decide) (by decide)⟩⟩
  · exact retN X8 hx (t := .boolean) Bd.returns (by simp) (hb hby dc50_55) hr
  · show (some (.int 1) : Option Value) = some (.int (1 : Int32)) ∧ Fr n0 _ ∧ T8.heap = h0
    rw [e8]
    exact ⟨rfl, N8, rfl⟩
theorem dl_at : ∀ (k N t : Nat), t < k → (dl k N).getD t 0 = dch (N / 10 ^ (k - 1 - t))
  | 0, _, _, h => absurd h (Nat.not_lt_zero _)
  | k + 1, N, 0, _ => rfl
  | k + 1, N, t + 1, h => by
    have e := dl_at k N t (by omega)
    have q : k + 1 - 1 - (t + 1) = k - 1 - t := by omega
    rw [q]; exact e
theorem dv_dch (q : Nat) : dv (dch q) = q % 10 := by unfold dv; rw [own_dchI]; omega
theorem pv_dla : ∀ (k N a : Nat), (dl k N).foldl (fun a c => a * 10 + dv c) a = a * 10 ^ k + N % 10 ^ k
  | 0, N, a => by simp [dl, Nat.mod_one]
  | k + 1, N, a => by
    rw [dl, List.foldl_cons, pv_dla k N, dv_dch, Nat.mod_pow_succ, Nat.pow_succ, Nat.add_mul, Nat.mul_assoc, Nat.mul_comm 10 (10 ^ k), Nat.mul_comm (N / 10 ^ k % 10) (10 ^ k)]
    omega
theorem pv_dl (k N : Nat) : pv (dl k N) = N % 10 ^ k := by unfold pv; rw [pv_dla]; omega
theorem own_pvl {k N : Nat} (h : N / 10 ^ k = 0) : pv (dl k N) = N := by
  rw [pv_dl]; exact Nat.mod_eq_of_lt (Nat.lt_of_div_eq_zero (Nat.pow_pos (by decide)) h)
theorem own_pz {z n : Int64} {k N : Nat} (hz : z.toInt = pv (dl k N)) (hn : n.toInt = (N : Int)) (h : N / 10 ^ k = 0) : z = n := by
  apply Int64.toInt_inj.mp; rw [hz, hn, own_pvl h]
theorem own_kk {j q M : Nat} (j1 : 1 ≤ j) (q1 : 1 ≤ q) (hj : M / 10 ^ j = 0) (hj' : j = 1 ∨ M / 10 ^ (j - 1) ≠ 0) (hq : M / 10 ^ q = 0) (hq' : q = 1 ∨ M / 10 ^ (q - 1) ≠ 0) : j = q := by
  have key : ∀ {a b : Nat}, 1 ≤ a → M / 10 ^ a = 0 → (b = 1 ∨ M / 10 ^ (b - 1) ≠ 0) → ¬ a < b := by
    intro a b a1 ha hb' hab
    rcases hb' with rfl | hb'
    · omega
    · exact hb' (Nat.div_eq_of_lt (Nat.lt_of_lt_of_le (Nat.lt_of_div_eq_zero (Nat.pow_pos (by decide)) ha) (Nat.pow_le_pow_right (by decide) (by omega))))
  have := key j1 hj hq'
  have := key q1 hq hj'
  omega
theorem own_k1 {k : Nat} (h1 : 1 ≤ k) (h : k ≤ 19) : ¬ (Int32.ofNat k < (1 : Int32)) := by
  have e := own_ofN (n := k) (by omega)
  have l : (1 : Int32).toInt = 1 := rfl
  rw [Int32.lt_iff_toInt_lt]; omega
theorem own_k19 {k : Nat} (h : k ≤ 19) : ¬ ((19 : Int32) < Int32.ofNat k) := by
  have e := own_ofN (n := k) (by omega)
  have l : (19 : Int32).toInt = 19 := rfl
  rw [Int32.lt_iff_toInt_lt]; omega
theorem own_kp {k : Nat} (h1 : 1 ≤ k) (h : k ≤ 19) : (Int32.ofNat k - (1 : Int32)) = Int32.ofNat (k - 1) := by
  have e1 := own_ofN (n := k) (by omega)
  have e2 := own_ofN (n := k - 1) (by omega)
  have e3 := c_isub (Int32.ofNat k) 1
  have l : (1 : Int32).toInt = 1 := rfl
  have b1 := Int32.le_toInt (Int32.ofNat k - 1)
  have b2 := Int32.toInt_lt (Int32.ofNat k - 1)
  apply Int32.toInt_inj.mp; omega
theorem own_lk {j k : Nat} (h1 : j < k) (h : k ≤ 19) : Int32.ofNat j < Int32.ofNat k := by
  have e1 := own_ofN (n := k) (by omega)
  have e2 := own_ofN (n := j) (by omega)
  rw [Int32.lt_iff_toInt_lt]; omega
theorem own_lastch {k N : Nat} (h1 : 1 ≤ k) (h : k ≤ 19) : (((dl k N).getD (Int32.ofNat (k - 1)).toNatClampNeg 0) &&& (255 : Int32)) = dch N := by
  rw [own_ofNn (by omega), dl_at k N (k - 1) (by omega), own_d255 (dch_dig _)]
  have q : k - 1 - (k - 1) = 0 := by omega
  rw [q, Nat.pow_zero, Nat.div_one]
theorem own_first {k N : Nat} (h1 : 1 ≤ k) (hz : N / 10 ^ k = 0) (hn : k = 1 ∨ N / 10 ^ (k - 1) ≠ 0) (h0 : N ≠ 0) : ¬ ((((dl k N).getD (0 : Int32).toNatClampNeg 0) &&& (255 : Int32)) = (48 : Int32)) := by
  rw [own_t0, dl_at k N 0 (by omega), own_d255 (dch_dig _)]
  intro q
  have e := own_dchI (N / 10 ^ (k - 1 - 0))
  rw [q] at e
  have l : (48 : Int32).toInt = 48 := rfl
  have z : N / 10 ^ (k - 1) ≠ 0 := by
    rcases hn with rfl | hn
    · rw [Nat.sub_self, Nat.pow_zero, Nat.div_one]; exact h0
    · exact hn
  have lt : N / 10 ^ (k - 1) / 10 = 0 := by rw [own_dd, show k - 1 + 1 = k from by omega]; exact hz
  rw [Nat.sub_zero] at e
  omega
theorem own_n0 {n : Int64} {N : Nat} (hN : n.toInt = (N : Int)) (h : ¬ (n = (0 : Int64))) : N ≠ 0 := fun q => h (own_qz (by rw [hN, q]; rfl))
theorem own_n3 {k : Nat} (h1 : 1 ≤ k) (h : k ≤ 3) : Int32.ofNat k = 1 ∨ Int32.ofNat k = 2 ∨ Int32.ofNat k = 3 := by
  have : k = 1 ∨ k = 2 ∨ k = 3 := by omega
  rcases this with rfl | rfl | rfl
  · exact Or.inl rfl
  · exact Or.inr (Or.inl rfl)
  · exact Or.inr (Or.inr rfl)
theorem own_lm (x : Int64) : 0 ≤ (x &&& (9223372036854775807 : Int64)).toInt := by
  have e := c_maskL x 9223372036854775807 63 (by decide) (by decide)
  omega
theorem own_im (x : Int32) : 0 ≤ ((x &&& (2147483647 : Int32)) % (1000 : Int32)).toInt ∧ ((x &&& (2147483647 : Int32)) % (1000 : Int32)).toInt < 1000 := by
  have e1 := c_mask x 2147483647 31 (by decide) (by decide)
  have e2 := c_irem (x &&& 2147483647) 1000 1000 rfl
  omega
theorem own_l0 {x : Int64} (h : 0 ≤ x.toInt) : ¬ (x < (0 : Int64)) := by
  have l : (0 : Int64).toInt = 0 := rfl
  rw [Int64.lt_iff_toInt_lt]; omega
theorem own_rem10 {n : Int64} {N : Nat} (hN : n.toInt = (N : Int)) : fDg ((n - (n / (10 : Int64)) * (10 : Int64)).toInt32) = dch N := own_dg (by rw [own_rm (by omega), hN]; omega)
theorem own_hD {k N : Nat} : ∀ t, t < (dl k N).length → Dig ((dl k N).getD t 0) := fun t ht => by
  obtain ⟨m, e⟩ := dl_get k N t (by rw [dl_len] at ht; exact ht)
  rw [e]; exact dch_dig m
theorem own_hmax {k N : Nat} (h : N ≤ 9223372036854775807) : pv (dl k N) ≤ 9223372036854775807 := by rw [pv_dl]; exact Nat.le_trans (Nat.mod_le _ _) h
theorem own_or {args : Array Value} {first s : State} {o : Option Outcome} {idx : List Nat} {c d : Jvm.Cond} (h1 : c.value args first o s idx = some false) (h : (Jvm.Cond.or c d).value args first o s idx = some true) : d.value args first o s idx = some true := by
  simp only [Cond.value, h1] at h; exact h
theorem own_eqV {args : Array Value} {first s : State} {o : Option Outcome} {idx : List Nat} {t u : Term} {z : Int32} (hu : u.eval args first o idx s = some (.int z)) (h : (Jvm.Cond.eq t u).value args first o s idx = some true) : t.eval args first o idx s = some (.int z) := by
  simp only [Cond.value, hu] at h
  cases ht : t.eval args first o idx s with
  | none => simp [ht] at h
  | some x => cases x <;> simp [ht] at h ⊢; exact h
theorem own_len {args : Array Value} {first s : State} {o : Option Outcome} {idx : List Nat} {t : Term} {a : Addr} {cl : Cell} {z : Int32} (ht : t.eval args first o idx s = some (.ref a)) (hc : s.heap[a]? = some cl) (h : (Term.length t).eval args first o idx s = some (.int z)) : cl.slots.size < 2 ^ 31 ∧ cl.slots.size.toInt32 = z ∧ s.arrayAt? a = some cl := by
  obtain ⟨a', cell, e1, e2, e3, e4⟩ := Jvm.Free.SB.Term.length_small h
  cases ht.symm.trans e1
  cases hc.symm.trans (State.arrayAt?_spec e2).1
  cases e3
  exact ⟨e4, rfl, e2⟩
theorem own_hasl {c : Cell} : ∀ (L P : List Value), c.slots.toList = P ++ L → HasL c P.length L
  | [], _, _ => trivial
  | v :: r, P, e => ⟨by rw [← Array.getElem?_toList, e, List.getElem?_append_right (Nat.le_refl _)]; simp, by
      have := own_hasl (c := c) r (P ++ [v]) (by rw [e]; simp)
      rwa [List.length_append] at this⟩
theorem own_vals {args : Array Value} {s : State} {t : Term} {a : Addr} {cl : Cell} (hst : ∀ idx, t.eval args s none idx s = some (.ref a)) (hc : s.heap[a]? = some cl) (hat : s.arrayAt? a = some cl) (hsz : cl.slots.size = 128)
    (h : (Jvm.Cond.all t (.or (.lt (.index 0) (.int (48 : Int32))) (.or (.le (.int (58 : Int32)) (.index 0)) (.eq (.elem t (.index 0)) (.sub (.index 0) (.int (48 : Int32))))))).value args s none s [] = some true) :
    ∀ x : Int32, Dig x → cl.slots.toList.getD x.toNatClampNeg (.int (0 : Int32)) = .int (x - (48 : Int32)) := by
  intro x hD
  obtain ⟨h1, h2⟩ := hD
  have ek : x.toInt = x.toNatClampNeg := by simp only [Int32.toNatClampNeg]; omega
  have hlt : x.toNatClampNeg < cl.slots.size := by omega
  have hk := Cond.all_elim (hst []) hat h x.toNatClampNeg hlt
  have ei : (Term.index 0).eval args s none [x.toNatClampNeg] s = some (.int x) := by
    have e2 : Nat.toInt32 x.toNatClampNeg = x := by apply Int32.toInt_inj.mp; rw [len_toInt (by omega)]; omega
    have e3 : (Term.index 0).eval args s none [x.toNatClampNeg] s = some (.int (Nat.toInt32 x.toNatClampNeg)) := rfl
    rw [e3, e2]
  have l48 : (48 : Int32).toInt = 48 := rfl
  have l58 : (58 : Int32).toInt = 58 := rfl
  have k1 := own_or (nay (Cond.lt_ints ei (Term.int_eval 48)) (by rw [Int32.lt_iff_toInt_lt]; omega)) hk
  have k2 := own_or (nay (Cond.le_ints (Term.int_eval 58) ei) (by rw [Int32.le_iff_toInt_le]; omega)) k1
  have es : (Term.sub (.index 0) (.int (48 : Int32))).eval args s none [x.toNatClampNeg] s = some (.int (x - 48)) := by simp [Term.eval] at ei ⊢; rw [ei]
  have k3 := own_eqV es k2
  have k4 := (elem_in k3 (hst _) ei hc).2
  rw [List.getD_eq_getElem?_getD, Array.getElem?_toList, k4]; rfl
theorem pd_39 : parseMethodDescriptor "()Lcom/example/hoarfrost/hoarfrost/IdForm;" = some ⟨[], some (.object "com/example/hoarfrost/hoarfrost/IdForm")⟩ := by decide +kernel
theorem pd_40 : parseMethodDescriptor "(J)Ljava/lang/String;" = some ⟨[.long], some (.object "java/lang/String")⟩ := by decide +kernel
theorem pd_41 : parseMethodDescriptor "(Ljava/lang/String;)J" = some ⟨[(.object "java/lang/String")], some .long⟩ := by decide +kernel
theorem pd_42 : parseMethodDescriptor "(Ljava/lang/Object;)Z" = some ⟨[(.object "java/lang/Object")], some .boolean⟩ := by decide +kernel
theorem ef_rm0 (mi : MethodId) (id0 : Int64) (a : Int32) (b : Int32) (cz : Int32) (fm : Value) (fi : Value) (va : Addr) (kv : ClassId) (vals : List Value) : entryFrame mi #[(.long id0), (.int a), (.int b)] maxLocals = mkF mi 0 #[.val (.long id0), .second, .val (.int a), .val (.int b), .unset, .unset, .unset, .unset, .unset, .unset, .unset] [] := by first | (simp [entryFrame, mkF, argsToLocals, Value.category, maxLocals]; done) | rfl
def Q_rm0 (Z : State) (id0 : Int64) (a : Int32) (b : Int32) (cz : Int32) (fm : Value) (fi : Value) (va : Addr) (kv : ClassId) (vals : List Value) (h0 : Heap) (n0 : Nat) (vv_ : Option Value) (hh_ : Heap) (LL_ : List Loc) : Prop := vv_ = some (.int 1) ∧ Fr n0 LL_
set_option maxRecDepth 65536 in
set_option maxHeartbeats 40000000 in
theorem rm0 (l : Launch) (Z : State) (a0 : Array Value) (hw : ∀ d ∈ tables_1, d.before a0 Z = true) (ws : List Jvm.Cond) (id0 : Int64) (a : Int32) (b : Int32) (cz : Int32) (fm : Value) (fi : Value) (va : Addr) (kv : ClassId) (vals : List Value) (h0 : Heap) (n0 : Nat) (Z0 : n0 ≤ h0.size) (hEL : EW Z a0 own_EL) (SC : Sta Z h0 "java/lang/String" "COMPACT_STRINGS" "Z" (.int cz)) (hcz : ¬ (cz = (0 : Int32))) (SF : Sta Z h0 "jdk/internal/util/Preconditions" "SIOOBE_FORMATTER" "Ljava/util/function/BiFunction;" fm) (hfm : fm.isRef = true) (IF : Sta Z h0 "jdk/internal/util/Preconditions" "IOOBE_FORMATTER" "Ljava/util/function/BiFunction;" fi) (hfi : fi.isRef = true) (SV : Sta Z h0 "com/example/hoarfrost/hoarfrost/IdForm" "VALUES" "[B" (.ref va)) (VA : Arv Z h0 va kv .byte (128 : Int32) vals (.int (0 : Int32))) (hVal : ∀ x : Int32, Dig x → vals.getD x.toNatClampNeg (.int (0 : Int32)) = .int (x - (48 : Int32))) :
    MetFree l x (head1 (Jvm.Cond.code x code maxLocals ret :: ws) room_1) (fun aa_ U => aa_ = #[(.long id0), (.int a), (.int b)] ∧ Z.Warmed39 U.vm ∧ U.heap = h0 ∧ CHv Z own_EL U.vm h0) (fun _ _ _ _ _ => True) (fun _ U oo_ UV_ => ∃ vv_ LL_, oo_ = .returned vv_ ∧ Q_rm0 Z id0 a b cz fm fi va kv vals h0 n0 vv_ UV_.heap LL_ ∧ ReturnedEndW U oo_ UV_ LL_ room_1.cells room_1.slots) := by
  refine MetFree.of_bodySF (plainFor_of_name pn_3) hisR ?_
  intro pg ev si mi args below meth ci s₁ Bd hml0 hP0 hK
  obtain ⟨rfl, hZ, hh, hCH⟩ := hP0
  have hx := Bd.exec
  have hby := Bd.bytes
  have hml : ci.maxLocals = 11 := hml0
  have hown : si.vm.findClass "com/example/hoarfrost/hoarfrost/IdFormDecimalPinLaw" = some mi.cls := findClass_of_methodNamed Bd.named
  have hnm := (name_of_methodNamed Bd.named Bd.method).1
  have X0 : Stand pg l ev room_1 si mi #[(.long id0), (.int a), (.int b)] below meth ci s₁ [] 0 0 := Stand.of_body Bd
  have e0 : s₁.heap = h0 := by rw [← hh, Bd.state]; rfl
  have N0 := Fr.nil n0
  refine Go.start (fun P hP => ?_)
  refine Go.st (fun t_ k_ => castTop (ef_rm0 mi id0 a b cz fm fi va kv vals) k_) (A := s₁.setTop (mkF mi 0 #[.val (.long id0), .second, .val (.int a), .val (.int b), .unset, .unset, .unset, .unset, .unset, .unset, .unset] [])) ?_
  show Go _ _ _ (s₁.setTop (mkF mi 0 #[.val (.long id0), .second, .val (.int a), .val (.int b), .unset, .unset, .unset, .unset, .unset, .unset, .unset] [])) _
  have CR1 : CHr Z own_EL si.vm h0 si.vm h0 := (CHr.refl hCH).trans (CHr.keep (Keep.refl h0 []) sf0 (CHr.refl hCH).1)
  obtain ⟨_, _, ⟨T2, L2, k2, n2⟩, -, X2, hS2', hG2, ⟨Lc2, hQ2, l2, y2, z2, hCr2⟩, st2⟩ := callSS (own_rb X0) hx (y := (⟨"com/example/hoarfrost/hoarfrost/IdForm", "decimal", "()Lcom/example/hoarfrost/hoarfrost/IdForm;"⟩ : MethodName)) hown (mvT hZ (hw _ (own_m 0 rfl))) (mvT hZ (hw _ (own_m 1 rfl))) (mvT hZ (hw _ (own_m 2 rfl))) (mvT hZ (hw _ (own_m 3 rfl))) (by decide) (backOfSH (s := si) (vm0 := si.vm) (EL := own_EL) (W := 0) (rmDe l Z a0 hw [] h0 n0 Z0 hEL) hZ (hw _ (own_m 3 rfl)) (hw _ (own_m 2 rfl)) (by decide) (by decide) hEL CR1.1) (g := (mkF mi 0 #[.val (.long id0), .second, .val (.int a), .val (.int b), .unset, .unset, .unset, .unset, .unset, .unset, .unset] [])) rfl (by rw [hml]; rfl) (argsL := []) (rest := []) (lenOf pd_39 rfl) rfl (by show 2 * 0 + _ ≤ _; exact Nat.le_of_eq rfl) (hb hby at_0) (fun _ _ => ⟨rfl, e0, (by decide : 0 + 5 ≤ _), (by decide : 0 + 12 ≤ _)⟩)
  dsimp only [Pt.U, Pt.locs, Pt.cells, Pt.slots] at X2 l2 y2 z2 st2 hQ2 hCr2 hS2' hG2
  subst y2 z2
  have X2 := own_cs X2 (cells' := 5) (slots' := 12) rfl rfl
  obtain ⟨X2, hS2, hZ, hown⟩ := rebS ((State.WarmedH.refl si).since h0.size) (own_leT e0 (Nat.le_trans (Nat.le_refl _) (Keep.refl h0 []).1)) X2 hS2' hG2 hZ hown
  obtain ⟨h2, e2⟩ : ∃ z, T2.heap = z := ⟨_, rfl⟩
  rw [e2] at hQ2
  obtain ⟨oI, pI, sI, bpI, bsI, kpI, ksI, rfl, N2q, K2, z_oI, IE, IR, IW, IP, IS, SEp, SCop, SVap, SArp, SEbp, SEs, SCos, SVas, SArs, SEbs⟩ := hQ2
  have N2 := own_fr l2 (Fr.app N0 N2q)
  have Zs3 : n0 ≤ h2.size := Nat.le_trans Z0 K2.1
  have KL3 : Keep h0 h2 [] := (Keep.refl h0 []).trans K2 all0
  rw [e2] at hCr2
  have CS2 : CHr Z own_EL si.vm h0 T2.vm h2 := CR1.trans hCr2
  refine Go.tr st2 ?_
  show Go _ _ _ (T2.setTop (mkF mi 3 #[.val (.long id0), .second, .val (.int a), .val (.int b), .unset, .unset, .unset, .unset, .unset, .unset, .unset] [(.ref oI)])) _
  refine g_astore X2 hx hby at_3 rfl (l' := #[.val (.long id0), .second, .val (.int a), .val (.int b), .val (.ref oI), .unset, .unset, .unset, .unset, .unset, .unset]) rfl ?_
  refine g_lloadN X2 hx hby at_5 rfl ?_
  refine Go.st (X2.ldc2Long hx hown (mvT hZ (hw _ (own_m 28 rfl))) (g := (mkF mi 6 #[.val (.long id0), .second, .val (.int a), .val (.int b), .val (.ref oI), .unset, .unset, .unset, .unset, .unset, .unset] [(.long id0)])) rfl (hb hby at_6)) ?_
  refine Go.s (XS.land X2.here hx rfl (hb hby at_9) rfl) ?_
  refine Go.s (XS.lstore X2.here hx rfl (hb hby at_10) rfl (l' := #[.val (.long id0), .second, .val (.int a), .val (.int b), .val (.ref oI), .val (.long (id0 &&& (9223372036854775807 : Int64))), .second, .unset, .unset, .unset, .unset]) rfl) ?_
  show Go _ _ _ (T2.setTop (mkF mi 12 #[.val (.long id0), .second, .val (.int a), .val (.int b), .val (.ref oI), .val (.long (id0 &&& (9223372036854775807 : Int64))), .second, .unset, .unset, .unset, .unset] [])) _
  obtain ⟨n, hd_n⟩ : ∃ z, z = (id0 &&& (9223372036854775807 : Int64)) := ⟨_, rfl⟩
  rw [← hd_n]
  have hnn := own_lm id0
  rw [← hd_n] at hnn
  obtain ⟨N, hN⟩ : ∃ N : Nat, n.toInt = (N : Int) := ⟨n.toInt.toNat, by omega⟩
  have hNm : N ≤ 9223372036854775807 := by have := Int64.toInt_lt n; omega
  clear hd_n
  show Go _ _ _ (T2.setTop (mkF mi 12 #[.val (.long id0), .second, .val (.int a), .val (.int b), .val (.ref oI), .val (.long n), .second, .unset, .unset, .unset, .unset] [])) _
  refine g_aload X2 hx hby at_12 rfl rfl ?_
  refine g_lload X2 hx hby at_14 rfl ?_
  show Go _ _ _ (T2.setTop (mkF mi 16 #[.val (.long id0), .second, .val (.int a), .val (.int b), .val (.ref oI), .val (.long n), .second, .unset, .unset, .unset, .unset] [(.long n), (.ref oI)])) _
  have CR4 : CHr Z own_EL si.vm h0 T2.vm h2 := CS2.trans (CHr.keep (Keep.refl h2 []) sf0 CS2.1)
  have f5 := (own_sta_keep SC K2 ns0)
  have f6 := (own_sta_keep SF K2 ns0)
  have f7 := (own_sta_keep IF K2 ns0)
  obtain ⟨cq8, kq8, q8a, q8b, q8c⟩ := isOf hZ e2 IE
  obtain ⟨_, _, ⟨T8, L8, k8, n8⟩, -, X8, hS8', hG8, ⟨Lc8, hQ8, l8, y8, z8, hCr8⟩, st8⟩ := X2.virtualBackS hx (y := (⟨"com/example/hoarfrost/hoarfrost/IdForm", "format", "(J)Ljava/lang/String;"⟩ : MethodName)) (z := (⟨"com/example/hoarfrost/hoarfrost/IdForm", "format", "(J)Ljava/lang/String;"⟩ : MethodName)) hown (mvT hZ (hw _ (own_m 29 rfl))) (mvT hZ (hw _ (own_m 30 rfl))) (notFace_of_selects (args := #[]) (mvT hZ (hw _ (own_m 32 rfl)))) (mvT hZ (hw _ (own_m 32 rfl))) (mvT hZ (hw _ (own_m 31 rfl))) (by decide) (backOfSH (s := si) (vm0 := T2.vm) (EL := own_EL) (W := 0) (rmF l Z a0 hw [] oI n pI sI bpI bsI kpI ksI N cz fm fi h2 n0 Zs3 hEL IE IR IW IP IS SEp SCop SVap SArp SEbp SEs SCos SVas SArs SEbs f5 hcz f6 hfm f7 hfi hN (own_l0 (by omega))) hZ (hw _ (own_m 33 rfl)) (hw _ (own_m 2 rfl)) (by decide) (by decide) hEL CR4.1) q8a q8c (g := (mkF mi 16 #[.val (.long id0), .second, .val (.int a), .val (.int b), .val (.ref oI), .val (.long n), .second, .unset, .unset, .unset, .unset] [(.long n), (.ref oI)])) rfl (by rw [hml]; rfl) (Steps.refl _) (argsL := [(.long n)]) (rest := []) (lenOf pd_40 rfl) rfl (by show 2 * 0 + _ ≤ _; exact Nat.le_of_eq rfl) (hb hby at_16) (fun _ _ => ⟨rfl, e2, (by decide : 5 + 12 ≤ _), (by decide : 12 + 400 ≤ _)⟩)
  dsimp only [Pt.U, Pt.locs, Pt.cells, Pt.slots] at X8 l8 y8 z8 st8 hQ8 hCr8 hS8' hG8
  subst y8 z8
  have X8 := own_cs X8 (cells' := 17) (slots' := 412) rfl rfl
  obtain ⟨X8, hS8, hZ, hown⟩ := rebS hS2 (own_leT e2 (Nat.le_trans (own_leH e2) (Keep.refl h2 []).1)) X8 hS8' hG8 hZ hown
  obtain ⟨h8, e8⟩ : ∃ z, T8.heap = z := ⟨_, rfl⟩
  rw [e8] at hQ8
  obtain ⟨s8_, b8, kb8, kk, rfl, N8q, K8, SE8, SCo8, SVa8, SAr8, SEb8, hk1, hk19, hkz, hkn⟩ := hQ8
  have N8 := own_fr l8 (Fr.app N2 N8q)
  have Zs9 : n0 ≤ h8.size := Nat.le_trans Zs3 K8.1
  have KL9 : Keep h2 h8 [] := (Keep.refl h2 []).trans K8 all0
  rw [e8] at hCr8
  have CS8 : CHr Z own_EL si.vm h0 T8.vm h8 := CR4.trans hCr8
  refine Go.tr st8 ?_
  show Go _ _ _ (T8.setTop (mkF mi 19 #[.val (.long id0), .second, .val (.int a), .val (.int b), .val (.ref oI), .val (.long n), .second, .unset, .unset, .unset, .unset] [(.ref s8_)])) _
  refine g_astore X8 hx hby at_19 rfl (l' := #[.val (.long id0), .second, .val (.int a), .val (.int b), .val (.ref oI), .val (.long n), .second, .val (.ref s8_), .unset, .unset, .unset]) rfl ?_
  refine g_aload X8 hx hby at_21 rfl rfl ?_
  have f11 := (own_sta_keep f5 K8 ns0)
  obtain ⟨cq10, kq10, q10a, q10b, q10c⟩ := isOf hZ e8 SE8
  obtain ⟨_, _, ⟨T10, L10, k10, n10⟩, -, X10, ⟨Lc10, hQ10, l10, y10, z10⟩, st10⟩ := X8.virtualBack hx (y := (⟨"java/lang/String", "length", "()I"⟩ : MethodName)) (z := (⟨"java/lang/String", "length", "()I"⟩ : MethodName)) hown (mvT hZ (hw _ (own_m 206 rfl))) (mvT hZ (hw _ (own_m 65 rfl))) (notFace_of_selects (args := #[]) (mvT hZ (hw _ (own_m 67 rfl)))) (mvT hZ (hw _ (own_m 67 rfl))) (mvT hZ (hw _ (own_m 66 rfl))) (by decide) (backOf (W := 0) (rmLn l Z a0 hw [] s8_ b8 kb8 (Int32.ofNat kk) (dl kk N) cz h8 n0 Zs9 SE8 SCo8 SVa8 SAr8 SEb8 f11 hcz) hZ (hw _ (own_m 68 rfl)) (hw _ (own_m 7 rfl)) (by decide) (by decide)) q10a q10c (g := (mkF mi 23 #[.val (.long id0), .second, .val (.int a), .val (.int b), .val (.ref oI), .val (.long n), .second, .val (.ref s8_), .unset, .unset, .unset] [(.ref s8_)])) rfl (by rw [hml]; rfl) (Steps.refl _) (argsL := []) (rest := []) (lenOf pd_8 rfl) rfl (by show 2 * 0 + _ ≤ _; exact Nat.le_of_eq rfl) (hb hby at_23) (fun _ _ => ⟨rfl, e8, (by decide : 17 + 0 ≤ _), (by decide : 412 + 0 ≤ _)⟩)
  dsimp only [Pt.U, Pt.locs, Pt.cells, Pt.slots] at X10 l10 y10 z10 st10 hQ10
  subst y10 z10
  have X10 := own_cs X10 (cells' := 17) (slots' := 412) rfl rfl
  obtain ⟨rfl, N10q, e10⟩ := hQ10
  have N10 := own_fr l10 (Fr.app N8 N10q)
  refine Go.tr st10 ?_
  refine g_iconst X10 hx hby at_26 (v := 1) rfl ?_
  refine g_icmpNo X10 hx hby at_27 (flt (own_k1 hk1 hk19)).1 ?_
  refine g_aload X10 hx hby at_30 rfl rfl ?_
  obtain ⟨cq12, kq12, q12a, q12b, q12c⟩ := isOf hZ e10 SE8
  obtain ⟨_, _, ⟨T12, L12, k12, n12⟩, -, X12, ⟨Lc12, hQ12, l12, y12, z12⟩, st12⟩ := X10.virtualBack hx (y := (⟨"java/lang/String", "length", "()I"⟩ : MethodName)) (z := (⟨"java/lang/String", "length", "()I"⟩ : MethodName)) hown (mvT hZ (hw _ (own_m 206 rfl))) (mvT hZ (hw _ (own_m 65 rfl))) (notFace_of_selects (args := #[]) (mvT hZ (hw _ (own_m 67 rfl)))) (mvT hZ (hw _ (own_m 67 rfl))) (mvT hZ (hw _ (own_m 66 rfl))) (by decide) (backOf (W := 0) (rmLn l Z a0 hw [] s8_ b8 kb8 (Int32.ofNat kk) (dl kk N) cz h8 n0 Zs9 SE8 SCo8 SVa8 SAr8 SEb8 f11 hcz) hZ (hw _ (own_m 68 rfl)) (hw _ (own_m 7 rfl)) (by decide) (by decide)) q12a q12c (g := (mkF mi 32 #[.val (.long id0), .second, .val (.int a), .val (.int b), .val (.ref oI), .val (.long n), .second, .val (.ref s8_), .unset, .unset, .unset] [(.ref s8_)])) rfl (by rw [hml]; rfl) (Steps.refl _) (argsL := []) (rest := []) (lenOf pd_8 rfl) rfl (by show 2 * 0 + _ ≤ _; exact Nat.le_of_eq rfl) (hb hby at_32) (fun _ _ => ⟨rfl, e10, (by decide : 17 + 0 ≤ _), (by decide : 412 + 0 ≤ _)⟩)
  dsimp only [Pt.U, Pt.locs, Pt.cells, Pt.slots] at X12 l12 y12 z12 st12 hQ12
  subst y12 z12
  have X12 := own_cs X12 (cells' := 17) (slots' := 412) rfl rfl
  obtain ⟨rfl, N12q, e12⟩ := hQ12
  have N12 := own_fr l12 (Fr.app N10 N12q)
  refine Go.tr st12 ?_
  refine g_bipush X12 hx hby at_35 (v := 19) rfl ?_
  refine g_icmpYes X12 hx hby at_37 (flt (own_k19 hk19)).2.2.2 (pc0 := 37) (pc' := 42) rfl (by decide) (by decide) ?_
  refine g_aload X12 hx hby at_42 rfl rfl ?_
  refine g_aload X12 hx hby at_44 rfl rfl ?_
  obtain ⟨cq13, kq13, q13a, q13b, q13c⟩ := isOf hZ e12 SE8
  obtain ⟨_, _, ⟨T13, L13, k13, n13⟩, -, X13, ⟨Lc13, hQ13, l13, y13, z13⟩, st13⟩ := X12.virtualBack hx (y := (⟨"java/lang/String", "length", "()I"⟩ : MethodName)) (z := (⟨"java/lang/String", "length", "()I"⟩ : MethodName)) hown (mvT hZ (hw _ (own_m 206 rfl))) (mvT hZ (hw _ (own_m 65 rfl))) (notFace_of_selects (args := #[]) (mvT hZ (hw _ (own_m 67 rfl)))) (mvT hZ (hw _ (own_m 67 rfl))) (mvT hZ (hw _ (own_m 66 rfl))) (by decide) (backOf (W := 1) (rmLn l Z a0 hw [] s8_ b8 kb8 (Int32.ofNat kk) (dl kk N) cz h8 n0 Zs9 SE8 SCo8 SVa8 SAr8 SEb8 f11 hcz) hZ (hw _ (own_m 68 rfl)) (hw _ (own_m 7 rfl)) (by decide) (by decide)) q13a q13c (g := (mkF mi 46 #[.val (.long id0), .second, .val (.int a), .val (.int b), .val (.ref oI), .val (.long n), .second, .val (.ref s8_), .unset, .unset, .unset] [(.ref s8_), (.ref s8_)])) rfl (by rw [hml]; rfl) (Steps.refl _) (argsL := []) (rest := [(.ref s8_)]) (lenOf pd_8 rfl) rfl (by show 2 * 0 + _ ≤ _; exact Nat.le_of_eq rfl) (hb hby at_46) (fun _ _ => ⟨rfl, e12, (by decide : 17 + 0 ≤ _), (by decide : 412 + 0 ≤ _)⟩)
  dsimp only [Pt.U, Pt.locs, Pt.cells, Pt.slots] at X13 l13 y13 z13 st13 hQ13
  subst y13 z13
  have X13 := own_cs X13 (cells' := 17) (slots' := 412) rfl rfl
  obtain ⟨rfl, N13q, e13⟩ := hQ13
  have N13 := own_fr l13 (Fr.app N12 N13q)
  refine Go.tr st13 ?_
  refine g_iconst X13 hx hby at_49 (v := 1) rfl ?_
  refine g_isub X13 hx hby at_50 rfl ?_
  show Go _ _ _ (T13.setTop (mkF mi 51 #[.val (.long id0), .second, .val (.int a), .val (.int b), .val (.ref oI), .val (.long n), .second, .val (.ref s8_), .unset, .unset, .unset] [(.int ((Int32.ofNat kk) - (1 : Int32))), (.ref s8_)])) _
  rw [own_kp hk1 hk19]
  show Go _ _ _ (T13.setTop (mkF mi 51 #[.val (.long id0), .second, .val (.int a), .val (.int b), .val (.ref oI), .val (.long n), .second, .val (.ref s8_), .unset, .unset, .unset] [(.int (Int32.ofNat (kk - 1))), (.ref s8_)])) _
  have f15 := (own_sta_keep f6 K8 ns0)
  obtain ⟨cq14, kq14, q14a, q14b, q14c⟩ := isOf hZ e13 SE8
  obtain ⟨_, _, ⟨T14, L14, k14, n14⟩, -, X14, ⟨Lc14, hQ14, l14, y14, z14⟩, st14⟩ := X13.virtualBack hx (y := (⟨"java/lang/String", "charAt", "(I)C"⟩ : MethodName)) (z := (⟨"java/lang/String", "charAt", "(I)C"⟩ : MethodName)) hown (mvT hZ (hw _ (own_m 207 rfl))) (mvT hZ (hw _ (own_m 37 rfl))) (notFace_of_selects (args := #[]) (mvT hZ (hw _ (own_m 39 rfl)))) (mvT hZ (hw _ (own_m 39 rfl))) (mvT hZ (hw _ (own_m 38 rfl))) (by decide) (backOf (W := 0) (rmCA l Z a0 hw [] s8_ (Int32.ofNat (kk - 1)) b8 kb8 (Int32.ofNat kk) (dl kk N) cz fm h8 n0 Zs9 SE8 SCo8 SVa8 SAr8 SEb8 f11 hcz f15 hfm (own_ofN0 (by omega)) (own_lk (by omega) hk19)) hZ (hw _ (own_m 40 rfl)) (hw _ (own_m 7 rfl)) (by decide) (by decide)) q14a q14c (g := (mkF mi 51 #[.val (.long id0), .second, .val (.int a), .val (.int b), .val (.ref oI), .val (.long n), .second, .val (.ref s8_), .unset, .unset, .unset] [(.int (Int32.ofNat (kk - 1))), (.ref s8_)])) rfl (by rw [hml]; rfl) (Steps.refl _) (argsL := [(.int (Int32.ofNat (kk - 1)))]) (rest := []) (lenOf pd_20 rfl) rfl (by show 2 * 0 + _ ≤ _; exact Nat.le_of_eq rfl) (hb hby at_51) (fun _ _ => ⟨rfl, e13, (by decide : 17 + 0 ≤ _), (by decide : 412 + 0 ≤ _)⟩)
  dsimp only [Pt.U, Pt.locs, Pt.cells, Pt.slots] at X14 l14 y14 z14 st14 hQ14
  subst y14 z14
  have X14 := own_cs X14 (cells' := 17) (slots' := 412) rfl rfl
  obtain ⟨rfl, N14q, e14⟩ := hQ14
  have N14 := own_fr l14 (Fr.app N13 N14q)
  refine Go.tr st14 ?_
  show Go _ _ _ (T14.setTop (mkF mi 54 #[.val (.long id0), .second, .val (.int a), .val (.int b), .val (.ref oI), .val (.long n), .second, .val (.ref s8_), .unset, .unset, .unset] [(.int (((dl kk N).getD (Int32.ofNat (kk - 1)).toNatClampNeg 0) &&& (255 : Int32)))])) _
  rw [own_lastch hk1 hk19]
  show Go _ _ _ (T14.setTop (mkF mi 54 #[.val (.long id0), .second, .val (.int a), .val (.int b), .val (.ref oI), .val (.long n), .second, .val (.ref s8_), .unset, .unset, .unset] [(.int (dch N))])) _
  refine g_lload X14 hx hby at_54 rfl ?_
  refine Go.st (X14.ldc2Long hx hown (mvT hZ (hw _ (own_m 208 rfl))) (g := (mkF mi 56 #[.val (.long id0), .second, .val (.int a), .val (.int b), .val (.ref oI), .val (.long n), .second, .val (.ref s8_), .unset, .unset, .unset] [(.long n), (.int (dch N))])) rfl (hb hby at_56)) ?_
  refine Go.s (XS.lrem X14.here hx rfl (hb hby at_59) rfl (by decide)) ?_
  refine Go.s (XS.l2i X14.here hx rfl (hb hby at_60) rfl) ?_
  obtain ⟨_, _, ⟨T16, L16, k16, n16⟩, -, X16, ⟨Lc16, hQ16, l16, y16, z16⟩, st16⟩ := Jvm.LawKit.callS X14 hx (y := (⟨"com/example/hoarfrost/hoarfrost/IdFormDecimalPinLaw", "digit", "(I)C"⟩ : MethodName)) hown (mvT hZ (hw _ (own_m 209 rfl))) (mvT hZ (hw _ (own_m 210 rfl))) (mvT hZ (hw _ (own_m 211 rfl))) (mvT hZ (hw _ (own_m 212 rfl))) (by decide) (backOf (W := 1) (rmDg l Z a0 hw [] ((n - (n / (10 : Int64)) * (10 : Int64)).toInt32) h8 n0 Zs9) hZ (hw _ (own_m 212 rfl)) (hw _ (own_m 211 rfl)) (by decide) (by decide)) (g := (mkF mi 61 #[.val (.long id0), .second, .val (.int a), .val (.int b), .val (.ref oI), .val (.long n), .second, .val (.ref s8_), .unset, .unset, .unset] [(.int ((n - (n / (10 : Int64)) * (10 : Int64)).toInt32)), (.int (dch N))])) rfl (by rw [hml]; rfl) (argsL := [(.int ((n - (n / (10 : Int64)) * (10 : Int64)).toInt32))]) (rest := [(.int (dch N))]) (lenOf pd_20 rfl) rfl (by show 2 * 0 + _ ≤ _; exact Nat.le_of_eq rfl) (hb hby at_61) (fun _ _ => ⟨rfl, e14, (by decide : 17 + 0 ≤ _), (by decide : 412 + 0 ≤ _)⟩)
  dsimp only [Pt.U, Pt.locs, Pt.cells, Pt.slots] at X16 l16 y16 z16 st16 hQ16
  subst y16 z16
  have X16 := own_cs X16 (cells' := 17) (slots' := 412) rfl rfl
  obtain ⟨rfl, N16q, e16⟩ := hQ16
  have N16 := own_fr l16 (Fr.app N14 N16q)
  refine Go.st st16 ?_
  show Go _ _ _ (T16.setTop (mkF mi 64 #[.val (.long id0), .second, .val (.int a), .val (.int b), .val (.ref oI), .val (.long n), .second, .val (.ref s8_), .unset, .unset, .unset] [(.int (fDg ((n - (n / (10 : Int64)) * (10 : Int64)).toInt32))), (.int (dch N))])) _
  rw [own_rem10 hN]
  show Go _ _ _ (T16.setTop (mkF mi 64 #[.val (.long id0), .second, .val (.int a), .val (.int b), .val (.ref oI), .val (.long n), .second, .val (.ref s8_), .unset, .unset, .unset] [(.int (dch N)), (.int (dch N))])) _
  refine g_icmpYes X16 hx hby at_64 (teq rfl).1 (pc0 := 64) (pc' := 69) rfl (by decide) (by decide) ?_
  show Go _ _ _ (T16.setTop (mkF mi 69 #[.val (.long id0), .second, .val (.int a), .val (.int b), .val (.ref oI), .val (.long n), .second, .val (.ref s8_), .unset, .unset, .unset] [])) _
  have KJ : ∀ (TJ : State) (LJ : List Loc), Stand pg l ev room_1 (si.setVm T8.vm) mi #[(.long id0), (.int a), (.int b)] below meth ci TJ LJ 17 412 → TJ.heap = h8 → Fr n0 LJ → Go pg.tables ev below (TJ.setTop (mkF mi 89 #[.val (.long id0), .second, .val (.int a), .val (.int b), .val (.ref oI), .val (.long n), .second, .val (.ref s8_), .unset, .unset, .unset] [])) P := by
    intro TJ LJ XJ eJ NJ
    refine g_aload XJ hx hby at_89 rfl rfl ?_
    refine g_aload XJ hx hby at_91 rfl rfl ?_
    show Go _ _ _ (TJ.setTop (mkF mi 93 #[.val (.long id0), .second, .val (.int a), .val (.int b), .val (.ref oI), .val (.long n), .second, .val (.ref s8_), .unset, .unset, .unset] [(.ref s8_), (.ref oI)])) _
    have CR17 : CHr Z own_EL si.vm h0 T8.vm h8 := CS8.trans (CHr.keep (Keep.refl h8 []) sf0 CS8.1)
    have f18 := (IE.keep K8)
    have f19 := (IR.keep K8 nin0)
    have f20 := (IW.keep K8 nin0)
    have f21 := (IP.keep K8 nin0)
    have f22 := (IS.keep K8 nin0)
    have f23 := (SEp.keep K8)
    have f24 := (SCop.keep K8 nin0)
    have f25 := (SVap.keep K8 nin0)
    have f26 := (SArp.keep K8 nin0)
    have f27 := (SEbp.keep K8)
    have f28 := (SEs.keep K8)
    have f29 := (SCos.keep K8 nin0)
    have f30 := (SVas.keep K8 nin0)
    have f31 := (SArs.keep K8 nin0)
    have f32 := (SEbs.keep K8)
    have f33 := (own_sta_keep (own_sta_keep SV K2 ns0) K8 ns0)
    have f34 := ((VA.keep K2 nin0).keep K8 nin0)
    obtain ⟨cq35, kq35, q35a, q35b, q35c⟩ := isOf hZ eJ f18
    obtain ⟨_, _, ⟨T35, L35, k35, n35⟩, -, X35, hS35', hG35, ⟨Lc35, hQ35, l35, y35, z35, hCr35⟩, st35⟩ := XJ.virtualBackS hx (y := (⟨"com/example/hoarfrost/hoarfrost/IdForm", "parse", "(Ljava/lang/String;)J"⟩ : MethodName)) (z := (⟨"com/example/hoarfrost/hoarfrost/IdForm", "parse", "(Ljava/lang/String;)J"⟩ : MethodName)) hown (mvT hZ (hw _ (own_m 213 rfl))) (mvT hZ (hw _ (own_m 214 rfl))) (notFace_of_selects (args := #[]) (mvT hZ (hw _ (own_m 216 rfl)))) (mvT hZ (hw _ (own_m 216 rfl))) (mvT hZ (hw _ (own_m 215 rfl))) (by decide) (backOfSH (s := si) (vm0 := T8.vm) (EL := own_EL) (W := 0) (rmP l Z a0 hw [] oI s8_ pI sI bpI bsI kpI ksI b8 kb8 (Int32.ofNat kk) (dl kk N) cz fm va kv vals h8 n0 Zs9 hEL f18 f19 f20 f21 f22 f23 f24 f25 f26 f27 f28 f29 f30 f31 f32 SE8 SCo8 SVa8 SAr8 SEb8 f11 hcz f15 hfm f33 f34 hVal (by rw [own_ofN (by omega), dl_len]) (by rw [dl_len]; omega) (by rw [dl_len]; omega) own_hD (own_hmax hNm)) hZ (hw _ (own_m 217 rfl)) (hw _ (own_m 2 rfl)) (by decide) (by decide) hEL CR17.1) q35a q35c (g := (mkF mi 93 #[.val (.long id0), .second, .val (.int a), .val (.int b), .val (.ref oI), .val (.long n), .second, .val (.ref s8_), .unset, .unset, .unset] [(.ref s8_), (.ref oI)])) rfl (by rw [hml]; rfl) (Steps.refl _) (argsL := [(.ref s8_)]) (rest := []) (lenOf pd_41 rfl) rfl (by show 2 * 0 + _ ≤ _; exact Nat.le_of_eq rfl) (hb hby at_93) (fun _ _ => ⟨rfl, eJ, (by decide : 17 + 2 ≤ _), (by decide : 412 + 24 ≤ _)⟩)
    dsimp only [Pt.U, Pt.locs, Pt.cells, Pt.slots] at X35 l35 y35 z35 st35 hQ35 hCr35 hS35' hG35
    subst y35 z35
    have X35 := own_cs X35 (cells' := 19) (slots' := 436) rfl rfl
    obtain ⟨X35, hS35, hZ, hown⟩ := rebS hS8 (own_leT eJ (Nat.le_trans (own_leH e8) (Keep.refl h8 []).1)) X35 hS35' hG35 hZ hown
    obtain ⟨h35, e35⟩ : ∃ z, T35.heap = z := ⟨_, rfl⟩
    rw [e35] at hQ35
    obtain ⟨z35_, rfl, N35q, K35, hzA⟩ := hQ35
    have N35 := own_fr l35 (Fr.app NJ N35q)
    have Zs36 : n0 ≤ h35.size := Nat.le_trans Zs9 K35.1
    have KL36 : Keep h8 h35 [] := (Keep.refl h8 []).trans K35 all0
    rw [e35] at hCr35
    have CS35 : CHr Z own_EL si.vm h0 T35.vm h35 := CR17.trans hCr35
    refine Go.tr st35 ?_
    show Go _ _ _ (T35.setTop (mkF mi 96 #[.val (.long id0), .second, .val (.int a), .val (.int b), .val (.ref oI), .val (.long n), .second, .val (.ref s8_), .unset, .unset, .unset] [(.long z35_)])) _
    refine g_lload X35 hx hby at_96 rfl ?_
    refine Go.s (XS.lcmp X35.here hx rfl (hb hby at_98) rfl) ?_
    refine g_ifYes X35 hx hby at_99 ((if0 _ _).trans (teq (own_eq (own_pz hzA hN hkz))).1) (pc0 := 99) (pc' := 104) rfl (by decide) (by decide) ?_
    refine g_iloadN X35 hx hby at_104 rfl ?_
    refine Go.st (X35.ldcInt hx hown (mvT hZ (hw _ (own_m 246 rfl))) (g := (mkF mi 105 #[.val (.long id0), .second, .val (.int a), .val (.int b), .val (.ref oI), .val (.long n), .second, .val (.ref s8_), .unset, .unset, .unset] [(.int a)])) rfl (hb hby at_105)) ?_
    refine g_iand X35 hx hby at_107 rfl ?_
    refine g_sipush X35 hx hby at_108 (v := 1000) rfl ?_
    refine Go.s (iremM X35 hx rfl (hb hby at_111) rfl (by decide)) ?_
    show Go _ _ _ (T35.setTop (mkF mi 112 #[.val (.long id0), .second, .val (.int a), .val (.int b), .val (.ref oI), .val (.long n), .second, .val (.ref s8_), .unset, .unset, .unset] [(.int ((a &&& (2147483647 : Int32)) % (1000 : Int32)))])) _
    refine g_istore X35 hx hby at_112 (l' := #[.val (.long id0), .second, .val (.int a), .val (.int b), .val (.ref oI), .val (.long n), .second, .val (.ref s8_), .val (.int ((a &&& (2147483647 : Int32)) % (1000 : Int32))), .unset, .unset]) rfl ?_
    show Go _ _ _ (T35.setTop (mkF mi 114 #[.val (.long id0), .second, .val (.int a), .val (.int b), .val (.ref oI), .val (.long n), .second, .val (.ref s8_), .val (.int ((a &&& (2147483647 : Int32)) % (1000 : Int32))), .unset, .unset] [])) _
    obtain ⟨m, hd_m⟩ : ∃ z, z = ((a &&& (2147483647 : Int32)) % (1000 : Int32)) := ⟨_, rfl⟩
    rw [← hd_m]
    have hmb := own_im a
    rw [← hd_m] at hmb
    obtain ⟨M, hM⟩ : ∃ N : Nat, m.toInt = (N : Int) := ⟨m.toInt.toNat, by omega⟩
    have hM3 : M < 1000 := by omega
    clear hd_m
    show Go _ _ _ (T35.setTop (mkF mi 114 #[.val (.long id0), .second, .val (.int a), .val (.int b), .val (.ref oI), .val (.long n), .second, .val (.ref s8_), .val (.int m), .unset, .unset] [])) _
    refine g_aload X35 hx hby at_114 rfl rfl ?_
    refine g_iload X35 hx hby at_116 rfl ?_
    refine Go.s (XS.i2l X35.here hx rfl (hb hby at_118) rfl) ?_
    show Go _ _ _ (T35.setTop (mkF mi 119 #[.val (.long id0), .second, .val (.int a), .val (.int b), .val (.ref oI), .val (.long n), .second, .val (.ref s8_), .val (.int m), .unset, .unset] [(.long (m.toInt64)), (.ref oI)])) _
    have CR37 : CHr Z own_EL si.vm h0 T35.vm h35 := CS35.trans (CHr.keep (Keep.refl h35 []) sf0 CS35.1)
    have f38 := (f18.keep K35)
    have f39 := (f19.keep K35 nin0)
    have f40 := (f20.keep K35 nin0)
    have f41 := (f21.keep K35 nin0)
    have f42 := (f22.keep K35 nin0)
    have f43 := (f23.keep K35)
    have f44 := (f24.keep K35 nin0)
    have f45 := (f25.keep K35 nin0)
    have f46 := (f26.keep K35 nin0)
    have f47 := (f27.keep K35)
    have f48 := (f28.keep K35)
    have f49 := (f29.keep K35 nin0)
    have f50 := (f30.keep K35 nin0)
    have f51 := (f31.keep K35 nin0)
    have f52 := (f32.keep K35)
    have f53 := (own_sta_keep f11 K35 ns0)
    have f54 := (own_sta_keep f15 K35 ns0)
    have f55 := (own_sta_keep (own_sta_keep f7 K8 ns0) K35 ns0)
    obtain ⟨cq56, kq56, q56a, q56b, q56c⟩ := isOf hZ e35 f38
    obtain ⟨_, _, ⟨T56, L56, k56, n56⟩, -, X56, hS56', hG56, ⟨Lc56, hQ56, l56, y56, z56, hCr56⟩, st56⟩ := X35.virtualBackS hx (y := (⟨"com/example/hoarfrost/hoarfrost/IdForm", "format", "(J)Ljava/lang/String;"⟩ : MethodName)) (z := (⟨"com/example/hoarfrost/hoarfrost/IdForm", "format", "(J)Ljava/lang/String;"⟩ : MethodName)) hown (mvT hZ (hw _ (own_m 29 rfl))) (mvT hZ (hw _ (own_m 30 rfl))) (notFace_of_selects (args := #[]) (mvT hZ (hw _ (own_m 32 rfl)))) (mvT hZ (hw _ (own_m 32 rfl))) (mvT hZ (hw _ (own_m 31 rfl))) (by decide) (backOfSH (s := si) (vm0 := T35.vm) (EL := own_EL) (W := 0) (rmF l Z a0 hw [] oI (m.toInt64) pI sI bpI bsI kpI ksI M cz fm fi h35 n0 Zs36 hEL f38 f39 f40 f41 f42 f43 f44 f45 f46 f47 f48 f49 f50 f51 f52 f53 hcz f54 hfm f55 hfi (by rw [c_i2l]; exact hM) (own_l0 (by rw [c_i2l]; omega))) hZ (hw _ (own_m 33 rfl)) (hw _ (own_m 2 rfl)) (by decide) (by decide) hEL CR37.1) q56a q56c (g := (mkF mi 119 #[.val (.long id0), .second, .val (.int a), .val (.int b), .val (.ref oI), .val (.long n), .second, .val (.ref s8_), .val (.int m), .unset, .unset] [(.long (m.toInt64)), (.ref oI)])) rfl (by rw [hml]; rfl) (Steps.refl _) (argsL := [(.long (m.toInt64))]) (rest := []) (lenOf pd_40 rfl) rfl (by show 2 * 0 + _ ≤ _; exact Nat.le_of_eq rfl) (hb hby at_119) (fun _ _ => ⟨rfl, e35, (by decide : 19 + 12 ≤ _), (by decide : 436 + 400 ≤ _)⟩)
    dsimp only [Pt.U, Pt.locs, Pt.cells, Pt.slots] at X56 l56 y56 z56 st56 hQ56 hCr56 hS56' hG56
    subst y56 z56
    have X56 := own_cs X56 (cells' := 31) (slots' := 836) rfl rfl
    obtain ⟨X56, hS56, hZ, hown⟩ := rebS hS35 (own_leT e35 (Nat.le_trans (own_leH e35) (Keep.refl h35 []).1)) X56 hS56' hG56 hZ hown
    obtain ⟨h56, e56⟩ : ∃ z, T56.heap = z := ⟨_, rfl⟩
    rw [e56] at hQ56
    obtain ⟨s56_, b56, kb56, kq, rfl, N56q, K56, SE56, SCo56, SVa56, SAr56, SEb56, hq1, hq19, hqz, hqn⟩ := hQ56
    have N56 := own_fr l56 (Fr.app N35 N56q)
    have Zs57 : n0 ≤ h56.size := Nat.le_trans Zs36 K56.1
    have KL57 : Keep h35 h56 [] := (Keep.refl h35 []).trans K56 all0
    rw [e56] at hCr56
    have CS56 : CHr Z own_EL si.vm h0 T56.vm h56 := CR37.trans hCr56
    refine Go.tr st56 ?_
    show Go _ _ _ (T56.setTop (mkF mi 122 #[.val (.long id0), .second, .val (.int a), .val (.int b), .val (.ref oI), .val (.long n), .second, .val (.ref s8_), .val (.int m), .unset, .unset] [(.ref s56_)])) _
    refine g_iload X56 hx hby at_122 rfl ?_
    have f59 := (own_sta_keep f53 K56 ns0)
    obtain ⟨_, _, ⟨T58, L58, k58, n58⟩, -, X58, ⟨Lc58, hQ58, l58, y58, z58⟩, st58⟩ := Jvm.LawKit.callS X56 hx (y := (⟨"com/example/hoarfrost/hoarfrost/IdFormDecimalPinLaw", "small", "(I)Ljava/lang/String;"⟩ : MethodName)) hown (mvT hZ (hw _ (own_m 247 rfl))) (mvT hZ (hw _ (own_m 248 rfl))) (mvT hZ (hw _ (own_m 211 rfl))) (mvT hZ (hw _ (own_m 249 rfl))) (by decide) (backOf (W := 1) (rmSm l Z a0 hw [] m M cz h56 n0 Zs57 hM hM3 f59 hcz) hZ (hw _ (own_m 249 rfl)) (hw _ (own_m 211 rfl)) (by decide) (by decide)) (g := (mkF mi 124 #[.val (.long id0), .second, .val (.int a), .val (.int b), .val (.ref oI), .val (.long n), .second, .val (.ref s8_), .val (.int m), .unset, .unset] [(.int m), (.ref s56_)])) rfl (by rw [hml]; rfl) (argsL := [(.int m)]) (rest := [(.ref s56_)]) (lenOf pd_23 rfl) rfl (by show 2 * 0 + _ ≤ _; exact Nat.le_of_eq rfl) (hb hby at_124) (fun _ _ => ⟨rfl, e56, (by decide : 31 + 3 ≤ _), (by decide : 836 + 10 ≤ _)⟩)
    dsimp only [Pt.U, Pt.locs, Pt.cells, Pt.slots] at X58 l58 y58 z58 st58 hQ58
    subst y58 z58
    have X58 := own_cs X58 (cells' := 34) (slots' := 846) rfl rfl
    obtain ⟨h58, e58⟩ : ∃ z, T58.heap = z := ⟨_, rfl⟩
    rw [e58] at hQ58
    obtain ⟨s58_, b58, kb58, kj, rfl, N58q, K58, z_s58_, SE58, SCo58, SVa58, SAr58, SEb58, hj1, hj3, hjz, hjn⟩ := hQ58
    have N58 := own_fr l58 (Fr.app N56 N58q)
    have Zs60 : n0 ≤ h58.size := Nat.le_trans Zs57 K58.1
    have KL60 : Keep h56 h58 [] := (Keep.refl h56 []).trans K58 all0
    have szl_s58_ : h56.size ≤ s58_ := Nat.le_trans (Keep.refl h56 []).1 z_s58_
    have hkj := own_kk hj1 hq1 hjz hjn hqz hqn
    rw [hkj] at SAr58 hj1 hj3
    refine Go.st st58 ?_
    have f62 := (SE56.keep K58)
    have f63 := (SCo56.keep K58 nin0)
    have f64 := (SVa56.keep K58 nin0)
    have f65 := (SAr56.keep K58 nin0)
    have f66 := (SEb56.keep K58)
    have f67 := (own_sta_keep f59 K58 ns0)
    have ne_s56__s58_ : s56_ ≠ s58_ := Nat.ne_of_lt (Nat.lt_of_lt_of_le SE56.lt z_s58_)
    obtain ⟨cq61, kq61, q61a, q61b, q61c⟩ := isOf hZ e58 f62
    obtain ⟨_, _, ⟨T61, L61, k61, n61⟩, -, X61, ⟨Lc61, hQ61, l61, y61, z61⟩, st61⟩ := X58.virtualBack hx (y := (⟨"java/lang/String", "equals", "(Ljava/lang/Object;)Z"⟩ : MethodName)) (z := (⟨"java/lang/String", "equals", "(Ljava/lang/Object;)Z"⟩ : MethodName)) hown (mvT hZ (hw _ (own_m 261 rfl))) (mvT hZ (hw _ (own_m 262 rfl))) (notFace_of_selects (args := #[]) (mvT hZ (hw _ (own_m 264 rfl)))) (mvT hZ (hw _ (own_m 264 rfl))) (mvT hZ (hw _ (own_m 263 rfl))) (by decide) (backOf (W := 0) (rmEq l Z a0 hw [] s56_ s58_ b56 kb56 (Int32.ofNat kq) (dl kq M) b58 kb58 cz h58 n0 Zs60 f62 f63 f64 f65 f66 SE58 SCo58 SVa58 SAr58 SEb58 f67 hcz (own_n3 hj1 hj3) ne_s56__s58_) hZ (hw _ (own_m 265 rfl)) (hw _ (own_m 7 rfl)) (by decide) (by decide)) q61a q61c (g := (mkF mi 127 #[.val (.long id0), .second, .val (.int a), .val (.int b), .val (.ref oI), .val (.long n), .second, .val (.ref s8_), .val (.int m), .unset, .unset] [(.ref s58_), (.ref s56_)])) rfl (by rw [hml]; rfl) (Steps.refl _) (argsL := [(.ref s58_)]) (rest := []) (lenOf pd_42 rfl) rfl (by show 2 * 0 + _ ≤ _; exact Nat.le_of_eq rfl) (hb hby at_127) (fun _ _ => ⟨rfl, e58, (by decide : 34 + 0 ≤ _), (by decide : 846 + 0 ≤ _)⟩)
    dsimp only [Pt.U, Pt.locs, Pt.cells, Pt.slots] at X61 l61 y61 z61 st61 hQ61
    subst y61 z61
    have X61 := own_cs X61 (cells' := 34) (slots' := 846) rfl rfl
    obtain ⟨rfl, N61q, e61⟩ := hQ61
    have N61 := own_fr l61 (Fr.app N58 N61q)
    refine Go.tr st61 ?_
    refine g_ifYes X61 hx hby at_130 ((if0 _ _).trans (feq (by decide)).2) (pc0 := 130) (pc' := 135) rfl (by decide) (by decide) ?_
    refine g_iloadN X61 hx hby at_135 rfl ?_
    refine Go.st (X61.ldcInt hx hown (mvT hZ (hw _ (own_m 246 rfl))) (g := (mkF mi 136 #[.val (.long id0), .second, .val (.int a), .val (.int b), .val (.ref oI), .val (.long n), .second, .val (.ref s8_), .val (.int m), .unset, .unset] [(.int b)])) rfl (hb hby at_136)) ?_
    refine g_iand X61 hx hby at_138 rfl ?_
    refine g_sipush X61 hx hby at_139 (v := 1000) rfl ?_
    refine Go.s (iremM X61 hx rfl (hb hby at_142) rfl (by decide)) ?_
    refine g_istore X61 hx hby at_143 (l' := #[.val (.long id0), .second, .val (.int a), .val (.int b), .val (.ref oI), .val (.long n), .second, .val (.ref s8_), .val (.int m), .val (.int ((b &&& (2147483647 : Int32)) % (1000 : Int32))), .unset]) rfl ?_
    show Go _ _ _ (T61.setTop (mkF mi 145 #[.val (.long id0), .second, .val (.int a), .val (.int b), .val (.ref oI), .val (.long n), .second, .val (.ref s8_), .val (.int m), .val (.int ((b &&& (2147483647 : Int32)) % (1000 : Int32))), .unset] [])) _
    obtain ⟨k, hd_k⟩ : ∃ z, z = ((b &&& (2147483647 : Int32)) % (1000 : Int32)) := ⟨_, rfl⟩
    rw [← hd_k]
    have hkb := own_im b
    rw [← hd_k] at hkb
    obtain ⟨K, hK⟩ : ∃ N : Nat, k.toInt = (N : Int) := ⟨k.toInt.toNat, by omega⟩
    have hK3 : K < 1000 := by omega
    clear hd_k
    show Go _ _ _ (T61.setTop (mkF mi 145 #[.val (.long id0), .second, .val (.int a), .val (.int b), .val (.ref oI), .val (.long n), .second, .val (.ref s8_), .val (.int m), .val (.int k), .unset] [])) _
    refine g_iconst X61 hx hby at_145 (v := 3) rfl ?_
    obtain ⟨T68, h68, k68, X68, e68, E68, A68, EX68, st68⟩ := newPE X61 hx hZ (hw _ (own_m 34 rfl)) e61 (g := (mkF mi 146 #[.val (.long id0), .second, .val (.int a), .val (.int b), .val (.ref oI), .val (.long n), .second, .val (.ref s8_), .val (.int m), .val (.int k), .unset] [(.int 3)])) rfl (hb hby at_146) rfl (by decide) (cap := 3) (by decide) (by decide) (by decide) (by decide) (ad := "[C") (by decide)
    obtain ⟨ob68, g68⟩ : ∃ z, z = h58.size := ⟨_, rfl⟩
    rw [← g68] at A68 EX68 st68
    have Zs69 : n0 ≤ h68.size := Nat.le_trans Zs60 E68.1
    have KL69 : Keep h56 h68 [] := KL60.ext E68
    have g_ob68 : n0 ≤ ob68 := Nat.le_trans Zs60 (Nat.le_of_eq g68.symm)
    have szl_ob68 : h56.size ≤ ob68 := Nat.le_trans KL60.1 (Nat.le_of_eq g68.symm)
    have V68 : Arv Z h68 ob68 k68 .char (3 : Int32) [(.int (0 : Int32)), (.int (0 : Int32)), (.int (0 : Int32))] (.int (0 : Int32)) := (Arv.new A68 (by decide)).pad (pad_rep [] (.int (0 : Int32)) 3)
    refine Go.st st68 ?_
    refine g_dup X68 hx hby at_148 rfl ?_
    refine g_iconst X68 hx hby at_149 (v := 0) rfl ?_
    refine g_iload X68 hx hby at_150 rfl ?_
    refine g_bipush X68 hx hby at_152 (v := 100) rfl ?_
    refine Go.s (XS.idiv X68.here hx rfl (hb hby at_154) rfl (by decide)) ?_
    obtain ⟨_, _, ⟨T70, L70, k70, n70⟩, -, X70, ⟨Lc70, hQ70, l70, y70, z70⟩, st70⟩ := Jvm.LawKit.callS X68 hx (y := (⟨"com/example/hoarfrost/hoarfrost/IdFormDecimalPinLaw", "digit", "(I)C"⟩ : MethodName)) hown (mvT hZ (hw _ (own_m 209 rfl))) (mvT hZ (hw _ (own_m 210 rfl))) (mvT hZ (hw _ (own_m 211 rfl))) (mvT hZ (hw _ (own_m 212 rfl))) (by decide) (backOf (W := 3) (rmDg l Z a0 hw [] (k / (100 : Int32)) h68 n0 Zs69) hZ (hw _ (own_m 212 rfl)) (hw _ (own_m 211 rfl)) (by decide) (by decide)) (g := (mkF mi 155 #[.val (.long id0), .second, .val (.int a), .val (.int b), .val (.ref oI), .val (.long n), .second, .val (.ref s8_), .val (.int m), .val (.int k), .unset] [(.int (k / (100 : Int32))), (.int 0), (.ref ob68), (.ref ob68)])) rfl (by rw [hml]; rfl) (argsL := [(.int (k / (100 : Int32)))]) (rest := [(.int 0), (.ref ob68), (.ref ob68)]) (lenOf pd_20 rfl) rfl (by show 2 * 0 + _ ≤ _; exact Nat.le_of_eq rfl) (hb hby at_155) (fun _ _ => ⟨rfl, e68, (by decide : 35 + 0 ≤ _), (by decide : 849 + 0 ≤ _)⟩)
    dsimp only [Pt.U, Pt.locs, Pt.cells, Pt.slots] at X70 l70 y70 z70 st70 hQ70
    subst y70 z70
    have X70 := own_cs X70 (cells' := 35) (slots' := 849) rfl rfl
    obtain ⟨rfl, N70q, e70⟩ := hQ70
    have N70 := own_fr l70 (Fr.app N61 N70q)
    refine Go.st st70 ?_
    show Go _ _ _ (T70.setTop (mkF mi 158 #[.val (.long id0), .second, .val (.int a), .val (.int b), .val (.ref oI), .val (.long n), .second, .val (.ref s8_), .val (.int m), .val (.int k), .unset] [(.int (fDg (k / (100 : Int32)))), (.int 0), (.ref ob68), (.ref ob68)])) _
    rw [dg_100 hK hK3]
    show Go _ _ _ (T70.setTop (mkF mi 158 #[.val (.long id0), .second, .val (.int a), .val (.int b), .val (.ref oI), .val (.long n), .second, .val (.ref s8_), .val (.int m), .val (.int k), .unset] [(.int (dch (K / 10 ^ 2))), (.int 0), (.ref ob68), (.ref ob68)])) _
    have ov71 := V68
    obtain ⟨cl71, Ar71, q71, S71, M71, H71, G71⟩ := ov71
    have hin71 : ¬ ((0 : Int32) < 0 ∨ cl71.slots.size ≤ ((0 : Int32)).toNatClampNeg) := inb_of S71 ⟨by decide, by decide⟩
    obtain ⟨T72, h72, X72, e72, W72, st72⟩ := stC X70 hx hZ e70 Ar71 (j := (0 : Int32)) hin71 (g := (mkF mi 158 #[.val (.long id0), .second, .val (.int a), .val (.int b), .val (.ref oI), .val (.long n), .second, .val (.ref s8_), .val (.int m), .val (.int k), .unset] [(.int (dch (K / 10 ^ 2))), (.int 0), (.ref ob68), (.ref ob68)])) rfl rfl (hb hby at_158)
    have Zs73 : n0 ≤ h72.size := Nat.le_trans Zs69 (Keep.of_wr W72).1
    have KL73 : Keep h56 h72 [] := KL69.wr W72 (Or.inr szl_ob68)
    have N73 := Fr.snoc X72 N70 g_ob68
    have V72 : Arv Z h72 ob68 k68 .char (3 : Int32) [(.int ((dch (K / 10 ^ 2)).toUInt32.toUInt16.toUInt32.toInt32)), (.int 0), (.int 0)] (.int (0 : Int32)) := Arv.set Ar71 q71 S71 M71 H71 G71 (fits_nar_char _) W72 0 rfl (Nat.le_of_ble_eq_true rfl)
    rw [own_ncd] at V72
    refine Go.st st72 ?_
    refine g_dup X72 hx hby at_159 rfl ?_
    refine g_iconst X72 hx hby at_160 (v := 1) rfl ?_
    refine g_iload X72 hx hby at_161 rfl ?_
    refine g_bipush X72 hx hby at_163 (v := 10) rfl ?_
    refine Go.s (XS.idiv X72.here hx rfl (hb hby at_165) rfl (by decide)) ?_
    refine g_bipush X72 hx hby at_166 (v := 10) rfl ?_
    refine Go.s (iremM X72 hx rfl (hb hby at_168) rfl (by decide)) ?_
    obtain ⟨_, _, ⟨T74, L74, k74, n74⟩, -, X74, ⟨Lc74, hQ74, l74, y74, z74⟩, st74⟩ := Jvm.LawKit.callS X72 hx (y := (⟨"com/example/hoarfrost/hoarfrost/IdFormDecimalPinLaw", "digit", "(I)C"⟩ : MethodName)) hown (mvT hZ (hw _ (own_m 209 rfl))) (mvT hZ (hw _ (own_m 210 rfl))) (mvT hZ (hw _ (own_m 211 rfl))) (mvT hZ (hw _ (own_m 212 rfl))) (by decide) (backOf (W := 3) (rmDg l Z a0 hw [] ((k / (10 : Int32)) % (10 : Int32)) h72 n0 Zs73) hZ (hw _ (own_m 212 rfl)) (hw _ (own_m 211 rfl)) (by decide) (by decide)) (g := (mkF mi 169 #[.val (.long id0), .second, .val (.int a), .val (.int b), .val (.ref oI), .val (.long n), .second, .val (.ref s8_), .val (.int m), .val (.int k), .unset] [(.int ((k / (10 : Int32)) % (10 : Int32))), (.int 1), (.ref ob68), (.ref ob68)])) rfl (by rw [hml]; rfl) (argsL := [(.int ((k / (10 : Int32)) % (10 : Int32)))]) (rest := [(.int 1), (.ref ob68), (.ref ob68)]) (lenOf pd_20 rfl) rfl (by show 2 * 0 + _ ≤ _; exact Nat.le_of_eq rfl) (hb hby at_169) (fun _ _ => ⟨rfl, e72, (by decide : 35 + 0 ≤ _), (by decide : 849 + 0 ≤ _)⟩)
    dsimp only [Pt.U, Pt.locs, Pt.cells, Pt.slots] at X74 l74 y74 z74 st74 hQ74
    subst y74 z74
    have X74 := own_cs X74 (cells' := 35) (slots' := 849) rfl rfl
    obtain ⟨rfl, N74q, e74⟩ := hQ74
    have N74 := own_fr l74 (Fr.app N73 N74q)
    refine Go.st st74 ?_
    show Go _ _ _ (T74.setTop (mkF mi 172 #[.val (.long id0), .second, .val (.int a), .val (.int b), .val (.ref oI), .val (.long n), .second, .val (.ref s8_), .val (.int m), .val (.int k), .unset] [(.int (fDg ((k / (10 : Int32)) % (10 : Int32)))), (.int 1), (.ref ob68), (.ref ob68)])) _
    rw [dg_10r hK]
    show Go _ _ _ (T74.setTop (mkF mi 172 #[.val (.long id0), .second, .val (.int a), .val (.int b), .val (.ref oI), .val (.long n), .second, .val (.ref s8_), .val (.int m), .val (.int k), .unset] [(.int (dch (K / 10 ^ 1))), (.int 1), (.ref ob68), (.ref ob68)])) _
    have ov75 := V72
    obtain ⟨cl75, Ar75, q75, S75, M75, H75, G75⟩ := ov75
    have hin75 : ¬ ((1 : Int32) < 0 ∨ cl75.slots.size ≤ ((1 : Int32)).toNatClampNeg) := inb_of S75 ⟨by decide, by decide⟩
    obtain ⟨T76, h76, X76, e76, W76, st76⟩ := stC X74 hx hZ e74 Ar75 (j := (1 : Int32)) hin75 (g := (mkF mi 172 #[.val (.long id0), .second, .val (.int a), .val (.int b), .val (.ref oI), .val (.long n), .second, .val (.ref s8_), .val (.int m), .val (.int k), .unset] [(.int (dch (K / 10 ^ 1))), (.int 1), (.ref ob68), (.ref ob68)])) rfl rfl (hb hby at_172)
    have Zs77 : n0 ≤ h76.size := Nat.le_trans Zs73 (Keep.of_wr W76).1
    have KL77 : Keep h56 h76 [] := KL73.wr W76 (Or.inr szl_ob68)
    have N77 := Fr.snoc X76 N74 g_ob68
    have V76 : Arv Z h76 ob68 k68 .char (3 : Int32) [(.int (dch (K / 10 ^ 2))), (.int ((dch (K / 10 ^ 1)).toUInt32.toUInt16.toUInt32.toInt32)), (.int 0)] (.int (0 : Int32)) := Arv.set Ar75 q75 S75 M75 H75 G75 (fits_nar_char _) W76 1 rfl (Nat.le_of_ble_eq_true rfl)
    rw [own_ncd] at V76
    refine Go.st st76 ?_
    refine g_dup X76 hx hby at_173 rfl ?_
    refine g_iconst X76 hx hby at_174 (v := 2) rfl ?_
    refine g_iload X76 hx hby at_175 rfl ?_
    refine g_bipush X76 hx hby at_177 (v := 10) rfl ?_
    refine Go.s (iremM X76 hx rfl (hb hby at_179) rfl (by decide)) ?_
    obtain ⟨_, _, ⟨T78, L78, k78, n78⟩, -, X78, ⟨Lc78, hQ78, l78, y78, z78⟩, st78⟩ := Jvm.LawKit.callS X76 hx (y := (⟨"com/example/hoarfrost/hoarfrost/IdFormDecimalPinLaw", "digit", "(I)C"⟩ : MethodName)) hown (mvT hZ (hw _ (own_m 209 rfl))) (mvT hZ (hw _ (own_m 210 rfl))) (mvT hZ (hw _ (own_m 211 rfl))) (mvT hZ (hw _ (own_m 212 rfl))) (by decide) (backOf (W := 3) (rmDg l Z a0 hw [] (k % (10 : Int32)) h76 n0 Zs77) hZ (hw _ (own_m 212 rfl)) (hw _ (own_m 211 rfl)) (by decide) (by decide)) (g := (mkF mi 180 #[.val (.long id0), .second, .val (.int a), .val (.int b), .val (.ref oI), .val (.long n), .second, .val (.ref s8_), .val (.int m), .val (.int k), .unset] [(.int (k % (10 : Int32))), (.int 2), (.ref ob68), (.ref ob68)])) rfl (by rw [hml]; rfl) (argsL := [(.int (k % (10 : Int32)))]) (rest := [(.int 2), (.ref ob68), (.ref ob68)]) (lenOf pd_20 rfl) rfl (by show 2 * 0 + _ ≤ _; exact Nat.le_of_eq rfl) (hb hby at_180) (fun _ _ => ⟨rfl, e76, (by decide : 35 + 0 ≤ _), (by decide : 849 + 0 ≤ _)⟩)
    dsimp only [Pt.U, Pt.locs, Pt.cells, Pt.slots] at X78 l78 y78 z78 st78 hQ78
    subst y78 z78
    have X78 := own_cs X78 (cells' := 35) (slots' := 849) rfl rfl
    obtain ⟨rfl, N78q, e78⟩ := hQ78
    have N78 := own_fr l78 (Fr.app N77 N78q)
    refine Go.st st78 ?_
    show Go _ _ _ (T78.setTop (mkF mi 183 #[.val (.long id0), .second, .val (.int a), .val (.int b), .val (.ref oI), .val (.long n), .second, .val (.ref s8_), .val (.int m), .val (.int k), .unset] [(.int (fDg (k % (10 : Int32)))), (.int 2), (.ref ob68), (.ref ob68)])) _
    rw [dg_r hK]
    show Go _ _ _ (T78.setTop (mkF mi 183 #[.val (.long id0), .second, .val (.int a), .val (.int b), .val (.ref oI), .val (.long n), .second, .val (.ref s8_), .val (.int m), .val (.int k), .unset] [(.int (dch (K / 10 ^ 0))), (.int 2), (.ref ob68), (.ref ob68)])) _
    have ov79 := V76
    obtain ⟨cl79, Ar79, q79, S79, M79, H79, G79⟩ := ov79
    have hin79 : ¬ ((2 : Int32) < 0 ∨ cl79.slots.size ≤ ((2 : Int32)).toNatClampNeg) := inb_of S79 ⟨by decide, by decide⟩
    obtain ⟨T80, h80, X80, e80, W80, st80⟩ := stC X78 hx hZ e78 Ar79 (j := (2 : Int32)) hin79 (g := (mkF mi 183 #[.val (.long id0), .second, .val (.int a), .val (.int b), .val (.ref oI), .val (.long n), .second, .val (.ref s8_), .val (.int m), .val (.int k), .unset] [(.int (dch (K / 10 ^ 0))), (.int 2), (.ref ob68), (.ref ob68)])) rfl rfl (hb hby at_183)
    have Zs81 : n0 ≤ h80.size := Nat.le_trans Zs77 (Keep.of_wr W80).1
    have KL81 : Keep h56 h80 [] := KL77.wr W80 (Or.inr szl_ob68)
    have N81 := Fr.snoc X80 N78 g_ob68
    have V80 : Arv Z h80 ob68 k68 .char (3 : Int32) [(.int (dch (K / 10 ^ 2))), (.int (dch (K / 10 ^ 1))), (.int ((dch (K / 10 ^ 0)).toUInt32.toUInt16.toUInt32.toInt32))] (.int (0 : Int32)) := Arv.set Ar79 q79 S79 M79 H79 G79 (fits_nar_char _) W80 2 rfl (Nat.le_of_ble_eq_true rfl)
    rw [own_ncd] at V80
    refine Go.st st80 ?_
    refine g_astore X80 hx hby at_184 rfl (l' := #[.val (.long id0), .second, .val (.int a), .val (.int b), .val (.ref oI), .val (.long n), .second, .val (.ref s8_), .val (.int m), .val (.int k), .val (.ref ob68)]) rfl ?_
    refine g_aload X80 hx hby at_186 rfl rfl ?_
    obtain ⟨T82, h82, X82, e82, E82, A82, D82, -, st82⟩ := newO X80 hx hZ hown (hw _ (own_m 269 rfl)) (hw _ (own_m 8 rfl)) (hw _ (own_m 7 rfl)) e80 (g := (mkF mi 188 #[.val (.long id0), .second, .val (.int a), .val (.int b), .val (.ref oI), .val (.long n), .second, .val (.ref s8_), .val (.int m), .val (.int k), .val (.ref ob68)] [(.ref oI)])) rfl (hb hby at_188) (by decide) (by decide)
    obtain ⟨ob82, g82⟩ : ∃ z, z = h80.size := ⟨_, rfl⟩
    rw [← g82] at A82 D82 st82
    have Zs83 : n0 ≤ h82.size := Nat.le_trans Zs81 E82.1
    have KL83 : Keep h56 h82 [] := KL81.ext E82
    have g_ob82 : n0 ≤ ob82 := Nat.le_trans Zs81 (Nat.le_of_eq g82.symm)
    have szl_ob82 : h56.size ≤ ob82 := Nat.le_trans KL81.1 (Nat.le_of_eq g82.symm)
    have F82_10 : Fld Z h82 ob82 "java/lang/String" "value" "[B" .null := D82 (Or.inr (hw _ (own_m 10 rfl))) (ty := (.array .byte)) (by decide)
    have F82_11 : Fld Z h82 ob82 "java/lang/String" "coder" "B" (.int 0) := D82 (Or.inr (hw _ (own_m 11 rfl))) (ty := .byte) (by decide)
    refine Go.st st82 ?_
    refine g_dup X82 hx hby at_191 rfl ?_
    refine g_aload X82 hx hby at_192 rfl rfl ?_
    have f85 := (V80.ext E82)
    have ne_ob68_ob82 : ob68 ≠ ob82 := Nat.ne_of_lt (Nat.lt_of_lt_of_le (((EX68.wr W72).wr W76).wr W80).lt (Nat.le_of_eq g82.symm))
    have f86 := (((((f67.ext E68).wr W72).wr W76).wr W80).ext E82)
    obtain ⟨_, _, ⟨T84, L84, k84, n84⟩, -, X84, ⟨Lc84, hQ84, l84, y84, z84⟩, st84⟩ := X82.specialBack hx (y := (⟨"java/lang/String", "<init>", "([C)V"⟩ : MethodName)) rfl hown (mvT hZ (hw _ (own_m 270 rfl))) (mvT hZ (hw _ (own_m 271 rfl))) (mvT hZ (hw _ (own_m 272 rfl))) (by decide) (backOf (W := 2) (rmSC3 l Z a0 hw [] ob82 ob68 k68 (dch (K / 10 ^ 2)) (dch (K / 10 ^ 1)) (dch (K / 10 ^ 0)) cz h82 n0 Zs83 A82 F82_11 F82_10 g_ob82 f85 ne_ob68_ob82 f86 hcz (dch_dig _) (dch_dig _) (dch_dig _)) hZ (hw _ (own_m 272 rfl)) (hw _ (own_m 7 rfl)) (by decide) (by decide)) (g := (mkF mi 194 #[.val (.long id0), .second, .val (.int a), .val (.int b), .val (.ref oI), .val (.long n), .second, .val (.ref s8_), .val (.int m), .val (.int k), .val (.ref ob68)] [(.ref ob68), (.ref ob82), (.ref ob82), (.ref oI)])) rfl (by rw [hml]; rfl) (Steps.refl _) (a := ob82) (argsL := [(.ref ob68)]) (rest := [(.ref ob82), (.ref oI)]) (lenOf pd_37 rfl) rfl (by show 2 * 0 + _ ≤ _; exact Nat.le_of_eq rfl) (hb hby at_194) (fun _ _ => ⟨rfl, e82, (by decide : 36 + 1 ≤ _), (by decide : 853 + 3 ≤ _)⟩)
    dsimp only [Pt.U, Pt.locs, Pt.cells, Pt.slots] at X84 l84 y84 z84 st84 hQ84
    subst y84 z84
    have X84 := own_cs X84 (cells' := 37) (slots' := 856) rfl rfl
    obtain ⟨h84, e84⟩ : ∃ z, T84.heap = z := ⟨_, rfl⟩
    rw [e84] at hQ84
    obtain ⟨rfl, N84q, K84, sb84, sk84, SE84, SCo84, SVa84, SAr84, SEb84⟩ := hQ84
    have N84 := own_fr l84 (Fr.app N81 N84q)
    have Zs87 : n0 ≤ h84.size := Nat.le_trans Zs83 K84.1
    have KL87 : Keep h56 h84 [] := KL83.trans K84 (allS (P := fun x => x ∈ [] ∨ h56.size ≤ x) (Or.inr szl_ob82) all0)
    refine Go.tr st84 ?_
    show Go _ _ _ (T84.setTop (mkF mi 197 #[.val (.long id0), .second, .val (.int a), .val (.int b), .val (.ref oI), .val (.long n), .second, .val (.ref s8_), .val (.int m), .val (.int k), .val (.ref ob68)] [(.ref ob82), (.ref oI)])) _
    have hK3z : K / 10 ^ 3 = 0 := by show K / 1000 = 0; omega
    have CR88 : CHr Z own_EL si.vm h0 T56.vm h84 := CS56.trans (CHr.keep KL87 sf0 CS56.1)
    have f89 := ((((((((f38.keep K56).keep K58).ext E68).wr W72).wr W76).wr W80).ext E82).keep K84)
    have ne_oI_ob68 : oI ≠ ob68 := Nat.ne_of_lt (Nat.lt_of_lt_of_le ((f38.keep K56).keep K58).lt (Nat.le_of_eq g68.symm))
    have ne_oI_ob82 : oI ≠ ob82 := Nat.ne_of_lt (Nat.lt_of_lt_of_le ((((((f38.keep K56).keep K58).ext E68).wr W72).wr W76).wr W80).lt (Nat.le_of_eq g82.symm))
    have f90 := ((((((((f39.keep K56 nin0).keep K58 nin0).ext E68).other W72 (Or.inl ne_oI_ob68)).other W76 (Or.inl ne_oI_ob68)).other W80 (Or.inl ne_oI_ob68)).ext E82).keep K84 (ninS ne_oI_ob82 nin0))
    have f91 := ((((((((f40.keep K56 nin0).keep K58 nin0).ext E68).other W72 (Or.inl ne_oI_ob68)).other W76 (Or.inl ne_oI_ob68)).other W80 (Or.inl ne_oI_ob68)).ext E82).keep K84 (ninS ne_oI_ob82 nin0))
    have f92 := ((((((((f41.keep K56 nin0).keep K58 nin0).ext E68).other W72 (Or.inl ne_oI_ob68)).other W76 (Or.inl ne_oI_ob68)).other W80 (Or.inl ne_oI_ob68)).ext E82).keep K84 (ninS ne_oI_ob82 nin0))
    have f93 := ((((((((f42.keep K56 nin0).keep K58 nin0).ext E68).other W72 (Or.inl ne_oI_ob68)).other W76 (Or.inl ne_oI_ob68)).other W80 (Or.inl ne_oI_ob68)).ext E82).keep K84 (ninS ne_oI_ob82 nin0))
    have f94 := ((((((((f43.keep K56).keep K58).ext E68).wr W72).wr W76).wr W80).ext E82).keep K84)
    have ne_pI_ob68 : pI ≠ ob68 := Nat.ne_of_lt (Nat.lt_of_lt_of_le ((f43.keep K56).keep K58).lt (Nat.le_of_eq g68.symm))
    have ne_pI_ob82 : pI ≠ ob82 := Nat.ne_of_lt (Nat.lt_of_lt_of_le ((((((f43.keep K56).keep K58).ext E68).wr W72).wr W76).wr W80).lt (Nat.le_of_eq g82.symm))
    have f95 := ((((((((f44.keep K56 nin0).keep K58 nin0).ext E68).other W72 (Or.inl ne_pI_ob68)).other W76 (Or.inl ne_pI_ob68)).other W80 (Or.inl ne_pI_ob68)).ext E82).keep K84 (ninS ne_pI_ob82 nin0))
    have f96 := ((((((((f45.keep K56 nin0).keep K58 nin0).ext E68).other W72 (Or.inl ne_pI_ob68)).other W76 (Or.inl ne_pI_ob68)).other W80 (Or.inl ne_pI_ob68)).ext E82).keep K84 (ninS ne_pI_ob82 nin0))
    have ne_bpI_ob68 : bpI ≠ ob68 := Nat.ne_of_lt (Nat.lt_of_lt_of_le ((f47.keep K56).keep K58).lt (Nat.le_of_eq g68.symm))
    have ne_bpI_ob82 : bpI ≠ ob82 := Nat.ne_of_lt (Nat.lt_of_lt_of_le ((((((f47.keep K56).keep K58).ext E68).wr W72).wr W76).wr W80).lt (Nat.le_of_eq g82.symm))
    have f97 := ((((((((f46.keep K56 nin0).keep K58 nin0).ext E68).other W72 ne_bpI_ob68).other W76 ne_bpI_ob68).other W80 ne_bpI_ob68).ext E82).keep K84 (ninS ne_bpI_ob82 nin0))
    have f98 := ((((((((f47.keep K56).keep K58).ext E68).wr W72).wr W76).wr W80).ext E82).keep K84)
    have f99 := ((((((((f48.keep K56).keep K58).ext E68).wr W72).wr W76).wr W80).ext E82).keep K84)
    have ne_sI_ob68 : sI ≠ ob68 := Nat.ne_of_lt (Nat.lt_of_lt_of_le ((f48.keep K56).keep K58).lt (Nat.le_of_eq g68.symm))
    have ne_sI_ob82 : sI ≠ ob82 := Nat.ne_of_lt (Nat.lt_of_lt_of_le ((((((f48.keep K56).keep K58).ext E68).wr W72).wr W76).wr W80).lt (Nat.le_of_eq g82.symm))
    have f100 := ((((((((f49.keep K56 nin0).keep K58 nin0).ext E68).other W72 (Or.inl ne_sI_ob68)).other W76 (Or.inl ne_sI_ob68)).other W80 (Or.inl ne_sI_ob68)).ext E82).keep K84 (ninS ne_sI_ob82 nin0))
    have f101 := ((((((((f50.keep K56 nin0).keep K58 nin0).ext E68).other W72 (Or.inl ne_sI_ob68)).other W76 (Or.inl ne_sI_ob68)).other W80 (Or.inl ne_sI_ob68)).ext E82).keep K84 (ninS ne_sI_ob82 nin0))
    have ne_bsI_ob68 : bsI ≠ ob68 := Nat.ne_of_lt (Nat.lt_of_lt_of_le ((f52.keep K56).keep K58).lt (Nat.le_of_eq g68.symm))
    have ne_bsI_ob82 : bsI ≠ ob82 := Nat.ne_of_lt (Nat.lt_of_lt_of_le ((((((f52.keep K56).keep K58).ext E68).wr W72).wr W76).wr W80).lt (Nat.le_of_eq g82.symm))
    have f102 := ((((((((f51.keep K56 nin0).keep K58 nin0).ext E68).other W72 ne_bsI_ob68).other W76 ne_bsI_ob68).other W80 ne_bsI_ob68).ext E82).keep K84 (ninS ne_bsI_ob82 nin0))
    have f103 := ((((((((f52.keep K56).keep K58).ext E68).wr W72).wr W76).wr W80).ext E82).keep K84)
    have f104 := (own_sta_keep f86 K84 (nsS A82.nostat ns0))
    have f105 := (own_sta_keep ((((((own_sta_keep (own_sta_keep f54 K56 ns0) K58 ns0).ext E68).wr W72).wr W76).wr W80).ext E82) K84 (nsS A82.nostat ns0))
    have f106 := (own_sta_keep ((((((own_sta_keep (own_sta_keep (own_sta_keep f33 K35 ns0) K56 ns0) K58 ns0).ext E68).wr W72).wr W76).wr W80).ext E82) K84 (nsS A82.nostat ns0))
    have ne_va_ob68 : va ≠ ob68 := Nat.ne_of_lt (Nat.lt_of_lt_of_le (((f34.keep K35 nin0).keep K56 nin0).keep K58 nin0).lt (Nat.le_of_eq g68.symm))
    have ne_va_ob82 : va ≠ ob82 := Nat.ne_of_lt (Nat.lt_of_lt_of_le (((((((f34.keep K35 nin0).keep K56 nin0).keep K58 nin0).ext E68).other W72 ne_va_ob68).other W76 ne_va_ob68).other W80 ne_va_ob68).lt (Nat.le_of_eq g82.symm))
    have f107 := (((((((((f34.keep K35 nin0).keep K56 nin0).keep K58 nin0).ext E68).other W72 ne_va_ob68).other W76 ne_va_ob68).other W80 ne_va_ob68).ext E82).keep K84 (ninS ne_va_ob82 nin0))
    obtain ⟨cq108, kq108, q108a, q108b, q108c⟩ := isOf hZ e84 f89
    obtain ⟨_, _, ⟨T108, L108, k108, n108⟩, -, X108, hS108', hG108, ⟨Lc108, hQ108, l108, y108, z108, hCr108⟩, st108⟩ := X84.virtualBackS hx (y := (⟨"com/example/hoarfrost/hoarfrost/IdForm", "parse", "(Ljava/lang/String;)J"⟩ : MethodName)) (z := (⟨"com/example/hoarfrost/hoarfrost/IdForm", "parse", "(Ljava/lang/String;)J"⟩ : MethodName)) hown (mvT hZ (hw _ (own_m 213 rfl))) (mvT hZ (hw _ (own_m 214 rfl))) (notFace_of_selects (args := #[]) (mvT hZ (hw _ (own_m 216 rfl)))) (mvT hZ (hw _ (own_m 216 rfl))) (mvT hZ (hw _ (own_m 215 rfl))) (by decide) (backOfSH (s := si) (vm0 := T56.vm) (EL := own_EL) (W := 0) (rmP l Z a0 hw [] oI ob82 pI sI bpI bsI kpI ksI sb84 sk84 (Int32.ofNat 3) (dl 3 K) cz fm va kv vals h84 n0 Zs87 hEL f89 f90 f91 f92 f93 f94 f95 f96 f97 f98 f99 f100 f101 f102 f103 SE84 SCo84 SVa84 SAr84 SEb84 f104 hcz f105 hfm f106 f107 hVal (by rw [own_ofN (by omega), dl_len]) (by rw [dl_len]; omega) (by rw [dl_len]; omega) own_hD (own_hmax (by omega))) hZ (hw _ (own_m 217 rfl)) (hw _ (own_m 2 rfl)) (by decide) (by decide) hEL CR88.1) q108a q108c (g := (mkF mi 197 #[.val (.long id0), .second, .val (.int a), .val (.int b), .val (.ref oI), .val (.long n), .second, .val (.ref s8_), .val (.int m), .val (.int k), .val (.ref ob68)] [(.ref ob82), (.ref oI)])) rfl (by rw [hml]; rfl) (Steps.refl _) (argsL := [(.ref ob82)]) (rest := []) (lenOf pd_41 rfl) rfl (by show 2 * 0 + _ ≤ _; exact Nat.le_of_eq rfl) (hb hby at_197) (fun _ _ => ⟨rfl, e84, (by decide : 37 + 2 ≤ _), (by decide : 856 + 24 ≤ _)⟩)
    dsimp only [Pt.U, Pt.locs, Pt.cells, Pt.slots] at X108 l108 y108 z108 st108 hQ108 hCr108 hS108' hG108
    subst y108 z108
    have X108 := own_cs X108 (cells' := 39) (slots' := 880) rfl rfl
    obtain ⟨X108, hS108, hZ, hown⟩ := rebS hS56 (own_leT e84 (Nat.le_trans (own_leH e56) KL87.1)) X108 hS108' hG108 hZ hown
    obtain ⟨h108, e108⟩ : ∃ z, T108.heap = z := ⟨_, rfl⟩
    rw [e108] at hQ108
    obtain ⟨z108_, rfl, N108q, K108, hzB⟩ := hQ108
    have N108 := own_fr l108 (Fr.app N84 N108q)
    have Zs109 : n0 ≤ h108.size := Nat.le_trans Zs87 K108.1
    have KL109 : Keep h56 h108 [] := KL87.trans K108 all0
    rw [e108] at hCr108
    have CS108 : CHr Z own_EL si.vm h0 T108.vm h108 := CR88.trans hCr108
    refine Go.tr st108 ?_
    show Go _ _ _ (T108.setTop (mkF mi 200 #[.val (.long id0), .second, .val (.int a), .val (.int b), .val (.ref oI), .val (.long n), .second, .val (.ref s8_), .val (.int m), .val (.int k), .val (.ref ob68)] [(.long z108_)])) _
    refine g_iload X108 hx hby at_200 rfl ?_
    refine Go.s (XS.i2l X108.here hx rfl (hb hby at_202) rfl) ?_
    refine Go.s (XS.lcmp X108.here hx rfl (hb hby at_203) rfl) ?_
    refine g_ifNo X108 hx hby at_204 ((if0 _ _).trans (teq (own_eq (own_pz (n := k.toInt64) hzB (by rw [c_i2l]; exact hK) hK3z))).2) ?_
    refine g_iconst X108 hx hby at_207 (v := 1) rfl ?_
    refine g_goto X108 hx hby at_208 (pc0 := 208) (pc' := 212) rfl (by decide) (by decide) ?_
    show Go _ _ _ (T108.setTop (mkF mi 212 #[.val (.long id0), .second, .val (.int a), .val (.int b), .val (.ref oI), .val (.long n), .second, .val (.ref s8_), .val (.int m), .val (.int k), .val (.ref ob68)] [(.int 1)])) _
    obtain ⟨fs, hr, hrun, hended, -, hW, hpr, hsame⟩ := Stand.leaveW (v := some (.int 1)) X108 hS108 (own_leT e108 (Nat.le_trans (own_leH e108) (Keep.refl h108 []).1)) (fun h => by rw [Bd.returns] at h; cases h) (BodyLoose.notSynchronized Bd)
    refine ⟨_, _, ?_, hP _ _ ⟨hrun, hended, _, _, rfl, ?_, ⟨_, rfl⟩, hW, hpr, hsame.mono (by decide) (by decide)⟩⟩
    · exact retN X108 hx (t := .boolean) Bd.returns (by simp) (hb hby at_212) hr
    · show (some (.int 1) : Option Value) = some (.int 1) ∧ Fr n0 _
      exact ⟨rfl, N108⟩
  show Go _ _ _ (T16.setTop (mkF mi 69 #[.val (.long id0), .second, .val (.int a), .val (.int b), .val (.ref oI), .val (.long n), .second, .val (.ref s8_), .unset, .unset, .unset] [])) _
  refine g_lload X16 hx hby at_69 rfl ?_
  refine Go.s (XS.lconst X16.here hx rfl (hb hby at_71)) ?_
  refine Go.s (XS.lcmp X16.here hx rfl (hb hby at_72) rfl) ?_
  by_cases hc73_1 : n = (0 : Int64)
  · refine g_ifYes X16 hx hby at_73 ((if0 _ _).trans (teq (own_eq hc73_1)).1) (pc0 := 73) (pc' := 89) rfl (by decide) (by decide) ?_
    show Go _ _ _ (T16.setTop (mkF mi 89 #[.val (.long id0), .second, .val (.int a), .val (.int b), .val (.ref oI), .val (.long n), .second, .val (.ref s8_), .unset, .unset, .unset] [])) _
    exact KJ _ _ X16 e16 N16
  · refine g_ifNo X16 hx hby at_73 ((if0 _ _).trans (feq (own_neq hc73_1)).1) ?_
    refine g_aload X16 hx hby at_76 rfl rfl ?_
    refine g_iconst X16 hx hby at_78 (v := 0) rfl ?_
    obtain ⟨cq110, kq110, q110a, q110b, q110c⟩ := isOf hZ e16 SE8
    obtain ⟨_, _, ⟨T110, L110, k110, n110⟩, -, X110, ⟨Lc110, hQ110, l110, y110, z110⟩, st110⟩ := X16.virtualBack hx (y := (⟨"java/lang/String", "charAt", "(I)C"⟩ : MethodName)) (z := (⟨"java/lang/String", "charAt", "(I)C"⟩ : MethodName)) hown (mvT hZ (hw _ (own_m 207 rfl))) (mvT hZ (hw _ (own_m 37 rfl))) (notFace_of_selects (args := #[]) (mvT hZ (hw _ (own_m 39 rfl)))) (mvT hZ (hw _ (own_m 39 rfl))) (mvT hZ (hw _ (own_m 38 rfl))) (by decide) (backOf (W := 0) (rmCA l Z a0 hw [] s8_ (0 : Int32) b8 kb8 (Int32.ofNat kk) (dl kk N) cz fm h8 n0 Zs9 SE8 SCo8 SVa8 SAr8 SEb8 f11 hcz f15 hfm (by decide) (own_lk (j := 0) (by omega) hk19)) hZ (hw _ (own_m 40 rfl)) (hw _ (own_m 7 rfl)) (by decide) (by decide)) q110a q110c (g := (mkF mi 79 #[.val (.long id0), .second, .val (.int a), .val (.int b), .val (.ref oI), .val (.long n), .second, .val (.ref s8_), .unset, .unset, .unset] [(.int 0), (.ref s8_)])) rfl (by rw [hml]; rfl) (Steps.refl _) (argsL := [(.int 0)]) (rest := []) (lenOf pd_20 rfl) rfl (by show 2 * 0 + _ ≤ _; exact Nat.le_of_eq rfl) (hb hby at_79) (fun _ _ => ⟨rfl, e16, (by decide : 17 + 0 ≤ _), (by decide : 412 + 0 ≤ _)⟩)
    dsimp only [Pt.U, Pt.locs, Pt.cells, Pt.slots] at X110 l110 y110 z110 st110 hQ110
    subst y110 z110
    have X110 := own_cs X110 (cells' := 17) (slots' := 412) rfl rfl
    obtain ⟨rfl, N110q, e110⟩ := hQ110
    have N110 := own_fr l110 (Fr.app N16 N110q)
    refine Go.tr st110 ?_
    refine g_bipush X110 hx hby at_82 (v := 48) rfl ?_
    refine g_icmpYes X110 hx hby at_84 (feq (own_first hk1 hkz hkn (own_n0 hN hc73_1))).2 (pc0 := 84) (pc' := 89) rfl (by decide) (by decide) ?_
    show Go _ _ _ (T110.setTop (mkF mi 89 #[.val (.long id0), .second, .val (.int a), .val (.int b), .val (.ref oI), .val (.long n), .second, .val (.ref s8_), .unset, .unset, .unset] [])) _
    exact KJ _ _ X110 e110 N110
theorem own_eqI {args : Array Value} {first s : State} {o : Option Outcome} {idx : List Nat} {t : Term} {z : Int32} (h : (Cond.eq t (.int z)).value args first o s idx = some true) : t.eval args first o idx s = some (.int z) := by
  simp only [Cond.value, Term.eval] at h
  cases ht : t.eval args first o idx s with
  | none => simp [ht] at h
  | some x => cases x <;> simp [ht] at h ⊢; exact h
theorem own_eqR {args : Array Value} {first s : State} {o : Option Outcome} {idx : List Nat} {t u : Term} {b : Addr} (hu : u.eval args first o idx s = some (.ref b)) (h : (Cond.eq t u).value args first o s idx = some true) : t.eval args first o idx s = some (.ref b) := by
  simp only [Cond.value, hu] at h
  cases ht : t.eval args first o idx s with
  | none => simp [ht] at h
  | some x => cases x <;> simp [ht] at h ⊢; exact h
theorem own_neR {args : Array Value} {first s : State} {o : Option Outcome} {idx : List Nat} {t u : Term} {a b : Addr} (ht : t.eval args first o idx s = some (.ref a)) (hu : u.eval args first o idx s = some (.ref b)) (h : (Cond.not (.eq t u)).value args first o s idx = some true) : a ≠ b := fun q => by
  subst q
  simp [Cond.value, ht, hu] at h
set_option maxRecDepth 65536 in
set_option maxHeartbeats 40000000 in
theorem comes_1 {Post : Tables → Env → Array Value → State → Outcome → State → Prop} (hpost : ∀ tb e args s v u, (limb_1_1.after args s (.returned v) u = true ∧ limb_1_2.after args s (.returned v) u = true ∧ True) → ReturnedEndW s (.returned v) u (Jvm.fieldLocs frame_1_writes args s ++ Jvm.arrayLocs frame_1_arrays args s ++ Jvm.staticLocs frame_1_statics s) 56 5504 → Post tb e args s (.returned v) u) :
    ArmFor flags0 classFile x code maxLocals ret World_1 tables_1 room_1 Calls_1 rest_1 Pre_1 Post := by
  intro l hfl _ _ p e ha hc hk s m args below hf hA hF happ hP
  obtain ⟨hcalls, hrest, hpre⟩ := hP
  obtain ⟨-, -, -, hnamed, -, -, -, hat⟩ := (Spec.applies_iff hf).mp happ
  obtain ⟨hg, hn⟩ := and_e (Cond.before_iff.mp (show (Jvm.Cond.and given_1 narrow_1).before args s = true from hpre))
  obtain ⟨g1, g2⟩ := and_e hg
  obtain ⟨g3, g4⟩ := and_e g2
  obtain ⟨g5, g6⟩ := and_e g4
  obtain ⟨w0, w1, w2, rfl⟩ : ∃ w0 w1 w2 : Value, args = #[w0, w1, w2] := by
    have hs : args.size = 3 := by simpa [Cond.value, given_1] using g1
    obtain ⟨L⟩ := args
    match L, hs with
    | [w0, w1, w2], _ => exact ⟨w0, w1, w2, rfl⟩
  have hw := fun d (hd : d ∈ tables_1) => atoms_spec (ws := Jvm.Cond.code x code maxLocals ret :: tables_1) hat d (List.mem_cons_of_mem _ hd)
  have hfit : Fit s := fun {y c} hc i hi => by
    obtain ⟨ha, rfl⟩ := Array.getElem?_eq_some_iff.mp hc
    have q := List.all_eq_true.mp ((Array.all_eq_true_iff_forall_mem.mp hF) _ (Array.getElem_mem ha)) i (List.mem_range.mpr hi)
    simpa [Array.getElem?_eq_getElem hi] using q
  obtain ⟨hsets, hown0⟩ := atoms_of _ (rest_1_c_eq ▸ (show rest_1_c.before _ s = true from hrest))
  have hr0 := Cond.before_iff.mp hown0
  obtain ⟨i0, ei0⟩ := isL_v g3
  obtain rfl : w0 = (.long i0) := Option.some.inj ei0
  obtain ⟨i1, ei1⟩ := is_v g5
  obtain rfl : w1 = (.int i1) := Option.some.inj ei1
  obtain ⟨i2, ei2⟩ := is_v g6
  obtain rfl : w2 = (.int i2) := Option.some.inj ei2
  obtain ⟨nn1, nn2⟩ := and_e hn
  obtain ⟨nn3, nn4⟩ := and_e nn2
  obtain ⟨nn5, nn6⟩ := and_e nn4
  obtain ⟨nn7, nn8⟩ := and_e nn6
  obtain ⟨nn9, nn10⟩ := and_e nn8
  obtain ⟨nn11, nn12⟩ := and_e nn10
  obtain ⟨nn13, nn14⟩ := and_e nn12
  obtain ⟨nn15, nn16⟩ := and_e nn14
  have ha0 := nn1
  obtain ⟨va, eva⟩ := arr_v ha0
  obtain ⟨cA, AA⟩ := Arr.start eva ha0
  have hlen := own_eqI nn3
  obtain ⟨hsz, hsz2, hat2⟩ := own_len eva AA.1 hlen
  have hs128 : cA.slots.size = 128 := by have e : (cA.slots.size.toInt32).toInt = cA.slots.size := len_toInt hsz; rw [hsz2] at e; have l : (128 : Int32).toInt = 128 := rfl; omega
  have VA : Arv s s.heap va cA.cls .byte (128 : Int32) cA.slots.toList (.int (0 : Int32)) := Arv.start hfit AA hsz hsz2 (by decide) (by rw [Array.length_toList, hs128]; decide +kernel) (own_hasl (c := cA) cA.slots.toList [] rfl)
  have hVal := own_vals (fun _ => eva) AA.1 hat2 hs128 nn7
  have SV := Sta.start eva (Or.inr ⟨(hw _ (own_m 2 rfl)), (hw _ (own_m 244 rfl))⟩)
  obtain ⟨cz, ecz⟩ := is_v (Cond.before_iff.mp (hsets _ (own_m 1 rfl)))
  have SC : Sta s s.heap "java/lang/String" "COMPACT_STRINGS" "Z" (.int cz) := Sta.start ecz (Or.inl (hsets _ (own_m 0 rfl)))
  have n5 := not_v (Cond.before_iff.mp (hsets _ (own_m 2 rfl)))
  have hcz : ¬ (cz = (0 : Int32)) := gotF (Cond.eq_ints ecz (Term.int_eval (0))) n5
  obtain ⟨fm, efm, hfm⟩ := isR_v (Cond.before_iff.mp (hsets _ (own_m 8 rfl)))
  have SF := Sta.start efm (Or.inl (hsets _ (own_m 7 rfl)))
  obtain ⟨fi, efi, hff⟩ := static_fit hfit (hw _ (own_m 148 rfl)) (ty := .object "java/util/function/BiFunction") (by decide)
  have hfi := isRef_of_fits rfl hff
  have IF := Sta.start efi (Or.inr ⟨(hw _ (own_m 57 rfl)), (hw _ (own_m 148 rfl))⟩)
  have hEL : EW s _ own_EL := (EW.cons (hw _ (own_m 6 rfl)) (by decide +kernel) (EW.cons (hw _ (own_m 35 rfl)) (by decide +kernel) (EW.cons (hw _ (own_m 131 rfl)) (by decide +kernel) (EW.cons (hw _ (own_m 218 rfl)) (by decide +kernel) (EW.cons (hw _ (own_m 137 rfl)) (by decide +kernel) EW.nil)))))
  obtain ⟨n, o, h1, h2, h3, _, L, rfl, ⟨rfl, N⟩, hq⟩ := rm0 l s _ hw tables_1 i0 i1 i2 cz fm fi va cA.cls cA.slots.toList s.heap s.heap.size (Nat.le_refl _) hEL SC hcz SF hfm IF hfi SV VA hVal p e ha hc hk s m _ below hf ((Spec.applies_iff_loose hf).mp happ).1 ⟨rfl, State.Warmed39.refl s, rfl, CHv.start hEL (fun p hp => hcalls.1 p hp) (hsets _ (own_m 2 rfl)) (hw _ (own_m 9 rfl)) (hw _ (own_m 8 rfl))⟩ trivial
  refine ⟨n, _, h1, h2, h3, hpost _ _ _ _ _ _ ⟨Cond.after_iff.mpr rfl, Cond.after_iff.mpr (eq_i res_at (Term.int_eval (1)) rfl), trivial⟩ ⟨hq.1, hq.2.1, hq.2.2.1, (hq.2.2.2.sift fun y hy => Or.inr (N y hy)).mono (by decide) (by decide)⟩⟩
theorem main_1_1 : Claimed_1_1 := comes_1 fun _ _ _ _ _ _ h hF => ⟨h.1, hF⟩
theorem main_1_2 : Claimed_1_2 := comes_1 fun _ _ _ _ _ _ h hF => ⟨h.2.1, hF⟩
end Jvm.Pilot.@@N@@
namespace Jvm.Pilot.@@N@@
open Jvm Jvm.ClassFile Sem Op Lib Jvm.Free Jvm.Stand Jvm.Pilot.@@N@@.Jvm.D
/-! MADE BY PROGRAM (witnessworld.py) out of the Statement's table words and the real class files: 27 classes; the members and pool entries that the words name. The judged class is class 1, her method 1. -/
namespace start1
open Jvm.ClassFile
def u (s : String) : CpInfo := .utf8 (stringToUtf16 s)
/-- a pool by its gaps: so many unusable entries, then the entry; so many at the end -/
def gap : Nat → List CpInfo → List CpInfo
  | 0, r => r
  | n + 1, r => .unusable :: gap n r
def poolList (es : List (Nat × CpInfo)) (last : Nat) : List CpInfo := es.foldr (fun e r => gap e.1 (e.2 :: r)) (gap last [])
def pool (es : List (Nat × CpInfo)) (last : Nat) : Array CpInfo := ⟨poolList es last⟩
def fileOf (pool : Array CpInfo) (this : Nat) (attrs : Array Attribute := #[]) (ms : Array MethodInfo := #[]) (fl : Nat := 33) (sup : Nat := 0) (ifs : Array Nat := #[]) (fds : Array FieldInfo := #[]) : ClassFile where
  minorVersion := 0
  majorVersion := 65
  constantPool := pool
  accessFlags := fl
  thisClass := this
  superClass := sup
  interfaces := ifs
  fields := fds
  methods := ms
  attributes := attrs
def plain (name : String) (sup : Option ClassId) : Class where
  name := name
  kind := .ordinary
  loader := none
  accessFlags := 33
  super := sup
  interfaces := #[]
  cf := none
  fields := #[]
  methods := #[]
  instanceTypes := #[]
  staticTypes := #[]
  resolved := #[]
  callSites := []
  init := .initialized
  statics := none
  mirror := none

def pool0 : Array CpInfo := pool [(5, u "<init>"), (0, u "()V"), (1, .class_ 10), (1, u "java/lang/Object"), (85, u "clone"), (0, u "()Ljava/lang/Object;")] 26

def k0c0 : Code := { maxStack := 0, maxLocals := 1, code := object_method_1_code, exceptionTable := #[], attributes := #[] }
def k0m0 : Method := { name := "<init>", desc := "()V", sig := { parameters := [], returnType := none }, accessFlags := 1, code := some k0c0 }
def k0m1 : Method := { name := "clone", desc := "()Ljava/lang/Object;", sig := { parameters := [], returnType := some (.object "java/lang/Object") }, accessFlags := 260, code := none }
/-- java/lang/Object -/
def k0 : Class := { plain "java/lang/Object" none with
  accessFlags := 33
  interfaces := #[]
  cf := some (fileOf pool0 8 #[] #[{ accessFlags := 1, nameIndex := 5, descriptorIndex := 6, attributes := #[] }, { accessFlags := 260, nameIndex := 96, descriptorIndex := 97, attributes := #[] }] 33 0 #[] #[])
  fields := #[]
  methods := #[k0m0, k0m1]
  instanceTypes := #[]
  staticTypes := #[]
  resolved := Array.replicate 124 none
  statics := none }

def pool1 : Array CpInfo := pool [(2, .class_ 4), (1, u "java/lang/Object"), (0, u "<init>"), (0, u "()V"), (0, .methodref 8 9), (0, .class_ 10), (0, .nameAndType 11 12), (0, u "com/example/hoarfrost/hoarfrost/IdForm"), (0, u "decimal"), (0, u "()Lcom/example/hoarfrost/hoarfrost/IdForm;"), (2, .long 9223372036854775807), (1, .methodref 8 18), (0, .nameAndType 19 20), (0, u "format"), (0, u "(J)Ljava/lang/String;"), (0, .methodref 22 23), (0, .class_ 24), (0, .nameAndType 25 26), (0, u "java/lang/String"), (0, u "length"), (0, u "()I"), (0, .methodref 22 28), (0, .nameAndType 29 30), (0, u "charAt"), (0, u "(I)C"), (0, .long 10), (1, .methodref 34 35), (0, .class_ 36), (0, .nameAndType 37 30), (0, u "com/example/hoarfrost/hoarfrost/IdFormDecimalPinLaw"), (0, u "digit"), (0, .methodref 8 39), (0, .nameAndType 40 41), (0, u "parse"), (0, u "(Ljava/lang/String;)J"), (0, .integer 2147483647), (0, .methodref 34 44), (0, .nameAndType 45 46), (0, u "small"), (0, u "(I)Ljava/lang/String;"), (0, .methodref 22 48), (0, .nameAndType 49 50), (0, u "equals"), (0, u "(Ljava/lang/Object;)Z"), (0, .methodref 22 52), (0, .nameAndType 5 53), (0, u "([C)V"), (0, .methodref 22 55), (0, .nameAndType 56 57), (0, u "valueOf"), (0, u "(C)Ljava/lang/String;"), (2, u "law"), (0, u "(JII)Z")] 5

def k1m0 : Method := { name := "<init>", desc := "()V", sig := { parameters := [], returnType := none }, accessFlags := 1, code := none }
def k1c1 : Code := { maxStack := 5, maxLocals := 11, code := code, exceptionTable := #[], attributes := #[] }
def k1m1 : Method := { name := "law", desc := "(JII)Z", sig := { parameters := [.long, .int, .int], returnType := some .boolean }, accessFlags := 9, code := some k1c1 }
def k1c2 : Code := { maxStack := 2, maxLocals := 1, code := method_3_code, exceptionTable := #[], attributes := #[] }
def k1m2 : Method := { name := "digit", desc := "(I)C", sig := { parameters := [.int], returnType := some .char }, accessFlags := 10, code := some k1c2 }
def k1c3 : Code := { maxStack := 7, maxLocals := 1, code := method_4_code, exceptionTable := #[], attributes := #[] }
def k1m3 : Method := { name := "small", desc := "(I)Ljava/lang/String;", sig := { parameters := [.int], returnType := some (.object "java/lang/String") }, accessFlags := 10, code := some k1c3 }
/-- com/example/hoarfrost/hoarfrost/IdFormDecimalPinLaw -/
def k1 : Class := { plain "com/example/hoarfrost/hoarfrost/IdFormDecimalPinLaw" (some 0) with
  accessFlags := 49
  interfaces := #[]
  cf := some (fileOf pool1 34 #[] #[{ accessFlags := 1, nameIndex := 5, descriptorIndex := 6, attributes := #[] }, { accessFlags := 9, nameIndex := 60, descriptorIndex := 61, attributes := #[] }, { accessFlags := 10, nameIndex := 37, descriptorIndex := 30, attributes := #[] }, { accessFlags := 10, nameIndex := 45, descriptorIndex := 46, attributes := #[] }] 49 2 #[] #[])
  fields := #[]
  methods := #[k1m0, k1m1, k1m2, k1m3]
  instanceTypes := #[]
  staticTypes := #[]
  resolved := Array.replicate 67 none
  statics := none }

def pool2 : Array CpInfo := pool [(1, .methodref 2 3), (0, .class_ 4), (0, .nameAndType 5 6), (0, u "java/lang/Object"), (0, u "<init>"), (0, u "()V"), (0, .fieldref 8 9), (0, .class_ 10), (0, .nameAndType 11 12), (0, u "com/example/hoarfrost/hoarfrost/IdForm"), (0, u "radix"), (0, u "I"), (0, .fieldref 8 14), (0, .nameAndType 15 12), (0, u "width"), (0, .fieldref 8 17), (0, .nameAndType 18 19), (0, u "prefix"), (0, u "Ljava/lang/String;"), (0, .fieldref 8 21), (0, .nameAndType 22 19), (0, u "suffix"), (0, .string 24), (0, u ""), (0, .methodref 8 26), (0, .nameAndType 5 27), (0, u "(IILjava/lang/String;Ljava/lang/String;)V"), (5, u "(I)Ljava/lang/String;"), (4, .methodref 39 40), (0, .class_ 41), (0, .nameAndType 42 43), (0, u "java/util/Objects"), (0, u "requireNonNull"), (0, u "(Ljava/lang/Object;Ljava/lang/String;)Ljava/lang/Object;"), (3, u "(J)Ljava/lang/String;"), (0, .string 49), (0, u "0123456789ABCDEFGHIJKLMNOPQRSTUVWXYZabcdefghijklmnopqrstuvwxyz"), (0, .methodref 51 52), (0, .class_ 53), (0, .nameAndType 54 55), (0, u "java/lang/String"), (0, u "charAt"), (0, u "(I)C"), (0, .class_ 57), (0, u "java/lang/StringBuilder"), (0, .methodref 51 59), (0, .nameAndType 60 61), (0, u "length"), (0, u "()I"), (0, .methodref 63 64), (0, .class_ 65), (0, .nameAndType 66 67), (0, u "java/lang/Math"), (0, u "max"), (0, u "(II)I"), (0, .methodref 56 69), (0, .nameAndType 5 70), (0, u "(I)V"), (0, .methodref 56 72), (0, .nameAndType 73 74), (0, u "append"), (0, u "(Ljava/lang/String;)Ljava/lang/StringBuilder;"), (0, .string 76), (0, u "0"), (0, .methodref 51 78), (0, .nameAndType 79 33), (0, u "repeat"), (0, .methodref 56 81), (0, .nameAndType 73 82), (0, u "([CII)Ljava/lang/StringBuilder;"), (0, .methodref 56 84), (0, .nameAndType 85 86), (0, u "toString"), (0, u "()Ljava/lang/String;"), (0, .string 88), (0, u "text"), (0, .methodref 51 90), (0, .nameAndType 91 92), (0, u "startsWith"), (0, u "(Ljava/lang/String;)Z"), (10, .methodref 51 104), (0, .nameAndType 105 92), (0, u "endsWith"), (3, .fieldref 8 110), (0, .nameAndType 111 112), (0, u "VALUES"), (0, u "[B"), (5, .long 9223372036854775807), (17, u "DIGITS"), (1, u "MAX_DIGITS"), (4, u "()Lcom/example/hoarfrost/hoarfrost/IdForm;"), (0, u "decimal"), (4, u "format"), (2, u "parse"), (0, u "(Ljava/lang/String;)J")] 31

def k2c0 : Code := { maxStack := 2, maxLocals := 5, code := prog_6_method_1_code, exceptionTable := #[], attributes := #[] }
def k2m0 : Method := { name := "<init>", desc := "(IILjava/lang/String;Ljava/lang/String;)V", sig := { parameters := [.int, .int, (.object "java/lang/String"), (.object "java/lang/String")], returnType := none }, accessFlags := 2, code := some k2c0 }
def k2c1 : Code := { maxStack := 6, maxLocals := 0, code := prog_6_method_3_code, exceptionTable := #[], attributes := #[] }
def k2m1 : Method := { name := "decimal", desc := "()Lcom/example/hoarfrost/hoarfrost/IdForm;", sig := { parameters := [], returnType := some (.object "com/example/hoarfrost/hoarfrost/IdForm") }, accessFlags := 9, code := some k2c1 }
def k2c2 : Code := { maxStack := 7, maxLocals := 9, code := prog_6_method_7_code, exceptionTable := #[], attributes := #[] }
def k2m2 : Method := { name := "format", desc := "(J)Ljava/lang/String;", sig := { parameters := [.long], returnType := some (.object "java/lang/String") }, accessFlags := 1, code := some k2c2 }
def k2c3 : Code := { maxStack := 6, maxLocals := 9, code := prog_6_method_8_code, exceptionTable := #[], attributes := #[] }
def k2m3 : Method := { name := "parse", desc := "(Ljava/lang/String;)J", sig := { parameters := [(.object "java/lang/String")], returnType := some .long }, accessFlags := 1, code := some k2c3 }
/-- com/example/hoarfrost/hoarfrost/IdForm -/
def k2 : Class := { plain "com/example/hoarfrost/hoarfrost/IdForm" (some 0) with
  accessFlags := 49
  interfaces := #[]
  cf := some (fileOf pool2 8 #[] #[{ accessFlags := 2, nameIndex := 5, descriptorIndex := 27, attributes := #[] }, { accessFlags := 9, nameIndex := 144, descriptorIndex := 143, attributes := #[] }, { accessFlags := 1, nameIndex := 149, descriptorIndex := 47, attributes := #[] }, { accessFlags := 1, nameIndex := 152, descriptorIndex := 153, attributes := #[] }] 49 2 #[] #[{ accessFlags := 26, nameIndex := 136, descriptorIndex := 19, attributes := #[] }, { accessFlags := 26, nameIndex := 111, descriptorIndex := 112, attributes := #[] }, { accessFlags := 26, nameIndex := 138, descriptorIndex := 12, attributes := #[] }, { accessFlags := 18, nameIndex := 11, descriptorIndex := 12, attributes := #[] }, { accessFlags := 18, nameIndex := 15, descriptorIndex := 12, attributes := #[] }, { accessFlags := 18, nameIndex := 18, descriptorIndex := 19, attributes := #[] }, { accessFlags := 18, nameIndex := 22, descriptorIndex := 19, attributes := #[] }])
  fields := #[{ name := "DIGITS", type := (.object "java/lang/String"), accessFlags := 26, slot := 0, constantValue := 0 }, { name := "VALUES", type := (.array .byte), accessFlags := 26, slot := 1, constantValue := 0 }, { name := "MAX_DIGITS", type := .int, accessFlags := 26, slot := 2, constantValue := 0 }, { name := "radix", type := .int, accessFlags := 18, slot := 0, constantValue := 0 }, { name := "width", type := .int, accessFlags := 18, slot := 1, constantValue := 0 }, { name := "prefix", type := (.object "java/lang/String"), accessFlags := 18, slot := 2, constantValue := 0 }, { name := "suffix", type := (.object "java/lang/String"), accessFlags := 18, slot := 3, constantValue := 0 }]
  methods := #[k2m0, k2m1, k2m2, k2m3]
  instanceTypes := #[.int, .int, (.object "java/lang/String"), (.object "java/lang/String")]
  staticTypes := #[(.object "java/lang/String"), (.array .byte), .int]
  resolved := Array.replicate 185 none
  statics := some 0 }

def pool3 : Array CpInfo := pool [(1, .class_ 2), (0, u "java/io/Serializable"), (0, .class_ 4), (0, u "java/lang/Object")] 2

/-- java/io/Serializable -/
def k3 : Class := { plain "java/io/Serializable" (some 0) with
  accessFlags := 1537
  interfaces := #[]
  cf := some (fileOf pool3 1 #[] #[] 1537 3 #[] #[])
  fields := #[]
  methods := #[]
  instanceTypes := #[]
  staticTypes := #[]
  resolved := Array.replicate 7 none
  statics := none }

def pool4 : Array CpInfo := pool [(1, .class_ 2), (0, u "java/lang/Comparable"), (0, .class_ 4), (0, u "java/lang/Object")] 7

/-- java/lang/Comparable -/
def k4 : Class := { plain "java/lang/Comparable" (some 0) with
  accessFlags := 1537
  interfaces := #[]
  cf := some (fileOf pool4 1 #[] #[] 1537 3 #[] #[])
  fields := #[]
  methods := #[]
  instanceTypes := #[]
  staticTypes := #[]
  resolved := Array.replicate 12 none
  statics := none }

def pool5 : Array CpInfo := pool [(2, .class_ 4), (1, u "java/lang/CharSequence"), (42, .class_ 48), (0, u "java/lang/CharSequence$1CodePointIterator"), (10, .class_ 60), (0, u "java/lang/CharSequence$1CharIterator"), (5, .class_ 67), (0, u "java/lang/Object")] 63

/-- java/lang/CharSequence -/
def k5 : Class := { plain "java/lang/CharSequence" (some 0) with
  accessFlags := 1537
  interfaces := #[]
  cf := some (fileOf pool5 2 #[.nestMembers #[47, 59]] #[] 1537 66 #[] #[])
  fields := #[]
  methods := #[]
  instanceTypes := #[]
  staticTypes := #[]
  resolved := Array.replicate 131 none
  statics := none }

def pool6 : Array CpInfo := pool [(1, .class_ 2), (0, u "java/lang/constant/Constable"), (0, .class_ 4), (0, u "java/lang/Object")] 6

/-- java/lang/constant/Constable -/
def k6 : Class := { plain "java/lang/constant/Constable" (some 0) with
  accessFlags := 1537
  interfaces := #[]
  cf := some (fileOf pool6 1 #[] #[] 1537 3 #[] #[])
  fields := #[]
  methods := #[]
  instanceTypes := #[]
  staticTypes := #[]
  resolved := Array.replicate 11 none
  statics := none }

def pool7 : Array CpInfo := pool [(1, .class_ 2), (0, u "java/lang/constant/ConstantDesc"), (0, .class_ 4), (0, u "java/lang/Object")] 32

/-- java/lang/constant/ConstantDesc -/
def k7 : Class := { plain "java/lang/constant/ConstantDesc" (some 0) with
  accessFlags := 1537
  interfaces := #[]
  cf := some (fileOf pool7 1 #[] #[] 1537 3 #[] #[])
  fields := #[]
  methods := #[]
  instanceTypes := #[]
  staticTypes := #[]
  resolved := Array.replicate 37 none
  statics := none }

def pool8 : Array CpInfo := pool [(1, .methodref 2 3), (0, .class_ 4), (0, .nameAndType 5 6), (0, u "java/lang/Object"), (0, u "<init>"), (0, u "()V"), (0, .string 8), (0, u ""), (0, .fieldref 10 11), (0, .class_ 12), (0, .nameAndType 13 14), (0, u "java/lang/String"), (0, u "value"), (0, u "[B"), (0, .fieldref 10 16), (0, .nameAndType 17 18), (0, u "coder"), (0, u "B"), (2, u "hash"), (0, u "I"), (2, u "hashIsZero"), (0, u "Z"), (0, .methodref 10 28), (0, .nameAndType 5 29), (0, u "([CIILjava/lang/Void;)V"), (8, .fieldref 10 39), (0, .nameAndType 40 26), (0, u "COMPACT_STRINGS"), (1, .class_ 44), (1, u "java/lang/StringUTF16"), (0, u "compress"), (1, .methodref 42 48), (0, .nameAndType 49 50), (0, u "coderFromArrayLen"), (0, u "([BI)B"), (2, u "toBytes"), (0, .methodref 55 56), (0, .class_ 57), (0, .nameAndType 58 59), (0, u "java/util/Arrays"), (0, u "copyOfRange"), (0, u "([BII)[B"), (47, .class_ 109), (1, u "java/lang/StringLatin1"), (32, u "()Z"), (34, .methodref 42 178), (0, .nameAndType 45 179), (0, u "([CII)[B"), (13, .class_ 195), (1, u "java/lang/System"), (13, .methodref 10 210), (0, .nameAndType 5 211), (0, u "([BB)V"), (0, .methodref 193 213), (0, .nameAndType 214 215), (0, u "arraycopy"), (0, u "(Ljava/lang/Object;ILjava/lang/Object;II)V"), (118, u "()I"), (0, .methodref 10 336), (0, .nameAndType 17 337), (0, u "()B"), (2, u "()[B"), (22, u "([BI)C"), (5, u "(C)Z"), (6, u "([BI[BII)I"), (14, u "(II)V"), (35, u "(I)C"), (61, .methodref 10 490), (0, .nameAndType 5 491), (0, u "(Ljava/lang/AbstractStringBuilder;Ljava/lang/Void;)V"), (0, .methodref 10 493), (0, .nameAndType 494 142), (0, u "isLatin1"), (0, .methodref 107 496), (0, .nameAndType 497 363), (0, u "charAt"), (3, u "checkIndex"), (3, .methodref 10 506), (0, .nameAndType 507 334), (0, u "length"), (24, u "getBytes"), (8, .methodref 107 542), (0, .nameAndType 543 544), (0, u "equals"), (0, u "([B[B)Z"), (4, .methodref 550 506), (0, .class_ 551), (0, u "java/lang/AbstractStringBuilder"), (0, .methodref 550 553), (0, .nameAndType 554 340), (0, u "getValue"), (4, .class_ 561), (1, u "jdk/internal/util/ArraysSupport"), (0, u "mismatch"), (10, u "(Ljava/lang/Object;)Z"), (1, .class_ 576), (0, u "java/lang/CharSequence"), (22, u "CASE_INSENSITIVE_ORDER"), (0, u "Ljava/util/Comparator;"), (6, .methodref 559 608), (0, .nameAndType 562 376), (15, .methodref 10 625), (0, .nameAndType 626 627), (0, u "startsWith"), (0, u "(Ljava/lang/String;I)Z"), (154, u "valueOf"), (0, u "(C)Ljava/lang/String;"), (37, u "([BIB)V"), (69, u "repeat"), (0, u "(I)Ljava/lang/String;"), (117, u "([C)V"), (4, .methodref 107 1016), (0, .nameAndType 1017 369), (0, u "canEncode"), (0, .methodref 107 1019), (0, .nameAndType 53 1020), (0, u "(C)[B"), (26, .methodref 550 493), (5, .fieldref 1054 1055), (0, .class_ 1056), (0, .nameAndType 1057 1058), (0, u "jdk/internal/util/Preconditions"), (0, u "SIOOBE_FORMATTER"), (0, u "Ljava/util/function/BiFunction;"), (0, .methodref 1054 1060), (0, .nameAndType 501 1061), (0, u "(IILjava/util/function/BiFunction;)I"), (39, u "serialPersistentFields"), (0, u "[Ljava/io/ObjectStreamField;"), (0, .class_ 1104), (0, u "java/lang/String$CaseInsensitiveComparator"), (1, .class_ 1107), (0, u "java/io/Serializable"), (0, .class_ 1109), (0, u "java/lang/Comparable"), (0, .class_ 1111), (0, u "java/lang/constant/Constable"), (0, .class_ 1113), (0, u "java/lang/constant/ConstantDesc"), (2, u "serialVersionUID"), (0, u "J"), (3, u "REPL"), (0, u "C"), (2, u "LATIN1"), (1, u "UTF16"), (105, u "(Ljava/lang/StringBuilder;)V"), (23, u "(Ljava/lang/String;)Z"), (14, u "endsWith")] 178

def k8m0 : Method := { name := "<init>", desc := "()V", sig := { parameters := [], returnType := none }, accessFlags := 1, code := none }
def k8c1 : Code := { maxStack := 5, maxLocals := 2, code := jdk_42_method_3_code, exceptionTable := #[], attributes := #[] }
def k8m1 : Method := { name := "<init>", desc := "([C)V", sig := { parameters := [(.array .char)], returnType := none }, accessFlags := 1, code := some k8c1 }
def k8c2 : Code := { maxStack := 3, maxLocals := 2, code := jdk_42_method_53_code, exceptionTable := #[], attributes := #[] }
def k8m2 : Method := { name := "<init>", desc := "(Ljava/lang/StringBuilder;)V", sig := { parameters := [(.object "java/lang/StringBuilder")], returnType := none }, accessFlags := 1, code := some k8c2 }
def k8c3 : Code := { maxStack := 2, maxLocals := 1, code := jdk_42_method_54_code, exceptionTable := #[], attributes := #[] }
def k8m3 : Method := { name := "length", desc := "()I", sig := { parameters := [], returnType := some .int }, accessFlags := 1, code := some k8c3 }
def k8c4 : Code := { maxStack := 2, maxLocals := 2, code := jdk_42_method_56_code, exceptionTable := #[], attributes := #[] }
def k8m4 : Method := { name := "charAt", desc := "(I)C", sig := { parameters := [.int], returnType := some .char }, accessFlags := 1, code := some k8c4 }
def k8c5 : Code := { maxStack := 2, maxLocals := 3, code := jdk_42_method_66_code, exceptionTable := #[], attributes := #[] }
def k8m5 : Method := { name := "equals", desc := "(Ljava/lang/Object;)Z", sig := { parameters := [(.object "java/lang/Object")], returnType := some .boolean }, accessFlags := 1, code := some k8c5 }
def k8c6 : Code := { maxStack := 5, maxLocals := 8, code := jdk_42_method_75_code, exceptionTable := #[], attributes := #[] }
def k8m6 : Method := { name := "startsWith", desc := "(Ljava/lang/String;I)Z", sig := { parameters := [(.object "java/lang/String"), .int], returnType := some .boolean }, accessFlags := 1, code := some k8c6 }
def k8c7 : Code := { maxStack := 3, maxLocals := 2, code := jdk_42_method_76_code, exceptionTable := #[], attributes := #[] }
def k8m7 : Method := { name := "startsWith", desc := "(Ljava/lang/String;)Z", sig := { parameters := [(.object "java/lang/String")], returnType := some .boolean }, accessFlags := 1, code := some k8c7 }
def k8c8 : Code := { maxStack := 4, maxLocals := 2, code := jdk_42_method_77_code, exceptionTable := #[], attributes := #[] }
def k8m8 : Method := { name := "endsWith", desc := "(Ljava/lang/String;)Z", sig := { parameters := [(.object "java/lang/String")], returnType := some .boolean }, accessFlags := 1, code := some k8c8 }
def k8c9 : Code := { maxStack := 4, maxLocals := 1, code := jdk_42_method_139_code, exceptionTable := #[], attributes := #[] }
def k8m9 : Method := { name := "valueOf", desc := "(C)Ljava/lang/String;", sig := { parameters := [.char], returnType := some (.object "java/lang/String") }, accessFlags := 9, code := some k8c9 }
def k8c10 : Code := { maxStack := 5, maxLocals := 5, code := jdk_42_method_145_code, exceptionTable := #[], attributes := #[] }
def k8m10 : Method := { name := "repeat", desc := "(I)Ljava/lang/String;", sig := { parameters := [.int], returnType := some (.object "java/lang/String") }, accessFlags := 1, code := some k8c10 }
def k8c11 : Code := { maxStack := 5, maxLocals := 4, code := jdk_42_method_147_code, exceptionTable := #[], attributes := #[] }
def k8m11 : Method := { name := "getBytes", desc := "([BIB)V", sig := { parameters := [(.array .byte), .int, .byte], returnType := none }, accessFlags := 0, code := some k8c11 }
def k8c12 : Code := { maxStack := 4, maxLocals := 6, code := jdk_42_method_149_code, exceptionTable := #[], attributes := #[] }
def k8m12 : Method := { name := "<init>", desc := "([CIILjava/lang/Void;)V", sig := { parameters := [(.array .char), .int, .int, (.object "java/lang/Void")], returnType := none }, accessFlags := 2, code := some k8c12 }
def k8c13 : Code := { maxStack := 5, maxLocals := 5, code := jdk_42_method_150_code, exceptionTable := #[], attributes := #[] }
def k8m13 : Method := { name := "<init>", desc := "(Ljava/lang/AbstractStringBuilder;Ljava/lang/Void;)V", sig := { parameters := [(.object "java/lang/AbstractStringBuilder"), (.object "java/lang/Void")], returnType := none }, accessFlags := 0, code := some k8c13 }
def k8c14 : Code := { maxStack := 2, maxLocals := 3, code := jdk_42_method_151_code, exceptionTable := #[], attributes := #[] }
def k8m14 : Method := { name := "<init>", desc := "([BB)V", sig := { parameters := [(.array .byte), .byte], returnType := none }, accessFlags := 0, code := some k8c14 }
def k8c15 : Code := { maxStack := 1, maxLocals := 1, code := jdk_42_method_152_code, exceptionTable := #[], attributes := #[] }
def k8m15 : Method := { name := "coder", desc := "()B", sig := { parameters := [], returnType := some .byte }, accessFlags := 0, code := some k8c15 }
def k8c16 : Code := { maxStack := 1, maxLocals := 1, code := jdk_42_method_154_code, exceptionTable := #[], attributes := #[] }
def k8m16 : Method := { name := "isLatin1", desc := "()Z", sig := { parameters := [], returnType := some .boolean }, accessFlags := 0, code := some k8c16 }
def k8c17 : Code := { maxStack := 3, maxLocals := 2, code := jdk_42_method_155_code, exceptionTable := #[], attributes := #[] }
def k8m17 : Method := { name := "checkIndex", desc := "(II)V", sig := { parameters := [.int, .int], returnType := none }, accessFlags := 8, code := some k8c17 }
/-- java/lang/String -/
def k8 : Class := { plain "java/lang/String" (some 0) with
  accessFlags := 49
  interfaces := #[3, 4, 5, 6, 7]
  cf := some (fileOf pool8 10 #[.nestMembers #[1103]] #[{ accessFlags := 1, nameIndex := 5, descriptorIndex := 6, attributes := #[] }, { accessFlags := 1, nameIndex := 5, descriptorIndex := 1010, attributes := #[] }, { accessFlags := 1, nameIndex := 5, descriptorIndex := 1233, attributes := #[] }, { accessFlags := 1, nameIndex := 507, descriptorIndex := 334, attributes := #[] }, { accessFlags := 1, nameIndex := 497, descriptorIndex := 427, attributes := #[] }, { accessFlags := 1, nameIndex := 543, descriptorIndex := 573, attributes := #[] }, { accessFlags := 1, nameIndex := 626, descriptorIndex := 627, attributes := #[] }, { accessFlags := 1, nameIndex := 626, descriptorIndex := 1257, attributes := #[] }, { accessFlags := 1, nameIndex := 1272, descriptorIndex := 1257, attributes := #[] }, { accessFlags := 9, nameIndex := 782, descriptorIndex := 783, attributes := #[] }, { accessFlags := 1, nameIndex := 891, descriptorIndex := 892, attributes := #[] }, { accessFlags := 0, nameIndex := 532, descriptorIndex := 821, attributes := #[] }, { accessFlags := 2, nameIndex := 5, descriptorIndex := 29, attributes := #[] }, { accessFlags := 0, nameIndex := 5, descriptorIndex := 491, attributes := #[] }, { accessFlags := 0, nameIndex := 5, descriptorIndex := 211, attributes := #[] }, { accessFlags := 0, nameIndex := 17, descriptorIndex := 337, attributes := #[] }, { accessFlags := 0, nameIndex := 494, descriptorIndex := 142, attributes := #[] }, { accessFlags := 8, nameIndex := 501, descriptorIndex := 391, attributes := #[] }] 49 2 #[1106, 1108, 575, 1110, 1112] #[{ accessFlags := 18, nameIndex := 13, descriptorIndex := 14, attributes := #[] }, { accessFlags := 18, nameIndex := 17, descriptorIndex := 18, attributes := #[] }, { accessFlags := 2, nameIndex := 21, descriptorIndex := 22, attributes := #[] }, { accessFlags := 2, nameIndex := 25, descriptorIndex := 26, attributes := #[] }, { accessFlags := 26, nameIndex := 1116, descriptorIndex := 1117, attributes := #[] }, { accessFlags := 24, nameIndex := 40, descriptorIndex := 26, attributes := #[] }, { accessFlags := 26, nameIndex := 1101, descriptorIndex := 1102, attributes := #[] }, { accessFlags := 26, nameIndex := 1121, descriptorIndex := 1122, attributes := #[] }, { accessFlags := 25, nameIndex := 599, descriptorIndex := 600, attributes := #[] }, { accessFlags := 24, nameIndex := 1125, descriptorIndex := 18, attributes := #[] }, { accessFlags := 24, nameIndex := 1127, descriptorIndex := 18, attributes := #[] }])
  fields := #[{ name := "value", type := (.array .byte), accessFlags := 18, slot := 0, constantValue := 0 }, { name := "coder", type := .byte, accessFlags := 18, slot := 1, constantValue := 0 }, { name := "hash", type := .int, accessFlags := 2, slot := 2, constantValue := 0 }, { name := "hashIsZero", type := .boolean, accessFlags := 2, slot := 3, constantValue := 0 }, { name := "serialVersionUID", type := .long, accessFlags := 26, slot := 0, constantValue := 0 }, { name := "COMPACT_STRINGS", type := .boolean, accessFlags := 24, slot := 1, constantValue := 0 }, { name := "serialPersistentFields", type := (.array (.object "java/io/ObjectStreamField")), accessFlags := 26, slot := 2, constantValue := 0 }, { name := "REPL", type := .char, accessFlags := 26, slot := 3, constantValue := 0 }, { name := "CASE_INSENSITIVE_ORDER", type := (.object "java/util/Comparator"), accessFlags := 25, slot := 4, constantValue := 0 }, { name := "LATIN1", type := .byte, accessFlags := 24, slot := 5, constantValue := 0 }, { name := "UTF16", type := .byte, accessFlags := 24, slot := 6, constantValue := 0 }]
  methods := #[k8m0, k8m1, k8m2, k8m3, k8m4, k8m5, k8m6, k8m7, k8m8, k8m9, k8m10, k8m11, k8m12, k8m13, k8m14, k8m15, k8m16, k8m17]
  instanceTypes := #[(.array .byte), .byte, .int, .boolean]
  staticTypes := #[.long, .boolean, (.array (.object "java/io/ObjectStreamField")), .char, (.object "java/util/Comparator"), .byte, .byte]
  resolved := Array.replicate 1451 none
  statics := some 1 }

def pool9 : Array CpInfo := pool [(1, .class_ 2), (0, u "java/lang/String"), (1, .class_ 6), (1, u "java/lang/Object"), (0, u "<init>"), (0, u "()V"), (0, .methodref 1 10), (0, .nameAndType 11 12), (0, u "checkIndex"), (0, u "(II)V"), (1, .class_ 16), (1, u "java/lang/StringLatin1"), (36, u "([BI)C"), (36, u "canEncode"), (14, u "(C)Z"), (15, u "$assertionsDisabled"), (0, u "Z"), (98, .class_ 223), (1, u "java/lang/StringLatin1$LinesSpliterator"), (28, u "charAt"), (28, u "equals"), (0, u "([B[B)Z"), (97, u "toBytes"), (1, u "(C)[B"), (7, .class_ 391), (0, u "java/lang/StringLatin1$CharsSpliterator")] 3

def k9m0 : Method := { name := "<init>", desc := "()V", sig := { parameters := [], returnType := none }, accessFlags := 0, code := none }
def k9c1 : Code := { maxStack := 2, maxLocals := 2, code := jdk_43_method_2_code, exceptionTable := #[], attributes := #[] }
def k9m1 : Method := { name := "charAt", desc := "([BI)C", sig := { parameters := [(.array .byte), .int], returnType := some .char }, accessFlags := 9, code := some k9c1 }
def k9c2 : Code := { maxStack := 2, maxLocals := 1, code := jdk_43_method_3_code, exceptionTable := #[], attributes := #[] }
def k9m2 : Method := { name := "canEncode", desc := "(C)Z", sig := { parameters := [.char], returnType := some .boolean }, accessFlags := 9, code := some k9c2 }
def k9c3 : Code := { maxStack := 3, maxLocals := 3, code := jdk_43_method_13_code, exceptionTable := #[], attributes := #[] }
def k9m3 : Method := { name := "equals", desc := "([B[B)Z", sig := { parameters := [(.array .byte), (.array .byte)], returnType := some .boolean }, accessFlags := 9, code := some k9c3 }
def k9c4 : Code := { maxStack := 4, maxLocals := 1, code := jdk_43_method_46_code, exceptionTable := #[], attributes := #[] }
def k9m4 : Method := { name := "toBytes", desc := "(C)[B", sig := { parameters := [.char], returnType := some (.array .byte) }, accessFlags := 9, code := some k9c4 }
/-- java/lang/StringLatin1 -/
def k9 : Class := { plain "java/lang/StringLatin1" (some 0) with
  accessFlags := 48
  interfaces := #[]
  cf := some (fileOf pool9 14 #[.nestMembers #[390, 221]] #[{ accessFlags := 0, nameIndex := 7, descriptorIndex := 8, attributes := #[] }, { accessFlags := 9, nameIndex := 252, descriptorIndex := 53, attributes := #[] }, { accessFlags := 9, nameIndex := 90, descriptorIndex := 105, attributes := #[] }, { accessFlags := 9, nameIndex := 281, descriptorIndex := 282, attributes := #[] }, { accessFlags := 9, nameIndex := 380, descriptorIndex := 382, attributes := #[] }] 48 4 #[] #[{ accessFlags := 4120, nameIndex := 121, descriptorIndex := 122, attributes := #[] }])
  fields := #[{ name := "$assertionsDisabled", type := .boolean, accessFlags := 4120, slot := 0, constantValue := 0 }]
  methods := #[k9m0, k9m1, k9m2, k9m3, k9m4]
  instanceTypes := #[]
  staticTypes := #[.boolean]
  resolved := Array.replicate 395 none
  statics := none }

def pool10 : Array CpInfo := pool [(2, .class_ 4), (1, u "java/lang/Object"), (0, u "<init>"), (0, u "()V"), (17, .class_ 26), (1, u "jdk/internal/util/Preconditions"), (6, u "checkIndex"), (13, u "checkFromToIndex"), (7, .class_ 56), (0, u "jdk/internal/util/Preconditions$4"), (57, .class_ 115), (0, u "jdk/internal/util/Preconditions$1"), (7, u "SIOOBE_FORMATTER"), (0, u "Ljava/util/function/BiFunction;"), (0, .class_ 126), (0, u "jdk/internal/util/Preconditions$2"), (3, u "AIOOBE_FORMATTER"), (0, .class_ 132), (0, u "jdk/internal/util/Preconditions$3"), (3, u "IOOBE_FORMATTER"), (41, u "(IILjava/util/function/BiFunction;)I"), (4, u "(IIILjava/util/function/BiFunction;)I")] 10

def k10m0 : Method := { name := "<init>", desc := "()V", sig := { parameters := [], returnType := none }, accessFlags := 1, code := none }
def k10c1 : Code := { maxStack := 3, maxLocals := 3, code := jdk_41_method_11_code, exceptionTable := #[], attributes := #[] }
def k10m1 : Method := { name := "checkIndex", desc := "(IILjava/util/function/BiFunction;)I", sig := { parameters := [.int, .int, (.object "java/util/function/BiFunction")], returnType := some .int }, accessFlags := 9, code := some k10c1 }
def k10c2 : Code := { maxStack := 4, maxLocals := 4, code := jdk_41_method_12_code, exceptionTable := #[], attributes := #[] }
def k10m2 : Method := { name := "checkFromToIndex", desc := "(IIILjava/util/function/BiFunction;)I", sig := { parameters := [.int, .int, .int, (.object "java/util/function/BiFunction")], returnType := some .int }, accessFlags := 9, code := some k10c2 }
/-- jdk/internal/util/Preconditions -/
def k10 : Class := { plain "jdk/internal/util/Preconditions" (some 0) with
  accessFlags := 33
  interfaces := #[]
  cf := some (fileOf pool10 24 #[.nestMembers #[55, 131, 125, 114]] #[{ accessFlags := 1, nameIndex := 5, descriptorIndex := 6, attributes := #[] }, { accessFlags := 9, nameIndex := 33, descriptorIndex := 178, attributes := #[] }, { accessFlags := 9, nameIndex := 47, descriptorIndex := 183, attributes := #[] }] 33 2 #[] #[{ accessFlags := 25, nameIndex := 123, descriptorIndex := 124, attributes := #[] }, { accessFlags := 25, nameIndex := 130, descriptorIndex := 124, attributes := #[] }, { accessFlags := 25, nameIndex := 136, descriptorIndex := 124, attributes := #[] }])
  fields := #[{ name := "SIOOBE_FORMATTER", type := (.object "java/util/function/BiFunction"), accessFlags := 25, slot := 0, constantValue := 0 }, { name := "AIOOBE_FORMATTER", type := (.object "java/util/function/BiFunction"), accessFlags := 25, slot := 1, constantValue := 0 }, { name := "IOOBE_FORMATTER", type := (.object "java/util/function/BiFunction"), accessFlags := 25, slot := 2, constantValue := 0 }]
  methods := #[k10m0, k10m1, k10m2]
  instanceTypes := #[]
  staticTypes := #[(.object "java/util/function/BiFunction"), (.object "java/util/function/BiFunction"), (.object "java/util/function/BiFunction")]
  resolved := Array.replicate 194 none
  statics := some 2 }

def pool11 : Array CpInfo := pool [(1, .class_ 2), (0, u "java/lang/Appendable"), (0, .class_ 4), (0, u "java/lang/Object")] 9

/-- java/lang/Appendable -/
def k11 : Class := { plain "java/lang/Appendable" (some 0) with
  accessFlags := 1537
  interfaces := #[]
  cf := some (fileOf pool11 1 #[] #[] 1537 3 #[] #[])
  fields := #[]
  methods := #[]
  instanceTypes := #[]
  staticTypes := #[]
  resolved := Array.replicate 14 none
  statics := none }

def pool12 : Array CpInfo := pool [(1, .class_ 2), (0, u "java/lang/String"), (0, .methodref 4 5), (0, .class_ 6), (0, .nameAndType 7 8), (0, u "java/lang/Object"), (0, u "<init>"), (0, u "()V"), (1, .class_ 12), (1, u "java/lang/AbstractStringBuilder"), (0, u "EMPTYVALUE"), (0, u "[B"), (0, .fieldref 10 16), (0, .nameAndType 17 14), (0, u "value"), (0, .fieldref 1 19), (0, .nameAndType 20 21), (0, u "COMPACT_STRINGS"), (0, u "Z"), (0, .fieldref 10 23), (0, .nameAndType 24 25), (0, u "coder"), (0, u "B"), (6, .methodref 1 33), (0, .nameAndType 34 35), (0, u "length"), (0, u "()I"), (4, .methodref 1 41), (0, .nameAndType 24 42), (0, u "()B"), (2, u "append"), (0, u "(Ljava/lang/String;)Ljava/lang/AbstractStringBuilder;"), (1, .class_ 49), (0, u "java/lang/CharSequence"), (19, u "(Ljava/lang/String;)V"), (5, u "maybeLatin1"), (3, .fieldref 10 80), (0, .nameAndType 81 82), (0, u "count"), (0, u "I"), (0, .methodref 10 84), (0, .nameAndType 85 86), (0, u "isLatin1"), (0, u "()Z"), (1, .class_ 90), (1, u "java/lang/StringLatin1"), (9, .methodref 10 101), (0, .nameAndType 102 103), (0, u "ensureCapacityInternal"), (0, u "(I)V"), (57, .methodref 162 163), (0, .class_ 164), (0, .nameAndType 165 166), (0, u "jdk/internal/util/Preconditions"), (0, u "checkFromToIndex"), (0, u "(IIILjava/util/function/BiFunction;)I"), (15, u "Ljava/util/function/BiFunction;"), (0, .fieldref 162 184), (0, .nameAndType 185 182), (0, u "IOOBE_FORMATTER"), (5, .methodref 88 192), (0, .nameAndType 193 194), (0, u "canEncode"), (0, u "(C)Z"), (13, .methodref 10 209), (0, .nameAndType 210 211), (0, u "putStringAt"), (0, u "(ILjava/lang/String;)V"), (5, u "inflateIfNeededFor"), (2, .nameAndType 221 222), (0, u "getBytes"), (0, u "([BIB)V"), (11, u "appendChars"), (4, .methodref 10 240), (0, .nameAndType 234 241), (0, u "([CII)V"), (155, .methodref 10 398), (0, .nameAndType 217 69), (0, .methodref 1 220), (3, u "()[B"), (40, .class_ 445), (0, u "java/lang/Appendable"), (60, u "([CII)Ljava/lang/AbstractStringBuilder;"), (45, u "getValue")] 56

def k12m0 : Method := { name := "<init>", desc := "()V", sig := { parameters := [], returnType := none }, accessFlags := 0, code := none }
def k12c1 : Code := { maxStack := 2, maxLocals := 2, code := jdk_68_method_2_code, exceptionTable := #[], attributes := #[] }
def k12m1 : Method := { name := "<init>", desc := "(I)V", sig := { parameters := [.int], returnType := none }, accessFlags := 0, code := some k12c1 }
def k12c2 : Code := { maxStack := 1, maxLocals := 1, code := jdk_68_method_6_code, exceptionTable := #[], attributes := #[] }
def k12m2 : Method := { name := "length", desc := "()I", sig := { parameters := [], returnType := some .int }, accessFlags := 1, code := some k12c2 }
def k12c3 : Code := { maxStack := 4, maxLocals := 3, code := jdk_68_method_9_code, exceptionTable := #[], attributes := #[] }
def k12m3 : Method := { name := "ensureCapacityInternal", desc := "(I)V", sig := { parameters := [.int], returnType := none }, accessFlags := 2, code := some k12c3 }
def k12c4 : Code := { maxStack := 3, maxLocals := 3, code := jdk_68_method_22_code, exceptionTable := #[], attributes := #[] }
def k12m4 : Method := { name := "append", desc := "(Ljava/lang/String;)Ljava/lang/AbstractStringBuilder;", sig := { parameters := [(.object "java/lang/String")], returnType := some (.object "java/lang/AbstractStringBuilder") }, accessFlags := 1, code := some k12c4 }
def k12c5 : Code := { maxStack := 4, maxLocals := 5, code := jdk_68_method_29_code, exceptionTable := #[], attributes := #[] }
def k12m5 : Method := { name := "append", desc := "([CII)Ljava/lang/AbstractStringBuilder;", sig := { parameters := [(.array .char), .int, .int], returnType := some (.object "java/lang/AbstractStringBuilder") }, accessFlags := 1, code := some k12c5 }
def k12c6 : Code := { maxStack := 1, maxLocals := 1, code := jdk_68_method_64_code, exceptionTable := #[], attributes := #[] }
def k12m6 : Method := { name := "getValue", desc := "()[B", sig := { parameters := [], returnType := some (.array .byte) }, accessFlags := 16, code := some k12c6 }
def k12c7 : Code := { maxStack := 1, maxLocals := 1, code := jdk_68_method_68_code, exceptionTable := #[], attributes := #[] }
def k12m7 : Method := { name := "isLatin1", desc := "()Z", sig := { parameters := [], returnType := some .boolean }, accessFlags := 16, code := some k12c7 }
def k12c8 : Code := { maxStack := 2, maxLocals := 2, code := jdk_68_method_71_code, exceptionTable := #[], attributes := #[] }
def k12m8 : Method := { name := "inflateIfNeededFor", desc := "(Ljava/lang/String;)V", sig := { parameters := [(.object "java/lang/String")], returnType := none }, accessFlags := 2, code := some k12c8 }
def k12c9 : Code := { maxStack := 4, maxLocals := 3, code := jdk_68_method_73_code, exceptionTable := #[], attributes := #[] }
def k12m9 : Method := { name := "putStringAt", desc := "(ILjava/lang/String;)V", sig := { parameters := [.int, (.object "java/lang/String")], returnType := none }, accessFlags := 2, code := some k12c9 }
def k12c10 : Code := { maxStack := 5, maxLocals := 9, code := jdk_68_method_74_code, exceptionTable := #[], attributes := #[] }
def k12m10 : Method := { name := "appendChars", desc := "([CII)V", sig := { parameters := [(.array .char), .int, .int], returnType := none }, accessFlags := 18, code := some k12c10 }
/-- java/lang/AbstractStringBuilder -/
def k12 : Class := { plain "java/lang/AbstractStringBuilder" (some 0) with
  accessFlags := 1056
  interfaces := #[11, 5]
  cf := some (fileOf pool12 10 #[] #[{ accessFlags := 0, nameIndex := 7, descriptorIndex := 8, attributes := #[] }, { accessFlags := 0, nameIndex := 7, descriptorIndex := 103, attributes := #[] }, { accessFlags := 1, nameIndex := 34, descriptorIndex := 35, attributes := #[] }, { accessFlags := 2, nameIndex := 102, descriptorIndex := 103, attributes := #[] }, { accessFlags := 1, nameIndex := 45, descriptorIndex := 46, attributes := #[] }, { accessFlags := 1, nameIndex := 45, descriptorIndex := 506, attributes := #[] }, { accessFlags := 16, nameIndex := 552, descriptorIndex := 403, attributes := #[] }, { accessFlags := 16, nameIndex := 85, descriptorIndex := 86, attributes := #[] }, { accessFlags := 2, nameIndex := 217, descriptorIndex := 69, attributes := #[] }, { accessFlags := 2, nameIndex := 210, descriptorIndex := 211, attributes := #[] }, { accessFlags := 18, nameIndex := 234, descriptorIndex := 241, attributes := #[] }] 1056 4 #[444, 48] #[{ accessFlags := 0, nameIndex := 17, descriptorIndex := 14, attributes := #[] }, { accessFlags := 0, nameIndex := 24, descriptorIndex := 25, attributes := #[] }, { accessFlags := 0, nameIndex := 75, descriptorIndex := 21, attributes := #[] }, { accessFlags := 0, nameIndex := 81, descriptorIndex := 82, attributes := #[] }, { accessFlags := 26, nameIndex := 13, descriptorIndex := 14, attributes := #[] }])
  fields := #[{ name := "value", type := (.array .byte), accessFlags := 0, slot := 0, constantValue := 0 }, { name := "coder", type := .byte, accessFlags := 0, slot := 1, constantValue := 0 }, { name := "maybeLatin1", type := .boolean, accessFlags := 0, slot := 2, constantValue := 0 }, { name := "count", type := .int, accessFlags := 0, slot := 3, constantValue := 0 }, { name := "EMPTYVALUE", type := (.array .byte), accessFlags := 26, slot := 0, constantValue := 0 }]
  methods := #[k12m0, k12m1, k12m2, k12m3, k12m4, k12m5, k12m6, k12m7, k12m8, k12m9, k12m10]
  instanceTypes := #[(.array .byte), .byte, .boolean, .int]
  staticTypes := #[(.array .byte)]
  resolved := Array.replicate 609 none
  statics := none }

def pool13 : Array CpInfo := pool [(1, .methodref 2 3), (0, .class_ 4), (0, .nameAndType 5 6), (0, u "java/lang/AbstractStringBuilder"), (0, u "<init>"), (0, u "(I)V"), (11, .class_ 20), (1, u "java/lang/String"), (3, .class_ 26), (1, u "java/lang/StringBuilder"), (0, u "append"), (0, u "(Ljava/lang/String;)Ljava/lang/StringBuilder;"), (0, .methodref 2 30), (0, .nameAndType 27 31), (0, u "(Ljava/lang/String;)Ljava/lang/AbstractStringBuilder;"), (12, .methodref 2 45), (0, .nameAndType 27 46), (0, u "([CII)Ljava/lang/AbstractStringBuilder;"), (90, .methodref 18 138), (0, .nameAndType 5 139), (0, u "(Ljava/lang/StringBuilder;)V"), (5, u "()V"), (10, u "()I"), (135, u "([CII)Ljava/lang/StringBuilder;"), (50, .methodref 2 344), (0, .nameAndType 345 156), (0, u "length"), (3, .class_ 350), (0, u "java/lang/Appendable"), (0, .class_ 352), (0, u "java/io/Serializable"), (0, .class_ 354), (0, u "java/lang/Comparable"), (0, .class_ 356), (0, u "java/lang/CharSequence"), (0, u "serialVersionUID"), (0, u "J"), (40, u "toString"), (0, u "()Ljava/lang/String;")] 21

def k13m0 : Method := { name := "<init>", desc := "()V", sig := { parameters := [], returnType := none }, accessFlags := 1, code := none }
def k13c1 : Code := { maxStack := 2, maxLocals := 2, code := jdk_67_method_2_code, exceptionTable := #[], attributes := #[] }
def k13m1 : Method := { name := "<init>", desc := "(I)V", sig := { parameters := [.int], returnType := none }, accessFlags := 1, code := some k13c1 }
def k13c2 : Code := { maxStack := 2, maxLocals := 2, code := jdk_67_method_7_code, exceptionTable := #[], attributes := #[] }
def k13m2 : Method := { name := "append", desc := "(Ljava/lang/String;)Ljava/lang/StringBuilder;", sig := { parameters := [(.object "java/lang/String")], returnType := some (.object "java/lang/StringBuilder") }, accessFlags := 1, code := some k13c2 }
def k13c3 : Code := { maxStack := 4, maxLocals := 4, code := jdk_67_method_12_code, exceptionTable := #[], attributes := #[] }
def k13m3 : Method := { name := "append", desc := "([CII)Ljava/lang/StringBuilder;", sig := { parameters := [(.array .char), .int, .int], returnType := some (.object "java/lang/StringBuilder") }, accessFlags := 1, code := some k13c3 }
def k13c4 : Code := { maxStack := 3, maxLocals := 1, code := jdk_67_method_42_code, exceptionTable := #[], attributes := #[] }
def k13m4 : Method := { name := "toString", desc := "()Ljava/lang/String;", sig := { parameters := [], returnType := some (.object "java/lang/String") }, accessFlags := 1, code := some k13c4 }
def k13c5 : Code := { maxStack := 1, maxLocals := 1, code := jdk_67_method_93_code, exceptionTable := #[], attributes := #[] }
def k13m5 : Method := { name := "length", desc := "()I", sig := { parameters := [], returnType := some .int }, accessFlags := 4161, code := some k13c5 }
/-- java/lang/StringBuilder -/
def k13 : Class := { plain "java/lang/StringBuilder" (some 12) with
  accessFlags := 49
  interfaces := #[11, 3, 4, 5]
  cf := some (fileOf pool13 24 #[] #[{ accessFlags := 1, nameIndex := 5, descriptorIndex := 145, attributes := #[] }, { accessFlags := 1, nameIndex := 5, descriptorIndex := 6, attributes := #[] }, { accessFlags := 1, nameIndex := 27, descriptorIndex := 28, attributes := #[] }, { accessFlags := 1, nameIndex := 27, descriptorIndex := 292, attributes := #[] }, { accessFlags := 1, nameIndex := 399, descriptorIndex := 400, attributes := #[] }, { accessFlags := 4161, nameIndex := 345, descriptorIndex := 156, attributes := #[] }] 49 2 #[349, 351, 353, 355] #[{ accessFlags := 24, nameIndex := 357, descriptorIndex := 358, attributes := #[] }])
  fields := #[{ name := "serialVersionUID", type := .long, accessFlags := 24, slot := 0, constantValue := 0 }]
  methods := #[k13m0, k13m1, k13m2, k13m3, k13m4, k13m5]
  instanceTypes := #[(.array .byte), .byte, .boolean, .int]
  staticTypes := #[.long]
  resolved := Array.replicate 422 none
  statics := none }

def pool14 : Array CpInfo := pool [(1, .class_ 2), (0, u "java/lang/Math"), (1, .class_ 6), (1, u "java/lang/Object"), (0, u "<init>"), (0, u "()V"), (89, .class_ 100), (1, u "java/lang/Math$RandomNumberGeneratorHolder"), (71, u "negativeZeroFloatBits"), (0, u "J"), (2, u "negativeZeroDoubleBits"), (21, u "max"), (46, u "$assertionsDisabled"), (0, u "Z"), (88, u "(II)I"), (2, u "twoToTheDoubleScaleDown"), (0, u "D"), (4, u "twoToTheDoubleScaleUp"), (9, u "E"), (3, u "PI"), (2, u "TAU"), (2, u "DEGREES_TO_RADIANS"), (0, u "RADIANS_TO_DEGREES")] 94

def k14m0 : Method := { name := "<init>", desc := "()V", sig := { parameters := [], returnType := none }, accessFlags := 2, code := none }
def k14c1 : Code := { maxStack := 2, maxLocals := 2, code := jdk_29_method_65_code, exceptionTable := #[], attributes := #[] }
def k14m1 : Method := { name := "max", desc := "(II)I", sig := { parameters := [.int, .int], returnType := some .int }, accessFlags := 9, code := some k14c1 }
/-- java/lang/Math -/
def k14 : Class := { plain "java/lang/Math" (some 0) with
  accessFlags := 49
  interfaces := #[]
  cf := some (fileOf pool14 1 #[.nestMembers #[98]] #[{ accessFlags := 2, nameIndex := 7, descriptorIndex := 8, attributes := #[] }, { accessFlags := 9, nameIndex := 198, descriptorIndex := 335, attributes := #[] }] 49 4 #[] #[{ accessFlags := 25, nameIndex := 354, descriptorIndex := 339, attributes := #[] }, { accessFlags := 25, nameIndex := 358, descriptorIndex := 339, attributes := #[] }, { accessFlags := 25, nameIndex := 361, descriptorIndex := 339, attributes := #[] }, { accessFlags := 26, nameIndex := 364, descriptorIndex := 339, attributes := #[] }, { accessFlags := 26, nameIndex := 365, descriptorIndex := 339, attributes := #[] }, { accessFlags := 26, nameIndex := 172, descriptorIndex := 173, attributes := #[] }, { accessFlags := 26, nameIndex := 176, descriptorIndex := 173, attributes := #[] }, { accessFlags := 8, nameIndex := 344, descriptorIndex := 339, attributes := #[] }, { accessFlags := 8, nameIndex := 338, descriptorIndex := 339, attributes := #[] }, { accessFlags := 4120, nameIndex := 245, descriptorIndex := 246, attributes := #[] }])
  fields := #[{ name := "E", type := .double, accessFlags := 25, slot := 0, constantValue := 0 }, { name := "PI", type := .double, accessFlags := 25, slot := 1, constantValue := 0 }, { name := "TAU", type := .double, accessFlags := 25, slot := 2, constantValue := 0 }, { name := "DEGREES_TO_RADIANS", type := .double, accessFlags := 26, slot := 3, constantValue := 0 }, { name := "RADIANS_TO_DEGREES", type := .double, accessFlags := 26, slot := 4, constantValue := 0 }, { name := "negativeZeroFloatBits", type := .long, accessFlags := 26, slot := 5, constantValue := 0 }, { name := "negativeZeroDoubleBits", type := .long, accessFlags := 26, slot := 6, constantValue := 0 }, { name := "twoToTheDoubleScaleUp", type := .double, accessFlags := 8, slot := 7, constantValue := 0 }, { name := "twoToTheDoubleScaleDown", type := .double, accessFlags := 8, slot := 8, constantValue := 0 }, { name := "$assertionsDisabled", type := .boolean, accessFlags := 4120, slot := 9, constantValue := 0 }]
  methods := #[k14m0, k14m1]
  instanceTypes := #[]
  staticTypes := #[.double, .double, .double, .double, .double, .long, .long, .double, .double, .boolean]
  resolved := Array.replicate 460 none
  statics := none }

def pool15 : Array CpInfo := pool [(2, .class_ 4), (1, u "java/lang/Object"), (0, u "<init>"), (0, u "()V"), (1, .class_ 10), (1, u "java/lang/System"), (0, u "allowSecurityManager"), (0, u "I"), (16, u "cons"), (0, u "Ljava/io/Console;"), (77, .class_ 110), (1, u "java/lang/System$CallersHolder"), (43, u "initialErrStream"), (0, u "Ljava/io/PrintStream;"), (19, u "security"), (0, u "Ljava/lang/SecurityManager;"), (31, .class_ 209), (0, u "java/lang/System$1"), (7, u "props"), (0, u "Ljava/util/Properties;"), (2, u "lineSeparator"), (0, u "Ljava/lang/String;"), (96, .class_ 321), (1, u "java/lang/System$LoggerFinder"), (5, .class_ 328), (0, u "java/lang/System$Logger"), (67, u "err"), (2, u "out"), (91, u "notSupportedJnuEncoding"), (15, u "in"), (17, u "initialIn"), (0, u "Ljava/io/InputStream;"), (35, u "bootLayer"), (0, u "Ljava/lang/ModuleLayer;"), (99, .class_ 664), (0, u "java/lang/System$2"), (9, u "NEVER"), (2, u "MAYBE"), (49, u "arraycopy"), (0, u "(Ljava/lang/Object;ILjava/lang/Object;II)V"), (72, .class_ 802), (0, u "java/lang/System$Logger$Level")] 31

def k15m0 : Method := { name := "<init>", desc := "()V", sig := { parameters := [], returnType := none }, accessFlags := 2, code := none }
def k15m1 : Method := { name := "arraycopy", desc := "(Ljava/lang/Object;ILjava/lang/Object;II)V", sig := { parameters := [(.object "java/lang/Object"), .int, (.object "java/lang/Object"), .int, .int], returnType := none }, accessFlags := 265, code := none }
/-- java/lang/System -/
def k15 : Class := { plain "java/lang/System" (some 0) with
  accessFlags := 49
  interfaces := #[]
  cf := some (fileOf pool15 8 #[.nestMembers #[319, 327, 801, 108, 663, 208]] #[{ accessFlags := 2, nameIndex := 5, descriptorIndex := 6, attributes := #[] }, { accessFlags := 265, nameIndex := 727, descriptorIndex := 728, attributes := #[] }] 49 2 #[] #[{ accessFlags := 25, nameIndex := 507, descriptorIndex := 526, attributes := #[] }, { accessFlags := 25, nameIndex := 399, descriptorIndex := 155, attributes := #[] }, { accessFlags := 25, nameIndex := 396, descriptorIndex := 155, attributes := #[] }, { accessFlags := 10, nameIndex := 525, descriptorIndex := 526, attributes := #[] }, { accessFlags := 26, nameIndex := 674, descriptorIndex := 12, attributes := #[] }, { accessFlags := 26, nameIndex := 677, descriptorIndex := 12, attributes := #[] }, { accessFlags := 10, nameIndex := 11, descriptorIndex := 12, attributes := #[] }, { accessFlags := 74, nameIndex := 175, descriptorIndex := 176, attributes := #[] }, { accessFlags := 10, nameIndex := 491, descriptorIndex := 222, attributes := #[] }, { accessFlags := 74, nameIndex := 29, descriptorIndex := 30, attributes := #[] }, { accessFlags := 74, nameIndex := 154, descriptorIndex := 155, attributes := #[] }, { accessFlags := 10, nameIndex := 217, descriptorIndex := 218, attributes := #[] }, { accessFlags := 10, nameIndex := 221, descriptorIndex := 222, attributes := #[] }, { accessFlags := 8, nameIndex := 562, descriptorIndex := 563, attributes := #[] }])
  fields := #[{ name := "in", type := (.object "java/io/InputStream"), accessFlags := 25, slot := 0, constantValue := 0 }, { name := "out", type := (.object "java/io/PrintStream"), accessFlags := 25, slot := 1, constantValue := 0 }, { name := "err", type := (.object "java/io/PrintStream"), accessFlags := 25, slot := 2, constantValue := 0 }, { name := "initialIn", type := (.object "java/io/InputStream"), accessFlags := 10, slot := 3, constantValue := 0 }, { name := "NEVER", type := .int, accessFlags := 26, slot := 4, constantValue := 0 }, { name := "MAYBE", type := .int, accessFlags := 26, slot := 5, constantValue := 0 }, { name := "allowSecurityManager", type := .int, accessFlags := 10, slot := 6, constantValue := 0 }, { name := "security", type := (.object "java/lang/SecurityManager"), accessFlags := 74, slot := 7, constantValue := 0 }, { name := "notSupportedJnuEncoding", type := (.object "java/lang/String"), accessFlags := 10, slot := 8, constantValue := 0 }, { name := "cons", type := (.object "java/io/Console"), accessFlags := 74, slot := 9, constantValue := 0 }, { name := "initialErrStream", type := (.object "java/io/PrintStream"), accessFlags := 74, slot := 10, constantValue := 0 }, { name := "props", type := (.object "java/util/Properties"), accessFlags := 10, slot := 11, constantValue := 0 }, { name := "lineSeparator", type := (.object "java/lang/String"), accessFlags := 10, slot := 12, constantValue := 0 }, { name := "bootLayer", type := (.object "java/lang/ModuleLayer"), accessFlags := 8, slot := 13, constantValue := 0 }]
  methods := #[k15m0, k15m1]
  instanceTypes := #[]
  staticTypes := #[(.object "java/io/InputStream"), (.object "java/io/PrintStream"), (.object "java/io/PrintStream"), (.object "java/io/InputStream"), .int, .int, .int, (.object "java/lang/SecurityManager"), (.object "java/lang/String"), (.object "java/io/Console"), (.object "java/io/PrintStream"), (.object "java/util/Properties"), (.object "java/lang/String"), (.object "java/lang/ModuleLayer")]
  resolved := Array.replicate 834 none
  statics := none }

def pool16 : Array CpInfo := pool [(2, .class_ 4), (1, u "java/lang/Object"), (0, u "<init>"), (0, u "()V"), (7, .class_ 16), (1, u "java/util/Arrays"), (57, .class_ 76), (1, u "java/util/Arrays$NaturalOrder"), (32, u "()Ljava/lang/Object;"), (3, .class_ 115), (1, u "java/util/Arrays$LegacyMergeSort"), (1, u "Z"), (10, .nameAndType 129 109), (0, u "clone"), (9, u "copyOfRange"), (170, .methodref 311 128), (0, .class_ 312), (0, u "[B"), (29, u "([BII)[B"), (32, .class_ 376), (0, u "java/util/Arrays$ArrayList"), (68, u "$assertionsDisabled"), (269, u "MIN_ARRAY_SORT_GRAN"), (0, u "I"), (2, u "INSERTIONSORT_THRESHOLD"), (255, .class_ 976), (0, u "java/util/Arrays$ArrayItr")] 52

def k16m0 : Method := { name := "<init>", desc := "()V", sig := { parameters := [], returnType := none }, accessFlags := 2, code := none }
def k16c1 : Code := { maxStack := 3, maxLocals := 3, code := jdk_65_method_132_code, exceptionTable := #[], attributes := #[] }
def k16m1 : Method := { name := "copyOfRange", desc := "([BII)[B", sig := { parameters := [(.array .byte), .int, .int], returnType := some (.array .byte) }, accessFlags := 9, code := some k16c1 }
/-- java/util/Arrays -/
def k16 : Class := { plain "java/util/Arrays" (some 0) with
  accessFlags := 49
  interfaces := #[]
  cf := some (fileOf pool16 14 #[.nestMembers #[975, 375, 113, 74]] #[{ accessFlags := 2, nameIndex := 5, descriptorIndex := 6, attributes := #[] }, { accessFlags := 9, nameIndex := 139, descriptorIndex := 342, attributes := #[] }] 49 2 #[] #[{ accessFlags := 26, nameIndex := 715, descriptorIndex := 716, attributes := #[] }, { accessFlags := 26, nameIndex := 719, descriptorIndex := 716, attributes := #[] }, { accessFlags := 4120, nameIndex := 445, descriptorIndex := 117, attributes := #[] }])
  fields := #[{ name := "MIN_ARRAY_SORT_GRAN", type := .int, accessFlags := 26, slot := 0, constantValue := 0 }, { name := "INSERTIONSORT_THRESHOLD", type := .int, accessFlags := 26, slot := 1, constantValue := 0 }, { name := "$assertionsDisabled", type := .boolean, accessFlags := 4120, slot := 2, constantValue := 0 }]
  methods := #[k16m0, k16m1]
  instanceTypes := #[]
  staticTypes := #[.int, .int, .boolean]
  resolved := Array.replicate 1029 none
  statics := none }

def pool17 : Array CpInfo := pool [(1, .class_ 2), (0, u "java/lang/Cloneable"), (0, .class_ 4), (0, u "java/lang/Object")] 2

/-- java/lang/Cloneable -/
def k17 : Class := { plain "java/lang/Cloneable" (some 0) with
  accessFlags := 1537
  interfaces := #[]
  cf := some (fileOf pool17 1 #[] #[] 1537 3 #[] #[])
  fields := #[]
  methods := #[]
  instanceTypes := #[]
  staticTypes := #[]
  resolved := Array.replicate 7 none
  statics := none }

def pool18 : Array CpInfo := pool [(2, .class_ 4), (1, u "java/lang/Object"), (0, u "<init>"), (0, u "()V"), (35, .class_ 44), (1, u "java/util/Objects"), (0, u "requireNonNull"), (48, u "(Ljava/lang/Object;Ljava/lang/String;)Ljava/lang/Object;")] 89

def k18m0 : Method := { name := "<init>", desc := "()V", sig := { parameters := [], returnType := none }, accessFlags := 2, code := none }
def k18c1 : Code := { maxStack := 3, maxLocals := 2, code := jdk_31_method_11_code, exceptionTable := #[], attributes := #[] }
def k18m1 : Method := { name := "requireNonNull", desc := "(Ljava/lang/Object;Ljava/lang/String;)Ljava/lang/Object;", sig := { parameters := [(.object "java/lang/Object"), (.object "java/lang/String")], returnType := some (.object "java/lang/Object") }, accessFlags := 9, code := some k18c1 }
/-- java/util/Objects -/
def k18 : Class := { plain "java/util/Objects" (some 0) with
  accessFlags := 49
  interfaces := #[]
  cf := some (fileOf pool18 42 #[] #[{ accessFlags := 2, nameIndex := 5, descriptorIndex := 6, attributes := #[] }, { accessFlags := 9, nameIndex := 45, descriptorIndex := 94, attributes := #[] }] 49 2 #[] #[])
  fields := #[]
  methods := #[k18m0, k18m1]
  instanceTypes := #[]
  staticTypes := #[]
  resolved := Array.replicate 184 none
  statics := none }

def pool19 : Array CpInfo := pool [(9, u "<init>"), (6, .class_ 18), (1, u "java/lang/Object"), (0, u "()V"), (1, .class_ 23), (1, u "jdk/internal/util/ArraysSupport"), (0, u "LOG2_ARRAY_LONG_INDEX_SCALE"), (0, u "I"), (2, u "U"), (0, u "Ljdk/internal/misc/Unsafe;"), (8, u "BIG_ENDIAN"), (0, u "Z"), (8, u "LOG2_BYTE_BIT_SIZE"), (4, u "LOG2_ARRAY_INT_INDEX_SCALE"), (54, u "JLA"), (0, u "Ljdk/internal/access/JavaLangAccess;"), (11, u "LOG2_ARRAY_BOOLEAN_INDEX_SCALE"), (9, u "LOG2_ARRAY_BYTE_INDEX_SCALE"), (5, u "LOG2_ARRAY_CHAR_INDEX_SCALE"), (5, u "LOG2_ARRAY_SHORT_INDEX_SCALE"), (5, u "mismatch"), (12, u "LOG2_ARRAY_FLOAT_INDEX_SCALE"), (24, u "LOG2_ARRAY_DOUBLE_INDEX_SCALE"), (89, u "T_BOOLEAN"), (2, u "T_CHAR"), (1, u "T_FLOAT"), (1, u "T_DOUBLE"), (1, u "T_BYTE"), (1, u "T_SHORT"), (1, u "T_INT"), (1, u "T_LONG"), (1, u "SOFT_MAX_ARRAY_LENGTH"), (42, u "([BI[BII)I")] 40

def k19m0 : Method := { name := "<init>", desc := "()V", sig := { parameters := [], returnType := none }, accessFlags := 2, code := none }
def k19c1 : Code := { maxStack := 8, maxLocals := 8, code := jdk_48_method_14_code, exceptionTable := #[], attributes := #[] }
def k19m1 : Method := { name := "mismatch", desc := "([BI[BII)I", sig := { parameters := [(.array .byte), .int, (.array .byte), .int, .int], returnType := some .int }, accessFlags := 9, code := some k19c1 }
/-- jdk/internal/util/ArraysSupport -/
def k19 : Class := { plain "jdk/internal/util/ArraysSupport" (some 0) with
  accessFlags := 33
  interfaces := #[]
  cf := some (fileOf pool19 21 #[] #[{ accessFlags := 2, nameIndex := 9, descriptorIndex := 19, attributes := #[] }, { accessFlags := 9, nameIndex := 149, descriptorIndex := 337, attributes := #[] }] 33 16 #[] #[{ accessFlags := 24, nameIndex := 28, descriptorIndex := 29, attributes := #[] }, { accessFlags := 26, nameIndex := 38, descriptorIndex := 39, attributes := #[] }, { accessFlags := 25, nameIndex := 121, descriptorIndex := 25, attributes := #[] }, { accessFlags := 25, nameIndex := 131, descriptorIndex := 25, attributes := #[] }, { accessFlags := 25, nameIndex := 137, descriptorIndex := 25, attributes := #[] }, { accessFlags := 25, nameIndex := 143, descriptorIndex := 25, attributes := #[] }, { accessFlags := 25, nameIndex := 53, descriptorIndex := 25, attributes := #[] }, { accessFlags := 25, nameIndex := 24, descriptorIndex := 25, attributes := #[] }, { accessFlags := 25, nameIndex := 162, descriptorIndex := 25, attributes := #[] }, { accessFlags := 25, nameIndex := 187, descriptorIndex := 25, attributes := #[] }, { accessFlags := 26, nameIndex := 48, descriptorIndex := 25, attributes := #[] }, { accessFlags := 25, nameIndex := 277, descriptorIndex := 25, attributes := #[] }, { accessFlags := 25, nameIndex := 280, descriptorIndex := 25, attributes := #[] }, { accessFlags := 25, nameIndex := 282, descriptorIndex := 25, attributes := #[] }, { accessFlags := 25, nameIndex := 284, descriptorIndex := 25, attributes := #[] }, { accessFlags := 25, nameIndex := 286, descriptorIndex := 25, attributes := #[] }, { accessFlags := 25, nameIndex := 288, descriptorIndex := 25, attributes := #[] }, { accessFlags := 25, nameIndex := 290, descriptorIndex := 25, attributes := #[] }, { accessFlags := 25, nameIndex := 292, descriptorIndex := 25, attributes := #[] }, { accessFlags := 26, nameIndex := 108, descriptorIndex := 109, attributes := #[] }, { accessFlags := 25, nameIndex := 294, descriptorIndex := 25, attributes := #[] }])
  fields := #[{ name := "U", type := (.object "jdk/internal/misc/Unsafe"), accessFlags := 24, slot := 0, constantValue := 0 }, { name := "BIG_ENDIAN", type := .boolean, accessFlags := 26, slot := 1, constantValue := 0 }, { name := "LOG2_ARRAY_BOOLEAN_INDEX_SCALE", type := .int, accessFlags := 25, slot := 2, constantValue := 0 }, { name := "LOG2_ARRAY_BYTE_INDEX_SCALE", type := .int, accessFlags := 25, slot := 3, constantValue := 0 }, { name := "LOG2_ARRAY_CHAR_INDEX_SCALE", type := .int, accessFlags := 25, slot := 4, constantValue := 0 }, { name := "LOG2_ARRAY_SHORT_INDEX_SCALE", type := .int, accessFlags := 25, slot := 5, constantValue := 0 }, { name := "LOG2_ARRAY_INT_INDEX_SCALE", type := .int, accessFlags := 25, slot := 6, constantValue := 0 }, { name := "LOG2_ARRAY_LONG_INDEX_SCALE", type := .int, accessFlags := 25, slot := 7, constantValue := 0 }, { name := "LOG2_ARRAY_FLOAT_INDEX_SCALE", type := .int, accessFlags := 25, slot := 8, constantValue := 0 }, { name := "LOG2_ARRAY_DOUBLE_INDEX_SCALE", type := .int, accessFlags := 25, slot := 9, constantValue := 0 }, { name := "LOG2_BYTE_BIT_SIZE", type := .int, accessFlags := 26, slot := 10, constantValue := 0 }, { name := "T_BOOLEAN", type := .int, accessFlags := 25, slot := 11, constantValue := 0 }, { name := "T_CHAR", type := .int, accessFlags := 25, slot := 12, constantValue := 0 }, { name := "T_FLOAT", type := .int, accessFlags := 25, slot := 13, constantValue := 0 }, { name := "T_DOUBLE", type := .int, accessFlags := 25, slot := 14, constantValue := 0 }, { name := "T_BYTE", type := .int, accessFlags := 25, slot := 15, constantValue := 0 }, { name := "T_SHORT", type := .int, accessFlags := 25, slot := 16, constantValue := 0 }, { name := "T_INT", type := .int, accessFlags := 25, slot := 17, constantValue := 0 }, { name := "T_LONG", type := .int, accessFlags := 25, slot := 18, constantValue := 0 }, { name := "JLA", type := (.object "jdk/internal/access/JavaLangAccess"), accessFlags := 26, slot := 19, constantValue := 0 }, { name := "SOFT_MAX_ARRAY_LENGTH", type := .int, accessFlags := 25, slot := 20, constantValue := 0 }]
  methods := #[k19m0, k19m1]
  instanceTypes := #[]
  staticTypes := #[(.object "jdk/internal/misc/Unsafe"), .boolean, .int, .int, .int, .int, .int, .int, .int, .int, .int, .int, .int, .int, .int, .int, .int, .int, .int, (.object "jdk/internal/access/JavaLangAccess"), .int]
  resolved := Array.replicate 378 none
  statics := none }

def pool20 : Array CpInfo := pool [(6, .class_ 8), (1, u "java/lang/Object"), (0, u "<init>"), (0, u "()V"), (1, .class_ 14), (1, u "java/lang/StringUTF16"), (31, u "$assertionsDisabled"), (0, u "Z"), (13, u "HI_BYTE_SHIFT"), (0, u "I"), (2, u "LO_BYTE_SHIFT"), (49, .methodref 12 116), (0, .nameAndType 117 118), (0, u "compress"), (0, u "([CI[BII)I"), (3, u "([CII)[B"), (138, u "coderFromArrayLen"), (0, u "([BI)B"), (106, .class_ 371), (1, u "java/lang/StringUTF16$LinesSpliterator"), (58, u "MAX_LENGTH"), (196, .class_ 628), (0, u "java/lang/StringUTF16$CodePointsSpliterator"), (0, .class_ 630), (0, u "java/lang/StringUTF16$CharsSpliterator")] 4

def k20m0 : Method := { name := "<init>", desc := "()V", sig := { parameters := [], returnType := none }, accessFlags := 0, code := none }
def k20c1 : Code := { maxStack := 2, maxLocals := 2, code := jdk_52_method_15_code, exceptionTable := #[], attributes := #[] }
def k20m1 : Method := { name := "coderFromArrayLen", desc := "([BI)B", sig := { parameters := [(.array .byte), .int], returnType := some .byte }, accessFlags := 8, code := some k20c1 }
def k20c2 : Code := { maxStack := 5, maxLocals := 6, code := jdk_52_method_16_code, exceptionTable := #[], attributes := #[] }
def k20m2 : Method := { name := "compress", desc := "([CII)[B", sig := { parameters := [(.array .char), .int, .int], returnType := some (.array .byte) }, accessFlags := 9, code := some k20c2 }
def k20c3 : Code := { maxStack := 3, maxLocals := 7, code := jdk_52_method_21_code, exceptionTable := #[], attributes := #[] }
def k20m3 : Method := { name := "compress", desc := "([CI[BII)I", sig := { parameters := [(.array .char), .int, (.array .byte), .int, .int], returnType := some .int }, accessFlags := 9, code := some k20c3 }
/-- java/lang/StringUTF16 -/
def k20 : Class := { plain "java/lang/StringUTF16" (some 0) with
  accessFlags := 48
  interfaces := #[]
  cf := some (fileOf pool20 12 #[.nestMembers #[627, 629, 369]] #[{ accessFlags := 0, nameIndex := 9, descriptorIndex := 10, attributes := #[] }, { accessFlags := 8, nameIndex := 261, descriptorIndex := 262, attributes := #[] }, { accessFlags := 9, nameIndex := 117, descriptorIndex := 122, attributes := #[] }, { accessFlags := 9, nameIndex := 117, descriptorIndex := 118, attributes := #[] }] 48 6 #[] #[{ accessFlags := 26, nameIndex := 61, descriptorIndex := 62, attributes := #[] }, { accessFlags := 26, nameIndex := 65, descriptorIndex := 62, attributes := #[] }, { accessFlags := 24, nameIndex := 430, descriptorIndex := 62, attributes := #[] }, { accessFlags := 4120, nameIndex := 46, descriptorIndex := 47, attributes := #[] }])
  fields := #[{ name := "HI_BYTE_SHIFT", type := .int, accessFlags := 26, slot := 0, constantValue := 0 }, { name := "LO_BYTE_SHIFT", type := .int, accessFlags := 26, slot := 1, constantValue := 0 }, { name := "MAX_LENGTH", type := .int, accessFlags := 24, slot := 2, constantValue := 0 }, { name := "$assertionsDisabled", type := .boolean, accessFlags := 4120, slot := 3, constantValue := 0 }]
  methods := #[k20m0, k20m1, k20m2, k20m3]
  instanceTypes := #[]
  staticTypes := #[.int, .int, .int, .boolean]
  resolved := Array.replicate 635 none
  statics := none }

/-- the primitive byte -/
def k21 : Class := { plain "byte" none with kind := .primitive 'B', accessFlags := 0x411 }
/-- [B -/
def k22 : Class := { plain "[B" (some 0) with kind := .array 21 .byte, interfaces := #[17, 3], accessFlags := 1041 }

/-- the primitive char -/
def k23 : Class := { plain "char" none with kind := .primitive 'C', accessFlags := 0x411 }
/-- [C -/
def k24 : Class := { plain "[C" (some 0) with kind := .array 23 .char, interfaces := #[17, 3], accessFlags := 1041 }

/-- the primitive int -/
def k25 : Class := { plain "int" none with kind := .primitive 'I', accessFlags := 0x411 }
/-- [I -/
def k26 : Class := { plain "[I" (some 0) with kind := .array 25 .int, interfaces := #[17, 3], accessFlags := 1041 }

def heap : Heap := #[{ cls := 2, slots := #[.null, .ref 3, .int 0], vm := .statics 2 },
  { cls := 8, slots := #[.long 0, .int 1, .null, .int 0, .null, .int 0, .int 0], vm := .statics 8 },
  { cls := 10, slots := #[.null, .null, .null], vm := .statics 10 },
  { cls := 22, slots := #[.int (-1), .int (-1), .int (-1), .int (-1), .int (-1), .int (-1), .int (-1), .int (-1), .int (-1), .int (-1), .int (-1), .int (-1), .int (-1), .int (-1), .int (-1), .int (-1), .int (-1), .int (-1), .int (-1), .int (-1), .int (-1), .int (-1), .int (-1), .int (-1), .int (-1), .int (-1), .int (-1), .int (-1), .int (-1), .int (-1), .int (-1), .int (-1), .int (-1), .int (-1), .int (-1), .int (-1), .int (-1), .int (-1), .int (-1), .int (-1), .int (-1), .int (-1), .int (-1), .int (-1), .int (-1), .int (-1), .int (-1), .int (-1), .int 0, .int 1, .int 2, .int 3, .int 4, .int 5, .int 6, .int 7, .int 8, .int 9, .int (-1), .int (-1), .int (-1), .int (-1), .int (-1), .int (-1), .int (-1), .int 10, .int 11, .int 12, .int 13, .int 14, .int 15, .int 16, .int 17, .int 18, .int 19, .int 20, .int 21, .int 22, .int 23, .int 24, .int 25, .int 26, .int 27, .int 28, .int 29, .int 30, .int 31, .int 32, .int 33, .int 34, .int 35, .int (-1), .int (-1), .int (-1), .int (-1), .int (-1), .int (-1), .int 36, .int 37, .int 38, .int 39, .int 40, .int 41, .int 42, .int 43, .int 44, .int 45, .int 46, .int 47, .int 48, .int 49, .int 50, .int 51, .int 52, .int 53, .int 54, .int 55, .int 56, .int 57, .int 58, .int 59, .int 60, .int 61, .int (-1), .int (-1), .int (-1), .int (-1), .int (-1)], vm := .none }]
def classes : Array Class := #[k0, k1, k2, k3, k4, k5, k6, k7, k8, k9, k10, k11, k12, k13, k14, k15, k16, k17, k18, k19, k20, k21, k22, k23, k24, k25, k26]
def interned : List (Array UInt16 × Addr) := []
def slotsUsed : Nat := 141
def theMethod : MethodId := ⟨1, 1⟩
def args0 : Array Value := #[.long 5, .int 7, .int 42]
def aboutOver (below : List Frame) : State where
  vm := { classes := classes, interned := interned.toArray }
  heap := heap
  slotsUsed := slotsUsed
  threads := #[{ frames := .invoking theMethod args0 :: below }]
def below0 : List Frame := [.native { method := ⟨0, 0⟩, args := #[] }]
def about1 : State := aboutOver below0
def p0 : Program := .bare "" "" ""
def e0 : Env := launch0.env 0 0 0
theorem w_frames : about1.frames = Frame.invoking theMethod args0 :: below0 := rfl
set_option maxRecDepth 65536 in
theorem w_args : argsFit about1.vm theMethod args0 = true := by decide +kernel
set_option maxRecDepth 65536 in
theorem w_heap : heapFits about1 = true := by decide +kernel
set_option maxRecDepth 65536 in
theorem w_runnable : about1.curStatus? = some .runnable := by decide +kernel
set_option maxRecDepth 65536 in
theorem w_alone : about1.alone = true := by decide +kernel
set_option maxRecDepth 65536 in
theorem w_named : about1.methodNamed? x = some theMethod := by decide +kernel
set_option maxRecDepth 65536 in
theorem w_hears : about1.hears theMethod below0 = true := by decide +kernel
set_option maxRecDepth 65536 in
theorem w_ripe : about1.ripe theMethod args0 below0 = true := by decide +kernel
theorem w_running : about1.status = .running := rfl
set_option maxRecDepth 65536 in
theorem w_room : about1.hasRoom e0.platform room_1 = true :=
  launch0.hasRoom_least _ room_1 (by decide +kernel) (by decide +kernel) (by decide +kernel) (by decide +kernel) (by decide +kernel) (by decide +kernel)
theorem allAtoms_all (ts : List Jvm.Cond) (a : Array Jvm.Value) (st : Jvm.State) : (allAtoms ts).before a st = ts.all (fun c => c.before a st) := by
  induction ts with
  | nil => rfl
  | cons c t ih =>
    show (Jvm.Cond.and c (allAtoms t)).before a st = _
    rw [Jvm.Cond.before_and, ih, List.all_cons]
def words1 : List Jvm.Cond := Jvm.Cond.code x code maxLocals ret :: tables_1
/-- a 'code' word, met by the world's own term for the bytes: nothing is compared byte by byte -/
theorem code_word {y : MethodName} {bytes : ByteArray} {mx : Nat} {rt : Option FieldType} {a : Array Value} {s : State} {m : MethodId} {meth : Method} {c : Code} (h1 : s.methodNamed? y = some m) (h2 : s.vm.method? m = some meth) (h3 : meth.code = some c) (h4 : c.code = bytes)
    (h5 : (c.maxLocals == mx && c.exceptionTable.isEmpty && decide (c.maxStack ≤ mostOperands) && decide (meth.sig.returnType = rt) && !meth.locks && decide (parseMethodDescriptor y.desc = some meth.sig)) = true) : (Jvm.Cond.code y bytes mx rt).before a s = true := by
  simp only [Bool.and_eq_true, beq_iff_eq, Bool.not_eq_true', decide_eq_true_eq] at h5
  obtain ⟨⟨⟨⟨⟨g1, g2⟩, g3⟩, g4⟩, g5⟩, g6⟩ := h5
  simp [Cond.before, Cond.holds, Cond.value, h1, h2, h3, h4, g1, g2, g3, g4, g5, g6]
def isCode : Jvm.Cond → Bool
  | .code _ _ _ _ => true
  | _ => false
theorem all_split {L : List Jvm.Cond} {P : Jvm.Cond → Bool} (h1 : L.all (fun c => isCode c || P c) = true) (h2 : ∀ c ∈ L.filter isCode, P c = true) : L.all P = true := by
  refine List.all_eq_true.mpr fun c hc => ?_
  have h := List.all_eq_true.mp h1 c hc
  rcases Bool.eq_false_or_eq_true (isCode c) with hi | hi
  · exact h2 c (List.mem_filter.mpr ⟨hc, hi⟩)
  · simpa [hi] using h
set_option maxRecDepth 65536 in
theorem w_c0 : (Jvm.Cond.code x code maxLocals ret).before args0 about1 = true := code_word (m := ⟨1, 1⟩) (meth := k1m1) (c := k1c1) (by decide +kernel) rfl rfl rfl (by decide +kernel)
set_option maxRecDepth 65536 in
theorem w_c1 : (Jvm.Cond.code ({ cls := "com/example/hoarfrost/hoarfrost/IdForm", name := "decimal", desc := "()Lcom/example/hoarfrost/hoarfrost/IdForm;" } : Jvm.MethodName) prog_6_method_3_code (0 : Nat) (Option.some (Jvm.ClassFile.FieldType.object "com/example/hoarfrost/hoarfrost/IdForm"))).before args0 about1 = true := code_word (m := ⟨2, 1⟩) (meth := k2m1) (c := k2c1) (by decide +kernel) rfl rfl rfl (by decide +kernel)
set_option maxRecDepth 65536 in
theorem w_c2 : (Jvm.Cond.code ({ cls := "com/example/hoarfrost/hoarfrost/IdForm", name := "<init>", desc := "(IILjava/lang/String;Ljava/lang/String;)V" } : Jvm.MethodName) prog_6_method_1_code (5 : Nat) (Option.none : Option Jvm.ClassFile.FieldType)).before args0 about1 = true := code_word (m := ⟨2, 0⟩) (meth := k2m0) (c := k2c0) (by decide +kernel) rfl rfl rfl (by decide +kernel)
set_option maxRecDepth 65536 in
theorem w_c3 : (Jvm.Cond.code ({ cls := "java/lang/Object", name := "<init>", desc := "()V" } : Jvm.MethodName) object_method_1_code (1 : Nat) (Option.none : Option Jvm.ClassFile.FieldType)).before args0 about1 = true := code_word (m := ⟨0, 0⟩) (meth := k0m0) (c := k0c0) (by decide +kernel) rfl rfl rfl (by decide +kernel)
set_option maxRecDepth 65536 in
theorem w_c4 : (Jvm.Cond.code ({ cls := "com/example/hoarfrost/hoarfrost/IdForm", name := "format", desc := "(J)Ljava/lang/String;" } : Jvm.MethodName) prog_6_method_7_code (9 : Nat) (Option.some (Jvm.ClassFile.FieldType.object "java/lang/String"))).before args0 about1 = true := code_word (m := ⟨2, 2⟩) (meth := k2m2) (c := k2c2) (by decide +kernel) rfl rfl rfl (by decide +kernel)
set_option maxRecDepth 65536 in
theorem w_c5 : (Jvm.Cond.code ({ cls := "java/lang/String", name := "charAt", desc := "(I)C" } : Jvm.MethodName) jdk_42_method_56_code (2 : Nat) (Option.some Jvm.ClassFile.FieldType.char)).before args0 about1 = true := code_word (m := ⟨8, 4⟩) (meth := k8m4) (c := k8c4) (by decide +kernel) rfl rfl rfl (by decide +kernel)
set_option maxRecDepth 65536 in
theorem w_c6 : (Jvm.Cond.code ({ cls := "java/lang/String", name := "isLatin1", desc := "()Z" } : Jvm.MethodName) jdk_42_method_154_code (1 : Nat) (Option.some Jvm.ClassFile.FieldType.boolean)).before args0 about1 = true := code_word (m := ⟨8, 16⟩) (meth := k8m16) (c := k8c16) (by decide +kernel) rfl rfl rfl (by decide +kernel)
set_option maxRecDepth 65536 in
theorem w_c7 : (Jvm.Cond.code ({ cls := "java/lang/StringLatin1", name := "charAt", desc := "([BI)C" } : Jvm.MethodName) jdk_43_method_2_code (2 : Nat) (Option.some Jvm.ClassFile.FieldType.char)).before args0 about1 = true := code_word (m := ⟨9, 1⟩) (meth := k9m1) (c := k9c1) (by decide +kernel) rfl rfl rfl (by decide +kernel)
set_option maxRecDepth 65536 in
theorem w_c8 : (Jvm.Cond.code ({ cls := "java/lang/String", name := "checkIndex", desc := "(II)V" } : Jvm.MethodName) jdk_42_method_155_code (2 : Nat) (Option.none : Option Jvm.ClassFile.FieldType)).before args0 about1 = true := code_word (m := ⟨8, 17⟩) (meth := k8m17) (c := k8c17) (by decide +kernel) rfl rfl rfl (by decide +kernel)
set_option maxRecDepth 65536 in
theorem w_c9 : (Jvm.Cond.code ({ cls := "jdk/internal/util/Preconditions", name := "checkIndex", desc := "(IILjava/util/function/BiFunction;)I" } : Jvm.MethodName) jdk_41_method_11_code (3 : Nat) (Option.some Jvm.ClassFile.FieldType.int)).before args0 about1 = true := code_word (m := ⟨10, 1⟩) (meth := k10m1) (c := k10c1) (by decide +kernel) rfl rfl rfl (by decide +kernel)
set_option maxRecDepth 65536 in
theorem w_c10 : (Jvm.Cond.code ({ cls := "java/lang/String", name := "length", desc := "()I" } : Jvm.MethodName) jdk_42_method_54_code (1 : Nat) (Option.some Jvm.ClassFile.FieldType.int)).before args0 about1 = true := code_word (m := ⟨8, 3⟩) (meth := k8m3) (c := k8c3) (by decide +kernel) rfl rfl rfl (by decide +kernel)
set_option maxRecDepth 65536 in
theorem w_c11 : (Jvm.Cond.code ({ cls := "java/lang/String", name := "coder", desc := "()B" } : Jvm.MethodName) jdk_42_method_152_code (1 : Nat) (Option.some Jvm.ClassFile.FieldType.byte)).before args0 about1 = true := code_word (m := ⟨8, 15⟩) (meth := k8m15) (c := k8c15) (by decide +kernel) rfl rfl rfl (by decide +kernel)
set_option maxRecDepth 65536 in
theorem w_c12 : (Jvm.Cond.code ({ cls := "java/lang/Math", name := "max", desc := "(II)I" } : Jvm.MethodName) jdk_29_method_65_code (2 : Nat) (Option.some Jvm.ClassFile.FieldType.int)).before args0 about1 = true := code_word (m := ⟨14, 1⟩) (meth := k14m1) (c := k14c1) (by decide +kernel) rfl rfl rfl (by decide +kernel)
set_option maxRecDepth 65536 in
theorem w_c13 : (Jvm.Cond.code ({ cls := "java/lang/StringBuilder", name := "<init>", desc := "(I)V" } : Jvm.MethodName) jdk_67_method_2_code (2 : Nat) (Option.none : Option Jvm.ClassFile.FieldType)).before args0 about1 = true := code_word (m := ⟨13, 1⟩) (meth := k13m1) (c := k13c1) (by decide +kernel) rfl rfl rfl (by decide +kernel)
set_option maxRecDepth 65536 in
theorem w_c14 : (Jvm.Cond.code ({ cls := "java/lang/AbstractStringBuilder", name := "<init>", desc := "(I)V" } : Jvm.MethodName) jdk_68_method_2_code (2 : Nat) (Option.none : Option Jvm.ClassFile.FieldType)).before args0 about1 = true := code_word (m := ⟨12, 1⟩) (meth := k12m1) (c := k12c1) (by decide +kernel) rfl rfl rfl (by decide +kernel)
set_option maxRecDepth 65536 in
theorem w_c15 : (Jvm.Cond.code ({ cls := "java/lang/StringBuilder", name := "append", desc := "(Ljava/lang/String;)Ljava/lang/StringBuilder;" } : Jvm.MethodName) jdk_67_method_7_code (2 : Nat) (Option.some (Jvm.ClassFile.FieldType.object "java/lang/StringBuilder"))).before args0 about1 = true := code_word (m := ⟨13, 2⟩) (meth := k13m2) (c := k13c2) (by decide +kernel) rfl rfl rfl (by decide +kernel)
set_option maxRecDepth 65536 in
theorem w_c16 : (Jvm.Cond.code ({ cls := "java/lang/AbstractStringBuilder", name := "append", desc := "(Ljava/lang/String;)Ljava/lang/AbstractStringBuilder;" } : Jvm.MethodName) jdk_68_method_22_code (3 : Nat) (Option.some (Jvm.ClassFile.FieldType.object "java/lang/AbstractStringBuilder"))).before args0 about1 = true := code_word (m := ⟨12, 4⟩) (meth := k12m4) (c := k12c4) (by decide +kernel) rfl rfl rfl (by decide +kernel)
set_option maxRecDepth 65536 in
theorem w_c17 : (Jvm.Cond.code ({ cls := "java/lang/AbstractStringBuilder", name := "ensureCapacityInternal", desc := "(I)V" } : Jvm.MethodName) jdk_68_method_9_code (3 : Nat) (Option.none : Option Jvm.ClassFile.FieldType)).before args0 about1 = true := code_word (m := ⟨12, 3⟩) (meth := k12m3) (c := k12c3) (by decide +kernel) rfl rfl rfl (by decide +kernel)
set_option maxRecDepth 65536 in
theorem w_c18 : (Jvm.Cond.code ({ cls := "java/lang/AbstractStringBuilder", name := "putStringAt", desc := "(ILjava/lang/String;)V" } : Jvm.MethodName) jdk_68_method_73_code (3 : Nat) (Option.none : Option Jvm.ClassFile.FieldType)).before args0 about1 = true := code_word (m := ⟨12, 9⟩) (meth := k12m9) (c := k12c9) (by decide +kernel) rfl rfl rfl (by decide +kernel)
set_option maxRecDepth 65536 in
theorem w_c19 : (Jvm.Cond.code ({ cls := "java/lang/AbstractStringBuilder", name := "inflateIfNeededFor", desc := "(Ljava/lang/String;)V" } : Jvm.MethodName) jdk_68_method_71_code (2 : Nat) (Option.none : Option Jvm.ClassFile.FieldType)).before args0 about1 = true := code_word (m := ⟨12, 8⟩) (meth := k12m8) (c := k12c8) (by decide +kernel) rfl rfl rfl (by decide +kernel)
set_option maxRecDepth 65536 in
theorem w_c20 : (Jvm.Cond.code ({ cls := "java/lang/String", name := "getBytes", desc := "([BIB)V" } : Jvm.MethodName) jdk_42_method_147_code (4 : Nat) (Option.none : Option Jvm.ClassFile.FieldType)).before args0 about1 = true := code_word (m := ⟨8, 11⟩) (meth := k8m11) (c := k8c11) (by decide +kernel) rfl rfl rfl (by decide +kernel)
set_option maxRecDepth 65536 in
theorem w_c21 : (Jvm.Cond.code ({ cls := "java/lang/String", name := "repeat", desc := "(I)Ljava/lang/String;" } : Jvm.MethodName) jdk_42_method_145_code (5 : Nat) (Option.some (Jvm.ClassFile.FieldType.object "java/lang/String"))).before args0 about1 = true := code_word (m := ⟨8, 10⟩) (meth := k8m10) (c := k8c10) (by decide +kernel) rfl rfl rfl (by decide +kernel)
set_option maxRecDepth 65536 in
theorem w_c22 : (Jvm.Cond.code ({ cls := "java/lang/StringBuilder", name := "append", desc := "([CII)Ljava/lang/StringBuilder;" } : Jvm.MethodName) jdk_67_method_12_code (4 : Nat) (Option.some (Jvm.ClassFile.FieldType.object "java/lang/StringBuilder"))).before args0 about1 = true := code_word (m := ⟨13, 3⟩) (meth := k13m3) (c := k13c3) (by decide +kernel) rfl rfl rfl (by decide +kernel)
set_option maxRecDepth 65536 in
theorem w_c23 : (Jvm.Cond.code ({ cls := "java/lang/AbstractStringBuilder", name := "append", desc := "([CII)Ljava/lang/AbstractStringBuilder;" } : Jvm.MethodName) jdk_68_method_29_code (5 : Nat) (Option.some (Jvm.ClassFile.FieldType.object "java/lang/AbstractStringBuilder"))).before args0 about1 = true := code_word (m := ⟨12, 5⟩) (meth := k12m5) (c := k12c5) (by decide +kernel) rfl rfl rfl (by decide +kernel)
set_option maxRecDepth 65536 in
theorem w_c24 : (Jvm.Cond.code ({ cls := "jdk/internal/util/Preconditions", name := "checkFromToIndex", desc := "(IIILjava/util/function/BiFunction;)I" } : Jvm.MethodName) jdk_41_method_12_code (4 : Nat) (Option.some Jvm.ClassFile.FieldType.int)).before args0 about1 = true := code_word (m := ⟨10, 2⟩) (meth := k10m2) (c := k10c2) (by decide +kernel) rfl rfl rfl (by decide +kernel)
set_option maxRecDepth 65536 in
theorem w_c25 : (Jvm.Cond.code ({ cls := "java/lang/AbstractStringBuilder", name := "appendChars", desc := "([CII)V" } : Jvm.MethodName) jdk_68_method_74_code (9 : Nat) (Option.none : Option Jvm.ClassFile.FieldType)).before args0 about1 = true := code_word (m := ⟨12, 10⟩) (meth := k12m10) (c := k12c10) (by decide +kernel) rfl rfl rfl (by decide +kernel)
set_option maxRecDepth 65536 in
theorem w_c26 : (Jvm.Cond.code ({ cls := "java/lang/AbstractStringBuilder", name := "isLatin1", desc := "()Z" } : Jvm.MethodName) jdk_68_method_68_code (1 : Nat) (Option.some Jvm.ClassFile.FieldType.boolean)).before args0 about1 = true := code_word (m := ⟨12, 7⟩) (meth := k12m7) (c := k12c7) (by decide +kernel) rfl rfl rfl (by decide +kernel)
set_option maxRecDepth 65536 in
theorem w_c27 : (Jvm.Cond.code ({ cls := "java/lang/StringLatin1", name := "canEncode", desc := "(C)Z" } : Jvm.MethodName) jdk_43_method_3_code (1 : Nat) (Option.some Jvm.ClassFile.FieldType.boolean)).before args0 about1 = true := code_word (m := ⟨9, 2⟩) (meth := k9m2) (c := k9c2) (by decide +kernel) rfl rfl rfl (by decide +kernel)
set_option maxRecDepth 65536 in
theorem w_c28 : (Jvm.Cond.code ({ cls := "java/lang/StringBuilder", name := "toString", desc := "()Ljava/lang/String;" } : Jvm.MethodName) jdk_67_method_42_code (1 : Nat) (Option.some (Jvm.ClassFile.FieldType.object "java/lang/String"))).before args0 about1 = true := code_word (m := ⟨13, 4⟩) (meth := k13m4) (c := k13c4) (by decide +kernel) rfl rfl rfl (by decide +kernel)
set_option maxRecDepth 65536 in
theorem w_c29 : (Jvm.Cond.code ({ cls := "java/lang/String", name := "<init>", desc := "(Ljava/lang/StringBuilder;)V" } : Jvm.MethodName) jdk_42_method_53_code (2 : Nat) (Option.none : Option Jvm.ClassFile.FieldType)).before args0 about1 = true := code_word (m := ⟨8, 2⟩) (meth := k8m2) (c := k8c2) (by decide +kernel) rfl rfl rfl (by decide +kernel)
set_option maxRecDepth 65536 in
theorem w_c30 : (Jvm.Cond.code ({ cls := "java/lang/String", name := "<init>", desc := "(Ljava/lang/AbstractStringBuilder;Ljava/lang/Void;)V" } : Jvm.MethodName) jdk_42_method_150_code (5 : Nat) (Option.none : Option Jvm.ClassFile.FieldType)).before args0 about1 = true := code_word (m := ⟨8, 13⟩) (meth := k8m13) (c := k8c13) (by decide +kernel) rfl rfl rfl (by decide +kernel)
set_option maxRecDepth 65536 in
theorem w_c31 : (Jvm.Cond.code ({ cls := "java/lang/AbstractStringBuilder", name := "getValue", desc := "()[B" } : Jvm.MethodName) jdk_68_method_64_code (1 : Nat) (Option.some (Jvm.ClassFile.FieldType.array Jvm.ClassFile.FieldType.byte))).before args0 about1 = true := code_word (m := ⟨12, 6⟩) (meth := k12m6) (c := k12c6) (by decide +kernel) rfl rfl rfl (by decide +kernel)
set_option maxRecDepth 65536 in
theorem w_c32 : (Jvm.Cond.code ({ cls := "java/lang/StringBuilder", name := "length", desc := "()I" } : Jvm.MethodName) jdk_67_method_93_code (1 : Nat) (Option.some Jvm.ClassFile.FieldType.int)).before args0 about1 = true := code_word (m := ⟨13, 5⟩) (meth := k13m5) (c := k13c5) (by decide +kernel) rfl rfl rfl (by decide +kernel)
set_option maxRecDepth 65536 in
theorem w_c33 : (Jvm.Cond.code ({ cls := "java/lang/AbstractStringBuilder", name := "length", desc := "()I" } : Jvm.MethodName) jdk_68_method_6_code (1 : Nat) (Option.some Jvm.ClassFile.FieldType.int)).before args0 about1 = true := code_word (m := ⟨12, 2⟩) (meth := k12m2) (c := k12c2) (by decide +kernel) rfl rfl rfl (by decide +kernel)
set_option maxRecDepth 65536 in
theorem w_c34 : (Jvm.Cond.code ({ cls := "java/util/Arrays", name := "copyOfRange", desc := "([BII)[B" } : Jvm.MethodName) jdk_65_method_132_code (3 : Nat) (Option.some (Jvm.ClassFile.FieldType.array Jvm.ClassFile.FieldType.byte))).before args0 about1 = true := code_word (m := ⟨16, 1⟩) (meth := k16m1) (c := k16c1) (by decide +kernel) rfl rfl rfl (by decide +kernel)
set_option maxRecDepth 65536 in
theorem w_c35 : (Jvm.Cond.code ({ cls := "com/example/hoarfrost/hoarfrost/IdFormDecimalPinLaw", name := "digit", desc := "(I)C" } : Jvm.MethodName) method_3_code (1 : Nat) (Option.some Jvm.ClassFile.FieldType.char)).before args0 about1 = true := code_word (m := ⟨1, 2⟩) (meth := k1m2) (c := k1c2) (by decide +kernel) rfl rfl rfl (by decide +kernel)
set_option maxRecDepth 65536 in
theorem w_c36 : (Jvm.Cond.code ({ cls := "com/example/hoarfrost/hoarfrost/IdForm", name := "parse", desc := "(Ljava/lang/String;)J" } : Jvm.MethodName) prog_6_method_8_code (9 : Nat) (Option.some Jvm.ClassFile.FieldType.long)).before args0 about1 = true := code_word (m := ⟨2, 3⟩) (meth := k2m3) (c := k2c3) (by decide +kernel) rfl rfl rfl (by decide +kernel)
set_option maxRecDepth 65536 in
theorem w_c37 : (Jvm.Cond.code ({ cls := "java/util/Objects", name := "requireNonNull", desc := "(Ljava/lang/Object;Ljava/lang/String;)Ljava/lang/Object;" } : Jvm.MethodName) jdk_31_method_11_code (2 : Nat) (Option.some (Jvm.ClassFile.FieldType.object "java/lang/Object"))).before args0 about1 = true := code_word (m := ⟨18, 1⟩) (meth := k18m1) (c := k18c1) (by decide +kernel) rfl rfl rfl (by decide +kernel)
set_option maxRecDepth 65536 in
theorem w_c38 : (Jvm.Cond.code ({ cls := "java/lang/String", name := "startsWith", desc := "(Ljava/lang/String;)Z" } : Jvm.MethodName) jdk_42_method_76_code (2 : Nat) (Option.some Jvm.ClassFile.FieldType.boolean)).before args0 about1 = true := code_word (m := ⟨8, 7⟩) (meth := k8m7) (c := k8c7) (by decide +kernel) rfl rfl rfl (by decide +kernel)
set_option maxRecDepth 65536 in
theorem w_c39 : (Jvm.Cond.code ({ cls := "java/lang/String", name := "startsWith", desc := "(Ljava/lang/String;I)Z" } : Jvm.MethodName) jdk_42_method_75_code (8 : Nat) (Option.some Jvm.ClassFile.FieldType.boolean)).before args0 about1 = true := code_word (m := ⟨8, 6⟩) (meth := k8m6) (c := k8c6) (by decide +kernel) rfl rfl rfl (by decide +kernel)
set_option maxRecDepth 65536 in
theorem w_c40 : (Jvm.Cond.code ({ cls := "jdk/internal/util/ArraysSupport", name := "mismatch", desc := "([BI[BII)I" } : Jvm.MethodName) jdk_48_method_14_code (8 : Nat) (Option.some Jvm.ClassFile.FieldType.int)).before args0 about1 = true := code_word (m := ⟨19, 1⟩) (meth := k19m1) (c := k19c1) (by decide +kernel) rfl rfl rfl (by decide +kernel)
set_option maxRecDepth 65536 in
theorem w_c41 : (Jvm.Cond.code ({ cls := "java/lang/String", name := "endsWith", desc := "(Ljava/lang/String;)Z" } : Jvm.MethodName) jdk_42_method_77_code (2 : Nat) (Option.some Jvm.ClassFile.FieldType.boolean)).before args0 about1 = true := code_word (m := ⟨8, 8⟩) (meth := k8m8) (c := k8c8) (by decide +kernel) rfl rfl rfl (by decide +kernel)
set_option maxRecDepth 65536 in
theorem w_c42 : (Jvm.Cond.code ({ cls := "com/example/hoarfrost/hoarfrost/IdFormDecimalPinLaw", name := "small", desc := "(I)Ljava/lang/String;" } : Jvm.MethodName) method_4_code (1 : Nat) (Option.some (Jvm.ClassFile.FieldType.object "java/lang/String"))).before args0 about1 = true := code_word (m := ⟨1, 3⟩) (meth := k1m3) (c := k1c3) (by decide +kernel) rfl rfl rfl (by decide +kernel)
set_option maxRecDepth 65536 in
theorem w_c43 : (Jvm.Cond.code ({ cls := "java/lang/String", name := "valueOf", desc := "(C)Ljava/lang/String;" } : Jvm.MethodName) jdk_42_method_139_code (1 : Nat) (Option.some (Jvm.ClassFile.FieldType.object "java/lang/String"))).before args0 about1 = true := code_word (m := ⟨8, 9⟩) (meth := k8m9) (c := k8c9) (by decide +kernel) rfl rfl rfl (by decide +kernel)
set_option maxRecDepth 65536 in
theorem w_c44 : (Jvm.Cond.code ({ cls := "java/lang/StringLatin1", name := "toBytes", desc := "(C)[B" } : Jvm.MethodName) jdk_43_method_46_code (1 : Nat) (Option.some (Jvm.ClassFile.FieldType.array Jvm.ClassFile.FieldType.byte))).before args0 about1 = true := code_word (m := ⟨9, 4⟩) (meth := k9m4) (c := k9c4) (by decide +kernel) rfl rfl rfl (by decide +kernel)
set_option maxRecDepth 65536 in
theorem w_c45 : (Jvm.Cond.code ({ cls := "java/lang/String", name := "<init>", desc := "([BB)V" } : Jvm.MethodName) jdk_42_method_151_code (3 : Nat) (Option.none : Option Jvm.ClassFile.FieldType)).before args0 about1 = true := code_word (m := ⟨8, 14⟩) (meth := k8m14) (c := k8c14) (by decide +kernel) rfl rfl rfl (by decide +kernel)
set_option maxRecDepth 65536 in
theorem w_c46 : (Jvm.Cond.code ({ cls := "java/lang/String", name := "equals", desc := "(Ljava/lang/Object;)Z" } : Jvm.MethodName) jdk_42_method_66_code (3 : Nat) (Option.some Jvm.ClassFile.FieldType.boolean)).before args0 about1 = true := code_word (m := ⟨8, 5⟩) (meth := k8m5) (c := k8c5) (by decide +kernel) rfl rfl rfl (by decide +kernel)
set_option maxRecDepth 65536 in
theorem w_c47 : (Jvm.Cond.code ({ cls := "java/lang/StringLatin1", name := "equals", desc := "([B[B)Z" } : Jvm.MethodName) jdk_43_method_13_code (3 : Nat) (Option.some Jvm.ClassFile.FieldType.boolean)).before args0 about1 = true := code_word (m := ⟨9, 3⟩) (meth := k9m3) (c := k9c3) (by decide +kernel) rfl rfl rfl (by decide +kernel)
set_option maxRecDepth 65536 in
theorem w_c48 : (Jvm.Cond.code ({ cls := "java/lang/String", name := "<init>", desc := "([C)V" } : Jvm.MethodName) jdk_42_method_3_code (2 : Nat) (Option.none : Option Jvm.ClassFile.FieldType)).before args0 about1 = true := code_word (m := ⟨8, 1⟩) (meth := k8m1) (c := k8c1) (by decide +kernel) rfl rfl rfl (by decide +kernel)
set_option maxRecDepth 65536 in
theorem w_c49 : (Jvm.Cond.code ({ cls := "java/lang/String", name := "<init>", desc := "([CIILjava/lang/Void;)V" } : Jvm.MethodName) jdk_42_method_149_code (6 : Nat) (Option.none : Option Jvm.ClassFile.FieldType)).before args0 about1 = true := code_word (m := ⟨8, 12⟩) (meth := k8m12) (c := k8c12) (by decide +kernel) rfl rfl rfl (by decide +kernel)
set_option maxRecDepth 65536 in
theorem w_c50 : (Jvm.Cond.code ({ cls := "java/lang/StringUTF16", name := "compress", desc := "([CII)[B" } : Jvm.MethodName) jdk_52_method_16_code (6 : Nat) (Option.some (Jvm.ClassFile.FieldType.array Jvm.ClassFile.FieldType.byte))).before args0 about1 = true := code_word (m := ⟨20, 2⟩) (meth := k20m2) (c := k20c2) (by decide +kernel) rfl rfl rfl (by decide +kernel)
set_option maxRecDepth 65536 in
theorem w_c51 : (Jvm.Cond.code ({ cls := "java/lang/StringUTF16", name := "compress", desc := "([CI[BII)I" } : Jvm.MethodName) jdk_52_method_21_code (7 : Nat) (Option.some Jvm.ClassFile.FieldType.int)).before args0 about1 = true := code_word (m := ⟨20, 3⟩) (meth := k20m3) (c := k20c3) (by decide +kernel) rfl rfl rfl (by decide +kernel)
set_option maxRecDepth 65536 in
theorem w_c52 : (Jvm.Cond.code ({ cls := "java/lang/StringUTF16", name := "coderFromArrayLen", desc := "([BI)B" } : Jvm.MethodName) jdk_52_method_15_code (2 : Nat) (Option.some Jvm.ClassFile.FieldType.byte)).before args0 about1 = true := code_word (m := ⟨20, 1⟩) (meth := k20m1) (c := k20c1) (by decide +kernel) rfl rfl rfl (by decide +kernel)
def codes1 : List Jvm.Cond := [Jvm.Cond.code x code maxLocals ret, Jvm.Cond.code ({ cls := "com/example/hoarfrost/hoarfrost/IdForm", name := "decimal", desc := "()Lcom/example/hoarfrost/hoarfrost/IdForm;" } : Jvm.MethodName) prog_6_method_3_code (0 : Nat) (Option.some (Jvm.ClassFile.FieldType.object "com/example/hoarfrost/hoarfrost/IdForm")), Jvm.Cond.code ({ cls := "com/example/hoarfrost/hoarfrost/IdForm", name := "<init>", desc := "(IILjava/lang/String;Ljava/lang/String;)V" } : Jvm.MethodName) prog_6_method_1_code (5 : Nat) (Option.none : Option Jvm.ClassFile.FieldType), Jvm.Cond.code ({ cls := "java/lang/Object", name := "<init>", desc := "()V" } : Jvm.MethodName) object_method_1_code (1 : Nat) (Option.none : Option Jvm.ClassFile.FieldType), Jvm.Cond.code ({ cls := "com/example/hoarfrost/hoarfrost/IdForm", name := "format", desc := "(J)Ljava/lang/String;" } : Jvm.MethodName) prog_6_method_7_code (9 : Nat) (Option.some (Jvm.ClassFile.FieldType.object "java/lang/String")), Jvm.Cond.code ({ cls := "java/lang/String", name := "charAt", desc := "(I)C" } : Jvm.MethodName) jdk_42_method_56_code (2 : Nat) (Option.some Jvm.ClassFile.FieldType.char), Jvm.Cond.code ({ cls := "java/lang/String", name := "isLatin1", desc := "()Z" } : Jvm.MethodName) jdk_42_method_154_code (1 : Nat) (Option.some Jvm.ClassFile.FieldType.boolean), Jvm.Cond.code ({ cls := "java/lang/StringLatin1", name := "charAt", desc := "([BI)C" } : Jvm.MethodName) jdk_43_method_2_code (2 : Nat) (Option.some Jvm.ClassFile.FieldType.char), Jvm.Cond.code ({ cls := "java/lang/String", name := "checkIndex", desc := "(II)V" } : Jvm.MethodName) jdk_42_method_155_code (2 : Nat) (Option.none : Option Jvm.ClassFile.FieldType), Jvm.Cond.code ({ cls := "jdk/internal/util/Preconditions", name := "checkIndex", desc := "(IILjava/util/function/BiFunction;)I" } : Jvm.MethodName) jdk_41_method_11_code (3 : Nat) (Option.some Jvm.ClassFile.FieldType.int), Jvm.Cond.code ({ cls := "java/lang/String", name := "length", desc := "()I" } : Jvm.MethodName) jdk_42_method_54_code (1 : Nat) (Option.some Jvm.ClassFile.FieldType.int), Jvm.Cond.code ({ cls := "java/lang/String", name := "coder", desc := "()B" } : Jvm.MethodName) jdk_42_method_152_code (1 : Nat) (Option.some Jvm.ClassFile.FieldType.byte), Jvm.Cond.code ({ cls := "java/lang/Math", name := "max", desc := "(II)I" } : Jvm.MethodName) jdk_29_method_65_code (2 : Nat) (Option.some Jvm.ClassFile.FieldType.int), Jvm.Cond.code ({ cls := "java/lang/StringBuilder", name := "<init>", desc := "(I)V" } : Jvm.MethodName) jdk_67_method_2_code (2 : Nat) (Option.none : Option Jvm.ClassFile.FieldType), Jvm.Cond.code ({ cls := "java/lang/AbstractStringBuilder", name := "<init>", desc := "(I)V" } : Jvm.MethodName) jdk_68_method_2_code (2 : Nat) (Option.none : Option Jvm.ClassFile.FieldType), Jvm.Cond.code ({ cls := "java/lang/StringBuilder", name := "append", desc := "(Ljava/lang/String;)Ljava/lang/StringBuilder;" } : Jvm.MethodName) jdk_67_method_7_code (2 : Nat) (Option.some (Jvm.ClassFile.FieldType.object "java/lang/StringBuilder")), Jvm.Cond.code ({ cls := "java/lang/AbstractStringBuilder", name := "append", desc := "(Ljava/lang/String;)Ljava/lang/AbstractStringBuilder;" } : Jvm.MethodName) jdk_68_method_22_code (3 : Nat) (Option.some (Jvm.ClassFile.FieldType.object "java/lang/AbstractStringBuilder")), Jvm.Cond.code ({ cls := "java/lang/AbstractStringBuilder", name := "ensureCapacityInternal", desc := "(I)V" } : Jvm.MethodName) jdk_68_method_9_code (3 : Nat) (Option.none : Option Jvm.ClassFile.FieldType), Jvm.Cond.code ({ cls := "java/lang/AbstractStringBuilder", name := "putStringAt", desc := "(ILjava/lang/String;)V" } : Jvm.MethodName) jdk_68_method_73_code (3 : Nat) (Option.none : Option Jvm.ClassFile.FieldType), Jvm.Cond.code ({ cls := "java/lang/AbstractStringBuilder", name := "inflateIfNeededFor", desc := "(Ljava/lang/String;)V" } : Jvm.MethodName) jdk_68_method_71_code (2 : Nat) (Option.none : Option Jvm.ClassFile.FieldType), Jvm.Cond.code ({ cls := "java/lang/String", name := "getBytes", desc := "([BIB)V" } : Jvm.MethodName) jdk_42_method_147_code (4 : Nat) (Option.none : Option Jvm.ClassFile.FieldType), Jvm.Cond.code ({ cls := "java/lang/String", name := "repeat", desc := "(I)Ljava/lang/String;" } : Jvm.MethodName) jdk_42_method_145_code (5 : Nat) (Option.some (Jvm.ClassFile.FieldType.object "java/lang/String")), Jvm.Cond.code ({ cls := "java/lang/StringBuilder", name := "append", desc := "([CII)Ljava/lang/StringBuilder;" } : Jvm.MethodName) jdk_67_method_12_code (4 : Nat) (Option.some (Jvm.ClassFile.FieldType.object "java/lang/StringBuilder")), Jvm.Cond.code ({ cls := "java/lang/AbstractStringBuilder", name := "append", desc := "([CII)Ljava/lang/AbstractStringBuilder;" } : Jvm.MethodName) jdk_68_method_29_code (5 : Nat) (Option.some (Jvm.ClassFile.FieldType.object "java/lang/AbstractStringBuilder")), Jvm.Cond.code ({ cls := "jdk/internal/util/Preconditions", name := "checkFromToIndex", desc := "(IIILjava/util/function/BiFunction;)I" } : Jvm.MethodName) jdk_41_method_12_code (4 : Nat) (Option.some Jvm.ClassFile.FieldType.int), Jvm.Cond.code ({ cls := "java/lang/AbstractStringBuilder", name := "appendChars", desc := "([CII)V" } : Jvm.MethodName) jdk_68_method_74_code (9 : Nat) (Option.none : Option Jvm.ClassFile.FieldType), Jvm.Cond.code ({ cls := "java/lang/AbstractStringBuilder", name := "isLatin1", desc := "()Z" } : Jvm.MethodName) jdk_68_method_68_code (1 : Nat) (Option.some Jvm.ClassFile.FieldType.boolean), Jvm.Cond.code ({ cls := "java/lang/StringLatin1", name := "canEncode", desc := "(C)Z" } : Jvm.MethodName) jdk_43_method_3_code (1 : Nat) (Option.some Jvm.ClassFile.FieldType.boolean), Jvm.Cond.code ({ cls := "java/lang/StringBuilder", name := "toString", desc := "()Ljava/lang/String;" } : Jvm.MethodName) jdk_67_method_42_code (1 : Nat) (Option.some (Jvm.ClassFile.FieldType.object "java/lang/String")), Jvm.Cond.code ({ cls := "java/lang/String", name := "<init>", desc := "(Ljava/lang/StringBuilder;)V" } : Jvm.MethodName) jdk_42_method_53_code (2 : Nat) (Option.none : Option Jvm.ClassFile.FieldType), Jvm.Cond.code ({ cls := "java/lang/String", name := "<init>", desc := "(Ljava/lang/AbstractStringBuilder;Ljava/lang/Void;)V" } : Jvm.MethodName) jdk_42_method_150_code (5 : Nat) (Option.none : Option Jvm.ClassFile.FieldType), Jvm.Cond.code ({ cls := "java/lang/AbstractStringBuilder", name := "getValue", desc := "()[B" } : Jvm.MethodName) jdk_68_method_64_code (1 : Nat) (Option.some (Jvm.ClassFile.FieldType.array Jvm.ClassFile.FieldType.byte)), Jvm.Cond.code ({ cls := "java/lang/StringBuilder", name := "length", desc := "()I" } : Jvm.MethodName) jdk_67_method_93_code (1 : Nat) (Option.some Jvm.ClassFile.FieldType.int), Jvm.Cond.code ({ cls := "java/lang/AbstractStringBuilder", name := "length", desc := "()I" } : Jvm.MethodName) jdk_68_method_6_code (1 : Nat) (Option.some Jvm.ClassFile.FieldType.int), Jvm.Cond.code ({ cls := "java/util/Arrays", name := "copyOfRange", desc := "([BII)[B" } : Jvm.MethodName) jdk_65_method_132_code (3 : Nat) (Option.some (Jvm.ClassFile.FieldType.array Jvm.ClassFile.FieldType.byte)), Jvm.Cond.code ({ cls := "com/example/hoarfrost/hoarfrost/IdFormDecimalPinLaw", name := "digit", desc := "(I)C" } : Jvm.MethodName) method_3_code (1 : Nat) (Option.some Jvm.ClassFile.FieldType.char), Jvm.Cond.code ({ cls := "com/example/hoarfrost/hoarfrost/IdForm", name := "parse", desc := "(Ljava/lang/String;)J" } : Jvm.MethodName) prog_6_method_8_code (9 : Nat) (Option.some Jvm.ClassFile.FieldType.long), Jvm.Cond.code ({ cls := "java/util/Objects", name := "requireNonNull", desc := "(Ljava/lang/Object;Ljava/lang/String;)Ljava/lang/Object;" } : Jvm.MethodName) jdk_31_method_11_code (2 : Nat) (Option.some (Jvm.ClassFile.FieldType.object "java/lang/Object")), Jvm.Cond.code ({ cls := "java/lang/String", name := "startsWith", desc := "(Ljava/lang/String;)Z" } : Jvm.MethodName) jdk_42_method_76_code (2 : Nat) (Option.some Jvm.ClassFile.FieldType.boolean), Jvm.Cond.code ({ cls := "java/lang/String", name := "startsWith", desc := "(Ljava/lang/String;I)Z" } : Jvm.MethodName) jdk_42_method_75_code (8 : Nat) (Option.some Jvm.ClassFile.FieldType.boolean), Jvm.Cond.code ({ cls := "jdk/internal/util/ArraysSupport", name := "mismatch", desc := "([BI[BII)I" } : Jvm.MethodName) jdk_48_method_14_code (8 : Nat) (Option.some Jvm.ClassFile.FieldType.int), Jvm.Cond.code ({ cls := "java/lang/String", name := "endsWith", desc := "(Ljava/lang/String;)Z" } : Jvm.MethodName) jdk_42_method_77_code (2 : Nat) (Option.some Jvm.ClassFile.FieldType.boolean), Jvm.Cond.code ({ cls := "com/example/hoarfrost/hoarfrost/IdFormDecimalPinLaw", name := "small", desc := "(I)Ljava/lang/String;" } : Jvm.MethodName) method_4_code (1 : Nat) (Option.some (Jvm.ClassFile.FieldType.object "java/lang/String")), Jvm.Cond.code ({ cls := "java/lang/String", name := "valueOf", desc := "(C)Ljava/lang/String;" } : Jvm.MethodName) jdk_42_method_139_code (1 : Nat) (Option.some (Jvm.ClassFile.FieldType.object "java/lang/String")), Jvm.Cond.code ({ cls := "java/lang/StringLatin1", name := "toBytes", desc := "(C)[B" } : Jvm.MethodName) jdk_43_method_46_code (1 : Nat) (Option.some (Jvm.ClassFile.FieldType.array Jvm.ClassFile.FieldType.byte)), Jvm.Cond.code ({ cls := "java/lang/String", name := "<init>", desc := "([BB)V" } : Jvm.MethodName) jdk_42_method_151_code (3 : Nat) (Option.none : Option Jvm.ClassFile.FieldType), Jvm.Cond.code ({ cls := "java/lang/String", name := "equals", desc := "(Ljava/lang/Object;)Z" } : Jvm.MethodName) jdk_42_method_66_code (3 : Nat) (Option.some Jvm.ClassFile.FieldType.boolean), Jvm.Cond.code ({ cls := "java/lang/StringLatin1", name := "equals", desc := "([B[B)Z" } : Jvm.MethodName) jdk_43_method_13_code (3 : Nat) (Option.some Jvm.ClassFile.FieldType.boolean), Jvm.Cond.code ({ cls := "java/lang/String", name := "<init>", desc := "([C)V" } : Jvm.MethodName) jdk_42_method_3_code (2 : Nat) (Option.none : Option Jvm.ClassFile.FieldType), Jvm.Cond.code ({ cls := "java/lang/String", name := "<init>", desc := "([CIILjava/lang/Void;)V" } : Jvm.MethodName) jdk_42_method_149_code (6 : Nat) (Option.none : Option Jvm.ClassFile.FieldType), Jvm.Cond.code ({ cls := "java/lang/StringUTF16", name := "compress", desc := "([CII)[B" } : Jvm.MethodName) jdk_52_method_16_code (6 : Nat) (Option.some (Jvm.ClassFile.FieldType.array Jvm.ClassFile.FieldType.byte)), Jvm.Cond.code ({ cls := "java/lang/StringUTF16", name := "compress", desc := "([CI[BII)I" } : Jvm.MethodName) jdk_52_method_21_code (7 : Nat) (Option.some Jvm.ClassFile.FieldType.int), Jvm.Cond.code ({ cls := "java/lang/StringUTF16", name := "coderFromArrayLen", desc := "([BI)B" } : Jvm.MethodName) jdk_52_method_15_code (2 : Nat) (Option.some Jvm.ClassFile.FieldType.byte)]
set_option maxRecDepth 65536 in
theorem codes_eq : words1.filter isCode = codes1 := rfl
theorem w_codes : ∀ c ∈ words1.filter isCode, c.before args0 about1 = true := by
  rw [codes_eq]
  intro c hc
  simp only [codes1, List.mem_cons, List.not_mem_nil, or_false] at hc
  rcases hc with rfl | rfl | rfl | rfl | rfl | rfl | rfl | rfl | rfl | rfl | rfl | rfl | rfl | rfl | rfl | rfl | rfl | rfl | rfl | rfl | rfl | rfl | rfl | rfl | rfl | rfl | rfl | rfl | rfl | rfl | rfl | rfl | rfl | rfl | rfl | rfl | rfl | rfl | rfl | rfl | rfl | rfl | rfl | rfl | rfl | rfl | rfl | rfl | rfl | rfl | rfl | rfl | rfl
  · exact w_c0
  · exact w_c1
  · exact w_c2
  · exact w_c3
  · exact w_c4
  · exact w_c5
  · exact w_c6
  · exact w_c7
  · exact w_c8
  · exact w_c9
  · exact w_c10
  · exact w_c11
  · exact w_c12
  · exact w_c13
  · exact w_c14
  · exact w_c15
  · exact w_c16
  · exact w_c17
  · exact w_c18
  · exact w_c19
  · exact w_c20
  · exact w_c21
  · exact w_c22
  · exact w_c23
  · exact w_c24
  · exact w_c25
  · exact w_c26
  · exact w_c27
  · exact w_c28
  · exact w_c29
  · exact w_c30
  · exact w_c31
  · exact w_c32
  · exact w_c33
  · exact w_c34
  · exact w_c35
  · exact w_c36
  · exact w_c37
  · exact w_c38
  · exact w_c39
  · exact w_c40
  · exact w_c41
  · exact w_c42
  · exact w_c43
  · exact w_c44
  · exact w_c45
  · exact w_c46
  · exact w_c47
  · exact w_c48
  · exact w_c49
  · exact w_c50
  · exact w_c51
  · exact w_c52
set_option maxRecDepth 65536 in
theorem w_t1 : (words1.take 24).all (fun c => isCode c || c.before args0 about1) = true := by decide +kernel
set_option maxRecDepth 65536 in
theorem w_t2 : ((words1.drop 24).take 24).all (fun c => isCode c || c.before args0 about1) = true := by decide +kernel
set_option maxRecDepth 65536 in
theorem w_t3 : (((words1.drop 24).drop 24).take 24).all (fun c => isCode c || c.before args0 about1) = true := by decide +kernel
set_option maxRecDepth 65536 in
theorem w_t4 : ((((words1.drop 24).drop 24).drop 24).take 24).all (fun c => isCode c || c.before args0 about1) = true := by decide +kernel
set_option maxRecDepth 65536 in
theorem w_t5 : (((((words1.drop 24).drop 24).drop 24).drop 24).take 24).all (fun c => isCode c || c.before args0 about1) = true := by decide +kernel
set_option maxRecDepth 65536 in
theorem w_t6 : ((((((words1.drop 24).drop 24).drop 24).drop 24).drop 24).take 24).all (fun c => isCode c || c.before args0 about1) = true := by decide +kernel
set_option maxRecDepth 65536 in
theorem w_t7 : (((((((words1.drop 24).drop 24).drop 24).drop 24).drop 24).drop 24).take 24).all (fun c => isCode c || c.before args0 about1) = true := by decide +kernel
set_option maxRecDepth 65536 in
theorem w_t8 : ((((((((words1.drop 24).drop 24).drop 24).drop 24).drop 24).drop 24).drop 24).take 24).all (fun c => isCode c || c.before args0 about1) = true := by decide +kernel
set_option maxRecDepth 65536 in
theorem w_t9 : (((((((((words1.drop 24).drop 24).drop 24).drop 24).drop 24).drop 24).drop 24).drop 24).take 24).all (fun c => isCode c || c.before args0 about1) = true := by decide +kernel
set_option maxRecDepth 65536 in
theorem w_t10 : ((((((((((words1.drop 24).drop 24).drop 24).drop 24).drop 24).drop 24).drop 24).drop 24).drop 24).take 24).all (fun c => isCode c || c.before args0 about1) = true := by decide +kernel
set_option maxRecDepth 65536 in
theorem w_t11 : (((((((((((words1.drop 24).drop 24).drop 24).drop 24).drop 24).drop 24).drop 24).drop 24).drop 24).drop 24).take 24).all (fun c => isCode c || c.before args0 about1) = true := by decide +kernel
set_option maxRecDepth 65536 in
theorem w_t12 : (((((((((((words1.drop 24).drop 24).drop 24).drop 24).drop 24).drop 24).drop 24).drop 24).drop 24).drop 24).drop 24).all (fun c => isCode c || c.before args0 about1) = true := by decide +kernel
theorem w_tables : (allAtoms (Jvm.Cond.code x code maxLocals ret :: tables_1)).before args0 about1 = true := by
  rw [allAtoms_all]
  show words1.all (fun c => c.before args0 about1) = true
  refine all_split ?_ w_codes
  rw [← List.take_append_drop 24 words1, List.all_append, w_t1, ← List.take_append_drop 24 (words1.drop 24), List.all_append, w_t2, ← List.take_append_drop 24 ((words1.drop 24).drop 24), List.all_append, w_t3, ← List.take_append_drop 24 (((words1.drop 24).drop 24).drop 24), List.all_append, w_t4, ← List.take_append_drop 24 ((((words1.drop 24).drop 24).drop 24).drop 24), List.all_append, w_t5, ← List.take_append_drop 24 (((((words1.drop 24).drop 24).drop 24).drop 24).drop 24), List.all_append, w_t6, ← List.take_append_drop 24 ((((((words1.drop 24).drop 24).drop 24).drop 24).drop 24).drop 24), List.all_append, w_t7, ← List.take_append_drop 24 (((((((words1.drop 24).drop 24).drop 24).drop 24).drop 24).drop 24).drop 24), List.all_append, w_t8, ← List.take_append_drop 24 ((((((((words1.drop 24).drop 24).drop 24).drop 24).drop 24).drop 24).drop 24).drop 24), List.all_append, w_t9, ← List.take_append_drop 24 (((((((((words1.drop 24).drop 24).drop 24).drop 24).drop 24).drop 24).drop 24).drop 24).drop 24), List.all_append, w_t10, ← List.take_append_drop 24 ((((((((((words1.drop 24).drop 24).drop 24).drop 24).drop 24).drop 24).drop 24).drop 24).drop 24).drop 24), List.all_append, w_t11, w_t12]
  rfl
set_option maxRecDepth 65536 in
theorem w_rest : rest_1_c.before args0 about1 = true := by decide +kernel
set_option maxRecDepth 65536 in
theorem w_case : (Jvm.Cond.and given_1 narrow_1).before args0 about1 = true := by decide +kernel
set_option maxRecDepth 65536 in
theorem w_consts : constsHeld consts_1 about1 := Jvm.Lit.constsHeldB_iff.mp (by decide +kernel)
theorem w_applies : (headSpec (Jvm.Cond.code x code maxLocals ret :: tables_1) room_1).applies x e0.platform about1 = true :=
  (Spec.applies_iff w_frames).mpr ⟨w_running, w_runnable, w_alone, w_named, w_hears, w_ripe, w_room, w_tables⟩
theorem atStart : AtStart classFile x code maxLocals ret World_1 tables_1 room_1 Calls_1 rest_1 Pre_1 launch0 p0 e0 about1 theMethod args0 below0 :=
  ⟨lists_1, trivial, launch0.admits_env _ _ _, launch0.least_env, fairChoices_fair.cas, fairChoices_fair.clock, w_frames, w_args, w_heap, w_applies, ⟨w_consts, trivial⟩, w_rest, w_case⟩
end start1
theorem witness_1 : WitnessClaimed_1 := ⟨start1.p0, start1.e0, start1.about1, start1.theMethod, start1.args0, start1.below0, start1.atStart⟩
end Jvm.Pilot.@@N@@
