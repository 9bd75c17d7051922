import JvmDerived
import JvmDerived.Pilot.@@N@@Statement
import JvmDerived.Pilot.@@N@@Code
set_option linter.unusedVariables false
set_option linter.unusedSimpArgs false
namespace Jvm.RoadKit
open Sem ClassFile Op Lib Jvm.Stand Jvm.Free Jvm.LawKit
section New
variable {p : Program} {l : Launch} {e : Env} {R : Room} {s : State} {m : MethodId} {args : Array Value} {below : List Frame} {meth : Method} {c : Code} {T : State} {locs : List Loc} {cells slots : Nat}
theorem retI (X : Stand p l e R s m args below meth c T locs cells slots) (hx : p.tables.exec = Jvm.exec) {pc : Nat} {Ls : Array Slot} {z : Int32} {rest : List Value} (hret : meth.sig.returnType = some .int) (hd : decode c.code pc = .ok (.ireturn, 1)) {fs : List Frame}
    (hl : ∀ (f : JFrame) (acts : List Action), f.method = m → f.locked = none → f.entered = [] → (doReturn e (T.setTop f) acts (some (.int z))).1 = T.setFrames fs) : Steps p.tables e below (T.setTop (mkF m pc Ls (.int z :: rest))) (T.setFrames fs) := by
  have hm' : T.vm.method? m = some meth := X.method'
  have hn : narrow .int (.int z) = .int z := rfl
  show Steps p.tables e below (T.setTop { method := m, pc := pc, locals := Ls, stack := _ :: rest, locked := none }) _
  jvm_step X.here [X.here.top, hx, hd, hm', hret, hn]
  first | (intro acts; rw [hl _ acts rfl rfl rfl]) | rw [hl _ _ rfl rfl rfl]
  exact Steps.refl _
theorem own_nb {t : FieldType} {c : Prop} [Decidable c] {a b : Int32} (ha : nar t a = a) (hb : nar t b = b) : nar t (if c then a else b) = (if c then a else b) := by
  by_cases h : c
  · rw [if_pos h]; exact ha
  · rw [if_neg h]; exact hb
theorem own_retN (X : Stand p l e R s m args below meth c T locs cells slots) (hx : p.tables.exec = Jvm.exec) {pc : Nat} {Ls : Array Slot} {z : Int32} {t : FieldType} {rest : List Value} (hret : meth.sig.returnType = some t) (ht : t = .boolean ∨ t = .byte ∨ t = .char ∨ t = .short) (hz : nar t z = z)
    (hd : decode c.code pc = .ok (.ireturn, 1)) {fs : List Frame} (hl : ∀ (f : JFrame) (acts : List Action), f.method = m → f.locked = none → f.entered = [] → (doReturn e (T.setTop f) acts (some (.int z))).1 = T.setFrames fs) :
    Steps p.tables e below (T.setTop (mkF m pc Ls (.int z :: rest))) (T.setFrames fs) := retN X hx hret ht hd (by rw [hz]; exact hl)
end New
end Jvm.RoadKit
namespace Jvm.Pilot.@@N@@
open Jvm Jvm.ClassFile Sem Op Lib Jvm.Free Jvm.Stand Jvm.LawKit Jvm.RoadKit Bundle Jvm.Pilot.@@N@@.Jvm.D
theorem own_m {α : Type} {l : List α} {a : α} (i : Nat) (h : l[i]? = some a) : a ∈ l := List.mem_of_getElem? h
def Go (tb : Tables) (e : Env) (below : List Frame) (A : State) (P : State → Outcome → Prop) : Prop := ∃ t o, Steps tb e below A t ∧ P t o
theorem Go.st {tb : Tables} {e : Env} {below : List Frame} {A B : State} {P : State → Outcome → Prop} (h : ∀ t, Steps tb e below A t → Steps tb e below B t) (k : Go tb e below A P) : Go tb e below B P := by
  obtain ⟨t, o, h1, h2⟩ := k; exact ⟨t, o, h t h1, h2⟩
theorem Go.s {tb : Tables} {e : Env} {below : List Frame} {A B : State} {P : State → Outcome → Prop} (h : ∀ {t}, Steps tb e below A t → Steps tb e below B t) (k : Go tb e below A P) : Go tb e below B P := Go.st (fun _ q => h q) k
theorem Go.tr {tb : Tables} {e : Env} {below : List Frame} {A B : State} {P : State → Outcome → Prop} (h : Steps tb e below B A) (k : Go tb e below A P) : Go tb e below B P := by
  obtain ⟨t, o, h1, h2⟩ := k; exact ⟨t, o, h.trans h1, h2⟩
theorem Go.start {tb : Tables} {e : Env} {below : List Frame} {A : State} {P0 : State → Outcome → Prop} (h : ∀ P : State → Outcome → Prop, (∀ t o, P0 t o → P t o) → Go tb e below A P) : ∃ t o, Steps tb e below A t ∧ P0 t o := h P0 (fun _ _ q => q)
theorem own_cs {p : Program} {l : Launch} {e : Env} {R : Room} {s : State} {m : MethodId} {args : Array Value} {below : List Frame} {meth : Method} {c : Code} {T : State} {locs : List Loc} {cells slots cells' slots' : Nat} (X : Stand p l e R s m args below meth c T locs cells slots) (h1 : cells = cells') (h2 : slots = slots') : Stand p l e R s m args below meth c T locs cells' slots' := h1 ▸ h2 ▸ X
theorem own_sta_keep {Z : State} {h h' : Heap} {C n d : String} {v : Value} {ws : List Addr} (F : Sta Z h C n d v) (K : Keep h h' ws) (q : ∀ x ∈ ws, ∀ cell : Cell, h[x]? = some cell → cell.vm.isStatics = false) : Sta Z h' C n d v := by
  obtain ⟨cf, i, k, f, st, cell, h1, h2, h3, h4, h5, h6, h7⟩ := F
  exact ⟨cf, i, k, f, st, cell, h1, h2, h3, h4, K.2.1 st cell h5 (fun hm => by rw [q st hm cell h5] at h6; cases h6), h6, h7⟩
theorem own_fr {k : Nat} {L L' : List Loc} (h : L = L') (N : Fr k L') : Fr k L := h ▸ N
theorem own_cat {v : Value} (h : v.isRef = true) : v.category = 1 := by rcases ref_cases h with rfl | ⟨_, rfl⟩ <;> rfl
theorem own_cst {tb : Tables} {e : Env} {below : List Frame} {T : State} {m : MethodId} {J : Nat} {Ls : Array Slot} {a b : Int32} {rest : List Value} {t : State} (h : a = b) (k : Steps tb e below (T.setTop (mkF m J Ls (.int a :: rest))) t) : Steps tb e below (T.setTop (mkF m J Ls (.int b :: rest))) t := h ▸ k
theorem own_lt {x y : Int64} (h : x < y) : lcmpW x y < 0 := (lw_lt x y).mpr h
theorem own_nlt {x y : Int64} (h : ¬ x < y) : ¬ lcmpW x y < 0 := fun q => h ((lw_lt x y).mp q)
theorem own_gt {x y : Int64} (h : y < x) : 0 < lcmpW x y := (lw_gt x y).mpr h
theorem own_ngt {x y : Int64} (h : ¬ y < x) : ¬ 0 < lcmpW x y := fun q => h ((lw_gt x y).mp q)
theorem own_eq {x y : Int64} (h : x = y) : lcmpW x y = 0 := (lw_eq x y).mpr h
theorem own_neq {x y : Int64} (h : ¬ x = y) : ¬ lcmpW x y = 0 := fun q => h ((lw_eq x y).mp q)
section G
variable {p : Program} {l : Launch} {e : Env} {R : Room} {s : State} {m : MethodId} {args : Array Value} {below : List Frame} {meth : Method} {c : Code} {T : State} {locs : List Loc} {cells slots : Nat} {bytes : ByteArray} {pc : Nat} {Ls : Array Slot} {S : List Value} {P : State → Outcome → Prop}
theorem g_iload (X : Stand p l e R s m args below meth c T locs cells slots) (hx : p.tables.exec = Jvm.exec) (hby : c.code = bytes) {k : Nat} {v : Int32} (hd : decode bytes pc = .ok (.iload k, 2)) (hl : Ls[k]? = some (.val (.int v))) (q : Go p.tables e below (T.setTop (mkF m (pc + 2) Ls (.int v :: S))) P) : Go p.tables e below (T.setTop (mkF m pc Ls S)) P := Go.s (XS.iload X.here hx rfl (hb hby hd) hl) q
theorem g_iloadN (X : Stand p l e R s m args below meth c T locs cells slots) (hx : p.tables.exec = Jvm.exec) (hby : c.code = bytes) {k : Fin 4} {v : Int32} (hd : decode bytes pc = .ok (.iload_n k, 1)) (hl : Ls[k.val]? = some (.val (.int v))) (q : Go p.tables e below (T.setTop (mkF m (pc + 1) Ls (.int v :: S))) P) : Go p.tables e below (T.setTop (mkF m pc Ls S)) P := Go.s (XS.iloadN X.here hx rfl (hb hby hd) hl) q
theorem g_lload (X : Stand p l e R s m args below meth c T locs cells slots) (hx : p.tables.exec = Jvm.exec) (hby : c.code = bytes) {k : Nat} {v : Int64} (hd : decode bytes pc = .ok (.lload k, 2)) (hl : Ls[k]? = some (.val (.long v))) (q : Go p.tables e below (T.setTop (mkF m (pc + 2) Ls (.long v :: S))) P) : Go p.tables e below (T.setTop (mkF m pc Ls S)) P := Go.s (XS.lload X.here hx rfl (hb hby hd) hl) q
theorem g_lloadN (X : Stand p l e R s m args below meth c T locs cells slots) (hx : p.tables.exec = Jvm.exec) (hby : c.code = bytes) {k : Fin 4} {v : Int64} (hd : decode bytes pc = .ok (.lload_n k, 1)) (hl : Ls[k.val]? = some (.val (.long v))) (q : Go p.tables e below (T.setTop (mkF m (pc + 1) Ls (.long v :: S))) P) : Go p.tables e below (T.setTop (mkF m pc Ls S)) P := Go.s (XS.lloadN X.here hx rfl (hb hby hd) hl) q
theorem g_aload (X : Stand p l e R s m args below meth c T locs cells slots) (hx : p.tables.exec = Jvm.exec) (hby : c.code = bytes) {k : Nat} {v : Value} (hd : decode bytes pc = .ok (.aload k, 2)) (hl : Ls[k]? = some (.val v)) (hv : v.isRef = true) (q : Go p.tables e below (T.setTop (mkF m (pc + 2) Ls (v :: S))) P) : Go p.tables e below (T.setTop (mkF m pc Ls S)) P := Go.s (XS.aload X.here hx rfl (hb hby hd) hl hv) q
theorem g_aloadN (X : Stand p l e R s m args below meth c T locs cells slots) (hx : p.tables.exec = Jvm.exec) (hby : c.code = bytes) {k : Fin 4} {v : Value} (hd : decode bytes pc = .ok (.aload_n k, 1)) (hl : Ls[k.val]? = some (.val v)) (hv : v.isRef = true) (q : Go p.tables e below (T.setTop (mkF m (pc + 1) Ls (v :: S))) P) : Go p.tables e below (T.setTop (mkF m pc Ls S)) P := Go.s (XS.aloadN X.here hx rfl (hb hby hd) hl hv) q
theorem g_istore (X : Stand p l e R s m args below meth c T locs cells slots) (hx : p.tables.exec = Jvm.exec) (hby : c.code = bytes) {k : Nat} {x : Int32} {l' : Array Slot} (hd : decode bytes pc = .ok (.istore k, 2)) (hl : storeLocals Ls k (.int x) = some l') (q : Go p.tables e below (T.setTop (mkF m (pc + 2) l' S)) P) : Go p.tables e below (T.setTop (mkF m pc Ls (.int x :: S))) P := Go.s (XS.istore X.here hx rfl (hb hby hd) rfl hl) q
theorem g_istoreN (X : Stand p l e R s m args below meth c T locs cells slots) (hx : p.tables.exec = Jvm.exec) (hby : c.code = bytes) {k : Fin 4} {x : Int32} {l' : Array Slot} (hd : decode bytes pc = .ok (.istore_n k, 1)) (hl : storeLocals Ls k.val (.int x) = some l') (q : Go p.tables e below (T.setTop (mkF m (pc + 1) l' S)) P) : Go p.tables e below (T.setTop (mkF m pc Ls (.int x :: S))) P := Go.s (XS.istoreN X.here hx rfl (hb hby hd) rfl hl) q
theorem g_astore (X : Stand p l e R s m args below meth c T locs cells slots) (hx : p.tables.exec = Jvm.exec) (hby : c.code = bytes) {k : Nat} {x : Value} {l' : Array Slot} (hd : decode bytes pc = .ok (.astore k, 2)) (hv : x.isRef = true) (hl : storeLocals Ls k x = some l') (q : Go p.tables e below (T.setTop (mkF m (pc + 2) l' S)) P) : Go p.tables e below (T.setTop (mkF m pc Ls (x :: S))) P := Go.s (XS.astore X.here hx rfl (hb hby hd) rfl hv hl) q
theorem g_astoreN (X : Stand p l e R s m args below meth c T locs cells slots) (hx : p.tables.exec = Jvm.exec) (hby : c.code = bytes) {k : Fin 4} {x : Value} {l' : Array Slot} (hd : decode bytes pc = .ok (.astore_n k, 1)) (hv : x.isRef = true) (hl : storeLocals Ls k.val x = some l') (q : Go p.tables e below (T.setTop (mkF m (pc + 1) l' S)) P) : Go p.tables e below (T.setTop (mkF m pc Ls (x :: S))) P := Go.s (XS.astoreN X.here hx rfl (hb hby hd) rfl hv hl) q
theorem g_iconst (X : Stand p l e R s m args below meth c T locs cells slots) (hx : p.tables.exec = Jvm.exec) (hby : c.code = bytes) {i : Int} {v : Int32} (hd : decode bytes pc = .ok (.iconst i, 1)) (hv : Int32.ofInt i = v) (q : Go p.tables e below (T.setTop (mkF m (pc + 1) Ls (.int v :: S))) P) : Go p.tables e below (T.setTop (mkF m pc Ls S)) P := by subst hv; exact Go.s (XS.iconst X.here hx rfl (hb hby hd)) q
theorem g_bipush (X : Stand p l e R s m args below meth c T locs cells slots) (hx : p.tables.exec = Jvm.exec) (hby : c.code = bytes) {i : Int} {v : Int32} (hd : decode bytes pc = .ok (.bipush i, 2)) (hv : (Int8.ofInt i).toInt32 = v) (q : Go p.tables e below (T.setTop (mkF m (pc + 2) Ls (.int v :: S))) P) : Go p.tables e below (T.setTop (mkF m pc Ls S)) P := by subst hv; exact Go.s (XS.bipush X.here hx rfl (hb hby hd)) q
theorem g_sipush (X : Stand p l e R s m args below meth c T locs cells slots) (hx : p.tables.exec = Jvm.exec) (hby : c.code = bytes) {i : Int} {v : Int32} (hd : decode bytes pc = .ok (.sipush i, 3)) (hv : (Int16.ofInt i).toInt32 = v) (q : Go p.tables e below (T.setTop (mkF m (pc + 3) Ls (.int v :: S))) P) : Go p.tables e below (T.setTop (mkF m pc Ls S)) P := by subst hv; exact Go.s (XS.sipush X.here hx rfl (hb hby hd)) q
theorem g_iadd (X : Stand p l e R s m args below meth c T locs cells slots) (hx : p.tables.exec = Jvm.exec) (hby : c.code = bytes) {x y z : Int32} (hd : decode bytes pc = .ok (.iadd, 1)) (hz : x + y = z) (q : Go p.tables e below (T.setTop (mkF m (pc + 1) Ls (.int z :: S))) P) : Go p.tables e below (T.setTop (mkF m pc Ls (.int y :: .int x :: S))) P := by subst hz; exact Go.s (XS.iadd X.here hx rfl (hb hby hd) rfl) q
theorem g_isub (X : Stand p l e R s m args below meth c T locs cells slots) (hx : p.tables.exec = Jvm.exec) (hby : c.code = bytes) {x y z : Int32} (hd : decode bytes pc = .ok (.isub, 1)) (hz : x - y = z) (q : Go p.tables e below (T.setTop (mkF m (pc + 1) Ls (.int z :: S))) P) : Go p.tables e below (T.setTop (mkF m pc Ls (.int y :: .int x :: S))) P := by subst hz; exact Go.s (XS.isub X.here hx rfl (hb hby hd) rfl) q
theorem g_imul (X : Stand p l e R s m args below meth c T locs cells slots) (hx : p.tables.exec = Jvm.exec) (hby : c.code = bytes) {x y z : Int32} (hd : decode bytes pc = .ok (.imul, 1)) (hz : x * y = z) (q : Go p.tables e below (T.setTop (mkF m (pc + 1) Ls (.int z :: S))) P) : Go p.tables e below (T.setTop (mkF m pc Ls (.int y :: .int x :: S))) P := by subst hz; exact Go.s (XS.imul X.here hx rfl (hb hby hd) rfl) q
theorem g_iand (X : Stand p l e R s m args below meth c T locs cells slots) (hx : p.tables.exec = Jvm.exec) (hby : c.code = bytes) {x y z : Int32} (hd : decode bytes pc = .ok (.iand, 1)) (hz : x &&& y = z) (q : Go p.tables e below (T.setTop (mkF m (pc + 1) Ls (.int z :: S))) P) : Go p.tables e below (T.setTop (mkF m pc Ls (.int y :: .int x :: S))) P := by subst hz; exact Go.s (XS.iand X.here hx rfl (hb hby hd) rfl) q
theorem g_ior (X : Stand p l e R s m args below meth c T locs cells slots) (hx : p.tables.exec = Jvm.exec) (hby : c.code = bytes) {x y z : Int32} (hd : decode bytes pc = .ok (.ior, 1)) (hz : x ||| y = z) (q : Go p.tables e below (T.setTop (mkF m (pc + 1) Ls (.int z :: S))) P) : Go p.tables e below (T.setTop (mkF m pc Ls (.int y :: .int x :: S))) P := by subst hz; exact Go.s (XS.ior X.here hx rfl (hb hby hd) rfl) q
theorem g_ixor (X : Stand p l e R s m args below meth c T locs cells slots) (hx : p.tables.exec = Jvm.exec) (hby : c.code = bytes) {x y z : Int32} (hd : decode bytes pc = .ok (.ixor, 1)) (hz : x ^^^ y = z) (q : Go p.tables e below (T.setTop (mkF m (pc + 1) Ls (.int z :: S))) P) : Go p.tables e below (T.setTop (mkF m pc Ls (.int y :: .int x :: S))) P := by subst hz; exact Go.s (XS.ixor X.here hx rfl (hb hby hd) rfl) q
theorem g_i2b (X : Stand p l e R s m args below meth c T locs cells slots) (hx : p.tables.exec = Jvm.exec) (hby : c.code = bytes) {x z : Int32} (hd : decode bytes pc = .ok (.i2b, 1)) (hz : x.toInt8.toInt32 = z) (q : Go p.tables e below (T.setTop (mkF m (pc + 1) Ls (.int z :: S))) P) : Go p.tables e below (T.setTop (mkF m pc Ls (.int x :: S))) P := by subst hz; exact Go.s (XS.i2b X.here hx rfl (hb hby hd) rfl) q
theorem g_i2c (X : Stand p l e R s m args below meth c T locs cells slots) (hx : p.tables.exec = Jvm.exec) (hby : c.code = bytes) {x z : Int32} (hd : decode bytes pc = .ok (.i2c, 1)) (hz : x.toUInt32.toUInt16.toUInt32.toInt32 = z) (q : Go p.tables e below (T.setTop (mkF m (pc + 1) Ls (.int z :: S))) P) : Go p.tables e below (T.setTop (mkF m pc Ls (.int x :: S))) P := by subst hz; exact Go.s (XS.i2c X.here hx rfl (hb hby hd) rfl) q
theorem g_dup (X : Stand p l e R s m args below meth c T locs cells slots) (hx : p.tables.exec = Jvm.exec) (hby : c.code = bytes) {x : Value} (hd : decode bytes pc = .ok (.dup, 1)) (hc : x.category = 1) (q : Go p.tables e below (T.setTop (mkF m (pc + 1) Ls (x :: x :: S))) P) : Go p.tables e below (T.setTop (mkF m pc Ls (x :: S))) P := Go.s (XS.dup X.here hx rfl (hb hby hd) rfl hc) q
theorem g_goto (X : Stand p l e R s m args below meth c T locs cells slots) (hx : p.tables.exec = Jvm.exec) (hby : c.code = bytes) {o : Int} {pc0 pc' : Nat} (hd : decode bytes pc = .ok (.goto o, 3)) (hpc : pc = pc0) (ho : 0 ≤ (pc0 : Int) + o) (hp : ((pc0 : Int) + o).toNat = pc') (q : Go p.tables e below (T.setTop (mkF m pc' Ls S)) P) : Go p.tables e below (T.setTop (mkF m pc Ls S)) P := by subst hpc; exact Go.s (XS.goto X.here hx rfl rfl (hb hby hd) ho hp) q
theorem g_iinc (X : Stand p l e R s m args below meth c T locs cells slots) (hx : p.tables.exec = Jvm.exec) (hby : c.code = bytes) {k : Nat} {cst : Int} {x x' : Int32} {l' : Array Slot} (hd : decode bytes pc = .ok (.iinc k cst, 3)) (hl : Ls[k]? = some (.val (.int x))) (hx' : x + Int32.ofInt cst = x') (hl' : storeLocals Ls k (.int x') = some l') (q : Go p.tables e below (T.setTop (mkF m (pc + 3) l' S)) P) : Go p.tables e below (T.setTop (mkF m pc Ls S)) P := by subst hx'; exact Go.s (XS.iinc X.here hx rfl (hb hby hd) hl hl') q
theorem g_icmpYes (X : Stand p l e R s m args below meth c T locs cells slots) (hx : p.tables.exec = Jvm.exec) (hby : c.code = bytes) {cd : ClassFile.Cond} {x y : Int32} {o : Int} {pc0 pc' : Nat} (hd : decode bytes pc = .ok (.if_icmp cd o, 3)) (hc : if_icmp.holds cd x y = true) (hpc : pc = pc0) (ho : 0 ≤ (pc0 : Int) + o) (hp : ((pc0 : Int) + o).toNat = pc') (q : Go p.tables e below (T.setTop (mkF m pc' Ls S)) P) : Go p.tables e below (T.setTop (mkF m pc Ls (.int y :: .int x :: S))) P := by subst hpc; exact Go.s (XS.icmpYes X.here hx rfl rfl (hb hby hd) rfl hc ho hp) q
theorem g_icmpNo (X : Stand p l e R s m args below meth c T locs cells slots) (hx : p.tables.exec = Jvm.exec) (hby : c.code = bytes) {cd : ClassFile.Cond} {x y : Int32} {o : Int} (hd : decode bytes pc = .ok (.if_icmp cd o, 3)) (hc : if_icmp.holds cd x y = false) (q : Go p.tables e below (T.setTop (mkF m (pc + 3) Ls S)) P) : Go p.tables e below (T.setTop (mkF m pc Ls (.int y :: .int x :: S))) P := Go.s (XS.icmpNo X.here hx rfl (hb hby hd) rfl hc) q
theorem g_ifYes (X : Stand p l e R s m args below meth c T locs cells slots) (hx : p.tables.exec = Jvm.exec) (hby : c.code = bytes) {cd : ClassFile.Cond} {x : Int32} {o : Int} {pc0 pc' : Nat} (hd : decode bytes pc = .ok (.ifCond cd o, 3)) (hc : ifCond.holds cd x = true) (hpc : pc = pc0) (ho : 0 ≤ (pc0 : Int) + o) (hp : ((pc0 : Int) + o).toNat = pc') (q : Go p.tables e below (T.setTop (mkF m pc' Ls S)) P) : Go p.tables e below (T.setTop (mkF m pc Ls (.int x :: S))) P := by subst hpc; exact Go.s (XS.ifYes X.here hx rfl rfl (hb hby hd) rfl hc ho hp) q
theorem g_ifNo (X : Stand p l e R s m args below meth c T locs cells slots) (hx : p.tables.exec = Jvm.exec) (hby : c.code = bytes) {cd : ClassFile.Cond} {x : Int32} {o : Int} (hd : decode bytes pc = .ok (.ifCond cd o, 3)) (hc : ifCond.holds cd x = false) (q : Go p.tables e below (T.setTop (mkF m (pc + 3) Ls S)) P) : Go p.tables e below (T.setTop (mkF m pc Ls (.int x :: S))) P := Go.s (XS.ifNo X.here hx rfl (hb hby hd) rfl hc) q
end G
theorem own_len8 {L : Int32} {k : Nat} (h1 : 0 ≤ L.toInt) (h2 : L.toInt ≤ k) : ¬ L < 0 ∧ L.toNatClampNeg ≤ k := by
  have l0 : (0 : Int32).toInt = 0 := rfl
  refine ⟨by rw [Int32.lt_iff_toInt_lt]; omega, ?_⟩
  simp only [Int32.toNatClampNeg]; omega
theorem own_us (n m : Nat) (vs vd X : List Value) (d : Value) : ∀ i, i < n → (vd.take (0 : Int32).toNatClampNeg ++ (List.range n).map (fun j => vs.getD (m + j) d) ++ X).getD i d = vs.getD (m + i) d := by
  intro i hi
  rw [show (0 : Int32).toNatClampNeg = 0 from rfl, List.take_zero, List.nil_append, List.getD_eq_getElem?_getD, List.getElem?_append_left (by simpa using hi), List.getElem?_map, List.getElem?_range hi]
  rfl
theorem own_min (a L : Int32) (h : L.toInt ≤ a.toInt) : (if L < a then L else a) = L := by
  split
  · rfl
  · rename_i q; rw [Int32.lt_iff_toInt_lt] at q; apply Int32.toInt_inj.mp; omega
theorem own_sub (s L : Int32) : (s + L) - s = L := by rw [Int32.add_comm, Int32.add_sub_cancel]
theorem own_i (L : Int32) : L.toInt64.toInt32 = L := by
  apply Int32.toInt_inj.mp
  have e1 := c_l2i L.toInt64
  have e2 := c_i2l L
  have b1 := Int32.le_toInt L
  have b2 := Int32.toInt_lt L
  have b3 := Int32.le_toInt L.toInt64.toInt32
  have b4 := Int32.toInt_lt L.toInt64.toInt32
  omega
theorem own_gtL {L : Int32} {z : Int64} (h : L.toInt ≤ z.toInt) : ¬ z < L.toInt64 := by rw [Int64.lt_iff_toInt_lt, c_i2l]; omega
theorem own_lt128 {L : Int32} (h : L.toInt ≤ 8) : L < (128 : Int32) := by
  have l0 : (128 : Int32).toInt = 128 := rfl
  rw [Int32.lt_iff_toInt_lt]; omega
theorem own_le {s L : Int32} (h1 : 0 ≤ L.toInt) (h2 : L.toInt ≤ 8) (h3 : 0 ≤ s.toInt) (h4 : s.toInt ≤ 8) : ¬ (s + L) < s := by
  have e1 := c_iadd s L
  have b1 := Int32.le_toInt (s + L)
  have b2 := Int32.toInt_lt (s + L)
  rw [Int32.lt_iff_toInt_lt]; omega
theorem own_far {i L : Int32} {k : Int} (h : L.toInt ≤ k) (hi : k ≤ i.toInt) : ¬ i < L := by rw [Int32.lt_iff_toInt_lt]; omega
theorem dc0_0 : decode jdk_65_method_131_code 0 = .ok (.iload_n 1, 1) := by decide +kernel
theorem dc0_1 : decode jdk_65_method_131_code 1 = .ok (.iload_n 0, 1) := by decide +kernel
theorem dc0_2 : decode jdk_65_method_131_code 2 = .ok (.if_icmp .ge 35, 3) := by decide +kernel
theorem dc0_37 : decode jdk_65_method_131_code 37 = .ok (.return_, 1) := by decide +kernel
theorem pn_0 : plainName "java/util/Arrays" = true := by first | (simp [plainName, overriddenIn]; done) | decide +kernel
theorem ef_rmCk (mi : MethodId) (a : Int32) (b : Int32) : entryFrame mi #[(.int a), (.int b)] 2 = mkF mi 0 #[.val (.int a), .val (.int b)] [] := by first | (simp [entryFrame, mkF, argsToLocals, Value.category]; done) | rfl
def Q_rmCk (Z : State) (a : Int32) (b : Int32) (h0 : Heap) (n0 : Nat) (vv_ : Option Value) (hh_ : Heap) (LL_ : List Loc) : Prop := vv_ = none ∧ Fr n0 LL_ ∧ hh_ = h0
set_option maxRecDepth 65536 in
set_option maxHeartbeats 40000000 in
theorem rmCk (l : Launch) (Z : State) (a0 : Array Value) (hw : ∀ d ∈ tables_1, d.before a0 Z = true) (ws : List Jvm.Cond) (a : Int32) (b : Int32) (h0 : Heap) (n0 : Nat) (Z0 : n0 ≤ h0.size) (hle : ¬ (b < a)) :
    MetFree l (⟨"java/util/Arrays", "checkLength", "(II)V"⟩ : MethodName) (head1 (Jvm.Cond.code (⟨"java/util/Arrays", "checkLength", "(II)V"⟩ : MethodName) jdk_65_method_131_code 2 none :: ws) ({ frames := 0, cells := 0, slots := 0, locals := 0 } : Room)) (fun aa_ U => aa_ = #[(.int a), (.int b)] ∧ Z.Warmed39 U.vm ∧ U.heap = h0) (fun _ _ _ _ _ => True) (fun _ U oo_ UV_ => ∃ vv_ LL_, oo_ = .returned vv_ ∧ Q_rmCk Z a b h0 n0 vv_ UV_.heap LL_ ∧ FrameEnd U oo_ UV_ LL_ ({ frames := 0, cells := 0, slots := 0, locals := 0 } : Room).cells ({ frames := 0, cells := 0, slots := 0, locals := 0 } : Room).slots) := by
  refine MetFree.of_bodySF (plainFor_of_name pn_0) hisR ?_
  intro pg ev si mi args below meth ci s₁ Bd hml0 hP0 hK
  obtain ⟨rfl, hZ, hh⟩ := hP0
  have hx := Bd.exec
  have hby := Bd.bytes
  have hml : ci.maxLocals = 2 := hml0
  have hown : si.vm.findClass "java/util/Arrays" = some mi.cls := findClass_of_methodNamed Bd.named
  have hnm := (name_of_methodNamed Bd.named Bd.method).1
  have X0 : Stand pg l ev ({ frames := 0, cells := 0, slots := 0, locals := 0 } : Room) si mi #[(.int a), (.int b)] below meth ci s₁ [] 0 0 := Stand.of_body Bd
  have e0 : s₁.heap = h0 := by rw [← hh, Bd.state]; rfl
  have N0 := Fr.nil n0
  refine Go.start (fun P hP => ?_)
  refine Go.st (fun t_ k_ => castTop (ef_rmCk mi a b) k_) (A := s₁.setTop (mkF mi 0 #[.val (.int a), .val (.int b)] [])) ?_
  show Go _ _ _ (s₁.setTop (mkF mi 0 #[.val (.int a), .val (.int b)] [])) _
  refine g_iloadN X0 hx hby dc0_0 rfl ?_
  refine g_iloadN X0 hx hby dc0_1 rfl ?_
  refine g_icmpYes X0 hx hby dc0_2 (flt hle).2.1 (pc0 := 2) (pc' := 37) rfl (by decide) (by decide) ?_
  obtain ⟨fs, hr, hrun, hended, hW, hsame⟩ := X0.leave (v := none) (fun _ => rfl) (BodyLoose.notSynchronized Bd)
  refine ⟨_, _, ?_, hP _ _ ⟨hrun, hended, _, _, rfl, ?_, ⟨_, rfl⟩, hW, hsame.mono (by decide) (by decide)⟩⟩
  · exact X0.returnOut hx Bd.returns (hb hby dc0_37) hr
  · show (none : Option Value) = none ∧ Fr n0 _ ∧ s₁.heap = h0
    rw [e0]
    exact ⟨rfl, N0, rfl⟩
theorem dc1_0 : decode jdk_29_method_69_code 0 = .ok (.iload_n 0, 1) := by decide +kernel
theorem dc1_1 : decode jdk_29_method_69_code 1 = .ok (.iload_n 1, 1) := by decide +kernel
theorem dc1_2 : decode jdk_29_method_69_code 2 = .ok (.if_icmp .gt 7, 3) := by decide +kernel
theorem dc1_9 : decode jdk_29_method_69_code 9 = .ok (.iload_n 1, 1) := by decide +kernel
theorem dc1_10 : decode jdk_29_method_69_code 10 = .ok (.ireturn, 1) := by decide +kernel
theorem dc1_5 : decode jdk_29_method_69_code 5 = .ok (.iload_n 0, 1) := by decide +kernel
theorem dc1_6 : decode jdk_29_method_69_code 6 = .ok (.goto 4, 3) := by decide +kernel
theorem ef_rmMin (mi : MethodId) (a : Int32) (b : Int32) : entryFrame mi #[(.int a), (.int b)] 2 = mkF mi 0 #[.val (.int a), .val (.int b)] [] := by first | (simp [entryFrame, mkF, argsToLocals, Value.category]; done) | rfl
def fMin (a : Int32) (b : Int32) : Int32 := (if b < a then b else a)
def Q_rmMin (Z : State) (a : Int32) (b : Int32) (h0 : Heap) (n0 : Nat) (vv_ : Option Value) (hh_ : Heap) (LL_ : List Loc) : Prop := vv_ = some (.int (fMin a b)) ∧ Fr n0 LL_ ∧ hh_ = h0
set_option maxRecDepth 65536 in
set_option maxHeartbeats 40000000 in
theorem rmMin (l : Launch) (Z : State) (a0 : Array Value) (hw : ∀ d ∈ tables_1, d.before a0 Z = true) (ws : List Jvm.Cond) (a : Int32) (b : Int32) (h0 : Heap) (n0 : Nat) (Z0 : n0 ≤ h0.size) :
    MetFree l (⟨"java/lang/Math", "min", "(II)I"⟩ : MethodName) (head1 (Jvm.Cond.code (⟨"java/lang/Math", "min", "(II)I"⟩ : MethodName) jdk_29_method_69_code 2 (some .int) :: ws) ({ frames := 0, cells := 0, slots := 0, locals := 0 } : Room)) (fun aa_ U => aa_ = #[(.int a), (.int b)] ∧ Z.Warmed39 U.vm ∧ U.heap = h0) (fun _ _ _ _ _ => True) (fun _ U oo_ UV_ => ∃ vv_ LL_, oo_ = .returned vv_ ∧ Q_rmMin Z a b h0 n0 vv_ UV_.heap LL_ ∧ FrameEnd U oo_ UV_ LL_ ({ frames := 0, cells := 0, slots := 0, locals := 0 } : Room).cells ({ frames := 0, cells := 0, slots := 0, locals := 0 } : Room).slots) := by
  refine MetFree.of_bodySF (Jvm.Free.JP.mathPlain rfl (by decide +kernel)) hisR ?_
  intro pg ev si mi args below meth ci s₁ Bd hml0 hP0 hK
  obtain ⟨rfl, hZ, hh⟩ := hP0
  have hx := Bd.exec
  have hby := Bd.bytes
  have hml : ci.maxLocals = 2 := hml0
  have hown : si.vm.findClass "java/lang/Math" = some mi.cls := findClass_of_methodNamed Bd.named
  have hnm := (name_of_methodNamed Bd.named Bd.method).1
  have X0 : Stand pg l ev ({ frames := 0, cells := 0, slots := 0, locals := 0 } : Room) si mi #[(.int a), (.int b)] below meth ci s₁ [] 0 0 := Stand.of_body Bd
  have e0 : s₁.heap = h0 := by rw [← hh, Bd.state]; rfl
  have N0 := Fr.nil n0
  refine Go.start (fun P hP => ?_)
  refine Go.st (fun t_ k_ => castTop (ef_rmMin mi a b) k_) (A := s₁.setTop (mkF mi 0 #[.val (.int a), .val (.int b)] [])) ?_
  show Go _ _ _ (s₁.setTop (mkF mi 0 #[.val (.int a), .val (.int b)] [])) _
  refine g_iloadN X0 hx hby dc1_0 rfl ?_
  refine g_iloadN X0 hx hby dc1_1 rfl ?_
  by_cases hc2_1 : b < a
  · refine g_icmpYes X0 hx hby dc1_2 (tlt hc2_1).2.2.1 (pc0 := 2) (pc' := 9) rfl (by decide) (by decide) ?_
    refine g_iloadN X0 hx hby dc1_9 rfl ?_
    obtain ⟨fs, hr, hrun, hended, hW, hsame⟩ := X0.leave (v := some (.int b)) (fun h => by rw [Bd.returns] at h; cases h) (BodyLoose.notSynchronized Bd)
    refine ⟨_, _, ?_, hP _ _ ⟨hrun, hended, _, _, rfl, ?_, ⟨_, rfl⟩, hW, hsame.mono (by decide) (by decide)⟩⟩
    · exact retI X0 hx Bd.returns (hb hby dc1_10) hr
    · show (some (.int b) : Option Value) = some (.int (fMin a b)) ∧ Fr n0 _ ∧ s₁.heap = h0
      rw [e0]
      exact ⟨by rw [show fMin a b = b from ((if_pos hc2_1).trans rfl)], N0, rfl⟩
  · refine g_icmpNo X0 hx hby dc1_2 (flt hc2_1).2.2.1 ?_
    refine g_iloadN X0 hx hby dc1_5 rfl ?_
    refine g_goto X0 hx hby dc1_6 (pc0 := 6) (pc' := 10) rfl (by decide) (by decide) ?_
    obtain ⟨fs, hr, hrun, hended, hW, hsame⟩ := X0.leave (v := some (.int a)) (fun h => by rw [Bd.returns] at h; cases h) (BodyLoose.notSynchronized Bd)
    refine ⟨_, _, ?_, hP _ _ ⟨hrun, hended, _, _, rfl, ?_, ⟨_, rfl⟩, hW, hsame.mono (by decide) (by decide)⟩⟩
    · exact retI X0 hx Bd.returns (hb hby dc1_10) hr
    · show (some (.int a) : Option Value) = some (.int (fMin a b)) ∧ Fr n0 _ ∧ s₁.heap = h0
      rw [e0]
      exact ⟨by rw [show fMin a b = a from ((if_neg hc2_1).trans rfl)], N0, rfl⟩
theorem dc2_0 : decode jdk_65_method_133_code 0 = .ok (.iload_n 1, 1) := by decide +kernel
theorem dc2_1 : decode jdk_65_method_133_code 1 = .ok (.iload_n 2, 1) := by decide +kernel
theorem dc2_2 : decode jdk_65_method_133_code 2 = .ok (.invokestatic 343, 3) := by decide +kernel
theorem pd_0 : parseMethodDescriptor "(II)V" = some ⟨[.int, .int], none⟩ := by decide +kernel
theorem dc2_5 : decode jdk_65_method_133_code 5 = .ok (.iload_n 2, 1) := by decide +kernel
theorem dc2_6 : decode jdk_65_method_133_code 6 = .ok (.iload_n 1, 1) := by decide +kernel
theorem dc2_7 : decode jdk_65_method_133_code 7 = .ok (.isub, 1) := by decide +kernel
theorem dc2_8 : decode jdk_65_method_133_code 8 = .ok (.istore_n 3, 1) := by decide +kernel
theorem dc2_9 : decode jdk_65_method_133_code 9 = .ok (.iload_n 3, 1) := by decide +kernel
theorem dc2_10 : decode jdk_65_method_133_code 10 = .ok (.newarray .byte, 2) := by decide +kernel
theorem dc2_12 : decode jdk_65_method_133_code 12 = .ok (.astore 4, 2) := by decide +kernel
theorem dc2_14 : decode jdk_65_method_133_code 14 = .ok (.aload_n 0, 1) := by decide +kernel
theorem dc2_15 : decode jdk_65_method_133_code 15 = .ok (.iload_n 1, 1) := by decide +kernel
theorem dc2_16 : decode jdk_65_method_133_code 16 = .ok (.aload 4, 2) := by decide +kernel
theorem dc2_18 : decode jdk_65_method_133_code 18 = .ok (.iconst 0, 1) := by decide +kernel
theorem dc2_19 : decode jdk_65_method_133_code 19 = .ok (.aload_n 0, 1) := by decide +kernel
theorem dc2_20 : decode jdk_65_method_133_code 20 = .ok (.arraylength, 1) := by decide +kernel
theorem dc2_21 : decode jdk_65_method_133_code 21 = .ok (.iload_n 1, 1) := by decide +kernel
theorem dc2_22 : decode jdk_65_method_133_code 22 = .ok (.isub, 1) := by decide +kernel
theorem dc2_23 : decode jdk_65_method_133_code 23 = .ok (.iload_n 3, 1) := by decide +kernel
theorem dc2_24 : decode jdk_65_method_133_code 24 = .ok (.invokestatic 304, 3) := by decide +kernel
theorem pd_1 : parseMethodDescriptor "(II)I" = some ⟨[.int, .int], some .int⟩ := by decide +kernel
theorem dc2_27 : decode jdk_65_method_133_code 27 = .ok (.invokestatic 150, 3) := by decide +kernel
theorem dc2_30 : decode jdk_65_method_133_code 30 = .ok (.aload 4, 2) := by decide +kernel
theorem dc2_32 : decode jdk_65_method_133_code 32 = .ok (.areturn, 1) := by decide +kernel
theorem ef_rmCB2 (mi : MethodId) (el : Addr) (ke : ClassId) (L : Int32) (b0 : Int32) (b1 : Int32) (b2 : Int32) (b3 : Int32) (b4 : Int32) (b5 : Int32) (b6 : Int32) (b7 : Int32) (b8 : Int32) (b9 : Int32) : entryFrame mi #[(.ref el), (.int 2), (.int ((2 : Int32) + L))] 5 = mkF mi 0 #[.val (.ref el), .val (.int 2), .val (.int ((2 : Int32) + L)), .unset, .unset] [] := by first | (simp [entryFrame, mkF, argsToLocals, Value.category]; done) | rfl
def Q_rmCB2 (Z : State) (el : Addr) (ke : ClassId) (L : Int32) (b0 : Int32) (b1 : Int32) (b2 : Int32) (b3 : Int32) (b4 : Int32) (b5 : Int32) (b6 : Int32) (b7 : Int32) (b8 : Int32) (b9 : Int32) (h0 : Heap) (n0 : Nat) (vv_ : Option Value) (hh_ : Heap) (LL_ : List Loc) : Prop := ∃ (r : Addr) (kr : ClassId) (us : List Value), vv_ = some (.ref r) ∧ Fr n0 LL_ ∧ Keep h0 hh_ [] ∧ h0.size ≤ r ∧ n0 ≤ r ∧ Arv Z hh_ r kr .byte L us (.int (0 : Int32)) ∧ (∀ i, i < L.toNatClampNeg → us.getD i (.int (0 : Int32)) = [(.int b0), (.int b1), (.int b2), (.int b3), (.int b4), (.int b5), (.int b6), (.int b7), (.int b8), (.int b9)].getD (2 + i) (.int (0 : Int32)))
set_option maxRecDepth 65536 in
set_option maxHeartbeats 40000000 in
theorem rmCB2 (l : Launch) (Z : State) (a0 : Array Value) (hw : ∀ d ∈ tables_1, d.before a0 Z = true) (ws : List Jvm.Cond) (el : Addr) (ke : ClassId) (L : Int32) (b0 : Int32) (b1 : Int32) (b2 : Int32) (b3 : Int32) (b4 : Int32) (b5 : Int32) (b6 : Int32) (b7 : Int32) (b8 : Int32) (b9 : Int32) (h0 : Heap) (n0 : Nat) (Z0 : n0 ≤ h0.size) (A0 : Arv Z h0 el ke .byte (10 : Int32) [(.int b0), (.int b1), (.int b2), (.int b3), (.int b4), (.int b5), (.int b6), (.int b7), (.int b8), (.int b9)] (.int (0 : Int32))) (hL1 : 0 ≤ L.toInt) (hL2 : L.toInt ≤ 8) (hL2' : L.toInt ≤ 8) :
    MetFree l (⟨"java/util/Arrays", "copyOfRangeByte", "([BII)[B"⟩ : MethodName) (head1 (Jvm.Cond.code (⟨"java/util/Arrays", "copyOfRangeByte", "([BII)[B"⟩ : MethodName) jdk_65_method_133_code 5 (some (.array .byte)) :: ws) ({ frames := 1, cells := 1, slots := 8, locals := 18 } : Room)) (fun aa_ U => aa_ = #[(.ref el), (.int 2), (.int ((2 : Int32) + L))] ∧ Z.Warmed39 U.vm ∧ U.heap = h0) (fun _ _ _ _ _ => True) (fun _ U oo_ UV_ => ∃ vv_ LL_, oo_ = .returned vv_ ∧ Q_rmCB2 Z el ke L b0 b1 b2 b3 b4 b5 b6 b7 b8 b9 h0 n0 vv_ UV_.heap LL_ ∧ FrameEnd U oo_ UV_ LL_ ({ frames := 1, cells := 1, slots := 8, locals := 18 } : Room).cells ({ frames := 1, cells := 1, slots := 8, locals := 18 } : Room).slots) := by
  refine MetFree.of_bodySF (plainFor_of_name pn_0) hisR ?_
  intro pg ev si mi args below meth ci s₁ Bd hml0 hP0 hK
  obtain ⟨rfl, hZ, hh⟩ := hP0
  have hx := Bd.exec
  have hby := Bd.bytes
  have hml : ci.maxLocals = 5 := hml0
  have hown : si.vm.findClass "java/util/Arrays" = some mi.cls := findClass_of_methodNamed Bd.named
  have hnm := (name_of_methodNamed Bd.named Bd.method).1
  have X0 : Stand pg l ev ({ frames := 1, cells := 1, slots := 8, locals := 18 } : Room) si mi #[(.ref el), (.int 2), (.int ((2 : Int32) + L))] below meth ci s₁ [] 0 0 := Stand.of_body Bd
  have e0 : s₁.heap = h0 := by rw [← hh, Bd.state]; rfl
  have N0 := Fr.nil n0
  refine Go.start (fun P hP => ?_)
  refine Go.st (fun t_ k_ => castTop (ef_rmCB2 mi el ke L b0 b1 b2 b3 b4 b5 b6 b7 b8 b9) k_) (A := s₁.setTop (mkF mi 0 #[.val (.ref el), .val (.int 2), .val (.int ((2 : Int32) + L)), .unset, .unset] [])) ?_
  show Go _ _ _ (s₁.setTop (mkF mi 0 #[.val (.ref el), .val (.int 2), .val (.int ((2 : Int32) + L)), .unset, .unset] [])) _
  refine g_iloadN X0 hx hby dc2_0 rfl ?_
  refine g_iloadN X0 hx hby dc2_1 rfl ?_
  obtain ⟨_, _, ⟨T1, L1, k1, n1⟩, -, X1, ⟨Lc1, hQ1, l1, y1, z1⟩, st1⟩ := Jvm.LawKit.callS X0 hx (y := (⟨"java/util/Arrays", "checkLength", "(II)V"⟩ : MethodName)) hown (mvT hZ (hw _ (own_m 17 rfl))) (mvT hZ (hw _ (own_m 18 rfl))) (mvT hZ (hw _ (own_m 12 rfl))) (mvT hZ (hw _ (own_m 19 rfl))) (by decide) (backOf (W := 0) (rmCk l Z a0 hw [] (2 : Int32) ((2 : Int32) + L) h0 n0 Z0 (own_le hL1 hL2' (by decide) (by decide))) hZ (hw _ (own_m 19 rfl)) (hw _ (own_m 12 rfl)) (by decide) (by decide)) (g := (mkF mi 2 #[.val (.ref el), .val (.int 2), .val (.int ((2 : Int32) + L)), .unset, .unset] [(.int ((2 : Int32) + L)), (.int 2)])) rfl (by rw [hml]; rfl) (argsL := [(.int 2), (.int ((2 : Int32) + L))]) (rest := []) (lenOf pd_0 rfl) rfl (by show 2 * 0 + _ ≤ _; exact Nat.le_of_eq rfl) (hb hby dc2_2) (fun _ _ => ⟨rfl, e0, (by decide : 0 + 0 ≤ _), (by decide : 0 + 0 ≤ _)⟩)
  dsimp only [Pt.U, Pt.locs, Pt.cells, Pt.slots] at X1 l1 y1 z1 st1 hQ1
  subst y1 z1
  have X1 := own_cs X1 (cells' := 0) (slots' := 0) rfl rfl
  obtain ⟨rfl, N1q, e1⟩ := hQ1
  have N1 := own_fr l1 (Fr.app N0 N1q)
  refine Go.st st1 ?_
  refine g_iloadN X1 hx hby dc2_5 rfl ?_
  refine g_iloadN X1 hx hby dc2_6 rfl ?_
  refine g_isub X1 hx hby dc2_7 rfl ?_
  show Go _ _ _ (T1.setTop (mkF mi 8 #[.val (.ref el), .val (.int 2), .val (.int ((2 : Int32) + L)), .unset, .unset] [(.int (((2 : Int32) + L) - (2 : Int32)))])) _
  rw [own_sub]
  show Go _ _ _ (T1.setTop (mkF mi 8 #[.val (.ref el), .val (.int 2), .val (.int ((2 : Int32) + L)), .unset, .unset] [(.int L)])) _
  refine g_istoreN X1 hx hby dc2_8 (l' := #[.val (.ref el), .val (.int 2), .val (.int ((2 : Int32) + L)), .val (.int L), .unset]) rfl ?_
  refine g_iloadN X1 hx hby dc2_9 rfl ?_
  obtain ⟨T2, h2, k2, X2, e2, E2, A2, st2⟩ := newP X1 hx hZ (hw _ (own_m 0 rfl)) e1 (g := (mkF mi 10 #[.val (.ref el), .val (.int 2), .val (.int ((2 : Int32) + L)), .val (.int L), .unset] [(.int L)])) rfl (hb hby dc2_10) rfl (own_len8 hL1 hL2').1 (cap := 8) (own_len8 (k := 8) hL1 hL2').2 (by decide) (by decide) (by decide)
  obtain ⟨ob2, g2⟩ : ∃ z, z = h0.size := ⟨_, rfl⟩
  rw [← g2] at A2 st2
  have Zs3 : n0 ≤ h2.size := Nat.le_trans Z0 E2.1
  have KC3 : Keep h0 h2 [] := (Keep.refl h0 []).ext E2
  have g_ob2 : n0 ≤ ob2 := Nat.le_trans Z0 (Nat.le_of_eq g2.symm)
  have sz_ob2 : h0.size ≤ ob2 := Nat.le_trans (Keep.refl h0 []).1 (Nat.le_of_eq g2.symm)
  have V2 : Arv Z h2 ob2 k2 .byte L [] (.int (0 : Int32)) := Arv.new A2 (own_len8 hL1 hL2').1
  refine Go.st st2 ?_
  refine g_astore X2 hx hby dc2_12 rfl (l' := #[.val (.ref el), .val (.int 2), .val (.int ((2 : Int32) + L)), .val (.int L), .val (.ref ob2)]) rfl ?_
  refine g_aloadN X2 hx hby dc2_14 rfl rfl ?_
  refine g_iloadN X2 hx hby dc2_15 rfl ?_
  refine g_aload X2 hx hby dc2_16 rfl rfl ?_
  refine g_iconst X2 hx hby dc2_18 (v := 0) rfl ?_
  refine g_aloadN X2 hx hby dc2_19 rfl rfl ?_
  have f4 := (A0.ext E2)
  have ov5 := f4
  obtain ⟨cl5, Ar5, q5, S5, M5, H5, G5⟩ := ov5
  refine Go.st (X2.arraylength hx (by rw [e2]; exact Ar5.1) (State.isArrayOf_alike hZ.alike Ar5.2.1) (g := (mkF mi 20 #[.val (.ref el), .val (.int 2), .val (.int ((2 : Int32) + L)), .val (.int L), .val (.ref ob2)] [(.ref el), (.int 0), (.ref ob2), (.int 2), (.ref el)])) rfl rfl (hb hby dc2_20)) ?_
  rw [len_of S5 M5]
  refine g_iloadN X2 hx hby dc2_21 rfl ?_
  refine g_isub X2 hx hby dc2_22 (z := 8) rfl ?_
  refine g_iloadN X2 hx hby dc2_23 rfl ?_
  obtain ⟨_, _, ⟨T6, L6, k6, n6⟩, -, X6, ⟨Lc6, hQ6, l6, y6, z6⟩, st6⟩ := Jvm.LawKit.callS X2 hx (y := (⟨"java/lang/Math", "min", "(II)I"⟩ : MethodName)) hown (mvT hZ (hw _ (own_m 20 rfl))) (mvT hZ (hw _ (own_m 21 rfl))) (mvT hZ (hw _ (own_m 22 rfl))) (mvT hZ (hw _ (own_m 23 rfl))) (by decide) (backOf (W := 4) (rmMin l Z a0 hw [] (8 : Int32) L h2 n0 Zs3) hZ (hw _ (own_m 23 rfl)) (hw _ (own_m 22 rfl)) (by decide) (by decide)) (g := (mkF mi 24 #[.val (.ref el), .val (.int 2), .val (.int ((2 : Int32) + L)), .val (.int L), .val (.ref ob2)] [(.int L), (.int 8), (.int 0), (.ref ob2), (.int 2), (.ref el)])) rfl (by rw [hml]; rfl) (argsL := [(.int 8), (.int L)]) (rest := [(.int 0), (.ref ob2), (.int 2), (.ref el)]) (lenOf pd_1 rfl) rfl (by show 2 * 0 + _ ≤ _; exact Nat.le_of_eq rfl) (hb hby dc2_24) (fun _ _ => ⟨rfl, e2, (by decide : 1 + 0 ≤ _), (by decide : 8 + 0 ≤ _)⟩)
  dsimp only [Pt.U, Pt.locs, Pt.cells, Pt.slots] at X6 l6 y6 z6 st6 hQ6
  subst y6 z6
  have X6 := own_cs X6 (cells' := 1) (slots' := 8) rfl rfl
  obtain ⟨rfl, N6q, e6⟩ := hQ6
  have N6 := own_fr l6 (Fr.app N1 N6q)
  refine Go.st st6 ?_
  show Go _ _ _ (T6.setTop (mkF mi 27 #[.val (.ref el), .val (.int 2), .val (.int ((2 : Int32) + L)), .val (.int L), .val (.ref ob2)] [(.int (fMin (8 : Int32) L)), (.int 0), (.ref ob2), (.int 2), (.ref el)])) _
  have hmn : fMin (8 : Int32) L = L := own_min _ _ hL2
  rw [hmn]
  show Go _ _ _ (T6.setTop (mkF mi 27 #[.val (.ref el), .val (.int 2), .val (.int ((2 : Int32) + L)), .val (.int L), .val (.ref ob2)] [(.int L), (.int 0), (.ref ob2), (.int 2), (.ref el)])) _
  have Vp7 : Arv Z h2 ob2 k2 .byte L (List.replicate L.toNatClampNeg (.int (0 : Int32))) (.int (0 : Int32)) := V2.pad (pad_rep [] _ _)
  obtain ⟨T7, h7, L7, X7, e7, N7, K7, V7, st7⟩ := cpA X6 hx hZ hown (hw _ (own_m 24 rfl)) (hw _ (own_m 27 rfl)) (hw _ (own_m 25 rfl)) (hw _ (own_m 26 rfl)) e6 f4 Vp7 (Or.inl ⟨rfl, rfl⟩) (by decide) (by decide) (own_len8 hL1 hL2').1 (sp := (2 : Int32)) (dp := (0 : Int32)) (nn := L) (by have := (own_len8 (k := 8) hL1 hL2).2; show 2 + _ ≤ 10; omega) (by show 0 + _ ≤ _; omega) rfl (by show 0 + _ ≤ _; rw [List.length_replicate]; omega) N6 g_ob2 (g := (mkF mi 27 #[.val (.ref el), .val (.int 2), .val (.int ((2 : Int32) + L)), .val (.int L), .val (.ref ob2)] [(.int L), (.int 0), (.ref ob2), (.int 2), (.ref el)])) rfl (by rw [hml]; rfl) rfl (hb hby dc2_27) (by decide) (W := 0) (by show 2 * 0 + _ ≤ _; exact Nat.le_of_eq rfl) (by decide)
  have Zs8 : n0 ≤ h7.size := Nat.le_trans Zs3 K7.1
  have KC8 : Keep h0 h7 [] := KC3.trans K7 (allS (P := fun x => x ∈ [] ∨ h0.size ≤ x) (Or.inr sz_ob2) all0)
  refine Go.st st7 ?_
  show Go _ _ _ (T7.setTop (mkF mi 30 #[.val (.ref el), .val (.int 2), .val (.int ((2 : Int32) + L)), .val (.int L), .val (.ref ob2)] [])) _
  refine g_aload X7 hx hby dc2_30 rfl rfl ?_
  obtain ⟨fs, hr, hrun, hended, hW, hsame⟩ := X7.leave (v := some (.ref ob2)) (fun h => by rw [Bd.returns] at h; cases h) (BodyLoose.notSynchronized Bd)
  refine ⟨_, _, ?_, hP _ _ ⟨hrun, hended, _, _, rfl, ?_, ⟨_, rfl⟩, hW, hsame.mono (by decide) (by decide)⟩⟩
  · exact retOut X7 hx Bd.returns rfl (Or.inr (Or.inr (Or.inr (Or.inr ⟨rfl, rfl, rfl⟩)))) (hb hby dc2_32) hr
  · show ∃ (r : Addr) (kr : ClassId) (us : List Value), (some (.ref ob2) : Option Value) = some (.ref r) ∧ Fr n0 _ ∧ Keep h0 T7.heap [] ∧ h0.size ≤ r ∧ n0 ≤ r ∧ Arv Z T7.heap r kr .byte L us (.int (0 : Int32)) ∧ (∀ i, i < L.toNatClampNeg → us.getD i (.int (0 : Int32)) = [(.int b0), (.int b1), (.int b2), (.int b3), (.int b4), (.int b5), (.int b6), (.int b7), (.int b8), (.int b9)].getD (2 + i) (.int (0 : Int32)))
    rw [e7]
    exact ⟨ob2, _, _, rfl, N7, KC8, sz_ob2, g_ob2, V7, own_us _ _ _ _ _ _⟩
theorem dc3_0 : decode jdk_65_method_132_code 0 = .ok (.iload_n 1, 1) := by decide +kernel
theorem dc3_1 : decode jdk_65_method_132_code 1 = .ok (.ifCond .ne 9, 3) := by decide +kernel
theorem dc3_10 : decode jdk_65_method_132_code 10 = .ok (.aload_n 0, 1) := by decide +kernel
theorem dc3_11 : decode jdk_65_method_132_code 11 = .ok (.iload_n 1, 1) := by decide +kernel
theorem dc3_12 : decode jdk_65_method_132_code 12 = .ok (.iload_n 2, 1) := by decide +kernel
theorem dc3_13 : decode jdk_65_method_132_code 13 = .ok (.invokestatic 339, 3) := by decide +kernel
theorem pd_2 : parseMethodDescriptor "([BII)[B" = some ⟨[(.array .byte), .int, .int], some (.array .byte)⟩ := by decide +kernel
theorem dc3_16 : decode jdk_65_method_132_code 16 = .ok (.areturn, 1) := by decide +kernel
theorem ef_rmCR2 (mi : MethodId) (el : Addr) (ke : ClassId) (L : Int32) (b0 : Int32) (b1 : Int32) (b2 : Int32) (b3 : Int32) (b4 : Int32) (b5 : Int32) (b6 : Int32) (b7 : Int32) (b8 : Int32) (b9 : Int32) : entryFrame mi #[(.ref el), (.int 2), (.int ((2 : Int32) + L))] 3 = mkF mi 0 #[.val (.ref el), .val (.int 2), .val (.int ((2 : Int32) + L))] [] := by first | (simp [entryFrame, mkF, argsToLocals, Value.category]; done) | rfl
def Q_rmCR2 (Z : State) (el : Addr) (ke : ClassId) (L : Int32) (b0 : Int32) (b1 : Int32) (b2 : Int32) (b3 : Int32) (b4 : Int32) (b5 : Int32) (b6 : Int32) (b7 : Int32) (b8 : Int32) (b9 : Int32) (h0 : Heap) (n0 : Nat) (vv_ : Option Value) (hh_ : Heap) (LL_ : List Loc) : Prop := ∃ (r : Addr) (kr : ClassId) (us : List Value), vv_ = some (.ref r) ∧ Fr n0 LL_ ∧ Keep h0 hh_ [] ∧ h0.size ≤ r ∧ n0 ≤ r ∧ Arv Z hh_ r kr .byte L us (.int (0 : Int32)) ∧ (∀ i, i < L.toNatClampNeg → us.getD i (.int (0 : Int32)) = [(.int b0), (.int b1), (.int b2), (.int b3), (.int b4), (.int b5), (.int b6), (.int b7), (.int b8), (.int b9)].getD (2 + i) (.int (0 : Int32)))
set_option maxRecDepth 65536 in
set_option maxHeartbeats 40000000 in
theorem rmCR2 (l : Launch) (Z : State) (a0 : Array Value) (hw : ∀ d ∈ tables_1, d.before a0 Z = true) (ws : List Jvm.Cond) (el : Addr) (ke : ClassId) (L : Int32) (b0 : Int32) (b1 : Int32) (b2 : Int32) (b3 : Int32) (b4 : Int32) (b5 : Int32) (b6 : Int32) (b7 : Int32) (b8 : Int32) (b9 : Int32) (h0 : Heap) (n0 : Nat) (Z0 : n0 ≤ h0.size) (A0 : Arv Z h0 el ke .byte (10 : Int32) [(.int b0), (.int b1), (.int b2), (.int b3), (.int b4), (.int b5), (.int b6), (.int b7), (.int b8), (.int b9)] (.int (0 : Int32))) (hL1 : 0 ≤ L.toInt) (hL2 : L.toInt ≤ 8) (hL2' : L.toInt ≤ 8) :
    MetFree l (⟨"java/util/Arrays", "copyOfRange", "([BII)[B"⟩ : MethodName) (head1 (Jvm.Cond.code (⟨"java/util/Arrays", "copyOfRange", "([BII)[B"⟩ : MethodName) jdk_65_method_132_code 3 (some (.array .byte)) :: ws) ({ frames := 2, cells := 1, slots := 8, locals := 34 } : Room)) (fun aa_ U => aa_ = #[(.ref el), (.int 2), (.int ((2 : Int32) + L))] ∧ Z.Warmed39 U.vm ∧ U.heap = h0) (fun _ _ _ _ _ => True) (fun _ U oo_ UV_ => ∃ vv_ LL_, oo_ = .returned vv_ ∧ Q_rmCR2 Z el ke L b0 b1 b2 b3 b4 b5 b6 b7 b8 b9 h0 n0 vv_ UV_.heap LL_ ∧ FrameEnd U oo_ UV_ LL_ ({ frames := 2, cells := 1, slots := 8, locals := 34 } : Room).cells ({ frames := 2, cells := 1, slots := 8, locals := 34 } : Room).slots) := by
  refine MetFree.of_bodySF (plainFor_of_name pn_0) hisR ?_
  intro pg ev si mi args below meth ci s₁ Bd hml0 hP0 hK
  obtain ⟨rfl, hZ, hh⟩ := hP0
  have hx := Bd.exec
  have hby := Bd.bytes
  have hml : ci.maxLocals = 3 := hml0
  have hown : si.vm.findClass "java/util/Arrays" = some mi.cls := findClass_of_methodNamed Bd.named
  have hnm := (name_of_methodNamed Bd.named Bd.method).1
  have X0 : Stand pg l ev ({ frames := 2, cells := 1, slots := 8, locals := 34 } : Room) si mi #[(.ref el), (.int 2), (.int ((2 : Int32) + L))] below meth ci s₁ [] 0 0 := Stand.of_body Bd
  have e0 : s₁.heap = h0 := by rw [← hh, Bd.state]; rfl
  have N0 := Fr.nil n0
  refine Go.start (fun P hP => ?_)
  refine Go.st (fun t_ k_ => castTop (ef_rmCR2 mi el ke L b0 b1 b2 b3 b4 b5 b6 b7 b8 b9) k_) (A := s₁.setTop (mkF mi 0 #[.val (.ref el), .val (.int 2), .val (.int ((2 : Int32) + L))] [])) ?_
  show Go _ _ _ (s₁.setTop (mkF mi 0 #[.val (.ref el), .val (.int 2), .val (.int ((2 : Int32) + L))] [])) _
  refine g_iloadN X0 hx hby dc3_0 rfl ?_
  refine g_ifYes X0 hx hby dc3_1 ((if0 _ _).trans (feq (by decide)).2) (pc0 := 1) (pc' := 10) rfl (by decide) (by decide) ?_
  refine g_aloadN X0 hx hby dc3_10 rfl rfl ?_
  refine g_iloadN X0 hx hby dc3_11 rfl ?_
  refine g_iloadN X0 hx hby dc3_12 rfl ?_
  obtain ⟨_, _, ⟨T1, L1, k1, n1⟩, -, X1, ⟨Lc1, hQ1, l1, y1, z1⟩, st1⟩ := Jvm.LawKit.callS X0 hx (y := (⟨"java/util/Arrays", "copyOfRangeByte", "([BII)[B"⟩ : MethodName)) hown (mvT hZ (hw _ (own_m 14 rfl))) (mvT hZ (hw _ (own_m 15 rfl))) (mvT hZ (hw _ (own_m 12 rfl))) (mvT hZ (hw _ (own_m 16 rfl))) (by decide) (backOf (W := 0) (rmCB2 l Z a0 hw [] el ke L b0 b1 b2 b3 b4 b5 b6 b7 b8 b9 h0 n0 Z0 A0 hL1 hL2 hL2') hZ (hw _ (own_m 16 rfl)) (hw _ (own_m 12 rfl)) (by decide) (by decide)) (g := (mkF mi 13 #[.val (.ref el), .val (.int 2), .val (.int ((2 : Int32) + L))] [(.int ((2 : Int32) + L)), (.int 2), (.ref el)])) rfl (by rw [hml]; rfl) (argsL := [(.ref el), (.int 2), (.int ((2 : Int32) + L))]) (rest := []) (lenOf pd_2 rfl) rfl (by show 2 * 0 + _ ≤ _; exact Nat.le_of_eq rfl) (hb hby dc3_13) (fun _ _ => ⟨rfl, e0, (by decide : 0 + 1 ≤ _), (by decide : 0 + 8 ≤ _)⟩)
  dsimp only [Pt.U, Pt.locs, Pt.cells, Pt.slots] at X1 l1 y1 z1 st1 hQ1
  subst y1 z1
  have X1 := own_cs X1 (cells' := 1) (slots' := 8) rfl rfl
  obtain ⟨h1, e1⟩ : ∃ z, T1.heap = z := ⟨_, rfl⟩
  rw [e1] at hQ1
  obtain ⟨r1, kr1, us1, rfl, N1q, K1, z_r1, g_r1, V_r1, U_r1⟩ := hQ1
  have N1 := own_fr l1 (Fr.app N0 N1q)
  have Zs2 : n0 ≤ h1.size := Nat.le_trans Z0 K1.1
  have KC2 : Keep h0 h1 [] := (Keep.refl h0 []).trans K1 all0
  have sz_r1 : h0.size ≤ r1 := Nat.le_trans (Keep.refl h0 []).1 z_r1
  refine Go.st st1 ?_
  obtain ⟨fs, hr, hrun, hended, hW, hsame⟩ := X1.leave (v := some (.ref r1)) (fun h => by rw [Bd.returns] at h; cases h) (BodyLoose.notSynchronized Bd)
  refine ⟨_, _, ?_, hP _ _ ⟨hrun, hended, _, _, rfl, ?_, ⟨_, rfl⟩, hW, hsame.mono (by decide) (by decide)⟩⟩
  · exact retOut X1 hx Bd.returns rfl (Or.inr (Or.inr (Or.inr (Or.inr ⟨rfl, rfl, rfl⟩)))) (hb hby dc3_16) hr
  · show ∃ (r : Addr) (kr : ClassId) (us : List Value), (some (.ref r1) : Option Value) = some (.ref r) ∧ Fr n0 _ ∧ Keep h0 T1.heap [] ∧ h0.size ≤ r ∧ n0 ≤ r ∧ Arv Z T1.heap r kr .byte L us (.int (0 : Int32)) ∧ (∀ i, i < L.toNatClampNeg → us.getD i (.int (0 : Int32)) = [(.int b0), (.int b1), (.int b2), (.int b3), (.int b4), (.int b5), (.int b6), (.int b7), (.int b8), (.int b9)].getD (2 + i) (.int (0 : Int32)))
    rw [e1]
    exact ⟨r1, kr1, us1, rfl, N1, KC2, sz_r1, g_r1, V_r1, U_r1⟩
theorem ef_rmCB3 (mi : MethodId) (el : Addr) (ke : ClassId) (L : Int32) (b0 : Int32) (b1 : Int32) (b2 : Int32) (b3 : Int32) (b4 : Int32) (b5 : Int32) (b6 : Int32) (b7 : Int32) (b8 : Int32) (b9 : Int32) : entryFrame mi #[(.ref el), (.int 3), (.int ((3 : Int32) + L))] 5 = mkF mi 0 #[.val (.ref el), .val (.int 3), .val (.int ((3 : Int32) + L)), .unset, .unset] [] := by first | (simp [entryFrame, mkF, argsToLocals, Value.category]; done) | rfl
def Q_rmCB3 (Z : State) (el : Addr) (ke : ClassId) (L : Int32) (b0 : Int32) (b1 : Int32) (b2 : Int32) (b3 : Int32) (b4 : Int32) (b5 : Int32) (b6 : Int32) (b7 : Int32) (b8 : Int32) (b9 : Int32) (h0 : Heap) (n0 : Nat) (vv_ : Option Value) (hh_ : Heap) (LL_ : List Loc) : Prop := ∃ (r : Addr) (kr : ClassId) (us : List Value), vv_ = some (.ref r) ∧ Fr n0 LL_ ∧ Keep h0 hh_ [] ∧ h0.size ≤ r ∧ n0 ≤ r ∧ Arv Z hh_ r kr .byte L us (.int (0 : Int32)) ∧ (∀ i, i < L.toNatClampNeg → us.getD i (.int (0 : Int32)) = [(.int b0), (.int b1), (.int b2), (.int b3), (.int b4), (.int b5), (.int b6), (.int b7), (.int b8), (.int b9)].getD (3 + i) (.int (0 : Int32)))
set_option maxRecDepth 65536 in
set_option maxHeartbeats 40000000 in
theorem rmCB3 (l : Launch) (Z : State) (a0 : Array Value) (hw : ∀ d ∈ tables_1, d.before a0 Z = true) (ws : List Jvm.Cond) (el : Addr) (ke : ClassId) (L : Int32) (b0 : Int32) (b1 : Int32) (b2 : Int32) (b3 : Int32) (b4 : Int32) (b5 : Int32) (b6 : Int32) (b7 : Int32) (b8 : Int32) (b9 : Int32) (h0 : Heap) (n0 : Nat) (Z0 : n0 ≤ h0.size) (A0 : Arv Z h0 el ke .byte (10 : Int32) [(.int b0), (.int b1), (.int b2), (.int b3), (.int b4), (.int b5), (.int b6), (.int b7), (.int b8), (.int b9)] (.int (0 : Int32))) (hL1 : 0 ≤ L.toInt) (hL2 : L.toInt ≤ 7) (hL2' : L.toInt ≤ 8) :
    MetFree l (⟨"java/util/Arrays", "copyOfRangeByte", "([BII)[B"⟩ : MethodName) (head1 (Jvm.Cond.code (⟨"java/util/Arrays", "copyOfRangeByte", "([BII)[B"⟩ : MethodName) jdk_65_method_133_code 5 (some (.array .byte)) :: ws) ({ frames := 1, cells := 1, slots := 8, locals := 18 } : Room)) (fun aa_ U => aa_ = #[(.ref el), (.int 3), (.int ((3 : Int32) + L))] ∧ Z.Warmed39 U.vm ∧ U.heap = h0) (fun _ _ _ _ _ => True) (fun _ U oo_ UV_ => ∃ vv_ LL_, oo_ = .returned vv_ ∧ Q_rmCB3 Z el ke L b0 b1 b2 b3 b4 b5 b6 b7 b8 b9 h0 n0 vv_ UV_.heap LL_ ∧ FrameEnd U oo_ UV_ LL_ ({ frames := 1, cells := 1, slots := 8, locals := 18 } : Room).cells ({ frames := 1, cells := 1, slots := 8, locals := 18 } : Room).slots) := by
  refine MetFree.of_bodySF (plainFor_of_name pn_0) hisR ?_
  intro pg ev si mi args below meth ci s₁ Bd hml0 hP0 hK
  obtain ⟨rfl, hZ, hh⟩ := hP0
  have hx := Bd.exec
  have hby := Bd.bytes
  have hml : ci.maxLocals = 5 := hml0
  have hown : si.vm.findClass "java/util/Arrays" = some mi.cls := findClass_of_methodNamed Bd.named
  have hnm := (name_of_methodNamed Bd.named Bd.method).1
  have X0 : Stand pg l ev ({ frames := 1, cells := 1, slots := 8, locals := 18 } : Room) si mi #[(.ref el), (.int 3), (.int ((3 : Int32) + L))] below meth ci s₁ [] 0 0 := Stand.of_body Bd
  have e0 : s₁.heap = h0 := by rw [← hh, Bd.state]; rfl
  have N0 := Fr.nil n0
  refine Go.start (fun P hP => ?_)
  refine Go.st (fun t_ k_ => castTop (ef_rmCB3 mi el ke L b0 b1 b2 b3 b4 b5 b6 b7 b8 b9) k_) (A := s₁.setTop (mkF mi 0 #[.val (.ref el), .val (.int 3), .val (.int ((3 : Int32) + L)), .unset, .unset] [])) ?_
  show Go _ _ _ (s₁.setTop (mkF mi 0 #[.val (.ref el), .val (.int 3), .val (.int ((3 : Int32) + L)), .unset, .unset] [])) _
  refine g_iloadN X0 hx hby dc2_0 rfl ?_
  refine g_iloadN X0 hx hby dc2_1 rfl ?_
  obtain ⟨_, _, ⟨T1, L1, k1, n1⟩, -, X1, ⟨Lc1, hQ1, l1, y1, z1⟩, st1⟩ := Jvm.LawKit.callS X0 hx (y := (⟨"java/util/Arrays", "checkLength", "(II)V"⟩ : MethodName)) hown (mvT hZ (hw _ (own_m 17 rfl))) (mvT hZ (hw _ (own_m 18 rfl))) (mvT hZ (hw _ (own_m 12 rfl))) (mvT hZ (hw _ (own_m 19 rfl))) (by decide) (backOf (W := 0) (rmCk l Z a0 hw [] (3 : Int32) ((3 : Int32) + L) h0 n0 Z0 (own_le hL1 hL2' (by decide) (by decide))) hZ (hw _ (own_m 19 rfl)) (hw _ (own_m 12 rfl)) (by decide) (by decide)) (g := (mkF mi 2 #[.val (.ref el), .val (.int 3), .val (.int ((3 : Int32) + L)), .unset, .unset] [(.int ((3 : Int32) + L)), (.int 3)])) rfl (by rw [hml]; rfl) (argsL := [(.int 3), (.int ((3 : Int32) + L))]) (rest := []) (lenOf pd_0 rfl) rfl (by show 2 * 0 + _ ≤ _; exact Nat.le_of_eq rfl) (hb hby dc2_2) (fun _ _ => ⟨rfl, e0, (by decide : 0 + 0 ≤ _), (by decide : 0 + 0 ≤ _)⟩)
  dsimp only [Pt.U, Pt.locs, Pt.cells, Pt.slots] at X1 l1 y1 z1 st1 hQ1
  subst y1 z1
  have X1 := own_cs X1 (cells' := 0) (slots' := 0) rfl rfl
  obtain ⟨rfl, N1q, e1⟩ := hQ1
  have N1 := own_fr l1 (Fr.app N0 N1q)
  refine Go.st st1 ?_
  refine g_iloadN X1 hx hby dc2_5 rfl ?_
  refine g_iloadN X1 hx hby dc2_6 rfl ?_
  refine g_isub X1 hx hby dc2_7 rfl ?_
  show Go _ _ _ (T1.setTop (mkF mi 8 #[.val (.ref el), .val (.int 3), .val (.int ((3 : Int32) + L)), .unset, .unset] [(.int (((3 : Int32) + L) - (3 : Int32)))])) _
  rw [own_sub]
  show Go _ _ _ (T1.setTop (mkF mi 8 #[.val (.ref el), .val (.int 3), .val (.int ((3 : Int32) + L)), .unset, .unset] [(.int L)])) _
  refine g_istoreN X1 hx hby dc2_8 (l' := #[.val (.ref el), .val (.int 3), .val (.int ((3 : Int32) + L)), .val (.int L), .unset]) rfl ?_
  refine g_iloadN X1 hx hby dc2_9 rfl ?_
  obtain ⟨T2, h2, k2, X2, e2, E2, A2, st2⟩ := newP X1 hx hZ (hw _ (own_m 0 rfl)) e1 (g := (mkF mi 10 #[.val (.ref el), .val (.int 3), .val (.int ((3 : Int32) + L)), .val (.int L), .unset] [(.int L)])) rfl (hb hby dc2_10) rfl (own_len8 hL1 hL2').1 (cap := 8) (own_len8 (k := 8) hL1 hL2').2 (by decide) (by decide) (by decide)
  obtain ⟨ob2, g2⟩ : ∃ z, z = h0.size := ⟨_, rfl⟩
  rw [← g2] at A2 st2
  have Zs3 : n0 ≤ h2.size := Nat.le_trans Z0 E2.1
  have KC3 : Keep h0 h2 [] := (Keep.refl h0 []).ext E2
  have g_ob2 : n0 ≤ ob2 := Nat.le_trans Z0 (Nat.le_of_eq g2.symm)
  have sz_ob2 : h0.size ≤ ob2 := Nat.le_trans (Keep.refl h0 []).1 (Nat.le_of_eq g2.symm)
  have V2 : Arv Z h2 ob2 k2 .byte L [] (.int (0 : Int32)) := Arv.new A2 (own_len8 hL1 hL2').1
  refine Go.st st2 ?_
  refine g_astore X2 hx hby dc2_12 rfl (l' := #[.val (.ref el), .val (.int 3), .val (.int ((3 : Int32) + L)), .val (.int L), .val (.ref ob2)]) rfl ?_
  refine g_aloadN X2 hx hby dc2_14 rfl rfl ?_
  refine g_iloadN X2 hx hby dc2_15 rfl ?_
  refine g_aload X2 hx hby dc2_16 rfl rfl ?_
  refine g_iconst X2 hx hby dc2_18 (v := 0) rfl ?_
  refine g_aloadN X2 hx hby dc2_19 rfl rfl ?_
  have f4 := (A0.ext E2)
  have ov5 := f4
  obtain ⟨cl5, Ar5, q5, S5, M5, H5, G5⟩ := ov5
  refine Go.st (X2.arraylength hx (by rw [e2]; exact Ar5.1) (State.isArrayOf_alike hZ.alike Ar5.2.1) (g := (mkF mi 20 #[.val (.ref el), .val (.int 3), .val (.int ((3 : Int32) + L)), .val (.int L), .val (.ref ob2)] [(.ref el), (.int 0), (.ref ob2), (.int 3), (.ref el)])) rfl rfl (hb hby dc2_20)) ?_
  rw [len_of S5 M5]
  refine g_iloadN X2 hx hby dc2_21 rfl ?_
  refine g_isub X2 hx hby dc2_22 (z := 7) rfl ?_
  refine g_iloadN X2 hx hby dc2_23 rfl ?_
  obtain ⟨_, _, ⟨T6, L6, k6, n6⟩, -, X6, ⟨Lc6, hQ6, l6, y6, z6⟩, st6⟩ := Jvm.LawKit.callS X2 hx (y := (⟨"java/lang/Math", "min", "(II)I"⟩ : MethodName)) hown (mvT hZ (hw _ (own_m 20 rfl))) (mvT hZ (hw _ (own_m 21 rfl))) (mvT hZ (hw _ (own_m 22 rfl))) (mvT hZ (hw _ (own_m 23 rfl))) (by decide) (backOf (W := 4) (rmMin l Z a0 hw [] (7 : Int32) L h2 n0 Zs3) hZ (hw _ (own_m 23 rfl)) (hw _ (own_m 22 rfl)) (by decide) (by decide)) (g := (mkF mi 24 #[.val (.ref el), .val (.int 3), .val (.int ((3 : Int32) + L)), .val (.int L), .val (.ref ob2)] [(.int L), (.int 7), (.int 0), (.ref ob2), (.int 3), (.ref el)])) rfl (by rw [hml]; rfl) (argsL := [(.int 7), (.int L)]) (rest := [(.int 0), (.ref ob2), (.int 3), (.ref el)]) (lenOf pd_1 rfl) rfl (by show 2 * 0 + _ ≤ _; exact Nat.le_of_eq rfl) (hb hby dc2_24) (fun _ _ => ⟨rfl, e2, (by decide : 1 + 0 ≤ _), (by decide : 8 + 0 ≤ _)⟩)
  dsimp only [Pt.U, Pt.locs, Pt.cells, Pt.slots] at X6 l6 y6 z6 st6 hQ6
  subst y6 z6
  have X6 := own_cs X6 (cells' := 1) (slots' := 8) rfl rfl
  obtain ⟨rfl, N6q, e6⟩ := hQ6
  have N6 := own_fr l6 (Fr.app N1 N6q)
  refine Go.st st6 ?_
  show Go _ _ _ (T6.setTop (mkF mi 27 #[.val (.ref el), .val (.int 3), .val (.int ((3 : Int32) + L)), .val (.int L), .val (.ref ob2)] [(.int (fMin (7 : Int32) L)), (.int 0), (.ref ob2), (.int 3), (.ref el)])) _
  have hmn : fMin (7 : Int32) L = L := own_min _ _ hL2
  rw [hmn]
  show Go _ _ _ (T6.setTop (mkF mi 27 #[.val (.ref el), .val (.int 3), .val (.int ((3 : Int32) + L)), .val (.int L), .val (.ref ob2)] [(.int L), (.int 0), (.ref ob2), (.int 3), (.ref el)])) _
  have Vp7 : Arv Z h2 ob2 k2 .byte L (List.replicate L.toNatClampNeg (.int (0 : Int32))) (.int (0 : Int32)) := V2.pad (pad_rep [] _ _)
  obtain ⟨T7, h7, L7, X7, e7, N7, K7, V7, st7⟩ := cpA X6 hx hZ hown (hw _ (own_m 24 rfl)) (hw _ (own_m 27 rfl)) (hw _ (own_m 25 rfl)) (hw _ (own_m 26 rfl)) e6 f4 Vp7 (Or.inl ⟨rfl, rfl⟩) (by decide) (by decide) (own_len8 hL1 hL2').1 (sp := (3 : Int32)) (dp := (0 : Int32)) (nn := L) (by have := (own_len8 (k := 7) hL1 hL2).2; show 3 + _ ≤ 10; omega) (by show 0 + _ ≤ _; omega) rfl (by show 0 + _ ≤ _; rw [List.length_replicate]; omega) N6 g_ob2 (g := (mkF mi 27 #[.val (.ref el), .val (.int 3), .val (.int ((3 : Int32) + L)), .val (.int L), .val (.ref ob2)] [(.int L), (.int 0), (.ref ob2), (.int 3), (.ref el)])) rfl (by rw [hml]; rfl) rfl (hb hby dc2_27) (by decide) (W := 0) (by show 2 * 0 + _ ≤ _; exact Nat.le_of_eq rfl) (by decide)
  have Zs8 : n0 ≤ h7.size := Nat.le_trans Zs3 K7.1
  have KC8 : Keep h0 h7 [] := KC3.trans K7 (allS (P := fun x => x ∈ [] ∨ h0.size ≤ x) (Or.inr sz_ob2) all0)
  refine Go.st st7 ?_
  show Go _ _ _ (T7.setTop (mkF mi 30 #[.val (.ref el), .val (.int 3), .val (.int ((3 : Int32) + L)), .val (.int L), .val (.ref ob2)] [])) _
  refine g_aload X7 hx hby dc2_30 rfl rfl ?_
  obtain ⟨fs, hr, hrun, hended, hW, hsame⟩ := X7.leave (v := some (.ref ob2)) (fun h => by rw [Bd.returns] at h; cases h) (BodyLoose.notSynchronized Bd)
  refine ⟨_, _, ?_, hP _ _ ⟨hrun, hended, _, _, rfl, ?_, ⟨_, rfl⟩, hW, hsame.mono (by decide) (by decide)⟩⟩
  · exact retOut X7 hx Bd.returns rfl (Or.inr (Or.inr (Or.inr (Or.inr ⟨rfl, rfl, rfl⟩)))) (hb hby dc2_32) hr
  · show ∃ (r : Addr) (kr : ClassId) (us : List Value), (some (.ref ob2) : Option Value) = some (.ref r) ∧ Fr n0 _ ∧ Keep h0 T7.heap [] ∧ h0.size ≤ r ∧ n0 ≤ r ∧ Arv Z T7.heap r kr .byte L us (.int (0 : Int32)) ∧ (∀ i, i < L.toNatClampNeg → us.getD i (.int (0 : Int32)) = [(.int b0), (.int b1), (.int b2), (.int b3), (.int b4), (.int b5), (.int b6), (.int b7), (.int b8), (.int b9)].getD (3 + i) (.int (0 : Int32)))
    rw [e7]
    exact ⟨ob2, _, _, rfl, N7, KC8, sz_ob2, g_ob2, V7, own_us _ _ _ _ _ _⟩
theorem ef_rmCR3 (mi : MethodId) (el : Addr) (ke : ClassId) (L : Int32) (b0 : Int32) (b1 : Int32) (b2 : Int32) (b3 : Int32) (b4 : Int32) (b5 : Int32) (b6 : Int32) (b7 : Int32) (b8 : Int32) (b9 : Int32) : entryFrame mi #[(.ref el), (.int 3), (.int ((3 : Int32) + L))] 3 = mkF mi 0 #[.val (.ref el), .val (.int 3), .val (.int ((3 : Int32) + L))] [] := by first | (simp [entryFrame, mkF, argsToLocals, Value.category]; done) | rfl
def Q_rmCR3 (Z : State) (el : Addr) (ke : ClassId) (L : Int32) (b0 : Int32) (b1 : Int32) (b2 : Int32) (b3 : Int32) (b4 : Int32) (b5 : Int32) (b6 : Int32) (b7 : Int32) (b8 : Int32) (b9 : Int32) (h0 : Heap) (n0 : Nat) (vv_ : Option Value) (hh_ : Heap) (LL_ : List Loc) : Prop := ∃ (r : Addr) (kr : ClassId) (us : List Value), vv_ = some (.ref r) ∧ Fr n0 LL_ ∧ Keep h0 hh_ [] ∧ h0.size ≤ r ∧ n0 ≤ r ∧ Arv Z hh_ r kr .byte L us (.int (0 : Int32)) ∧ (∀ i, i < L.toNatClampNeg → us.getD i (.int (0 : Int32)) = [(.int b0), (.int b1), (.int b2), (.int b3), (.int b4), (.int b5), (.int b6), (.int b7), (.int b8), (.int b9)].getD (3 + i) (.int (0 : Int32)))
set_option maxRecDepth 65536 in
set_option maxHeartbeats 40000000 in
theorem rmCR3 (l : Launch) (Z : State) (a0 : Array Value) (hw : ∀ d ∈ tables_1, d.before a0 Z = true) (ws : List Jvm.Cond) (el : Addr) (ke : ClassId) (L : Int32) (b0 : Int32) (b1 : Int32) (b2 : Int32) (b3 : Int32) (b4 : Int32) (b5 : Int32) (b6 : Int32) (b7 : Int32) (b8 : Int32) (b9 : Int32) (h0 : Heap) (n0 : Nat) (Z0 : n0 ≤ h0.size) (A0 : Arv Z h0 el ke .byte (10 : Int32) [(.int b0), (.int b1), (.int b2), (.int b3), (.int b4), (.int b5), (.int b6), (.int b7), (.int b8), (.int b9)] (.int (0 : Int32))) (hL1 : 0 ≤ L.toInt) (hL2 : L.toInt ≤ 7) (hL2' : L.toInt ≤ 8) :
    MetFree l (⟨"java/util/Arrays", "copyOfRange", "([BII)[B"⟩ : MethodName) (head1 (Jvm.Cond.code (⟨"java/util/Arrays", "copyOfRange", "([BII)[B"⟩ : MethodName) jdk_65_method_132_code 3 (some (.array .byte)) :: ws) ({ frames := 2, cells := 1, slots := 8, locals := 34 } : Room)) (fun aa_ U => aa_ = #[(.ref el), (.int 3), (.int ((3 : Int32) + L))] ∧ Z.Warmed39 U.vm ∧ U.heap = h0) (fun _ _ _ _ _ => True) (fun _ U oo_ UV_ => ∃ vv_ LL_, oo_ = .returned vv_ ∧ Q_rmCR3 Z el ke L b0 b1 b2 b3 b4 b5 b6 b7 b8 b9 h0 n0 vv_ UV_.heap LL_ ∧ FrameEnd U oo_ UV_ LL_ ({ frames := 2, cells := 1, slots := 8, locals := 34 } : Room).cells ({ frames := 2, cells := 1, slots := 8, locals := 34 } : Room).slots) := by
  refine MetFree.of_bodySF (plainFor_of_name pn_0) hisR ?_
  intro pg ev si mi args below meth ci s₁ Bd hml0 hP0 hK
  obtain ⟨rfl, hZ, hh⟩ := hP0
  have hx := Bd.exec
  have hby := Bd.bytes
  have hml : ci.maxLocals = 3 := hml0
  have hown : si.vm.findClass "java/util/Arrays" = some mi.cls := findClass_of_methodNamed Bd.named
  have hnm := (name_of_methodNamed Bd.named Bd.method).1
  have X0 : Stand pg l ev ({ frames := 2, cells := 1, slots := 8, locals := 34 } : Room) si mi #[(.ref el), (.int 3), (.int ((3 : Int32) + L))] below meth ci s₁ [] 0 0 := Stand.of_body Bd
  have e0 : s₁.heap = h0 := by rw [← hh, Bd.state]; rfl
  have N0 := Fr.nil n0
  refine Go.start (fun P hP => ?_)
  refine Go.st (fun t_ k_ => castTop (ef_rmCR3 mi el ke L b0 b1 b2 b3 b4 b5 b6 b7 b8 b9) k_) (A := s₁.setTop (mkF mi 0 #[.val (.ref el), .val (.int 3), .val (.int ((3 : Int32) + L))] [])) ?_
  show Go _ _ _ (s₁.setTop (mkF mi 0 #[.val (.ref el), .val (.int 3), .val (.int ((3 : Int32) + L))] [])) _
  refine g_iloadN X0 hx hby dc3_0 rfl ?_
  refine g_ifYes X0 hx hby dc3_1 ((if0 _ _).trans (feq (by decide)).2) (pc0 := 1) (pc' := 10) rfl (by decide) (by decide) ?_
  refine g_aloadN X0 hx hby dc3_10 rfl rfl ?_
  refine g_iloadN X0 hx hby dc3_11 rfl ?_
  refine g_iloadN X0 hx hby dc3_12 rfl ?_
  obtain ⟨_, _, ⟨T1, L1, k1, n1⟩, -, X1, ⟨Lc1, hQ1, l1, y1, z1⟩, st1⟩ := Jvm.LawKit.callS X0 hx (y := (⟨"java/util/Arrays", "copyOfRangeByte", "([BII)[B"⟩ : MethodName)) hown (mvT hZ (hw _ (own_m 14 rfl))) (mvT hZ (hw _ (own_m 15 rfl))) (mvT hZ (hw _ (own_m 12 rfl))) (mvT hZ (hw _ (own_m 16 rfl))) (by decide) (backOf (W := 0) (rmCB3 l Z a0 hw [] el ke L b0 b1 b2 b3 b4 b5 b6 b7 b8 b9 h0 n0 Z0 A0 hL1 hL2 hL2') hZ (hw _ (own_m 16 rfl)) (hw _ (own_m 12 rfl)) (by decide) (by decide)) (g := (mkF mi 13 #[.val (.ref el), .val (.int 3), .val (.int ((3 : Int32) + L))] [(.int ((3 : Int32) + L)), (.int 3), (.ref el)])) rfl (by rw [hml]; rfl) (argsL := [(.ref el), (.int 3), (.int ((3 : Int32) + L))]) (rest := []) (lenOf pd_2 rfl) rfl (by show 2 * 0 + _ ≤ _; exact Nat.le_of_eq rfl) (hb hby dc3_13) (fun _ _ => ⟨rfl, e0, (by decide : 0 + 1 ≤ _), (by decide : 0 + 8 ≤ _)⟩)
  dsimp only [Pt.U, Pt.locs, Pt.cells, Pt.slots] at X1 l1 y1 z1 st1 hQ1
  subst y1 z1
  have X1 := own_cs X1 (cells' := 1) (slots' := 8) rfl rfl
  obtain ⟨h1, e1⟩ : ∃ z, T1.heap = z := ⟨_, rfl⟩
  rw [e1] at hQ1
  obtain ⟨r1, kr1, us1, rfl, N1q, K1, z_r1, g_r1, V_r1, U_r1⟩ := hQ1
  have N1 := own_fr l1 (Fr.app N0 N1q)
  have Zs2 : n0 ≤ h1.size := Nat.le_trans Z0 K1.1
  have KC2 : Keep h0 h1 [] := (Keep.refl h0 []).trans K1 all0
  have sz_r1 : h0.size ≤ r1 := Nat.le_trans (Keep.refl h0 []).1 z_r1
  refine Go.st st1 ?_
  obtain ⟨fs, hr, hrun, hended, hW, hsame⟩ := X1.leave (v := some (.ref r1)) (fun h => by rw [Bd.returns] at h; cases h) (BodyLoose.notSynchronized Bd)
  refine ⟨_, _, ?_, hP _ _ ⟨hrun, hended, _, _, rfl, ?_, ⟨_, rfl⟩, hW, hsame.mono (by decide) (by decide)⟩⟩
  · exact retOut X1 hx Bd.returns rfl (Or.inr (Or.inr (Or.inr (Or.inr ⟨rfl, rfl, rfl⟩)))) (hb hby dc3_16) hr
  · show ∃ (r : Addr) (kr : ClassId) (us : List Value), (some (.ref r1) : Option Value) = some (.ref r) ∧ Fr n0 _ ∧ Keep h0 T1.heap [] ∧ h0.size ≤ r ∧ n0 ≤ r ∧ Arv Z T1.heap r kr .byte L us (.int (0 : Int32)) ∧ (∀ i, i < L.toNatClampNeg → us.getD i (.int (0 : Int32)) = [(.int b0), (.int b1), (.int b2), (.int b3), (.int b4), (.int b5), (.int b6), (.int b7), (.int b8), (.int b9)].getD (3 + i) (.int (0 : Int32)))
    rw [e1]
    exact ⟨r1, kr1, us1, rfl, N1, KC2, sz_r1, g_r1, V_r1, U_r1⟩
theorem ef_rmCB4 (mi : MethodId) (el : Addr) (ke : ClassId) (L : Int32) (b0 : Int32) (b1 : Int32) (b2 : Int32) (b3 : Int32) (b4 : Int32) (b5 : Int32) (b6 : Int32) (b7 : Int32) (b8 : Int32) (b9 : Int32) : entryFrame mi #[(.ref el), (.int 4), (.int ((4 : Int32) + L))] 5 = mkF mi 0 #[.val (.ref el), .val (.int 4), .val (.int ((4 : Int32) + L)), .unset, .unset] [] := by first | (simp [entryFrame, mkF, argsToLocals, Value.category]; done) | rfl
def Q_rmCB4 (Z : State) (el : Addr) (ke : ClassId) (L : Int32) (b0 : Int32) (b1 : Int32) (b2 : Int32) (b3 : Int32) (b4 : Int32) (b5 : Int32) (b6 : Int32) (b7 : Int32) (b8 : Int32) (b9 : Int32) (h0 : Heap) (n0 : Nat) (vv_ : Option Value) (hh_ : Heap) (LL_ : List Loc) : Prop := ∃ (r : Addr) (kr : ClassId) (us : List Value), vv_ = some (.ref r) ∧ Fr n0 LL_ ∧ Keep h0 hh_ [] ∧ h0.size ≤ r ∧ n0 ≤ r ∧ Arv Z hh_ r kr .byte L us (.int (0 : Int32)) ∧ (∀ i, i < L.toNatClampNeg → us.getD i (.int (0 : Int32)) = [(.int b0), (.int b1), (.int b2), (.int b3), (.int b4), (.int b5), (.int b6), (.int b7), (.int b8), (.int b9)].getD (4 + i) (.int (0 : Int32)))
set_option maxRecDepth 65536 in
set_option maxHeartbeats 40000000 in
theorem rmCB4 (l : Launch) (Z : State) (a0 : Array Value) (hw : ∀ d ∈ tables_1, d.before a0 Z = true) (ws : List Jvm.Cond) (el : Addr) (ke : ClassId) (L : Int32) (b0 : Int32) (b1 : Int32) (b2 : Int32) (b3 : Int32) (b4 : Int32) (b5 : Int32) (b6 : Int32) (b7 : Int32) (b8 : Int32) (b9 : Int32) (h0 : Heap) (n0 : Nat) (Z0 : n0 ≤ h0.size) (A0 : Arv Z h0 el ke .byte (10 : Int32) [(.int b0), (.int b1), (.int b2), (.int b3), (.int b4), (.int b5), (.int b6), (.int b7), (.int b8), (.int b9)] (.int (0 : Int32))) (hL1 : 0 ≤ L.toInt) (hL2 : L.toInt ≤ 6) (hL2' : L.toInt ≤ 8) :
    MetFree l (⟨"java/util/Arrays", "copyOfRangeByte", "([BII)[B"⟩ : MethodName) (head1 (Jvm.Cond.code (⟨"java/util/Arrays", "copyOfRangeByte", "([BII)[B"⟩ : MethodName) jdk_65_method_133_code 5 (some (.array .byte)) :: ws) ({ frames := 1, cells := 1, slots := 8, locals := 18 } : Room)) (fun aa_ U => aa_ = #[(.ref el), (.int 4), (.int ((4 : Int32) + L))] ∧ Z.Warmed39 U.vm ∧ U.heap = h0) (fun _ _ _ _ _ => True) (fun _ U oo_ UV_ => ∃ vv_ LL_, oo_ = .returned vv_ ∧ Q_rmCB4 Z el ke L b0 b1 b2 b3 b4 b5 b6 b7 b8 b9 h0 n0 vv_ UV_.heap LL_ ∧ FrameEnd U oo_ UV_ LL_ ({ frames := 1, cells := 1, slots := 8, locals := 18 } : Room).cells ({ frames := 1, cells := 1, slots := 8, locals := 18 } : Room).slots) := by
  refine MetFree.of_bodySF (plainFor_of_name pn_0) hisR ?_
  intro pg ev si mi args below meth ci s₁ Bd hml0 hP0 hK
  obtain ⟨rfl, hZ, hh⟩ := hP0
  have hx := Bd.exec
  have hby := Bd.bytes
  have hml : ci.maxLocals = 5 := hml0
  have hown : si.vm.findClass "java/util/Arrays" = some mi.cls := findClass_of_methodNamed Bd.named
  have hnm := (name_of_methodNamed Bd.named Bd.method).1
  have X0 : Stand pg l ev ({ frames := 1, cells := 1, slots := 8, locals := 18 } : Room) si mi #[(.ref el), (.int 4), (.int ((4 : Int32) + L))] below meth ci s₁ [] 0 0 := Stand.of_body Bd
  have e0 : s₁.heap = h0 := by rw [← hh, Bd.state]; rfl
  have N0 := Fr.nil n0
  refine Go.start (fun P hP => ?_)
  refine Go.st (fun t_ k_ => castTop (ef_rmCB4 mi el ke L b0 b1 b2 b3 b4 b5 b6 b7 b8 b9) k_) (A := s₁.setTop (mkF mi 0 #[.val (.ref el), .val (.int 4), .val (.int ((4 : Int32) + L)), .unset, .unset] [])) ?_
  show Go _ _ _ (s₁.setTop (mkF mi 0 #[.val (.ref el), .val (.int 4), .val (.int ((4 : Int32) + L)), .unset, .unset] [])) _
  refine g_iloadN X0 hx hby dc2_0 rfl ?_
  refine g_iloadN X0 hx hby dc2_1 rfl ?_
  obtain ⟨_, _, ⟨T1, L1, k1, n1⟩, -, X1, ⟨Lc1, hQ1, l1, y1, z1⟩, st1⟩ := Jvm.LawKit.callS X0 hx (y := (⟨"java/util/Arrays", "checkLength", "(II)V"⟩ : MethodName)) hown (mvT hZ (hw _ (own_m 17 rfl))) (mvT hZ (hw _ (own_m 18 rfl))) (mvT hZ (hw _ (own_m 12 rfl))) (mvT hZ (hw _ (own_m 19 rfl))) (by decide) (backOf (W := 0) (rmCk l Z a0 hw [] (4 : Int32) ((4 : Int32) + L) h0 n0 Z0 (own_le hL1 hL2' (by decide) (by decide))) hZ (hw _ (own_m 19 rfl)) (hw _ (own_m 12 rfl)) (by decide) (by decide)) (g := (mkF mi 2 #[.val (.ref el), .val (.int 4), .val (.int ((4 : Int32) + L)), .unset, .unset] [(.int ((4 : Int32) + L)), (.int 4)])) rfl (by rw [hml]; rfl) (argsL := [(.int 4), (.int ((4 : Int32) + L))]) (rest := []) (lenOf pd_0 rfl) rfl (by show 2 * 0 + _ ≤ _; exact Nat.le_of_eq rfl) (hb hby dc2_2) (fun _ _ => ⟨rfl, e0, (by decide : 0 + 0 ≤ _), (by decide : 0 + 0 ≤ _)⟩)
  dsimp only [Pt.U, Pt.locs, Pt.cells, Pt.slots] at X1 l1 y1 z1 st1 hQ1
  subst y1 z1
  have X1 := own_cs X1 (cells' := 0) (slots' := 0) rfl rfl
  obtain ⟨rfl, N1q, e1⟩ := hQ1
  have N1 := own_fr l1 (Fr.app N0 N1q)
  refine Go.st st1 ?_
  refine g_iloadN X1 hx hby dc2_5 rfl ?_
  refine g_iloadN X1 hx hby dc2_6 rfl ?_
  refine g_isub X1 hx hby dc2_7 rfl ?_
  show Go _ _ _ (T1.setTop (mkF mi 8 #[.val (.ref el), .val (.int 4), .val (.int ((4 : Int32) + L)), .unset, .unset] [(.int (((4 : Int32) + L) - (4 : Int32)))])) _
  rw [own_sub]
  show Go _ _ _ (T1.setTop (mkF mi 8 #[.val (.ref el), .val (.int 4), .val (.int ((4 : Int32) + L)), .unset, .unset] [(.int L)])) _
  refine g_istoreN X1 hx hby dc2_8 (l' := #[.val (.ref el), .val (.int 4), .val (.int ((4 : Int32) + L)), .val (.int L), .unset]) rfl ?_
  refine g_iloadN X1 hx hby dc2_9 rfl ?_
  obtain ⟨T2, h2, k2, X2, e2, E2, A2, st2⟩ := newP X1 hx hZ (hw _ (own_m 0 rfl)) e1 (g := (mkF mi 10 #[.val (.ref el), .val (.int 4), .val (.int ((4 : Int32) + L)), .val (.int L), .unset] [(.int L)])) rfl (hb hby dc2_10) rfl (own_len8 hL1 hL2').1 (cap := 8) (own_len8 (k := 8) hL1 hL2').2 (by decide) (by decide) (by decide)
  obtain ⟨ob2, g2⟩ : ∃ z, z = h0.size := ⟨_, rfl⟩
  rw [← g2] at A2 st2
  have Zs3 : n0 ≤ h2.size := Nat.le_trans Z0 E2.1
  have KC3 : Keep h0 h2 [] := (Keep.refl h0 []).ext E2
  have g_ob2 : n0 ≤ ob2 := Nat.le_trans Z0 (Nat.le_of_eq g2.symm)
  have sz_ob2 : h0.size ≤ ob2 := Nat.le_trans (Keep.refl h0 []).1 (Nat.le_of_eq g2.symm)
  have V2 : Arv Z h2 ob2 k2 .byte L [] (.int (0 : Int32)) := Arv.new A2 (own_len8 hL1 hL2').1
  refine Go.st st2 ?_
  refine g_astore X2 hx hby dc2_12 rfl (l' := #[.val (.ref el), .val (.int 4), .val (.int ((4 : Int32) + L)), .val (.int L), .val (.ref ob2)]) rfl ?_
  refine g_aloadN X2 hx hby dc2_14 rfl rfl ?_
  refine g_iloadN X2 hx hby dc2_15 rfl ?_
  refine g_aload X2 hx hby dc2_16 rfl rfl ?_
  refine g_iconst X2 hx hby dc2_18 (v := 0) rfl ?_
  refine g_aloadN X2 hx hby dc2_19 rfl rfl ?_
  have f4 := (A0.ext E2)
  have ov5 := f4
  obtain ⟨cl5, Ar5, q5, S5, M5, H5, G5⟩ := ov5
  refine Go.st (X2.arraylength hx (by rw [e2]; exact Ar5.1) (State.isArrayOf_alike hZ.alike Ar5.2.1) (g := (mkF mi 20 #[.val (.ref el), .val (.int 4), .val (.int ((4 : Int32) + L)), .val (.int L), .val (.ref ob2)] [(.ref el), (.int 0), (.ref ob2), (.int 4), (.ref el)])) rfl rfl (hb hby dc2_20)) ?_
  rw [len_of S5 M5]
  refine g_iloadN X2 hx hby dc2_21 rfl ?_
  refine g_isub X2 hx hby dc2_22 (z := 6) rfl ?_
  refine g_iloadN X2 hx hby dc2_23 rfl ?_
  obtain ⟨_, _, ⟨T6, L6, k6, n6⟩, -, X6, ⟨Lc6, hQ6, l6, y6, z6⟩, st6⟩ := Jvm.LawKit.callS X2 hx (y := (⟨"java/lang/Math", "min", "(II)I"⟩ : MethodName)) hown (mvT hZ (hw _ (own_m 20 rfl))) (mvT hZ (hw _ (own_m 21 rfl))) (mvT hZ (hw _ (own_m 22 rfl))) (mvT hZ (hw _ (own_m 23 rfl))) (by decide) (backOf (W := 4) (rmMin l Z a0 hw [] (6 : Int32) L h2 n0 Zs3) hZ (hw _ (own_m 23 rfl)) (hw _ (own_m 22 rfl)) (by decide) (by decide)) (g := (mkF mi 24 #[.val (.ref el), .val (.int 4), .val (.int ((4 : Int32) + L)), .val (.int L), .val (.ref ob2)] [(.int L), (.int 6), (.int 0), (.ref ob2), (.int 4), (.ref el)])) rfl (by rw [hml]; rfl) (argsL := [(.int 6), (.int L)]) (rest := [(.int 0), (.ref ob2), (.int 4), (.ref el)]) (lenOf pd_1 rfl) rfl (by show 2 * 0 + _ ≤ _; exact Nat.le_of_eq rfl) (hb hby dc2_24) (fun _ _ => ⟨rfl, e2, (by decide : 1 + 0 ≤ _), (by decide : 8 + 0 ≤ _)⟩)
  dsimp only [Pt.U, Pt.locs, Pt.cells, Pt.slots] at X6 l6 y6 z6 st6 hQ6
  subst y6 z6
  have X6 := own_cs X6 (cells' := 1) (slots' := 8) rfl rfl
  obtain ⟨rfl, N6q, e6⟩ := hQ6
  have N6 := own_fr l6 (Fr.app N1 N6q)
  refine Go.st st6 ?_
  show Go _ _ _ (T6.setTop (mkF mi 27 #[.val (.ref el), .val (.int 4), .val (.int ((4 : Int32) + L)), .val (.int L), .val (.ref ob2)] [(.int (fMin (6 : Int32) L)), (.int 0), (.ref ob2), (.int 4), (.ref el)])) _
  have hmn : fMin (6 : Int32) L = L := own_min _ _ hL2
  rw [hmn]
  show Go _ _ _ (T6.setTop (mkF mi 27 #[.val (.ref el), .val (.int 4), .val (.int ((4 : Int32) + L)), .val (.int L), .val (.ref ob2)] [(.int L), (.int 0), (.ref ob2), (.int 4), (.ref el)])) _
  have Vp7 : Arv Z h2 ob2 k2 .byte L (List.replicate L.toNatClampNeg (.int (0 : Int32))) (.int (0 : Int32)) := V2.pad (pad_rep [] _ _)
  obtain ⟨T7, h7, L7, X7, e7, N7, K7, V7, st7⟩ := cpA X6 hx hZ hown (hw _ (own_m 24 rfl)) (hw _ (own_m 27 rfl)) (hw _ (own_m 25 rfl)) (hw _ (own_m 26 rfl)) e6 f4 Vp7 (Or.inl ⟨rfl, rfl⟩) (by decide) (by decide) (own_len8 hL1 hL2').1 (sp := (4 : Int32)) (dp := (0 : Int32)) (nn := L) (by have := (own_len8 (k := 6) hL1 hL2).2; show 4 + _ ≤ 10; omega) (by show 0 + _ ≤ _; omega) rfl (by show 0 + _ ≤ _; rw [List.length_replicate]; omega) N6 g_ob2 (g := (mkF mi 27 #[.val (.ref el), .val (.int 4), .val (.int ((4 : Int32) + L)), .val (.int L), .val (.ref ob2)] [(.int L), (.int 0), (.ref ob2), (.int 4), (.ref el)])) rfl (by rw [hml]; rfl) rfl (hb hby dc2_27) (by decide) (W := 0) (by show 2 * 0 + _ ≤ _; exact Nat.le_of_eq rfl) (by decide)
  have Zs8 : n0 ≤ h7.size := Nat.le_trans Zs3 K7.1
  have KC8 : Keep h0 h7 [] := KC3.trans K7 (allS (P := fun x => x ∈ [] ∨ h0.size ≤ x) (Or.inr sz_ob2) all0)
  refine Go.st st7 ?_
  show Go _ _ _ (T7.setTop (mkF mi 30 #[.val (.ref el), .val (.int 4), .val (.int ((4 : Int32) + L)), .val (.int L), .val (.ref ob2)] [])) _
  refine g_aload X7 hx hby dc2_30 rfl rfl ?_
  obtain ⟨fs, hr, hrun, hended, hW, hsame⟩ := X7.leave (v := some (.ref ob2)) (fun h => by rw [Bd.returns] at h; cases h) (BodyLoose.notSynchronized Bd)
  refine ⟨_, _, ?_, hP _ _ ⟨hrun, hended, _, _, rfl, ?_, ⟨_, rfl⟩, hW, hsame.mono (by decide) (by decide)⟩⟩
  · exact retOut X7 hx Bd.returns rfl (Or.inr (Or.inr (Or.inr (Or.inr ⟨rfl, rfl, rfl⟩)))) (hb hby dc2_32) hr
  · show ∃ (r : Addr) (kr : ClassId) (us : List Value), (some (.ref ob2) : Option Value) = some (.ref r) ∧ Fr n0 _ ∧ Keep h0 T7.heap [] ∧ h0.size ≤ r ∧ n0 ≤ r ∧ Arv Z T7.heap r kr .byte L us (.int (0 : Int32)) ∧ (∀ i, i < L.toNatClampNeg → us.getD i (.int (0 : Int32)) = [(.int b0), (.int b1), (.int b2), (.int b3), (.int b4), (.int b5), (.int b6), (.int b7), (.int b8), (.int b9)].getD (4 + i) (.int (0 : Int32)))
    rw [e7]
    exact ⟨ob2, _, _, rfl, N7, KC8, sz_ob2, g_ob2, V7, own_us _ _ _ _ _ _⟩
theorem ef_rmCR4 (mi : MethodId) (el : Addr) (ke : ClassId) (L : Int32) (b0 : Int32) (b1 : Int32) (b2 : Int32) (b3 : Int32) (b4 : Int32) (b5 : Int32) (b6 : Int32) (b7 : Int32) (b8 : Int32) (b9 : Int32) : entryFrame mi #[(.ref el), (.int 4), (.int ((4 : Int32) + L))] 3 = mkF mi 0 #[.val (.ref el), .val (.int 4), .val (.int ((4 : Int32) + L))] [] := by first | (simp [entryFrame, mkF, argsToLocals, Value.category]; done) | rfl
def Q_rmCR4 (Z : State) (el : Addr) (ke : ClassId) (L : Int32) (b0 : Int32) (b1 : Int32) (b2 : Int32) (b3 : Int32) (b4 : Int32) (b5 : Int32) (b6 : Int32) (b7 : Int32) (b8 : Int32) (b9 : Int32) (h0 : Heap) (n0 : Nat) (vv_ : Option Value) (hh_ : Heap) (LL_ : List Loc) : Prop := ∃ (r : Addr) (kr : ClassId) (us : List Value), vv_ = some (.ref r) ∧ Fr n0 LL_ ∧ Keep h0 hh_ [] ∧ h0.size ≤ r ∧ n0 ≤ r ∧ Arv Z hh_ r kr .byte L us (.int (0 : Int32)) ∧ (∀ i, i < L.toNatClampNeg → us.getD i (.int (0 : Int32)) = [(.int b0), (.int b1), (.int b2), (.int b3), (.int b4), (.int b5), (.int b6), (.int b7), (.int b8), (.int b9)].getD (4 + i) (.int (0 : Int32)))
set_option maxRecDepth 65536 in
set_option maxHeartbeats 40000000 in
theorem rmCR4 (l : Launch) (Z : State) (a0 : Array Value) (hw : ∀ d ∈ tables_1, d.before a0 Z = true) (ws : List Jvm.Cond) (el : Addr) (ke : ClassId) (L : Int32) (b0 : Int32) (b1 : Int32) (b2 : Int32) (b3 : Int32) (b4 : Int32) (b5 : Int32) (b6 : Int32) (b7 : Int32) (b8 : Int32) (b9 : Int32) (h0 : Heap) (n0 : Nat) (Z0 : n0 ≤ h0.size) (A0 : Arv Z h0 el ke .byte (10 : Int32) [(.int b0), (.int b1), (.int b2), (.int b3), (.int b4), (.int b5), (.int b6), (.int b7), (.int b8), (.int b9)] (.int (0 : Int32))) (hL1 : 0 ≤ L.toInt) (hL2 : L.toInt ≤ 6) (hL2' : L.toInt ≤ 8) :
    MetFree l (⟨"java/util/Arrays", "copyOfRange", "([BII)[B"⟩ : MethodName) (head1 (Jvm.Cond.code (⟨"java/util/Arrays", "copyOfRange", "([BII)[B"⟩ : MethodName) jdk_65_method_132_code 3 (some (.array .byte)) :: ws) ({ frames := 2, cells := 1, slots := 8, locals := 34 } : Room)) (fun aa_ U => aa_ = #[(.ref el), (.int 4), (.int ((4 : Int32) + L))] ∧ Z.Warmed39 U.vm ∧ U.heap = h0) (fun _ _ _ _ _ => True) (fun _ U oo_ UV_ => ∃ vv_ LL_, oo_ = .returned vv_ ∧ Q_rmCR4 Z el ke L b0 b1 b2 b3 b4 b5 b6 b7 b8 b9 h0 n0 vv_ UV_.heap LL_ ∧ FrameEnd U oo_ UV_ LL_ ({ frames := 2, cells := 1, slots := 8, locals := 34 } : Room).cells ({ frames := 2, cells := 1, slots := 8, locals := 34 } : Room).slots) := by
  refine MetFree.of_bodySF (plainFor_of_name pn_0) hisR ?_
  intro pg ev si mi args below meth ci s₁ Bd hml0 hP0 hK
  obtain ⟨rfl, hZ, hh⟩ := hP0
  have hx := Bd.exec
  have hby := Bd.bytes
  have hml : ci.maxLocals = 3 := hml0
  have hown : si.vm.findClass "java/util/Arrays" = some mi.cls := findClass_of_methodNamed Bd.named
  have hnm := (name_of_methodNamed Bd.named Bd.method).1
  have X0 : Stand pg l ev ({ frames := 2, cells := 1, slots := 8, locals := 34 } : Room) si mi #[(.ref el), (.int 4), (.int ((4 : Int32) + L))] below meth ci s₁ [] 0 0 := Stand.of_body Bd
  have e0 : s₁.heap = h0 := by rw [← hh, Bd.state]; rfl
  have N0 := Fr.nil n0
  refine Go.start (fun P hP => ?_)
  refine Go.st (fun t_ k_ => castTop (ef_rmCR4 mi el ke L b0 b1 b2 b3 b4 b5 b6 b7 b8 b9) k_) (A := s₁.setTop (mkF mi 0 #[.val (.ref el), .val (.int 4), .val (.int ((4 : Int32) + L))] [])) ?_
  show Go _ _ _ (s₁.setTop (mkF mi 0 #[.val (.ref el), .val (.int 4), .val (.int ((4 : Int32) + L))] [])) _
  refine g_iloadN X0 hx hby dc3_0 rfl ?_
  refine g_ifYes X0 hx hby dc3_1 ((if0 _ _).trans (feq (by decide)).2) (pc0 := 1) (pc' := 10) rfl (by decide) (by decide) ?_
  refine g_aloadN X0 hx hby dc3_10 rfl rfl ?_
  refine g_iloadN X0 hx hby dc3_11 rfl ?_
  refine g_iloadN X0 hx hby dc3_12 rfl ?_
  obtain ⟨_, _, ⟨T1, L1, k1, n1⟩, -, X1, ⟨Lc1, hQ1, l1, y1, z1⟩, st1⟩ := Jvm.LawKit.callS X0 hx (y := (⟨"java/util/Arrays", "copyOfRangeByte", "([BII)[B"⟩ : MethodName)) hown (mvT hZ (hw _ (own_m 14 rfl))) (mvT hZ (hw _ (own_m 15 rfl))) (mvT hZ (hw _ (own_m 12 rfl))) (mvT hZ (hw _ (own_m 16 rfl))) (by decide) (backOf (W := 0) (rmCB4 l Z a0 hw [] el ke L b0 b1 b2 b3 b4 b5 b6 b7 b8 b9 h0 n0 Z0 A0 hL1 hL2 hL2') hZ (hw _ (own_m 16 rfl)) (hw _ (own_m 12 rfl)) (by decide) (by decide)) (g := (mkF mi 13 #[.val (.ref el), .val (.int 4), .val (.int ((4 : Int32) + L))] [(.int ((4 : Int32) + L)), (.int 4), (.ref el)])) rfl (by rw [hml]; rfl) (argsL := [(.ref el), (.int 4), (.int ((4 : Int32) + L))]) (rest := []) (lenOf pd_2 rfl) rfl (by show 2 * 0 + _ ≤ _; exact Nat.le_of_eq rfl) (hb hby dc3_13) (fun _ _ => ⟨rfl, e0, (by decide : 0 + 1 ≤ _), (by decide : 0 + 8 ≤ _)⟩)
  dsimp only [Pt.U, Pt.locs, Pt.cells, Pt.slots] at X1 l1 y1 z1 st1 hQ1
  subst y1 z1
  have X1 := own_cs X1 (cells' := 1) (slots' := 8) rfl rfl
  obtain ⟨h1, e1⟩ : ∃ z, T1.heap = z := ⟨_, rfl⟩
  rw [e1] at hQ1
  obtain ⟨r1, kr1, us1, rfl, N1q, K1, z_r1, g_r1, V_r1, U_r1⟩ := hQ1
  have N1 := own_fr l1 (Fr.app N0 N1q)
  have Zs2 : n0 ≤ h1.size := Nat.le_trans Z0 K1.1
  have KC2 : Keep h0 h1 [] := (Keep.refl h0 []).trans K1 all0
  have sz_r1 : h0.size ≤ r1 := Nat.le_trans (Keep.refl h0 []).1 z_r1
  refine Go.st st1 ?_
  obtain ⟨fs, hr, hrun, hended, hW, hsame⟩ := X1.leave (v := some (.ref r1)) (fun h => by rw [Bd.returns] at h; cases h) (BodyLoose.notSynchronized Bd)
  refine ⟨_, _, ?_, hP _ _ ⟨hrun, hended, _, _, rfl, ?_, ⟨_, rfl⟩, hW, hsame.mono (by decide) (by decide)⟩⟩
  · exact retOut X1 hx Bd.returns rfl (Or.inr (Or.inr (Or.inr (Or.inr ⟨rfl, rfl, rfl⟩)))) (hb hby dc3_16) hr
  · show ∃ (r : Addr) (kr : ClassId) (us : List Value), (some (.ref r1) : Option Value) = some (.ref r) ∧ Fr n0 _ ∧ Keep h0 T1.heap [] ∧ h0.size ≤ r ∧ n0 ≤ r ∧ Arv Z T1.heap r kr .byte L us (.int (0 : Int32)) ∧ (∀ i, i < L.toNatClampNeg → us.getD i (.int (0 : Int32)) = [(.int b0), (.int b1), (.int b2), (.int b3), (.int b4), (.int b5), (.int b6), (.int b7), (.int b8), (.int b9)].getD (4 + i) (.int (0 : Int32)))
    rw [e1]
    exact ⟨r1, kr1, us1, rfl, N1, KC2, sz_r1, g_r1, V_r1, U_r1⟩
theorem ef_rmCB5 (mi : MethodId) (el : Addr) (ke : ClassId) (L : Int32) (b0 : Int32) (b1 : Int32) (b2 : Int32) (b3 : Int32) (b4 : Int32) (b5 : Int32) (b6 : Int32) (b7 : Int32) (b8 : Int32) (b9 : Int32) : entryFrame mi #[(.ref el), (.int 5), (.int ((5 : Int32) + L))] 5 = mkF mi 0 #[.val (.ref el), .val (.int 5), .val (.int ((5 : Int32) + L)), .unset, .unset] [] := by first | (simp [entryFrame, mkF, argsToLocals, Value.category]; done) | rfl
def Q_rmCB5 (Z : State) (el : Addr) (ke : ClassId) (L : Int32) (b0 : Int32) (b1 : Int32) (b2 : Int32) (b3 : Int32) (b4 : Int32) (b5 : Int32) (b6 : Int32) (b7 : Int32) (b8 : Int32) (b9 : Int32) (h0 : Heap) (n0 : Nat) (vv_ : Option Value) (hh_ : Heap) (LL_ : List Loc) : Prop := ∃ (r : Addr) (kr : ClassId) (us : List Value), vv_ = some (.ref r) ∧ Fr n0 LL_ ∧ Keep h0 hh_ [] ∧ h0.size ≤ r ∧ n0 ≤ r ∧ Arv Z hh_ r kr .byte L us (.int (0 : Int32)) ∧ (∀ i, i < L.toNatClampNeg → us.getD i (.int (0 : Int32)) = [(.int b0), (.int b1), (.int b2), (.int b3), (.int b4), (.int b5), (.int b6), (.int b7), (.int b8), (.int b9)].getD (5 + i) (.int (0 : Int32)))
set_option maxRecDepth 65536 in
set_option maxHeartbeats 40000000 in
theorem rmCB5 (l : Launch) (Z : State) (a0 : Array Value) (hw : ∀ d ∈ tables_1, d.before a0 Z = true) (ws : List Jvm.Cond) (el : Addr) (ke : ClassId) (L : Int32) (b0 : Int32) (b1 : Int32) (b2 : Int32) (b3 : Int32) (b4 : Int32) (b5 : Int32) (b6 : Int32) (b7 : Int32) (b8 : Int32) (b9 : Int32) (h0 : Heap) (n0 : Nat) (Z0 : n0 ≤ h0.size) (A0 : Arv Z h0 el ke .byte (10 : Int32) [(.int b0), (.int b1), (.int b2), (.int b3), (.int b4), (.int b5), (.int b6), (.int b7), (.int b8), (.int b9)] (.int (0 : Int32))) (hL1 : 0 ≤ L.toInt) (hL2 : L.toInt ≤ 5) (hL2' : L.toInt ≤ 8) :
    MetFree l (⟨"java/util/Arrays", "copyOfRangeByte", "([BII)[B"⟩ : MethodName) (head1 (Jvm.Cond.code (⟨"java/util/Arrays", "copyOfRangeByte", "([BII)[B"⟩ : MethodName) jdk_65_method_133_code 5 (some (.array .byte)) :: ws) ({ frames := 1, cells := 1, slots := 8, locals := 18 } : Room)) (fun aa_ U => aa_ = #[(.ref el), (.int 5), (.int ((5 : Int32) + L))] ∧ Z.Warmed39 U.vm ∧ U.heap = h0) (fun _ _ _ _ _ => True) (fun _ U oo_ UV_ => ∃ vv_ LL_, oo_ = .returned vv_ ∧ Q_rmCB5 Z el ke L b0 b1 b2 b3 b4 b5 b6 b7 b8 b9 h0 n0 vv_ UV_.heap LL_ ∧ FrameEnd U oo_ UV_ LL_ ({ frames := 1, cells := 1, slots := 8, locals := 18 } : Room).cells ({ frames := 1, cells := 1, slots := 8, locals := 18 } : Room).slots) := by
  refine MetFree.of_bodySF (plainFor_of_name pn_0) hisR ?_
  intro pg ev si mi args below meth ci s₁ Bd hml0 hP0 hK
  obtain ⟨rfl, hZ, hh⟩ := hP0
  have hx := Bd.exec
  have hby := Bd.bytes
  have hml : ci.maxLocals = 5 := hml0
  have hown : si.vm.findClass "java/util/Arrays" = some mi.cls := findClass_of_methodNamed Bd.named
  have hnm := (name_of_methodNamed Bd.named Bd.method).1
  have X0 : Stand pg l ev ({ frames := 1, cells := 1, slots := 8, locals := 18 } : Room) si mi #[(.ref el), (.int 5), (.int ((5 : Int32) + L))] below meth ci s₁ [] 0 0 := Stand.of_body Bd
  have e0 : s₁.heap = h0 := by rw [← hh, Bd.state]; rfl
  have N0 := Fr.nil n0
  refine Go.start (fun P hP => ?_)
  refine Go.st (fun t_ k_ => castTop (ef_rmCB5 mi el ke L b0 b1 b2 b3 b4 b5 b6 b7 b8 b9) k_) (A := s₁.setTop (mkF mi 0 #[.val (.ref el), .val (.int 5), .val (.int ((5 : Int32) + L)), .unset, .unset] [])) ?_
  show Go _ _ _ (s₁.setTop (mkF mi 0 #[.val (.ref el), .val (.int 5), .val (.int ((5 : Int32) + L)), .unset, .unset] [])) _
  refine g_iloadN X0 hx hby dc2_0 rfl ?_
  refine g_iloadN X0 hx hby dc2_1 rfl ?_
  obtain ⟨_, _, ⟨T1, L1, k1, n1⟩, -, X1, ⟨Lc1, hQ1, l1, y1, z1⟩, st1⟩ := Jvm.LawKit.callS X0 hx (y := (⟨"java/util/Arrays", "checkLength", "(II)V"⟩ : MethodName)) hown (mvT hZ (hw _ (own_m 17 rfl))) (mvT hZ (hw _ (own_m 18 rfl))) (mvT hZ (hw _ (own_m 12 rfl))) (mvT hZ (hw _ (own_m 19 rfl))) (by decide) (backOf (W := 0) (rmCk l Z a0 hw [] (5 : Int32) ((5 : Int32) + L) h0 n0 Z0 (own_le hL1 hL2' (by decide) (by decide))) hZ (hw _ (own_m 19 rfl)) (hw _ (own_m 12 rfl)) (by decide) (by decide)) (g := (mkF mi 2 #[.val (.ref el), .val (.int 5), .val (.int ((5 : Int32) + L)), .unset, .unset] [(.int ((5 : Int32) + L)), (.int 5)])) rfl (by rw [hml]; rfl) (argsL := [(.int 5), (.int ((5 : Int32) + L))]) (rest := []) (lenOf pd_0 rfl) rfl (by show 2 * 0 + _ ≤ _; exact Nat.le_of_eq rfl) (hb hby dc2_2) (fun _ _ => ⟨rfl, e0, (by decide : 0 + 0 ≤ _), (by decide : 0 + 0 ≤ _)⟩)
  dsimp only [Pt.U, Pt.locs, Pt.cells, Pt.slots] at X1 l1 y1 z1 st1 hQ1
  subst y1 z1
  have X1 := own_cs X1 (cells' := 0) (slots' := 0) rfl rfl
  obtain ⟨rfl, N1q, e1⟩ := hQ1
  have N1 := own_fr l1 (Fr.app N0 N1q)
  refine Go.st st1 ?_
  refine g_iloadN X1 hx hby dc2_5 rfl ?_
  refine g_iloadN X1 hx hby dc2_6 rfl ?_
  refine g_isub X1 hx hby dc2_7 rfl ?_
  show Go _ _ _ (T1.setTop (mkF mi 8 #[.val (.ref el), .val (.int 5), .val (.int ((5 : Int32) + L)), .unset, .unset] [(.int (((5 : Int32) + L) - (5 : Int32)))])) _
  rw [own_sub]
  show Go _ _ _ (T1.setTop (mkF mi 8 #[.val (.ref el), .val (.int 5), .val (.int ((5 : Int32) + L)), .unset, .unset] [(.int L)])) _
  refine g_istoreN X1 hx hby dc2_8 (l' := #[.val (.ref el), .val (.int 5), .val (.int ((5 : Int32) + L)), .val (.int L), .unset]) rfl ?_
  refine g_iloadN X1 hx hby dc2_9 rfl ?_
  obtain ⟨T2, h2, k2, X2, e2, E2, A2, st2⟩ := newP X1 hx hZ (hw _ (own_m 0 rfl)) e1 (g := (mkF mi 10 #[.val (.ref el), .val (.int 5), .val (.int ((5 : Int32) + L)), .val (.int L), .unset] [(.int L)])) rfl (hb hby dc2_10) rfl (own_len8 hL1 hL2').1 (cap := 8) (own_len8 (k := 8) hL1 hL2').2 (by decide) (by decide) (by decide)
  obtain ⟨ob2, g2⟩ : ∃ z, z = h0.size := ⟨_, rfl⟩
  rw [← g2] at A2 st2
  have Zs3 : n0 ≤ h2.size := Nat.le_trans Z0 E2.1
  have KC3 : Keep h0 h2 [] := (Keep.refl h0 []).ext E2
  have g_ob2 : n0 ≤ ob2 := Nat.le_trans Z0 (Nat.le_of_eq g2.symm)
  have sz_ob2 : h0.size ≤ ob2 := Nat.le_trans (Keep.refl h0 []).1 (Nat.le_of_eq g2.symm)
  have V2 : Arv Z h2 ob2 k2 .byte L [] (.int (0 : Int32)) := Arv.new A2 (own_len8 hL1 hL2').1
  refine Go.st st2 ?_
  refine g_astore X2 hx hby dc2_12 rfl (l' := #[.val (.ref el), .val (.int 5), .val (.int ((5 : Int32) + L)), .val (.int L), .val (.ref ob2)]) rfl ?_
  refine g_aloadN X2 hx hby dc2_14 rfl rfl ?_
  refine g_iloadN X2 hx hby dc2_15 rfl ?_
  refine g_aload X2 hx hby dc2_16 rfl rfl ?_
  refine g_iconst X2 hx hby dc2_18 (v := 0) rfl ?_
  refine g_aloadN X2 hx hby dc2_19 rfl rfl ?_
  have f4 := (A0.ext E2)
  have ov5 := f4
  obtain ⟨cl5, Ar5, q5, S5, M5, H5, G5⟩ := ov5
  refine Go.st (X2.arraylength hx (by rw [e2]; exact Ar5.1) (State.isArrayOf_alike hZ.alike Ar5.2.1) (g := (mkF mi 20 #[.val (.ref el), .val (.int 5), .val (.int ((5 : Int32) + L)), .val (.int L), .val (.ref ob2)] [(.ref el), (.int 0), (.ref ob2), (.int 5), (.ref el)])) rfl rfl (hb hby dc2_20)) ?_
  rw [len_of S5 M5]
  refine g_iloadN X2 hx hby dc2_21 rfl ?_
  refine g_isub X2 hx hby dc2_22 (z := 5) rfl ?_
  refine g_iloadN X2 hx hby dc2_23 rfl ?_
  obtain ⟨_, _, ⟨T6, L6, k6, n6⟩, -, X6, ⟨Lc6, hQ6, l6, y6, z6⟩, st6⟩ := Jvm.LawKit.callS X2 hx (y := (⟨"java/lang/Math", "min", "(II)I"⟩ : MethodName)) hown (mvT hZ (hw _ (own_m 20 rfl))) (mvT hZ (hw _ (own_m 21 rfl))) (mvT hZ (hw _ (own_m 22 rfl))) (mvT hZ (hw _ (own_m 23 rfl))) (by decide) (backOf (W := 4) (rmMin l Z a0 hw [] (5 : Int32) L h2 n0 Zs3) hZ (hw _ (own_m 23 rfl)) (hw _ (own_m 22 rfl)) (by decide) (by decide)) (g := (mkF mi 24 #[.val (.ref el), .val (.int 5), .val (.int ((5 : Int32) + L)), .val (.int L), .val (.ref ob2)] [(.int L), (.int 5), (.int 0), (.ref ob2), (.int 5), (.ref el)])) rfl (by rw [hml]; rfl) (argsL := [(.int 5), (.int L)]) (rest := [(.int 0), (.ref ob2), (.int 5), (.ref el)]) (lenOf pd_1 rfl) rfl (by show 2 * 0 + _ ≤ _; exact Nat.le_of_eq rfl) (hb hby dc2_24) (fun _ _ => ⟨rfl, e2, (by decide : 1 + 0 ≤ _), (by decide : 8 + 0 ≤ _)⟩)
  dsimp only [Pt.U, Pt.locs, Pt.cells, Pt.slots] at X6 l6 y6 z6 st6 hQ6
  subst y6 z6
  have X6 := own_cs X6 (cells' := 1) (slots' := 8) rfl rfl
  obtain ⟨rfl, N6q, e6⟩ := hQ6
  have N6 := own_fr l6 (Fr.app N1 N6q)
  refine Go.st st6 ?_
  show Go _ _ _ (T6.setTop (mkF mi 27 #[.val (.ref el), .val (.int 5), .val (.int ((5 : Int32) + L)), .val (.int L), .val (.ref ob2)] [(.int (fMin (5 : Int32) L)), (.int 0), (.ref ob2), (.int 5), (.ref el)])) _
  have hmn : fMin (5 : Int32) L = L := own_min _ _ hL2
  rw [hmn]
  show Go _ _ _ (T6.setTop (mkF mi 27 #[.val (.ref el), .val (.int 5), .val (.int ((5 : Int32) + L)), .val (.int L), .val (.ref ob2)] [(.int L), (.int 0), (.ref ob2), (.int 5), (.ref el)])) _
  have Vp7 : Arv Z h2 ob2 k2 .byte L (List.replicate L.toNatClampNeg (.int (0 : Int32))) (.int (0 : Int32)) := V2.pad (pad_rep [] _ _)
  obtain ⟨T7, h7, L7, X7, e7, N7, K7, V7, st7⟩ := cpA X6 hx hZ hown (hw _ (own_m 24 rfl)) (hw _ (own_m 27 rfl)) (hw _ (own_m 25 rfl)) (hw _ (own_m 26 rfl)) e6 f4 Vp7 (Or.inl ⟨rfl, rfl⟩) (by decide) (by decide) (own_len8 hL1 hL2').1 (sp := (5 : Int32)) (dp := (0 : Int32)) (nn := L) (by have := (own_len8 (k := 5) hL1 hL2).2; show 5 + _ ≤ 10; omega) (by show 0 + _ ≤ _; omega) rfl (by show 0 + _ ≤ _; rw [List.length_replicate]; omega) N6 g_ob2 (g := (mkF mi 27 #[.val (.ref el), .val (.int 5), .val (.int ((5 : Int32) + L)), .val (.int L), .val (.ref ob2)] [(.int L), (.int 0), (.ref ob2), (.int 5), (.ref el)])) rfl (by rw [hml]; rfl) rfl (hb hby dc2_27) (by decide) (W := 0) (by show 2 * 0 + _ ≤ _; exact Nat.le_of_eq rfl) (by decide)
  have Zs8 : n0 ≤ h7.size := Nat.le_trans Zs3 K7.1
  have KC8 : Keep h0 h7 [] := KC3.trans K7 (allS (P := fun x => x ∈ [] ∨ h0.size ≤ x) (Or.inr sz_ob2) all0)
  refine Go.st st7 ?_
  show Go _ _ _ (T7.setTop (mkF mi 30 #[.val (.ref el), .val (.int 5), .val (.int ((5 : Int32) + L)), .val (.int L), .val (.ref ob2)] [])) _
  refine g_aload X7 hx hby dc2_30 rfl rfl ?_
  obtain ⟨fs, hr, hrun, hended, hW, hsame⟩ := X7.leave (v := some (.ref ob2)) (fun h => by rw [Bd.returns] at h; cases h) (BodyLoose.notSynchronized Bd)
  refine ⟨_, _, ?_, hP _ _ ⟨hrun, hended, _, _, rfl, ?_, ⟨_, rfl⟩, hW, hsame.mono (by decide) (by decide)⟩⟩
  · exact retOut X7 hx Bd.returns rfl (Or.inr (Or.inr (Or.inr (Or.inr ⟨rfl, rfl, rfl⟩)))) (hb hby dc2_32) hr
  · show ∃ (r : Addr) (kr : ClassId) (us : List Value), (some (.ref ob2) : Option Value) = some (.ref r) ∧ Fr n0 _ ∧ Keep h0 T7.heap [] ∧ h0.size ≤ r ∧ n0 ≤ r ∧ Arv Z T7.heap r kr .byte L us (.int (0 : Int32)) ∧ (∀ i, i < L.toNatClampNeg → us.getD i (.int (0 : Int32)) = [(.int b0), (.int b1), (.int b2), (.int b3), (.int b4), (.int b5), (.int b6), (.int b7), (.int b8), (.int b9)].getD (5 + i) (.int (0 : Int32)))
    rw [e7]
    exact ⟨ob2, _, _, rfl, N7, KC8, sz_ob2, g_ob2, V7, own_us _ _ _ _ _ _⟩
theorem ef_rmCR5 (mi : MethodId) (el : Addr) (ke : ClassId) (L : Int32) (b0 : Int32) (b1 : Int32) (b2 : Int32) (b3 : Int32) (b4 : Int32) (b5 : Int32) (b6 : Int32) (b7 : Int32) (b8 : Int32) (b9 : Int32) : entryFrame mi #[(.ref el), (.int 5), (.int ((5 : Int32) + L))] 3 = mkF mi 0 #[.val (.ref el), .val (.int 5), .val (.int ((5 : Int32) + L))] [] := by first | (simp [entryFrame, mkF, argsToLocals, Value.category]; done) | rfl
def Q_rmCR5 (Z : State) (el : Addr) (ke : ClassId) (L : Int32) (b0 : Int32) (b1 : Int32) (b2 : Int32) (b3 : Int32) (b4 : Int32) (b5 : Int32) (b6 : Int32) (b7 : Int32) (b8 : Int32) (b9 : Int32) (h0 : Heap) (n0 : Nat) (vv_ : Option Value) (hh_ : Heap) (LL_ : List Loc) : Prop := ∃ (r : Addr) (kr : ClassId) (us : List Value), vv_ = some (.ref r) ∧ Fr n0 LL_ ∧ Keep h0 hh_ [] ∧ h0.size ≤ r ∧ n0 ≤ r ∧ Arv Z hh_ r kr .byte L us (.int (0 : Int32)) ∧ (∀ i, i < L.toNatClampNeg → us.getD i (.int (0 : Int32)) = [(.int b0), (.int b1), (.int b2), (.int b3), (.int b4), (.int b5), (.int b6), (.int b7), (.int b8), (.int b9)].getD (5 + i) (.int (0 : Int32)))
set_option maxRecDepth 65536 in
set_option maxHeartbeats 40000000 in
theorem rmCR5 (l : Launch) (Z : State) (a0 : Array Value) (hw : ∀ d ∈ tables_1, d.before a0 Z = true) (ws : List Jvm.Cond) (el : Addr) (ke : ClassId) (L : Int32) (b0 : Int32) (b1 : Int32) (b2 : Int32) (b3 : Int32) (b4 : Int32) (b5 : Int32) (b6 : Int32) (b7 : Int32) (b8 : Int32) (b9 : Int32) (h0 : Heap) (n0 : Nat) (Z0 : n0 ≤ h0.size) (A0 : Arv Z h0 el ke .byte (10 : Int32) [(.int b0), (.int b1), (.int b2), (.int b3), (.int b4), (.int b5), (.int b6), (.int b7), (.int b8), (.int b9)] (.int (0 : Int32))) (hL1 : 0 ≤ L.toInt) (hL2 : L.toInt ≤ 5) (hL2' : L.toInt ≤ 8) :
    MetFree l (⟨"java/util/Arrays", "copyOfRange", "([BII)[B"⟩ : MethodName) (head1 (Jvm.Cond.code (⟨"java/util/Arrays", "copyOfRange", "([BII)[B"⟩ : MethodName) jdk_65_method_132_code 3 (some (.array .byte)) :: ws) ({ frames := 2, cells := 1, slots := 8, locals := 34 } : Room)) (fun aa_ U => aa_ = #[(.ref el), (.int 5), (.int ((5 : Int32) + L))] ∧ Z.Warmed39 U.vm ∧ U.heap = h0) (fun _ _ _ _ _ => True) (fun _ U oo_ UV_ => ∃ vv_ LL_, oo_ = .returned vv_ ∧ Q_rmCR5 Z el ke L b0 b1 b2 b3 b4 b5 b6 b7 b8 b9 h0 n0 vv_ UV_.heap LL_ ∧ FrameEnd U oo_ UV_ LL_ ({ frames := 2, cells := 1, slots := 8, locals := 34 } : Room).cells ({ frames := 2, cells := 1, slots := 8, locals := 34 } : Room).slots) := by
  refine MetFree.of_bodySF (plainFor_of_name pn_0) hisR ?_
  intro pg ev si mi args below meth ci s₁ Bd hml0 hP0 hK
  obtain ⟨rfl, hZ, hh⟩ := hP0
  have hx := Bd.exec
  have hby := Bd.bytes
  have hml : ci.maxLocals = 3 := hml0
  have hown : si.vm.findClass "java/util/Arrays" = some mi.cls := findClass_of_methodNamed Bd.named
  have hnm := (name_of_methodNamed Bd.named Bd.method).1
  have X0 : Stand pg l ev ({ frames := 2, cells := 1, slots := 8, locals := 34 } : Room) si mi #[(.ref el), (.int 5), (.int ((5 : Int32) + L))] below meth ci s₁ [] 0 0 := Stand.of_body Bd
  have e0 : s₁.heap = h0 := by rw [← hh, Bd.state]; rfl
  have N0 := Fr.nil n0
  refine Go.start (fun P hP => ?_)
  refine Go.st (fun t_ k_ => castTop (ef_rmCR5 mi el ke L b0 b1 b2 b3 b4 b5 b6 b7 b8 b9) k_) (A := s₁.setTop (mkF mi 0 #[.val (.ref el), .val (.int 5), .val (.int ((5 : Int32) + L))] [])) ?_
  show Go _ _ _ (s₁.setTop (mkF mi 0 #[.val (.ref el), .val (.int 5), .val (.int ((5 : Int32) + L))] [])) _
  refine g_iloadN X0 hx hby dc3_0 rfl ?_
  refine g_ifYes X0 hx hby dc3_1 ((if0 _ _).trans (feq (by decide)).2) (pc0 := 1) (pc' := 10) rfl (by decide) (by decide) ?_
  refine g_aloadN X0 hx hby dc3_10 rfl rfl ?_
  refine g_iloadN X0 hx hby dc3_11 rfl ?_
  refine g_iloadN X0 hx hby dc3_12 rfl ?_
  obtain ⟨_, _, ⟨T1, L1, k1, n1⟩, -, X1, ⟨Lc1, hQ1, l1, y1, z1⟩, st1⟩ := Jvm.LawKit.callS X0 hx (y := (⟨"java/util/Arrays", "copyOfRangeByte", "([BII)[B"⟩ : MethodName)) hown (mvT hZ (hw _ (own_m 14 rfl))) (mvT hZ (hw _ (own_m 15 rfl))) (mvT hZ (hw _ (own_m 12 rfl))) (mvT hZ (hw _ (own_m 16 rfl))) (by decide) (backOf (W := 0) (rmCB5 l Z a0 hw [] el ke L b0 b1 b2 b3 b4 b5 b6 b7 b8 b9 h0 n0 Z0 A0 hL1 hL2 hL2') hZ (hw _ (own_m 16 rfl)) (hw _ (own_m 12 rfl)) (by decide) (by decide)) (g := (mkF mi 13 #[.val (.ref el), .val (.int 5), .val (.int ((5 : Int32) + L))] [(.int ((5 : Int32) + L)), (.int 5), (.ref el)])) rfl (by rw [hml]; rfl) (argsL := [(.ref el), (.int 5), (.int ((5 : Int32) + L))]) (rest := []) (lenOf pd_2 rfl) rfl (by show 2 * 0 + _ ≤ _; exact Nat.le_of_eq rfl) (hb hby dc3_13) (fun _ _ => ⟨rfl, e0, (by decide : 0 + 1 ≤ _), (by decide : 0 + 8 ≤ _)⟩)
  dsimp only [Pt.U, Pt.locs, Pt.cells, Pt.slots] at X1 l1 y1 z1 st1 hQ1
  subst y1 z1
  have X1 := own_cs X1 (cells' := 1) (slots' := 8) rfl rfl
  obtain ⟨h1, e1⟩ : ∃ z, T1.heap = z := ⟨_, rfl⟩
  rw [e1] at hQ1
  obtain ⟨r1, kr1, us1, rfl, N1q, K1, z_r1, g_r1, V_r1, U_r1⟩ := hQ1
  have N1 := own_fr l1 (Fr.app N0 N1q)
  have Zs2 : n0 ≤ h1.size := Nat.le_trans Z0 K1.1
  have KC2 : Keep h0 h1 [] := (Keep.refl h0 []).trans K1 all0
  have sz_r1 : h0.size ≤ r1 := Nat.le_trans (Keep.refl h0 []).1 z_r1
  refine Go.st st1 ?_
  obtain ⟨fs, hr, hrun, hended, hW, hsame⟩ := X1.leave (v := some (.ref r1)) (fun h => by rw [Bd.returns] at h; cases h) (BodyLoose.notSynchronized Bd)
  refine ⟨_, _, ?_, hP _ _ ⟨hrun, hended, _, _, rfl, ?_, ⟨_, rfl⟩, hW, hsame.mono (by decide) (by decide)⟩⟩
  · exact retOut X1 hx Bd.returns rfl (Or.inr (Or.inr (Or.inr (Or.inr ⟨rfl, rfl, rfl⟩)))) (hb hby dc3_16) hr
  · show ∃ (r : Addr) (kr : ClassId) (us : List Value), (some (.ref r1) : Option Value) = some (.ref r) ∧ Fr n0 _ ∧ Keep h0 T1.heap [] ∧ h0.size ≤ r ∧ n0 ≤ r ∧ Arv Z T1.heap r kr .byte L us (.int (0 : Int32)) ∧ (∀ i, i < L.toNatClampNeg → us.getD i (.int (0 : Int32)) = [(.int b0), (.int b1), (.int b2), (.int b3), (.int b4), (.int b5), (.int b6), (.int b7), (.int b8), (.int b9)].getD (5 + i) (.int (0 : Int32)))
    rw [e1]
    exact ⟨r1, kr1, us1, rfl, N1, KC2, sz_r1, g_r1, V_r1, U_r1⟩
theorem ef_rmCB6 (mi : MethodId) (el : Addr) (ke : ClassId) (L : Int32) (b0 : Int32) (b1 : Int32) (b2 : Int32) (b3 : Int32) (b4 : Int32) (b5 : Int32) (b6 : Int32) (b7 : Int32) (b8 : Int32) (b9 : Int32) : entryFrame mi #[(.ref el), (.int 6), (.int ((6 : Int32) + L))] 5 = mkF mi 0 #[.val (.ref el), .val (.int 6), .val (.int ((6 : Int32) + L)), .unset, .unset] [] := by first | (simp [entryFrame, mkF, argsToLocals, Value.category]; done) | rfl
def Q_rmCB6 (Z : State) (el : Addr) (ke : ClassId) (L : Int32) (b0 : Int32) (b1 : Int32) (b2 : Int32) (b3 : Int32) (b4 : Int32) (b5 : Int32) (b6 : Int32) (b7 : Int32) (b8 : Int32) (b9 : Int32) (h0 : Heap) (n0 : Nat) (vv_ : Option Value) (hh_ : Heap) (LL_ : List Loc) : Prop := ∃ (r : Addr) (kr : ClassId) (us : List Value), vv_ = some (.ref r) ∧ Fr n0 LL_ ∧ Keep h0 hh_ [] ∧ h0.size ≤ r ∧ n0 ≤ r ∧ Arv Z hh_ r kr .byte L us (.int (0 : Int32)) ∧ (∀ i, i < L.toNatClampNeg → us.getD i (.int (0 : Int32)) = [(.int b0), (.int b1), (.int b2), (.int b3), (.int b4), (.int b5), (.int b6), (.int b7), (.int b8), (.int b9)].getD (6 + i) (.int (0 : Int32)))
set_option maxRecDepth 65536 in
set_option maxHeartbeats 40000000 in
theorem rmCB6 (l : Launch) (Z : State) (a0 : Array Value) (hw : ∀ d ∈ tables_1, d.before a0 Z = true) (ws : List Jvm.Cond) (el : Addr) (ke : ClassId) (L : Int32) (b0 : Int32) (b1 : Int32) (b2 : Int32) (b3 : Int32) (b4 : Int32) (b5 : Int32) (b6 : Int32) (b7 : Int32) (b8 : Int32) (b9 : Int32) (h0 : Heap) (n0 : Nat) (Z0 : n0 ≤ h0.size) (A0 : Arv Z h0 el ke .byte (10 : Int32) [(.int b0), (.int b1), (.int b2), (.int b3), (.int b4), (.int b5), (.int b6), (.int b7), (.int b8), (.int b9)] (.int (0 : Int32))) (hL1 : 0 ≤ L.toInt) (hL2 : L.toInt ≤ 4) (hL2' : L.toInt ≤ 8) :
    MetFree l (⟨"java/util/Arrays", "copyOfRangeByte", "([BII)[B"⟩ : MethodName) (head1 (Jvm.Cond.code (⟨"java/util/Arrays", "copyOfRangeByte", "([BII)[B"⟩ : MethodName) jdk_65_method_133_code 5 (some (.array .byte)) :: ws) ({ frames := 1, cells := 1, slots := 8, locals := 18 } : Room)) (fun aa_ U => aa_ = #[(.ref el), (.int 6), (.int ((6 : Int32) + L))] ∧ Z.Warmed39 U.vm ∧ U.heap = h0) (fun _ _ _ _ _ => True) (fun _ U oo_ UV_ => ∃ vv_ LL_, oo_ = .returned vv_ ∧ Q_rmCB6 Z el ke L b0 b1 b2 b3 b4 b5 b6 b7 b8 b9 h0 n0 vv_ UV_.heap LL_ ∧ FrameEnd U oo_ UV_ LL_ ({ frames := 1, cells := 1, slots := 8, locals := 18 } : Room).cells ({ frames := 1, cells := 1, slots := 8, locals := 18 } : Room).slots) := by
  refine MetFree.of_bodySF (plainFor_of_name pn_0) hisR ?_
  intro pg ev si mi args below meth ci s₁ Bd hml0 hP0 hK
  obtain ⟨rfl, hZ, hh⟩ := hP0
  have hx := Bd.exec
  have hby := Bd.bytes
  have hml : ci.maxLocals = 5 := hml0
  have hown : si.vm.findClass "java/util/Arrays" = some mi.cls := findClass_of_methodNamed Bd.named
  have hnm := (name_of_methodNamed Bd.named Bd.method).1
  have X0 : Stand pg l ev ({ frames := 1, cells := 1, slots := 8, locals := 18 } : Room) si mi #[(.ref el), (.int 6), (.int ((6 : Int32) + L))] below meth ci s₁ [] 0 0 := Stand.of_body Bd
  have e0 : s₁.heap = h0 := by rw [← hh, Bd.state]; rfl
  have N0 := Fr.nil n0
  refine Go.start (fun P hP => ?_)
  refine Go.st (fun t_ k_ => castTop (ef_rmCB6 mi el ke L b0 b1 b2 b3 b4 b5 b6 b7 b8 b9) k_) (A := s₁.setTop (mkF mi 0 #[.val (.ref el), .val (.int 6), .val (.int ((6 : Int32) + L)), .unset, .unset] [])) ?_
  show Go _ _ _ (s₁.setTop (mkF mi 0 #[.val (.ref el), .val (.int 6), .val (.int ((6 : Int32) + L)), .unset, .unset] [])) _
  refine g_iloadN X0 hx hby dc2_0 rfl ?_
  refine g_iloadN X0 hx hby dc2_1 rfl ?_
  obtain ⟨_, _, ⟨T1, L1, k1, n1⟩, -, X1, ⟨Lc1, hQ1, l1, y1, z1⟩, st1⟩ := Jvm.LawKit.callS X0 hx (y := (⟨"java/util/Arrays", "checkLength", "(II)V"⟩ : MethodName)) hown (mvT hZ (hw _ (own_m 17 rfl))) (mvT hZ (hw _ (own_m 18 rfl))) (mvT hZ (hw _ (own_m 12 rfl))) (mvT hZ (hw _ (own_m 19 rfl))) (by decide) (backOf (W := 0) (rmCk l Z a0 hw [] (6 : Int32) ((6 : Int32) + L) h0 n0 Z0 (own_le hL1 hL2' (by decide) (by decide))) hZ (hw _ (own_m 19 rfl)) (hw _ (own_m 12 rfl)) (by decide) (by decide)) (g := (mkF mi 2 #[.val (.ref el), .val (.int 6), .val (.int ((6 : Int32) + L)), .unset, .unset] [(.int ((6 : Int32) + L)), (.int 6)])) rfl (by rw [hml]; rfl) (argsL := [(.int 6), (.int ((6 : Int32) + L))]) (rest := []) (lenOf pd_0 rfl) rfl (by show 2 * 0 + _ ≤ _; exact Nat.le_of_eq rfl) (hb hby dc2_2) (fun _ _ => ⟨rfl, e0, (by decide : 0 + 0 ≤ _), (by decide : 0 + 0 ≤ _)⟩)
  dsimp only [Pt.U, Pt.locs, Pt.cells, Pt.slots] at X1 l1 y1 z1 st1 hQ1
  subst y1 z1
  have X1 := own_cs X1 (cells' := 0) (slots' := 0) rfl rfl
  obtain ⟨rfl, N1q, e1⟩ := hQ1
  have N1 := own_fr l1 (Fr.app N0 N1q)
  refine Go.st st1 ?_
  refine g_iloadN X1 hx hby dc2_5 rfl ?_
  refine g_iloadN X1 hx hby dc2_6 rfl ?_
  refine g_isub X1 hx hby dc2_7 rfl ?_
  show Go _ _ _ (T1.setTop (mkF mi 8 #[.val (.ref el), .val (.int 6), .val (.int ((6 : Int32) + L)), .unset, .unset] [(.int (((6 : Int32) + L) - (6 : Int32)))])) _
  rw [own_sub]
  show Go _ _ _ (T1.setTop (mkF mi 8 #[.val (.ref el), .val (.int 6), .val (.int ((6 : Int32) + L)), .unset, .unset] [(.int L)])) _
  refine g_istoreN X1 hx hby dc2_8 (l' := #[.val (.ref el), .val (.int 6), .val (.int ((6 : Int32) + L)), .val (.int L), .unset]) rfl ?_
  refine g_iloadN X1 hx hby dc2_9 rfl ?_
  obtain ⟨T2, h2, k2, X2, e2, E2, A2, st2⟩ := newP X1 hx hZ (hw _ (own_m 0 rfl)) e1 (g := (mkF mi 10 #[.val (.ref el), .val (.int 6), .val (.int ((6 : Int32) + L)), .val (.int L), .unset] [(.int L)])) rfl (hb hby dc2_10) rfl (own_len8 hL1 hL2').1 (cap := 8) (own_len8 (k := 8) hL1 hL2').2 (by decide) (by decide) (by decide)
  obtain ⟨ob2, g2⟩ : ∃ z, z = h0.size := ⟨_, rfl⟩
  rw [← g2] at A2 st2
  have Zs3 : n0 ≤ h2.size := Nat.le_trans Z0 E2.1
  have KC3 : Keep h0 h2 [] := (Keep.refl h0 []).ext E2
  have g_ob2 : n0 ≤ ob2 := Nat.le_trans Z0 (Nat.le_of_eq g2.symm)
  have sz_ob2 : h0.size ≤ ob2 := Nat.le_trans (Keep.refl h0 []).1 (Nat.le_of_eq g2.symm)
  have V2 : Arv Z h2 ob2 k2 .byte L [] (.int (0 : Int32)) := Arv.new A2 (own_len8 hL1 hL2').1
  refine Go.st st2 ?_
  refine g_astore X2 hx hby dc2_12 rfl (l' := #[.val (.ref el), .val (.int 6), .val (.int ((6 : Int32) + L)), .val (.int L), .val (.ref ob2)]) rfl ?_
  refine g_aloadN X2 hx hby dc2_14 rfl rfl ?_
  refine g_iloadN X2 hx hby dc2_15 rfl ?_
  refine g_aload X2 hx hby dc2_16 rfl rfl ?_
  refine g_iconst X2 hx hby dc2_18 (v := 0) rfl ?_
  refine g_aloadN X2 hx hby dc2_19 rfl rfl ?_
  have f4 := (A0.ext E2)
  have ov5 := f4
  obtain ⟨cl5, Ar5, q5, S5, M5, H5, G5⟩ := ov5
  refine Go.st (X2.arraylength hx (by rw [e2]; exact Ar5.1) (State.isArrayOf_alike hZ.alike Ar5.2.1) (g := (mkF mi 20 #[.val (.ref el), .val (.int 6), .val (.int ((6 : Int32) + L)), .val (.int L), .val (.ref ob2)] [(.ref el), (.int 0), (.ref ob2), (.int 6), (.ref el)])) rfl rfl (hb hby dc2_20)) ?_
  rw [len_of S5 M5]
  refine g_iloadN X2 hx hby dc2_21 rfl ?_
  refine g_isub X2 hx hby dc2_22 (z := 4) rfl ?_
  refine g_iloadN X2 hx hby dc2_23 rfl ?_
  obtain ⟨_, _, ⟨T6, L6, k6, n6⟩, -, X6, ⟨Lc6, hQ6, l6, y6, z6⟩, st6⟩ := Jvm.LawKit.callS X2 hx (y := (⟨"java/lang/Math", "min", "(II)I"⟩ : MethodName)) hown (mvT hZ (hw _ (own_m 20 rfl))) (mvT hZ (hw _ (own_m 21 rfl))) (mvT hZ (hw _ (own_m 22 rfl))) (mvT hZ (hw _ (own_m 23 rfl))) (by decide) (backOf (W := 4) (rmMin l Z a0 hw [] (4 : Int32) L h2 n0 Zs3) hZ (hw _ (own_m 23 rfl)) (hw _ (own_m 22 rfl)) (by decide) (by decide)) (g := (mkF mi 24 #[.val (.ref el), .val (.int 6), .val (.int ((6 : Int32) + L)), .val (.int L), .val (.ref ob2)] [(.int L), (.int 4), (.int 0), (.ref ob2), (.int 6), (.ref el)])) rfl (by rw [hml]; rfl) (argsL := [(.int 4), (.int L)]) (rest := [(.int 0), (.ref ob2), (.int 6), (.ref el)]) (lenOf pd_1 rfl) rfl (by show 2 * 0 + _ ≤ _; exact Nat.le_of_eq rfl) (hb hby dc2_24) (fun _ _ => ⟨rfl, e2, (by decide : 1 + 0 ≤ _), (by decide : 8 + 0 ≤ _)⟩)
  dsimp only [Pt.U, Pt.locs, Pt.cells, Pt.slots] at X6 l6 y6 z6 st6 hQ6
  subst y6 z6
  have X6 := own_cs X6 (cells' := 1) (slots' := 8) rfl rfl
  obtain ⟨rfl, N6q, e6⟩ := hQ6
  have N6 := own_fr l6 (Fr.app N1 N6q)
  refine Go.st st6 ?_
  show Go _ _ _ (T6.setTop (mkF mi 27 #[.val (.ref el), .val (.int 6), .val (.int ((6 : Int32) + L)), .val (.int L), .val (.ref ob2)] [(.int (fMin (4 : Int32) L)), (.int 0), (.ref ob2), (.int 6), (.ref el)])) _
  have hmn : fMin (4 : Int32) L = L := own_min _ _ hL2
  rw [hmn]
  show Go _ _ _ (T6.setTop (mkF mi 27 #[.val (.ref el), .val (.int 6), .val (.int ((6 : Int32) + L)), .val (.int L), .val (.ref ob2)] [(.int L), (.int 0), (.ref ob2), (.int 6), (.ref el)])) _
  have Vp7 : Arv Z h2 ob2 k2 .byte L (List.replicate L.toNatClampNeg (.int (0 : Int32))) (.int (0 : Int32)) := V2.pad (pad_rep [] _ _)
  obtain ⟨T7, h7, L7, X7, e7, N7, K7, V7, st7⟩ := cpA X6 hx hZ hown (hw _ (own_m 24 rfl)) (hw _ (own_m 27 rfl)) (hw _ (own_m 25 rfl)) (hw _ (own_m 26 rfl)) e6 f4 Vp7 (Or.inl ⟨rfl, rfl⟩) (by decide) (by decide) (own_len8 hL1 hL2').1 (sp := (6 : Int32)) (dp := (0 : Int32)) (nn := L) (by have := (own_len8 (k := 4) hL1 hL2).2; show 6 + _ ≤ 10; omega) (by show 0 + _ ≤ _; omega) rfl (by show 0 + _ ≤ _; rw [List.length_replicate]; omega) N6 g_ob2 (g := (mkF mi 27 #[.val (.ref el), .val (.int 6), .val (.int ((6 : Int32) + L)), .val (.int L), .val (.ref ob2)] [(.int L), (.int 0), (.ref ob2), (.int 6), (.ref el)])) rfl (by rw [hml]; rfl) rfl (hb hby dc2_27) (by decide) (W := 0) (by show 2 * 0 + _ ≤ _; exact Nat.le_of_eq rfl) (by decide)
  have Zs8 : n0 ≤ h7.size := Nat.le_trans Zs3 K7.1
  have KC8 : Keep h0 h7 [] := KC3.trans K7 (allS (P := fun x => x ∈ [] ∨ h0.size ≤ x) (Or.inr sz_ob2) all0)
  refine Go.st st7 ?_
  show Go _ _ _ (T7.setTop (mkF mi 30 #[.val (.ref el), .val (.int 6), .val (.int ((6 : Int32) + L)), .val (.int L), .val (.ref ob2)] [])) _
  refine g_aload X7 hx hby dc2_30 rfl rfl ?_
  obtain ⟨fs, hr, hrun, hended, hW, hsame⟩ := X7.leave (v := some (.ref ob2)) (fun h => by rw [Bd.returns] at h; cases h) (BodyLoose.notSynchronized Bd)
  refine ⟨_, _, ?_, hP _ _ ⟨hrun, hended, _, _, rfl, ?_, ⟨_, rfl⟩, hW, hsame.mono (by decide) (by decide)⟩⟩
  · exact retOut X7 hx Bd.returns rfl (Or.inr (Or.inr (Or.inr (Or.inr ⟨rfl, rfl, rfl⟩)))) (hb hby dc2_32) hr
  · show ∃ (r : Addr) (kr : ClassId) (us : List Value), (some (.ref ob2) : Option Value) = some (.ref r) ∧ Fr n0 _ ∧ Keep h0 T7.heap [] ∧ h0.size ≤ r ∧ n0 ≤ r ∧ Arv Z T7.heap r kr .byte L us (.int (0 : Int32)) ∧ (∀ i, i < L.toNatClampNeg → us.getD i (.int (0 : Int32)) = [(.int b0), (.int b1), (.int b2), (.int b3), (.int b4), (.int b5), (.int b6), (.int b7), (.int b8), (.int b9)].getD (6 + i) (.int (0 : Int32)))
    rw [e7]
    exact ⟨ob2, _, _, rfl, N7, KC8, sz_ob2, g_ob2, V7, own_us _ _ _ _ _ _⟩
theorem ef_rmCR6 (mi : MethodId) (el : Addr) (ke : ClassId) (L : Int32) (b0 : Int32) (b1 : Int32) (b2 : Int32) (b3 : Int32) (b4 : Int32) (b5 : Int32) (b6 : Int32) (b7 : Int32) (b8 : Int32) (b9 : Int32) : entryFrame mi #[(.ref el), (.int 6), (.int ((6 : Int32) + L))] 3 = mkF mi 0 #[.val (.ref el), .val (.int 6), .val (.int ((6 : Int32) + L))] [] := by first | (simp [entryFrame, mkF, argsToLocals, Value.category]; done) | rfl
def Q_rmCR6 (Z : State) (el : Addr) (ke : ClassId) (L : Int32) (b0 : Int32) (b1 : Int32) (b2 : Int32) (b3 : Int32) (b4 : Int32) (b5 : Int32) (b6 : Int32) (b7 : Int32) (b8 : Int32) (b9 : Int32) (h0 : Heap) (n0 : Nat) (vv_ : Option Value) (hh_ : Heap) (LL_ : List Loc) : Prop := ∃ (r : Addr) (kr : ClassId) (us : List Value), vv_ = some (.ref r) ∧ Fr n0 LL_ ∧ Keep h0 hh_ [] ∧ h0.size ≤ r ∧ n0 ≤ r ∧ Arv Z hh_ r kr .byte L us (.int (0 : Int32)) ∧ (∀ i, i < L.toNatClampNeg → us.getD i (.int (0 : Int32)) = [(.int b0), (.int b1), (.int b2), (.int b3), (.int b4), (.int b5), (.int b6), (.int b7), (.int b8), (.int b9)].getD (6 + i) (.int (0 : Int32)))
set_option maxRecDepth 65536 in
set_option maxHeartbeats 40000000 in
theorem rmCR6 (l : Launch) (Z : State) (a0 : Array Value) (hw : ∀ d ∈ tables_1, d.before a0 Z = true) (ws : List Jvm.Cond) (el : Addr) (ke : ClassId) (L : Int32) (b0 : Int32) (b1 : Int32) (b2 : Int32) (b3 : Int32) (b4 : Int32) (b5 : Int32) (b6 : Int32) (b7 : Int32) (b8 : Int32) (b9 : Int32) (h0 : Heap) (n0 : Nat) (Z0 : n0 ≤ h0.size) (A0 : Arv Z h0 el ke .byte (10 : Int32) [(.int b0), (.int b1), (.int b2), (.int b3), (.int b4), (.int b5), (.int b6), (.int b7), (.int b8), (.int b9)] (.int (0 : Int32))) (hL1 : 0 ≤ L.toInt) (hL2 : L.toInt ≤ 4) (hL2' : L.toInt ≤ 8) :
    MetFree l (⟨"java/util/Arrays", "copyOfRange", "([BII)[B"⟩ : MethodName) (head1 (Jvm.Cond.code (⟨"java/util/Arrays", "copyOfRange", "([BII)[B"⟩ : MethodName) jdk_65_method_132_code 3 (some (.array .byte)) :: ws) ({ frames := 2, cells := 1, slots := 8, locals := 34 } : Room)) (fun aa_ U => aa_ = #[(.ref el), (.int 6), (.int ((6 : Int32) + L))] ∧ Z.Warmed39 U.vm ∧ U.heap = h0) (fun _ _ _ _ _ => True) (fun _ U oo_ UV_ => ∃ vv_ LL_, oo_ = .returned vv_ ∧ Q_rmCR6 Z el ke L b0 b1 b2 b3 b4 b5 b6 b7 b8 b9 h0 n0 vv_ UV_.heap LL_ ∧ FrameEnd U oo_ UV_ LL_ ({ frames := 2, cells := 1, slots := 8, locals := 34 } : Room).cells ({ frames := 2, cells := 1, slots := 8, locals := 34 } : Room).slots) := by
  refine MetFree.of_bodySF (plainFor_of_name pn_0) hisR ?_
  intro pg ev si mi args below meth ci s₁ Bd hml0 hP0 hK
  obtain ⟨rfl, hZ, hh⟩ := hP0
  have hx := Bd.exec
  have hby := Bd.bytes
  have hml : ci.maxLocals = 3 := hml0
  have hown : si.vm.findClass "java/util/Arrays" = some mi.cls := findClass_of_methodNamed Bd.named
  have hnm := (name_of_methodNamed Bd.named Bd.method).1
  have X0 : Stand pg l ev ({ frames := 2, cells := 1, slots := 8, locals := 34 } : Room) si mi #[(.ref el), (.int 6), (.int ((6 : Int32) + L))] below meth ci s₁ [] 0 0 := Stand.of_body Bd
  have e0 : s₁.heap = h0 := by rw [← hh, Bd.state]; rfl
  have N0 := Fr.nil n0
  refine Go.start (fun P hP => ?_)
  refine Go.st (fun t_ k_ => castTop (ef_rmCR6 mi el ke L b0 b1 b2 b3 b4 b5 b6 b7 b8 b9) k_) (A := s₁.setTop (mkF mi 0 #[.val (.ref el), .val (.int 6), .val (.int ((6 : Int32) + L))] [])) ?_
  show Go _ _ _ (s₁.setTop (mkF mi 0 #[.val (.ref el), .val (.int 6), .val (.int ((6 : Int32) + L))] [])) _
  refine g_iloadN X0 hx hby dc3_0 rfl ?_
  refine g_ifYes X0 hx hby dc3_1 ((if0 _ _).trans (feq (by decide)).2) (pc0 := 1) (pc' := 10) rfl (by decide) (by decide) ?_
  refine g_aloadN X0 hx hby dc3_10 rfl rfl ?_
  refine g_iloadN X0 hx hby dc3_11 rfl ?_
  refine g_iloadN X0 hx hby dc3_12 rfl ?_
  obtain ⟨_, _, ⟨T1, L1, k1, n1⟩, -, X1, ⟨Lc1, hQ1, l1, y1, z1⟩, st1⟩ := Jvm.LawKit.callS X0 hx (y := (⟨"java/util/Arrays", "copyOfRangeByte", "([BII)[B"⟩ : MethodName)) hown (mvT hZ (hw _ (own_m 14 rfl))) (mvT hZ (hw _ (own_m 15 rfl))) (mvT hZ (hw _ (own_m 12 rfl))) (mvT hZ (hw _ (own_m 16 rfl))) (by decide) (backOf (W := 0) (rmCB6 l Z a0 hw [] el ke L b0 b1 b2 b3 b4 b5 b6 b7 b8 b9 h0 n0 Z0 A0 hL1 hL2 hL2') hZ (hw _ (own_m 16 rfl)) (hw _ (own_m 12 rfl)) (by decide) (by decide)) (g := (mkF mi 13 #[.val (.ref el), .val (.int 6), .val (.int ((6 : Int32) + L))] [(.int ((6 : Int32) + L)), (.int 6), (.ref el)])) rfl (by rw [hml]; rfl) (argsL := [(.ref el), (.int 6), (.int ((6 : Int32) + L))]) (rest := []) (lenOf pd_2 rfl) rfl (by show 2 * 0 + _ ≤ _; exact Nat.le_of_eq rfl) (hb hby dc3_13) (fun _ _ => ⟨rfl, e0, (by decide : 0 + 1 ≤ _), (by decide : 0 + 8 ≤ _)⟩)
  dsimp only [Pt.U, Pt.locs, Pt.cells, Pt.slots] at X1 l1 y1 z1 st1 hQ1
  subst y1 z1
  have X1 := own_cs X1 (cells' := 1) (slots' := 8) rfl rfl
  obtain ⟨h1, e1⟩ : ∃ z, T1.heap = z := ⟨_, rfl⟩
  rw [e1] at hQ1
  obtain ⟨r1, kr1, us1, rfl, N1q, K1, z_r1, g_r1, V_r1, U_r1⟩ := hQ1
  have N1 := own_fr l1 (Fr.app N0 N1q)
  have Zs2 : n0 ≤ h1.size := Nat.le_trans Z0 K1.1
  have KC2 : Keep h0 h1 [] := (Keep.refl h0 []).trans K1 all0
  have sz_r1 : h0.size ≤ r1 := Nat.le_trans (Keep.refl h0 []).1 z_r1
  refine Go.st st1 ?_
  obtain ⟨fs, hr, hrun, hended, hW, hsame⟩ := X1.leave (v := some (.ref r1)) (fun h => by rw [Bd.returns] at h; cases h) (BodyLoose.notSynchronized Bd)
  refine ⟨_, _, ?_, hP _ _ ⟨hrun, hended, _, _, rfl, ?_, ⟨_, rfl⟩, hW, hsame.mono (by decide) (by decide)⟩⟩
  · exact retOut X1 hx Bd.returns rfl (Or.inr (Or.inr (Or.inr (Or.inr ⟨rfl, rfl, rfl⟩)))) (hb hby dc3_16) hr
  · show ∃ (r : Addr) (kr : ClassId) (us : List Value), (some (.ref r1) : Option Value) = some (.ref r) ∧ Fr n0 _ ∧ Keep h0 T1.heap [] ∧ h0.size ≤ r ∧ n0 ≤ r ∧ Arv Z T1.heap r kr .byte L us (.int (0 : Int32)) ∧ (∀ i, i < L.toNatClampNeg → us.getD i (.int (0 : Int32)) = [(.int b0), (.int b1), (.int b2), (.int b3), (.int b4), (.int b5), (.int b6), (.int b7), (.int b8), (.int b9)].getD (6 + i) (.int (0 : Int32)))
    rw [e1]
    exact ⟨r1, kr1, us1, rfl, N1, KC2, sz_r1, g_r1, V_r1, U_r1⟩
theorem dc4_0 : decode prog_16_method_9_code 0 = .ok (.aload_n 0, 1) := by decide +kernel
theorem dc4_1 : decode prog_16_method_9_code 1 = .ok (.arraylength, 1) := by decide +kernel
theorem dc4_2 : decode prog_16_method_9_code 2 = .ok (.iload_n 1, 1) := by decide +kernel
theorem dc4_3 : decode prog_16_method_9_code 3 = .ok (.isub, 1) := by decide +kernel
theorem dc4_4 : decode prog_16_method_9_code 4 = .ok (.iconst 2, 1) := by decide +kernel
theorem dc4_5 : decode prog_16_method_9_code 5 = .ok (.if_icmp .ge 13, 3) := by decide +kernel
theorem dc4_18 : decode prog_16_method_9_code 18 = .ok (.aload_n 0, 1) := by decide +kernel
theorem dc4_19 : decode prog_16_method_9_code 19 = .ok (.iload_n 1, 1) := by decide +kernel
theorem dc4_20 : decode prog_16_method_9_code 20 = .ok (.baload, 1) := by decide +kernel
theorem dc4_21 : decode prog_16_method_9_code 21 = .ok (.bipush 31, 2) := by decide +kernel
theorem dc4_23 : decode prog_16_method_9_code 23 = .ok (.iand, 1) := by decide +kernel
theorem dc4_24 : decode prog_16_method_9_code 24 = .ok (.bipush 31, 2) := by decide +kernel
theorem dc4_26 : decode prog_16_method_9_code 26 = .ok (.if_icmp .ne 13, 3) := by decide +kernel
theorem dc4_39 : decode prog_16_method_9_code 39 = .ok (.aload_n 0, 1) := by decide +kernel
theorem dc4_40 : decode prog_16_method_9_code 40 = .ok (.iload_n 1, 1) := by decide +kernel
theorem dc4_41 : decode prog_16_method_9_code 41 = .ok (.iconst 1, 1) := by decide +kernel
theorem dc4_42 : decode prog_16_method_9_code 42 = .ok (.iadd, 1) := by decide +kernel
theorem dc4_43 : decode prog_16_method_9_code 43 = .ok (.baload, 1) := by decide +kernel
theorem dc4_44 : decode prog_16_method_9_code 44 = .ok (.sipush 255, 3) := by decide +kernel
theorem dc4_47 : decode prog_16_method_9_code 47 = .ok (.iand, 1) := by decide +kernel
theorem dc4_48 : decode prog_16_method_9_code 48 = .ok (.istore_n 2, 1) := by decide +kernel
theorem dc4_49 : decode prog_16_method_9_code 49 = .ok (.iload_n 1, 1) := by decide +kernel
theorem dc4_50 : decode prog_16_method_9_code 50 = .ok (.iconst 2, 1) := by decide +kernel
theorem dc4_51 : decode prog_16_method_9_code 51 = .ok (.iadd, 1) := by decide +kernel
theorem dc4_52 : decode prog_16_method_9_code 52 = .ok (.istore_n 3, 1) := by decide +kernel
theorem dc4_53 : decode prog_16_method_9_code 53 = .ok (.iload_n 2, 1) := by decide +kernel
theorem dc4_54 : decode prog_16_method_9_code 54 = .ok (.i2l, 1) := by decide +kernel
theorem dc4_55 : decode prog_16_method_9_code 55 = .ok (.lstore 4, 2) := by decide +kernel
theorem dc4_57 : decode prog_16_method_9_code 57 = .ok (.iload_n 2, 1) := by decide +kernel
theorem dc4_58 : decode prog_16_method_9_code 58 = .ok (.sipush 128, 3) := by decide +kernel
theorem dc4_61 : decode prog_16_method_9_code 61 = .ok (.if_icmp .lt 82, 3) := by decide +kernel
theorem dc4_143 : decode prog_16_method_9_code 143 = .ok (.lload 4, 2) := by decide +kernel
theorem dc4_145 : decode prog_16_method_9_code 145 = .ok (.aload_n 0, 1) := by decide +kernel
theorem dc4_146 : decode prog_16_method_9_code 146 = .ok (.arraylength, 1) := by decide +kernel
theorem dc4_147 : decode prog_16_method_9_code 147 = .ok (.iload_n 3, 1) := by decide +kernel
theorem dc4_148 : decode prog_16_method_9_code 148 = .ok (.isub, 1) := by decide +kernel
theorem dc4_149 : decode prog_16_method_9_code 149 = .ok (.i2l, 1) := by decide +kernel
theorem dc4_150 : decode prog_16_method_9_code 150 = .ok (.lcmp, 1) := by decide +kernel
theorem dc4_151 : decode prog_16_method_9_code 151 = .ok (.ifCond .le 13, 3) := by decide +kernel
theorem dc4_164 : decode prog_16_method_9_code 164 = .ok (.iconst 2, 1) := by decide +kernel
theorem dc4_165 : decode prog_16_method_9_code 165 = .ok (.newarray .int, 2) := by decide +kernel
theorem dc4_167 : decode prog_16_method_9_code 167 = .ok (.dup, 1) := by decide +kernel
theorem dc4_168 : decode prog_16_method_9_code 168 = .ok (.iconst 0, 1) := by decide +kernel
theorem dc4_169 : decode prog_16_method_9_code 169 = .ok (.iload_n 3, 1) := by decide +kernel
theorem dc4_170 : decode prog_16_method_9_code 170 = .ok (.iastore, 1) := by decide +kernel
theorem dc4_171 : decode prog_16_method_9_code 171 = .ok (.dup, 1) := by decide +kernel
theorem dc4_172 : decode prog_16_method_9_code 172 = .ok (.iconst 1, 1) := by decide +kernel
theorem dc4_173 : decode prog_16_method_9_code 173 = .ok (.lload 4, 2) := by decide +kernel
theorem dc4_175 : decode prog_16_method_9_code 175 = .ok (.l2i, 1) := by decide +kernel
theorem dc4_176 : decode prog_16_method_9_code 176 = .ok (.iastore, 1) := by decide +kernel
theorem dc4_177 : decode prog_16_method_9_code 177 = .ok (.areturn, 1) := by decide +kernel
theorem pn_1 : plainName "com/example/pemgate/pemgate/core/Der" = true := by first | (simp [plainName, overriddenIn]; done) | decide +kernel
theorem ef_rmH0 (mi : MethodId) (el : Addr) (ke : ClassId) (L : Int32) (b0 : Int32) (b1 : Int32) (b2 : Int32) (b3 : Int32) (b4 : Int32) (b5 : Int32) (b6 : Int32) (b7 : Int32) (b8 : Int32) (b9 : Int32) : entryFrame mi #[(.ref el), (.int 0)] 8 = mkF mi 0 #[.val (.ref el), .val (.int 0), .unset, .unset, .unset, .unset, .unset, .unset] [] := by first | (simp [entryFrame, mkF, argsToLocals, Value.category]; done) | rfl
def Q_rmH0 (Z : State) (el : Addr) (ke : ClassId) (L : Int32) (b0 : Int32) (b1 : Int32) (b2 : Int32) (b3 : Int32) (b4 : Int32) (b5 : Int32) (b6 : Int32) (b7 : Int32) (b8 : Int32) (b9 : Int32) (h0 : Heap) (n0 : Nat) (vv_ : Option Value) (hh_ : Heap) (LL_ : List Loc) : Prop := ∃ (z : Addr) (kz : ClassId), vv_ = some (.ref z) ∧ Fr n0 LL_ ∧ Keep h0 hh_ [] ∧ h0.size ≤ z ∧ n0 ≤ z ∧ Arv Z hh_ z kz .int (2 : Int32) [(.int (2 : Int32)), (.int L)] (.int (0 : Int32))
set_option maxRecDepth 65536 in
set_option maxHeartbeats 40000000 in
theorem rmH0 (l : Launch) (Z : State) (a0 : Array Value) (hw : ∀ d ∈ tables_1, d.before a0 Z = true) (ws : List Jvm.Cond) (el : Addr) (ke : ClassId) (L : Int32) (b0 : Int32) (b1 : Int32) (b2 : Int32) (b3 : Int32) (b4 : Int32) (b5 : Int32) (b6 : Int32) (b7 : Int32) (b8 : Int32) (b9 : Int32) (h0 : Heap) (n0 : Nat) (Z0 : n0 ≤ h0.size) (A0 : Arv Z h0 el ke .byte (10 : Int32) [(.int b0), (.int b1), (.int b2), (.int b3), (.int b4), (.int b5), (.int b6), (.int b7), (.int b8), (.int b9)] (.int (0 : Int32))) (hL1 : 0 ≤ L.toInt) (hL2 : L.toInt ≤ 8) (hL2' : L.toInt ≤ 8) (ht : ¬ ((b0 &&& (31 : Int32)) = (31 : Int32))) (hb1 : (b1 &&& (255 : Int32)) = L) :
    MetFree l (⟨"com/example/pemgate/pemgate/core/Der", "header", "([BI)[I"⟩ : MethodName) (head1 (Jvm.Cond.code (⟨"com/example/pemgate/pemgate/core/Der", "header", "([BI)[I"⟩ : MethodName) prog_16_method_9_code 8 (some (.array .int)) :: ws) ({ frames := 0, cells := 1, slots := 2, locals := 0 } : Room)) (fun aa_ U => aa_ = #[(.ref el), (.int 0)] ∧ Z.Warmed39 U.vm ∧ U.heap = h0) (fun _ _ _ _ _ => True) (fun _ U oo_ UV_ => ∃ vv_ LL_, oo_ = .returned vv_ ∧ Q_rmH0 Z el ke L b0 b1 b2 b3 b4 b5 b6 b7 b8 b9 h0 n0 vv_ UV_.heap LL_ ∧ FrameEnd U oo_ UV_ LL_ ({ frames := 0, cells := 1, slots := 2, locals := 0 } : Room).cells ({ frames := 0, cells := 1, slots := 2, locals := 0 } : Room).slots) := by
  refine MetFree.of_bodySF (plainFor_of_name pn_1) hisR ?_
  intro pg ev si mi args below meth ci s₁ Bd hml0 hP0 hK
  obtain ⟨rfl, hZ, hh⟩ := hP0
  have hx := Bd.exec
  have hby := Bd.bytes
  have hml : ci.maxLocals = 8 := hml0
  have hown : si.vm.findClass "com/example/pemgate/pemgate/core/Der" = some mi.cls := findClass_of_methodNamed Bd.named
  have hnm := (name_of_methodNamed Bd.named Bd.method).1
  have X0 : Stand pg l ev ({ frames := 0, cells := 1, slots := 2, locals := 0 } : Room) si mi #[(.ref el), (.int 0)] below meth ci s₁ [] 0 0 := Stand.of_body Bd
  have e0 : s₁.heap = h0 := by rw [← hh, Bd.state]; rfl
  have N0 := Fr.nil n0
  refine Go.start (fun P hP => ?_)
  refine Go.st (fun t_ k_ => castTop (ef_rmH0 mi el ke L b0 b1 b2 b3 b4 b5 b6 b7 b8 b9) k_) (A := s₁.setTop (mkF mi 0 #[.val (.ref el), .val (.int 0), .unset, .unset, .unset, .unset, .unset, .unset] [])) ?_
  show Go _ _ _ (s₁.setTop (mkF mi 0 #[.val (.ref el), .val (.int 0), .unset, .unset, .unset, .unset, .unset, .unset] [])) _
  refine g_aloadN X0 hx hby dc4_0 rfl rfl ?_
  have ov1 := A0
  obtain ⟨cl1, Ar1, q1, S1, M1, H1, G1⟩ := ov1
  refine Go.st (X0.arraylength hx (by rw [e0]; exact Ar1.1) (State.isArrayOf_alike hZ.alike Ar1.2.1) (g := (mkF mi 1 #[.val (.ref el), .val (.int 0), .unset, .unset, .unset, .unset, .unset, .unset] [(.ref el)])) rfl rfl (hb hby dc4_1)) ?_
  rw [len_of S1 M1]
  refine g_iloadN X0 hx hby dc4_2 rfl ?_
  refine g_isub X0 hx hby dc4_3 (z := 10) rfl ?_
  refine g_iconst X0 hx hby dc4_4 (v := 2) rfl ?_
  refine g_icmpYes X0 hx hby dc4_5 (flt (by decide)).2.1 (pc0 := 5) (pc' := 18) rfl (by decide) (by decide) ?_
  refine g_aloadN X0 hx hby dc4_18 rfl rfl ?_
  refine g_iloadN X0 hx hby dc4_19 rfl ?_
  have ov2 := A0
  obtain ⟨cl2, Ar2, q2, S2, M2, H2, G2⟩ := ov2
  have hin2 : ¬ ((0 : Int32) < 0 ∨ cl2.slots.size ≤ ((0 : Int32)).toNatClampNeg) := inb_of S2 ⟨by decide, by decide⟩
  have hat2 : cl2.slots[((0 : Int32)).toNatClampNeg]? = some (.int b0) := Has.at H2 hin2 rfl
  refine Go.st (X0.baloadBytes hx (j := (0 : Int32)) (v := (.int b0)) (by rw [e0]; exact Ar2.1) (State.isArrayOf_alike hZ.alike Ar2.2.1) Ar2.2.2 hin2 hat2 (g := (mkF mi 20 #[.val (.ref el), .val (.int 0), .unset, .unset, .unset, .unset, .unset, .unset] [(.int 0), (.ref el)])) rfl rfl (hb hby dc4_20)) ?_
  refine g_bipush X0 hx hby dc4_21 (v := 31) rfl ?_
  refine g_iand X0 hx hby dc4_23 rfl ?_
  refine g_bipush X0 hx hby dc4_24 (v := 31) rfl ?_
  refine g_icmpYes X0 hx hby dc4_26 (feq ht).2 (pc0 := 26) (pc' := 39) rfl (by decide) (by decide) ?_
  refine g_aloadN X0 hx hby dc4_39 rfl rfl ?_
  refine g_iloadN X0 hx hby dc4_40 rfl ?_
  refine g_iconst X0 hx hby dc4_41 (v := 1) rfl ?_
  refine g_iadd X0 hx hby dc4_42 (z := 1) rfl ?_
  have ov3 := A0
  obtain ⟨cl3, Ar3, q3, S3, M3, H3, G3⟩ := ov3
  have hin3 : ¬ ((1 : Int32) < 0 ∨ cl3.slots.size ≤ ((1 : Int32)).toNatClampNeg) := inb_of S3 ⟨by decide, by decide⟩
  have hat3 : cl3.slots[((1 : Int32)).toNatClampNeg]? = some (.int b1) := Has.at H3 hin3 rfl
  refine Go.st (X0.baloadBytes hx (j := (1 : Int32)) (v := (.int b1)) (by rw [e0]; exact Ar3.1) (State.isArrayOf_alike hZ.alike Ar3.2.1) Ar3.2.2 hin3 hat3 (g := (mkF mi 43 #[.val (.ref el), .val (.int 0), .unset, .unset, .unset, .unset, .unset, .unset] [(.int 1), (.ref el)])) rfl rfl (hb hby dc4_43)) ?_
  refine g_sipush X0 hx hby dc4_44 (v := 255) rfl ?_
  refine g_iand X0 hx hby dc4_47 rfl ?_
  show Go _ _ _ (s₁.setTop (mkF mi 48 #[.val (.ref el), .val (.int 0), .unset, .unset, .unset, .unset, .unset, .unset] [(.int (b1 &&& (255 : Int32)))])) _
  rw [hb1]
  show Go _ _ _ (s₁.setTop (mkF mi 48 #[.val (.ref el), .val (.int 0), .unset, .unset, .unset, .unset, .unset, .unset] [(.int L)])) _
  refine g_istoreN X0 hx hby dc4_48 (l' := #[.val (.ref el), .val (.int 0), .val (.int L), .unset, .unset, .unset, .unset, .unset]) rfl ?_
  refine g_iloadN X0 hx hby dc4_49 rfl ?_
  refine g_iconst X0 hx hby dc4_50 (v := 2) rfl ?_
  refine g_iadd X0 hx hby dc4_51 (z := 2) rfl ?_
  refine g_istoreN X0 hx hby dc4_52 (l' := #[.val (.ref el), .val (.int 0), .val (.int L), .val (.int 2), .unset, .unset, .unset, .unset]) rfl ?_
  refine g_iloadN X0 hx hby dc4_53 rfl ?_
  refine Go.s (XS.i2l X0.here hx rfl (hb hby dc4_54) rfl) ?_
  refine Go.s (XS.lstore X0.here hx rfl (hb hby dc4_55) rfl (l' := #[.val (.ref el), .val (.int 0), .val (.int L), .val (.int 2), .val (.long (L.toInt64)), .second, .unset, .unset]) rfl) ?_
  show Go _ _ _ (s₁.setTop (mkF mi 57 #[.val (.ref el), .val (.int 0), .val (.int L), .val (.int 2), .val (.long (L.toInt64)), .second, .unset, .unset] [])) _
  refine g_iloadN X0 hx hby dc4_57 rfl ?_
  refine g_sipush X0 hx hby dc4_58 (v := 128) rfl ?_
  refine g_icmpYes X0 hx hby dc4_61 (tlt (own_lt128 hL2')).1 (pc0 := 61) (pc' := 143) rfl (by decide) (by decide) ?_
  refine g_lload X0 hx hby dc4_143 rfl ?_
  refine g_aloadN X0 hx hby dc4_145 rfl rfl ?_
  have ov4 := A0
  obtain ⟨cl4, Ar4, q4, S4, M4, H4, G4⟩ := ov4
  refine Go.st (X0.arraylength hx (by rw [e0]; exact Ar4.1) (State.isArrayOf_alike hZ.alike Ar4.2.1) (g := (mkF mi 146 #[.val (.ref el), .val (.int 0), .val (.int L), .val (.int 2), .val (.long (L.toInt64)), .second, .unset, .unset] [(.ref el), (.long (L.toInt64))])) rfl rfl (hb hby dc4_146)) ?_
  rw [len_of S4 M4]
  refine g_iloadN X0 hx hby dc4_147 rfl ?_
  refine g_isub X0 hx hby dc4_148 (z := 8) rfl ?_
  refine Go.s (XS.i2l X0.here hx rfl (hb hby dc4_149) rfl) ?_
  refine Go.s (XS.lcmp X0.here hx rfl (hb hby dc4_150) rfl) ?_
  show Go _ _ _ (s₁.setTop (mkF mi 151 #[.val (.ref el), .val (.int 0), .val (.int L), .val (.int 2), .val (.long (L.toInt64)), .second, .unset, .unset] [(.int (lcmpW (L.toInt64) (8 : Int64)))])) _
  refine g_ifYes X0 hx hby dc4_151 ((if0 _ _).trans (flt (own_ngt (own_gtL (z := (8 : Int64)) hL2))).2.2.2) (pc0 := 151) (pc' := 164) rfl (by decide) (by decide) ?_
  refine g_iconst X0 hx hby dc4_164 (v := 2) rfl ?_
  obtain ⟨T5, h5, k5, X5, e5, E5, A5, st5⟩ := newP X0 hx hZ (hw _ (own_m 9 rfl)) e0 (g := (mkF mi 165 #[.val (.ref el), .val (.int 0), .val (.int L), .val (.int 2), .val (.long (L.toInt64)), .second, .unset, .unset] [(.int 2)])) rfl (hb hby dc4_165) rfl (by decide) (cap := 2) (by decide) (by decide) (by decide) (by decide)
  obtain ⟨ob5, g5⟩ : ∃ z, z = h0.size := ⟨_, rfl⟩
  rw [← g5] at A5 st5
  have Zs6 : n0 ≤ h5.size := Nat.le_trans Z0 E5.1
  have KC6 : Keep h0 h5 [] := (Keep.refl h0 []).ext E5
  have g_ob5 : n0 ≤ ob5 := Nat.le_trans Z0 (Nat.le_of_eq g5.symm)
  have sz_ob5 : h0.size ≤ ob5 := Nat.le_trans (Keep.refl h0 []).1 (Nat.le_of_eq g5.symm)
  have V5 : Arv Z h5 ob5 k5 .int (2 : Int32) [(.int (0 : Int32)), (.int (0 : Int32))] (.int (0 : Int32)) := (Arv.new A5 (by decide)).pad (pad_rep [] (.int (0 : Int32)) 2)
  refine Go.st st5 ?_
  refine g_dup X5 hx hby dc4_167 rfl ?_
  refine g_iconst X5 hx hby dc4_168 (v := 0) rfl ?_
  refine g_iloadN X5 hx hby dc4_169 rfl ?_
  have ov7 := V5
  obtain ⟨cl7, Ar7, q7, S7, M7, H7, G7⟩ := ov7
  have hin7 : ¬ ((0 : Int32) < 0 ∨ cl7.slots.size ≤ ((0 : Int32)).toNatClampNeg) := inb_of S7 ⟨by decide, by decide⟩
  obtain ⟨T8, h8, X8, e8, W8, st8⟩ := stI X5 hx hZ e5 Ar7 (j := (0 : Int32)) hin7 (g := (mkF mi 170 #[.val (.ref el), .val (.int 0), .val (.int L), .val (.int 2), .val (.long (L.toInt64)), .second, .unset, .unset] [(.int 2), (.int 0), (.ref ob5), (.ref ob5)])) rfl rfl (hb hby dc4_170)
  have Zs9 : n0 ≤ h8.size := Nat.le_trans Zs6 (Keep.of_wr W8).1
  have KC9 : Keep h0 h8 [] := KC6.wr W8 (Or.inr sz_ob5)
  have N9 := Fr.snoc X8 N0 g_ob5
  have V8 : Arv Z h8 ob5 k5 .int (2 : Int32) [(.int 2), (.int 0)] (.int (0 : Int32)) := Arv.set Ar7 q7 S7 M7 H7 G7 rfl W8 0 rfl (Nat.le_of_ble_eq_true rfl)
  refine Go.st st8 ?_
  refine g_dup X8 hx hby dc4_171 rfl ?_
  refine g_iconst X8 hx hby dc4_172 (v := 1) rfl ?_
  refine g_lload X8 hx hby dc4_173 rfl ?_
  refine Go.s (XS.l2i X8.here hx rfl (hb hby dc4_175) rfl) ?_
  show Go _ _ _ (T8.setTop (mkF mi 176 #[.val (.ref el), .val (.int 0), .val (.int L), .val (.int 2), .val (.long (L.toInt64)), .second, .unset, .unset] [(.int ((L.toInt64).toInt32)), (.int 1), (.ref ob5), (.ref ob5)])) _
  rw [own_i]
  show Go _ _ _ (T8.setTop (mkF mi 176 #[.val (.ref el), .val (.int 0), .val (.int L), .val (.int 2), .val (.long (L.toInt64)), .second, .unset, .unset] [(.int L), (.int 1), (.ref ob5), (.ref ob5)])) _
  have ov10 := V8
  obtain ⟨cl10, Ar10, q10, S10, M10, H10, G10⟩ := ov10
  have hin10 : ¬ ((1 : Int32) < 0 ∨ cl10.slots.size ≤ ((1 : Int32)).toNatClampNeg) := inb_of S10 ⟨by decide, by decide⟩
  obtain ⟨T11, h11, X11, e11, W11, st11⟩ := stI X8 hx hZ e8 Ar10 (j := (1 : Int32)) hin10 (g := (mkF mi 176 #[.val (.ref el), .val (.int 0), .val (.int L), .val (.int 2), .val (.long (L.toInt64)), .second, .unset, .unset] [(.int L), (.int 1), (.ref ob5), (.ref ob5)])) rfl rfl (hb hby dc4_176)
  have Zs12 : n0 ≤ h11.size := Nat.le_trans Zs9 (Keep.of_wr W11).1
  have KC12 : Keep h0 h11 [] := KC9.wr W11 (Or.inr sz_ob5)
  have N12 := Fr.snoc X11 N9 g_ob5
  have V11 : Arv Z h11 ob5 k5 .int (2 : Int32) [(.int 2), (.int L)] (.int (0 : Int32)) := Arv.set Ar10 q10 S10 M10 H10 G10 rfl W11 1 rfl (Nat.le_of_ble_eq_true rfl)
  refine Go.st st11 ?_
  obtain ⟨fs, hr, hrun, hended, hW, hsame⟩ := X11.leave (v := some (.ref ob5)) (fun h => by rw [Bd.returns] at h; cases h) (BodyLoose.notSynchronized Bd)
  refine ⟨_, _, ?_, hP _ _ ⟨hrun, hended, _, _, rfl, ?_, ⟨_, rfl⟩, hW, hsame.mono (by decide) (by decide)⟩⟩
  · exact retOut X11 hx Bd.returns rfl (Or.inr (Or.inr (Or.inr (Or.inr ⟨rfl, rfl, rfl⟩)))) (hb hby dc4_177) hr
  · show ∃ (z : Addr) (kz : ClassId), (some (.ref ob5) : Option Value) = some (.ref z) ∧ Fr n0 _ ∧ Keep h0 T11.heap [] ∧ h0.size ≤ z ∧ n0 ≤ z ∧ Arv Z T11.heap z kz .int (2 : Int32) [(.int (2 : Int32)), (.int L)] (.int (0 : Int32))
    rw [e11]
    exact ⟨ob5, _, rfl, N12, KC12, sz_ob5, g_ob5, V11⟩
theorem dc5_0 : decode prog_16_method_7_code 0 = .ok (.aload_n 0, 1) := by decide +kernel
theorem dc5_1 : decode prog_16_method_7_code 1 = .ok (.iconst 0, 1) := by decide +kernel
theorem dc5_2 : decode prog_16_method_7_code 2 = .ok (.invokestatic 144, 3) := by decide +kernel
theorem pd_3 : parseMethodDescriptor "([BI)[I" = some ⟨[(.array .byte), .int], some (.array .int)⟩ := by decide +kernel
theorem dc5_5 : decode prog_16_method_7_code 5 = .ok (.astore_n 1, 1) := by decide +kernel
theorem dc5_6 : decode prog_16_method_7_code 6 = .ok (.aload_n 0, 1) := by decide +kernel
theorem dc5_7 : decode prog_16_method_7_code 7 = .ok (.aload_n 1, 1) := by decide +kernel
theorem dc5_8 : decode prog_16_method_7_code 8 = .ok (.iconst 0, 1) := by decide +kernel
theorem dc5_9 : decode prog_16_method_7_code 9 = .ok (.iaload, 1) := by decide +kernel
theorem dc5_10 : decode prog_16_method_7_code 10 = .ok (.aload_n 1, 1) := by decide +kernel
theorem dc5_11 : decode prog_16_method_7_code 11 = .ok (.iconst 0, 1) := by decide +kernel
theorem dc5_12 : decode prog_16_method_7_code 12 = .ok (.iaload, 1) := by decide +kernel
theorem dc5_13 : decode prog_16_method_7_code 13 = .ok (.aload_n 1, 1) := by decide +kernel
theorem dc5_14 : decode prog_16_method_7_code 14 = .ok (.iconst 1, 1) := by decide +kernel
theorem dc5_15 : decode prog_16_method_7_code 15 = .ok (.iaload, 1) := by decide +kernel
theorem dc5_16 : decode prog_16_method_7_code 16 = .ok (.iadd, 1) := by decide +kernel
theorem dc5_17 : decode prog_16_method_7_code 17 = .ok (.invokestatic 149, 3) := by decide +kernel
theorem dc5_20 : decode prog_16_method_7_code 20 = .ok (.areturn, 1) := by decide +kernel
theorem ef_rmCt0 (mi : MethodId) (el : Addr) (ke : ClassId) (L : Int32) (b0 : Int32) (b1 : Int32) (b2 : Int32) (b3 : Int32) (b4 : Int32) (b5 : Int32) (b6 : Int32) (b7 : Int32) (b8 : Int32) (b9 : Int32) : entryFrame mi #[(.ref el)] 2 = mkF mi 0 #[.val (.ref el), .unset] [] := by first | (simp [entryFrame, mkF, argsToLocals, Value.category]; done) | rfl
def Q_rmCt0 (Z : State) (el : Addr) (ke : ClassId) (L : Int32) (b0 : Int32) (b1 : Int32) (b2 : Int32) (b3 : Int32) (b4 : Int32) (b5 : Int32) (b6 : Int32) (b7 : Int32) (b8 : Int32) (b9 : Int32) (h0 : Heap) (n0 : Nat) (vv_ : Option Value) (hh_ : Heap) (LL_ : List Loc) : Prop := ∃ (r : Addr) (kr : ClassId) (us : List Value), vv_ = some (.ref r) ∧ Fr n0 LL_ ∧ Keep h0 hh_ [] ∧ h0.size ≤ r ∧ n0 ≤ r ∧ Arv Z hh_ r kr .byte L us (.int (0 : Int32)) ∧ (∀ i, i < L.toNatClampNeg → us.getD i (.int (0 : Int32)) = [(.int b0), (.int b1), (.int b2), (.int b3), (.int b4), (.int b5), (.int b6), (.int b7), (.int b8), (.int b9)].getD (2 + i) (.int (0 : Int32)))
set_option maxRecDepth 65536 in
set_option maxHeartbeats 40000000 in
theorem rmCt0 (l : Launch) (Z : State) (a0 : Array Value) (hw : ∀ d ∈ tables_1, d.before a0 Z = true) (ws : List Jvm.Cond) (el : Addr) (ke : ClassId) (L : Int32) (b0 : Int32) (b1 : Int32) (b2 : Int32) (b3 : Int32) (b4 : Int32) (b5 : Int32) (b6 : Int32) (b7 : Int32) (b8 : Int32) (b9 : Int32) (h0 : Heap) (n0 : Nat) (Z0 : n0 ≤ h0.size) (A0 : Arv Z h0 el ke .byte (10 : Int32) [(.int b0), (.int b1), (.int b2), (.int b3), (.int b4), (.int b5), (.int b6), (.int b7), (.int b8), (.int b9)] (.int (0 : Int32))) (hL1 : 0 ≤ L.toInt) (hL2 : L.toInt ≤ 8) (hL2' : L.toInt ≤ 8) (ht : ¬ ((b0 &&& (31 : Int32)) = (31 : Int32))) (hb1 : (b1 &&& (255 : Int32)) = L) :
    MetFree l (⟨"com/example/pemgate/pemgate/core/Der", "contents", "([B)[B"⟩ : MethodName) (head1 (Jvm.Cond.code (⟨"com/example/pemgate/pemgate/core/Der", "contents", "([B)[B"⟩ : MethodName) prog_16_method_7_code 2 (some (.array .byte)) :: ws) ({ frames := 3, cells := 2, slots := 10, locals := 48 } : Room)) (fun aa_ U => aa_ = #[(.ref el)] ∧ Z.Warmed39 U.vm ∧ U.heap = h0) (fun _ _ _ _ _ => True) (fun _ U oo_ UV_ => ∃ vv_ LL_, oo_ = .returned vv_ ∧ Q_rmCt0 Z el ke L b0 b1 b2 b3 b4 b5 b6 b7 b8 b9 h0 n0 vv_ UV_.heap LL_ ∧ FrameEnd U oo_ UV_ LL_ ({ frames := 3, cells := 2, slots := 10, locals := 48 } : Room).cells ({ frames := 3, cells := 2, slots := 10, locals := 48 } : Room).slots) := by
  refine MetFree.of_bodySF (plainFor_of_name pn_1) hisR ?_
  intro pg ev si mi args below meth ci s₁ Bd hml0 hP0 hK
  obtain ⟨rfl, hZ, hh⟩ := hP0
  have hx := Bd.exec
  have hby := Bd.bytes
  have hml : ci.maxLocals = 2 := hml0
  have hown : si.vm.findClass "com/example/pemgate/pemgate/core/Der" = some mi.cls := findClass_of_methodNamed Bd.named
  have hnm := (name_of_methodNamed Bd.named Bd.method).1
  have X0 : Stand pg l ev ({ frames := 3, cells := 2, slots := 10, locals := 48 } : Room) si mi #[(.ref el)] below meth ci s₁ [] 0 0 := Stand.of_body Bd
  have e0 : s₁.heap = h0 := by rw [← hh, Bd.state]; rfl
  have N0 := Fr.nil n0
  refine Go.start (fun P hP => ?_)
  refine Go.st (fun t_ k_ => castTop (ef_rmCt0 mi el ke L b0 b1 b2 b3 b4 b5 b6 b7 b8 b9) k_) (A := s₁.setTop (mkF mi 0 #[.val (.ref el), .unset] [])) ?_
  show Go _ _ _ (s₁.setTop (mkF mi 0 #[.val (.ref el), .unset] [])) _
  refine g_aloadN X0 hx hby dc5_0 rfl rfl ?_
  refine g_iconst X0 hx hby dc5_1 (v := 0) rfl ?_
  obtain ⟨_, _, ⟨T1, L1, k1, n1⟩, -, X1, ⟨Lc1, hQ1, l1, y1, z1⟩, st1⟩ := Jvm.LawKit.callS X0 hx (y := (⟨"com/example/pemgate/pemgate/core/Der", "header", "([BI)[I"⟩ : MethodName)) hown (mvT hZ (hw _ (own_m 6 rfl))) (mvT hZ (hw _ (own_m 7 rfl))) (mvT hZ (hw _ (own_m 4 rfl))) (mvT hZ (hw _ (own_m 8 rfl))) (by decide) (backOf (W := 0) (rmH0 l Z a0 hw [] el ke L b0 b1 b2 b3 b4 b5 b6 b7 b8 b9 h0 n0 Z0 A0 hL1 hL2 hL2' ht hb1) hZ (hw _ (own_m 8 rfl)) (hw _ (own_m 4 rfl)) (by decide) (by decide)) (g := (mkF mi 2 #[.val (.ref el), .unset] [(.int 0), (.ref el)])) rfl (by rw [hml]; rfl) (argsL := [(.ref el), (.int 0)]) (rest := []) (lenOf pd_3 rfl) rfl (by show 2 * 0 + _ ≤ _; exact Nat.le_of_eq rfl) (hb hby dc5_2) (fun _ _ => ⟨rfl, e0, (by decide : 0 + 1 ≤ _), (by decide : 0 + 2 ≤ _)⟩)
  dsimp only [Pt.U, Pt.locs, Pt.cells, Pt.slots] at X1 l1 y1 z1 st1 hQ1
  subst y1 z1
  have X1 := own_cs X1 (cells' := 1) (slots' := 2) rfl rfl
  obtain ⟨h1, e1⟩ : ∃ z, T1.heap = z := ⟨_, rfl⟩
  rw [e1] at hQ1
  obtain ⟨z1, kz1, rfl, N1q, K1, z_z1, g_z1, V_z1⟩ := hQ1
  have N1 := own_fr l1 (Fr.app N0 N1q)
  have Zs2 : n0 ≤ h1.size := Nat.le_trans Z0 K1.1
  have KC2 : Keep h0 h1 [] := (Keep.refl h0 []).trans K1 all0
  refine Go.st st1 ?_
  refine g_astoreN X1 hx hby dc5_5 rfl (l' := #[.val (.ref el), .val (.ref z1)]) rfl ?_
  refine g_aloadN X1 hx hby dc5_6 rfl rfl ?_
  refine g_aloadN X1 hx hby dc5_7 rfl rfl ?_
  refine g_iconst X1 hx hby dc5_8 (v := 0) rfl ?_
  have ov3 := V_z1
  obtain ⟨cl3, Ar3, q3, S3, M3, H3, G3⟩ := ov3
  have hin3 : ¬ ((0 : Int32) < 0 ∨ cl3.slots.size ≤ ((0 : Int32)).toNatClampNeg) := inb_of S3 ⟨by decide, by decide⟩
  have hat3 : cl3.slots[((0 : Int32)).toNatClampNeg]? = some (.int 2) := Has.at H3 hin3 rfl
  refine Go.st (X1.iaload hx (j := (0 : Int32)) (v := (.int 2)) (by rw [e1]; exact Ar3.1) (State.isArrayOf_alike hZ.alike Ar3.2.1) Ar3.2.2 hin3 hat3 (g := (mkF mi 9 #[.val (.ref el), .val (.ref z1)] [(.int 0), (.ref z1), (.ref el)])) rfl rfl (hb hby dc5_9)) ?_
  refine g_aloadN X1 hx hby dc5_10 rfl rfl ?_
  refine g_iconst X1 hx hby dc5_11 (v := 0) rfl ?_
  have ov4 := V_z1
  obtain ⟨cl4, Ar4, q4, S4, M4, H4, G4⟩ := ov4
  have hin4 : ¬ ((0 : Int32) < 0 ∨ cl4.slots.size ≤ ((0 : Int32)).toNatClampNeg) := inb_of S4 ⟨by decide, by decide⟩
  have hat4 : cl4.slots[((0 : Int32)).toNatClampNeg]? = some (.int 2) := Has.at H4 hin4 rfl
  refine Go.st (X1.iaload hx (j := (0 : Int32)) (v := (.int 2)) (by rw [e1]; exact Ar4.1) (State.isArrayOf_alike hZ.alike Ar4.2.1) Ar4.2.2 hin4 hat4 (g := (mkF mi 12 #[.val (.ref el), .val (.ref z1)] [(.int 0), (.ref z1), (.int 2), (.ref el)])) rfl rfl (hb hby dc5_12)) ?_
  refine g_aloadN X1 hx hby dc5_13 rfl rfl ?_
  refine g_iconst X1 hx hby dc5_14 (v := 1) rfl ?_
  have ov5 := V_z1
  obtain ⟨cl5, Ar5, q5, S5, M5, H5, G5⟩ := ov5
  have hin5 : ¬ ((1 : Int32) < 0 ∨ cl5.slots.size ≤ ((1 : Int32)).toNatClampNeg) := inb_of S5 ⟨by decide, by decide⟩
  have hat5 : cl5.slots[((1 : Int32)).toNatClampNeg]? = some (.int L) := Has.at H5 hin5 rfl
  refine Go.st (X1.iaload hx (j := (1 : Int32)) (v := (.int L)) (by rw [e1]; exact Ar5.1) (State.isArrayOf_alike hZ.alike Ar5.2.1) Ar5.2.2 hin5 hat5 (g := (mkF mi 15 #[.val (.ref el), .val (.ref z1)] [(.int 1), (.ref z1), (.int 2), (.int 2), (.ref el)])) rfl rfl (hb hby dc5_15)) ?_
  refine g_iadd X1 hx hby dc5_16 rfl ?_
  have f7 := (A0.keep K1 nin0)
  obtain ⟨_, _, ⟨T6, L6, k6, n6⟩, -, X6, ⟨Lc6, hQ6, l6, y6, z6⟩, st6⟩ := Jvm.LawKit.callS X1 hx (y := (⟨"java/util/Arrays", "copyOfRange", "([BII)[B"⟩ : MethodName)) hown (mvT hZ (hw _ (own_m 10 rfl))) (mvT hZ (hw _ (own_m 11 rfl))) (mvT hZ (hw _ (own_m 12 rfl))) (mvT hZ (hw _ (own_m 13 rfl))) (by decide) (backOf (W := 0) (rmCR2 l Z a0 hw [] el ke L b0 b1 b2 b3 b4 b5 b6 b7 b8 b9 h1 n0 Zs2 f7 hL1 hL2 hL2') hZ (hw _ (own_m 13 rfl)) (hw _ (own_m 12 rfl)) (by decide) (by decide)) (g := (mkF mi 17 #[.val (.ref el), .val (.ref z1)] [(.int ((2 : Int32) + L)), (.int 2), (.ref el)])) rfl (by rw [hml]; rfl) (argsL := [(.ref el), (.int 2), (.int ((2 : Int32) + L))]) (rest := []) (lenOf pd_2 rfl) rfl (by show 2 * 0 + _ ≤ _; exact Nat.le_of_eq rfl) (hb hby dc5_17) (fun _ _ => ⟨rfl, e1, (by decide : 1 + 1 ≤ _), (by decide : 2 + 8 ≤ _)⟩)
  dsimp only [Pt.U, Pt.locs, Pt.cells, Pt.slots] at X6 l6 y6 z6 st6 hQ6
  subst y6 z6
  have X6 := own_cs X6 (cells' := 2) (slots' := 10) rfl rfl
  obtain ⟨h6, e6⟩ : ∃ z, T6.heap = z := ⟨_, rfl⟩
  rw [e6] at hQ6
  obtain ⟨r6, kr6, us6, rfl, N6q, K6, z_r6, g_r6, V_r6, U_r6⟩ := hQ6
  have N6 := own_fr l6 (Fr.app N1 N6q)
  have Zs8 : n0 ≤ h6.size := Nat.le_trans Zs2 K6.1
  have KC8 : Keep h0 h6 [] := KC2.trans K6 all0
  have sz_r6 : h0.size ≤ r6 := Nat.le_trans KC2.1 z_r6
  refine Go.st st6 ?_
  obtain ⟨fs, hr, hrun, hended, hW, hsame⟩ := X6.leave (v := some (.ref r6)) (fun h => by rw [Bd.returns] at h; cases h) (BodyLoose.notSynchronized Bd)
  refine ⟨_, _, ?_, hP _ _ ⟨hrun, hended, _, _, rfl, ?_, ⟨_, rfl⟩, hW, hsame.mono (by decide) (by decide)⟩⟩
  · exact retOut X6 hx Bd.returns rfl (Or.inr (Or.inr (Or.inr (Or.inr ⟨rfl, rfl, rfl⟩)))) (hb hby dc5_20) hr
  · show ∃ (r : Addr) (kr : ClassId) (us : List Value), (some (.ref r6) : Option Value) = some (.ref r) ∧ Fr n0 _ ∧ Keep h0 T6.heap [] ∧ h0.size ≤ r ∧ n0 ≤ r ∧ Arv Z T6.heap r kr .byte L us (.int (0 : Int32)) ∧ (∀ i, i < L.toNatClampNeg → us.getD i (.int (0 : Int32)) = [(.int b0), (.int b1), (.int b2), (.int b3), (.int b4), (.int b5), (.int b6), (.int b7), (.int b8), (.int b9)].getD (2 + i) (.int (0 : Int32)))
    rw [e6]
    exact ⟨r6, kr6, us6, rfl, N6, KC8, sz_r6, g_r6, V_r6, U_r6⟩
theorem dc4_64 : decode prog_16_method_9_code 64 = .ok (.iload_n 2, 1) := by decide +kernel
theorem dc4_65 : decode prog_16_method_9_code 65 = .ok (.bipush 127, 2) := by decide +kernel
theorem dc4_67 : decode prog_16_method_9_code 67 = .ok (.iand, 1) := by decide +kernel
theorem dc4_68 : decode prog_16_method_9_code 68 = .ok (.istore 6, 2) := by decide +kernel
theorem dc4_70 : decode prog_16_method_9_code 70 = .ok (.iload 6, 2) := by decide +kernel
theorem dc4_72 : decode prog_16_method_9_code 72 = .ok (.ifCond .eq 18, 3) := by decide +kernel
theorem dc4_75 : decode prog_16_method_9_code 75 = .ok (.iload 6, 2) := by decide +kernel
theorem dc4_77 : decode prog_16_method_9_code 77 = .ok (.iconst 4, 1) := by decide +kernel
theorem dc4_78 : decode prog_16_method_9_code 78 = .ok (.if_icmp .gt 12, 3) := by decide +kernel
theorem dc4_81 : decode prog_16_method_9_code 81 = .ok (.aload_n 0, 1) := by decide +kernel
theorem dc4_82 : decode prog_16_method_9_code 82 = .ok (.arraylength, 1) := by decide +kernel
theorem dc4_83 : decode prog_16_method_9_code 83 = .ok (.iload_n 3, 1) := by decide +kernel
theorem dc4_84 : decode prog_16_method_9_code 84 = .ok (.isub, 1) := by decide +kernel
theorem dc4_85 : decode prog_16_method_9_code 85 = .ok (.iload 6, 2) := by decide +kernel
theorem dc4_87 : decode prog_16_method_9_code 87 = .ok (.if_icmp .ge 13, 3) := by decide +kernel
theorem dc4_100 : decode prog_16_method_9_code 100 = .ok (.lconst 0, 1) := by decide +kernel
theorem dc4_101 : decode prog_16_method_9_code 101 = .ok (.lstore 4, 2) := by decide +kernel
theorem dc4_103 : decode prog_16_method_9_code 103 = .ok (.iconst 0, 1) := by decide +kernel
theorem dc4_104 : decode prog_16_method_9_code 104 = .ok (.istore 7, 2) := by decide +kernel
theorem dc4_106 : decode prog_16_method_9_code 106 = .ok (.iload 7, 2) := by decide +kernel
theorem dc4_108 : decode prog_16_method_9_code 108 = .ok (.iload 6, 2) := by decide +kernel
theorem dc4_110 : decode prog_16_method_9_code 110 = .ok (.if_icmp .ge 28, 3) := by decide +kernel
theorem dc4_113 : decode prog_16_method_9_code 113 = .ok (.lload 4, 2) := by decide +kernel
theorem dc4_115 : decode prog_16_method_9_code 115 = .ok (.bipush 8, 2) := by decide +kernel
theorem dc4_117 : decode prog_16_method_9_code 117 = .ok (.lshl, 1) := by decide +kernel
theorem dc4_118 : decode prog_16_method_9_code 118 = .ok (.aload_n 0, 1) := by decide +kernel
theorem dc4_119 : decode prog_16_method_9_code 119 = .ok (.iload_n 3, 1) := by decide +kernel
theorem dc4_120 : decode prog_16_method_9_code 120 = .ok (.iload 7, 2) := by decide +kernel
theorem dc4_122 : decode prog_16_method_9_code 122 = .ok (.iadd, 1) := by decide +kernel
theorem dc4_123 : decode prog_16_method_9_code 123 = .ok (.baload, 1) := by decide +kernel
theorem dc4_124 : decode prog_16_method_9_code 124 = .ok (.sipush 255, 3) := by decide +kernel
theorem dc4_127 : decode prog_16_method_9_code 127 = .ok (.iand, 1) := by decide +kernel
theorem dc4_128 : decode prog_16_method_9_code 128 = .ok (.i2l, 1) := by decide +kernel
theorem dc4_129 : decode prog_16_method_9_code 129 = .ok (.lor, 1) := by decide +kernel
theorem dc4_130 : decode prog_16_method_9_code 130 = .ok (.lstore 4, 2) := by decide +kernel
theorem dc4_132 : decode prog_16_method_9_code 132 = .ok (.iinc 7 1, 3) := by decide +kernel
theorem dc4_135 : decode prog_16_method_9_code 135 = .ok (.goto (-29), 3) := by decide +kernel
theorem dc4_138 : decode prog_16_method_9_code 138 = .ok (.iload_n 3, 1) := by decide +kernel
theorem dc4_139 : decode prog_16_method_9_code 139 = .ok (.iload 6, 2) := by decide +kernel
theorem dc4_141 : decode prog_16_method_9_code 141 = .ok (.iadd, 1) := by decide +kernel
theorem dc4_142 : decode prog_16_method_9_code 142 = .ok (.istore_n 3, 1) := by decide +kernel
theorem ef_rmH1 (mi : MethodId) (el : Addr) (ke : ClassId) (L : Int32) (b0 : Int32) (b1 : Int32) (b2 : Int32) (b3 : Int32) (b4 : Int32) (b5 : Int32) (b6 : Int32) (b7 : Int32) (b8 : Int32) (b9 : Int32) : entryFrame mi #[(.ref el), (.int 0)] 8 = mkF mi 0 #[.val (.ref el), .val (.int 0), .unset, .unset, .unset, .unset, .unset, .unset] [] := by first | (simp [entryFrame, mkF, argsToLocals, Value.category]; done) | rfl
def Q_rmH1 (Z : State) (el : Addr) (ke : ClassId) (L : Int32) (b0 : Int32) (b1 : Int32) (b2 : Int32) (b3 : Int32) (b4 : Int32) (b5 : Int32) (b6 : Int32) (b7 : Int32) (b8 : Int32) (b9 : Int32) (h0 : Heap) (n0 : Nat) (vv_ : Option Value) (hh_ : Heap) (LL_ : List Loc) : Prop := ∃ (z : Addr) (kz : ClassId), vv_ = some (.ref z) ∧ Fr n0 LL_ ∧ Keep h0 hh_ [] ∧ h0.size ≤ z ∧ n0 ≤ z ∧ Arv Z hh_ z kz .int (2 : Int32) [(.int (3 : Int32)), (.int L)] (.int (0 : Int32))
set_option maxRecDepth 65536 in
set_option maxHeartbeats 40000000 in
theorem rmH1 (l : Launch) (Z : State) (a0 : Array Value) (hw : ∀ d ∈ tables_1, d.before a0 Z = true) (ws : List Jvm.Cond) (el : Addr) (ke : ClassId) (L : Int32) (b0 : Int32) (b1 : Int32) (b2 : Int32) (b3 : Int32) (b4 : Int32) (b5 : Int32) (b6 : Int32) (b7 : Int32) (b8 : Int32) (b9 : Int32) (h0 : Heap) (n0 : Nat) (Z0 : n0 ≤ h0.size) (A0 : Arv Z h0 el ke .byte (10 : Int32) [(.int b0), (.int b1), (.int b2), (.int b3), (.int b4), (.int b5), (.int b6), (.int b7), (.int b8), (.int b9)] (.int (0 : Int32))) (hL1 : 0 ≤ L.toInt) (hL2 : L.toInt ≤ 7) (hL2' : L.toInt ≤ 8) (ht : ¬ ((b0 &&& (31 : Int32)) = (31 : Int32))) (hb1 : (b1 &&& (255 : Int32)) = (129 : Int32)) (hb2 : (b2 &&& (255 : Int32)) = L) :
    MetFree l (⟨"com/example/pemgate/pemgate/core/Der", "header", "([BI)[I"⟩ : MethodName) (head1 (Jvm.Cond.code (⟨"com/example/pemgate/pemgate/core/Der", "header", "([BI)[I"⟩ : MethodName) prog_16_method_9_code 8 (some (.array .int)) :: ws) ({ frames := 0, cells := 1, slots := 2, locals := 0 } : Room)) (fun aa_ U => aa_ = #[(.ref el), (.int 0)] ∧ Z.Warmed39 U.vm ∧ U.heap = h0) (fun _ _ _ _ _ => True) (fun _ U oo_ UV_ => ∃ vv_ LL_, oo_ = .returned vv_ ∧ Q_rmH1 Z el ke L b0 b1 b2 b3 b4 b5 b6 b7 b8 b9 h0 n0 vv_ UV_.heap LL_ ∧ FrameEnd U oo_ UV_ LL_ ({ frames := 0, cells := 1, slots := 2, locals := 0 } : Room).cells ({ frames := 0, cells := 1, slots := 2, locals := 0 } : Room).slots) := by
  refine MetFree.of_bodySF (plainFor_of_name pn_1) hisR ?_
  intro pg ev si mi args below meth ci s₁ Bd hml0 hP0 hK
  obtain ⟨rfl, hZ, hh⟩ := hP0
  have hx := Bd.exec
  have hby := Bd.bytes
  have hml : ci.maxLocals = 8 := hml0
  have hown : si.vm.findClass "com/example/pemgate/pemgate/core/Der" = some mi.cls := findClass_of_methodNamed Bd.named
  have hnm := (name_of_methodNamed Bd.named Bd.method).1
  have X0 : Stand pg l ev ({ frames := 0, cells := 1, slots := 2, locals := 0 } : Room) si mi #[(.ref el), (.int 0)] below meth ci s₁ [] 0 0 := Stand.of_body Bd
  have e0 : s₁.heap = h0 := by rw [← hh, Bd.state]; rfl
  have N0 := Fr.nil n0
  refine Go.start (fun P hP => ?_)
  refine Go.st (fun t_ k_ => castTop (ef_rmH1 mi el ke L b0 b1 b2 b3 b4 b5 b6 b7 b8 b9) k_) (A := s₁.setTop (mkF mi 0 #[.val (.ref el), .val (.int 0), .unset, .unset, .unset, .unset, .unset, .unset] [])) ?_
  show Go _ _ _ (s₁.setTop (mkF mi 0 #[.val (.ref el), .val (.int 0), .unset, .unset, .unset, .unset, .unset, .unset] [])) _
  refine g_aloadN X0 hx hby dc4_0 rfl rfl ?_
  have ov1 := A0
  obtain ⟨cl1, Ar1, q1, S1, M1, H1, G1⟩ := ov1
  refine Go.st (X0.arraylength hx (by rw [e0]; exact Ar1.1) (State.isArrayOf_alike hZ.alike Ar1.2.1) (g := (mkF mi 1 #[.val (.ref el), .val (.int 0), .unset, .unset, .unset, .unset, .unset, .unset] [(.ref el)])) rfl rfl (hb hby dc4_1)) ?_
  rw [len_of S1 M1]
  refine g_iloadN X0 hx hby dc4_2 rfl ?_
  refine g_isub X0 hx hby dc4_3 (z := 10) rfl ?_
  refine g_iconst X0 hx hby dc4_4 (v := 2) rfl ?_
  refine g_icmpYes X0 hx hby dc4_5 (flt (by decide)).2.1 (pc0 := 5) (pc' := 18) rfl (by decide) (by decide) ?_
  refine g_aloadN X0 hx hby dc4_18 rfl rfl ?_
  refine g_iloadN X0 hx hby dc4_19 rfl ?_
  have ov2 := A0
  obtain ⟨cl2, Ar2, q2, S2, M2, H2, G2⟩ := ov2
  have hin2 : ¬ ((0 : Int32) < 0 ∨ cl2.slots.size ≤ ((0 : Int32)).toNatClampNeg) := inb_of S2 ⟨by decide, by decide⟩
  have hat2 : cl2.slots[((0 : Int32)).toNatClampNeg]? = some (.int b0) := Has.at H2 hin2 rfl
  refine Go.st (X0.baloadBytes hx (j := (0 : Int32)) (v := (.int b0)) (by rw [e0]; exact Ar2.1) (State.isArrayOf_alike hZ.alike Ar2.2.1) Ar2.2.2 hin2 hat2 (g := (mkF mi 20 #[.val (.ref el), .val (.int 0), .unset, .unset, .unset, .unset, .unset, .unset] [(.int 0), (.ref el)])) rfl rfl (hb hby dc4_20)) ?_
  refine g_bipush X0 hx hby dc4_21 (v := 31) rfl ?_
  refine g_iand X0 hx hby dc4_23 rfl ?_
  refine g_bipush X0 hx hby dc4_24 (v := 31) rfl ?_
  refine g_icmpYes X0 hx hby dc4_26 (feq ht).2 (pc0 := 26) (pc' := 39) rfl (by decide) (by decide) ?_
  refine g_aloadN X0 hx hby dc4_39 rfl rfl ?_
  refine g_iloadN X0 hx hby dc4_40 rfl ?_
  refine g_iconst X0 hx hby dc4_41 (v := 1) rfl ?_
  refine g_iadd X0 hx hby dc4_42 (z := 1) rfl ?_
  have ov3 := A0
  obtain ⟨cl3, Ar3, q3, S3, M3, H3, G3⟩ := ov3
  have hin3 : ¬ ((1 : Int32) < 0 ∨ cl3.slots.size ≤ ((1 : Int32)).toNatClampNeg) := inb_of S3 ⟨by decide, by decide⟩
  have hat3 : cl3.slots[((1 : Int32)).toNatClampNeg]? = some (.int b1) := Has.at H3 hin3 rfl
  refine Go.st (X0.baloadBytes hx (j := (1 : Int32)) (v := (.int b1)) (by rw [e0]; exact Ar3.1) (State.isArrayOf_alike hZ.alike Ar3.2.1) Ar3.2.2 hin3 hat3 (g := (mkF mi 43 #[.val (.ref el), .val (.int 0), .unset, .unset, .unset, .unset, .unset, .unset] [(.int 1), (.ref el)])) rfl rfl (hb hby dc4_43)) ?_
  refine g_sipush X0 hx hby dc4_44 (v := 255) rfl ?_
  refine g_iand X0 hx hby dc4_47 rfl ?_
  show Go _ _ _ (s₁.setTop (mkF mi 48 #[.val (.ref el), .val (.int 0), .unset, .unset, .unset, .unset, .unset, .unset] [(.int (b1 &&& (255 : Int32)))])) _
  rw [hb1]
  show Go _ _ _ (s₁.setTop (mkF mi 48 #[.val (.ref el), .val (.int 0), .unset, .unset, .unset, .unset, .unset, .unset] [(.int 129)])) _
  refine g_istoreN X0 hx hby dc4_48 (l' := #[.val (.ref el), .val (.int 0), .val (.int 129), .unset, .unset, .unset, .unset, .unset]) rfl ?_
  refine g_iloadN X0 hx hby dc4_49 rfl ?_
  refine g_iconst X0 hx hby dc4_50 (v := 2) rfl ?_
  refine g_iadd X0 hx hby dc4_51 (z := 2) rfl ?_
  refine g_istoreN X0 hx hby dc4_52 (l' := #[.val (.ref el), .val (.int 0), .val (.int 129), .val (.int 2), .unset, .unset, .unset, .unset]) rfl ?_
  refine g_iloadN X0 hx hby dc4_53 rfl ?_
  refine Go.s (XS.i2l X0.here hx rfl (hb hby dc4_54) rfl) ?_
  refine Go.s (XS.lstore X0.here hx rfl (hb hby dc4_55) rfl (l' := #[.val (.ref el), .val (.int 0), .val (.int 129), .val (.int 2), .val (.long 129), .second, .unset, .unset]) rfl) ?_
  show Go _ _ _ (s₁.setTop (mkF mi 57 #[.val (.ref el), .val (.int 0), .val (.int 129), .val (.int 2), .val (.long 129), .second, .unset, .unset] [])) _
  refine g_iloadN X0 hx hby dc4_57 rfl ?_
  refine g_sipush X0 hx hby dc4_58 (v := 128) rfl ?_
  refine g_icmpNo X0 hx hby dc4_61 (flt (by decide)).1 ?_
  refine g_iloadN X0 hx hby dc4_64 rfl ?_
  refine g_bipush X0 hx hby dc4_65 (v := 127) rfl ?_
  refine g_iand X0 hx hby dc4_67 (z := 1) rfl ?_
  refine g_istore X0 hx hby dc4_68 (l' := #[.val (.ref el), .val (.int 0), .val (.int 129), .val (.int 2), .val (.long 129), .second, .val (.int 1), .unset]) rfl ?_
  refine g_iload X0 hx hby dc4_70 rfl ?_
  refine g_ifNo X0 hx hby dc4_72 ((if0 _ _).trans (feq (by decide)).1) ?_
  refine g_iload X0 hx hby dc4_75 rfl ?_
  refine g_iconst X0 hx hby dc4_77 (v := 4) rfl ?_
  refine g_icmpNo X0 hx hby dc4_78 (flt (by decide)).2.2.1 ?_
  refine g_aloadN X0 hx hby dc4_81 rfl rfl ?_
  have ov4 := A0
  obtain ⟨cl4, Ar4, q4, S4, M4, H4, G4⟩ := ov4
  refine Go.st (X0.arraylength hx (by rw [e0]; exact Ar4.1) (State.isArrayOf_alike hZ.alike Ar4.2.1) (g := (mkF mi 82 #[.val (.ref el), .val (.int 0), .val (.int 129), .val (.int 2), .val (.long 129), .second, .val (.int 1), .unset] [(.ref el)])) rfl rfl (hb hby dc4_82)) ?_
  rw [len_of S4 M4]
  refine g_iloadN X0 hx hby dc4_83 rfl ?_
  refine g_isub X0 hx hby dc4_84 (z := 8) rfl ?_
  refine g_iload X0 hx hby dc4_85 rfl ?_
  refine g_icmpYes X0 hx hby dc4_87 (flt (by decide)).2.1 (pc0 := 87) (pc' := 100) rfl (by decide) (by decide) ?_
  refine Go.s (XS.lconst X0.here hx rfl (hb hby dc4_100)) ?_
  show Go _ _ _ (s₁.setTop (mkF mi 101 #[.val (.ref el), .val (.int 0), .val (.int 129), .val (.int 2), .val (.long 129), .second, .val (.int 1), .unset] [(.long 0)])) _
  refine Go.s (XS.lstore X0.here hx rfl (hb hby dc4_101) rfl (l' := #[.val (.ref el), .val (.int 0), .val (.int 129), .val (.int 2), .val (.long 0), .second, .val (.int 1), .unset]) rfl) ?_
  refine g_iconst X0 hx hby dc4_103 (v := 0) rfl ?_
  refine g_istore X0 hx hby dc4_104 (l' := #[.val (.ref el), .val (.int 0), .val (.int 129), .val (.int 2), .val (.long 0), .second, .val (.int 1), .val (.int 0)]) rfl ?_
  refine g_iload X0 hx hby dc4_106 rfl ?_
  refine g_iload X0 hx hby dc4_108 rfl ?_
  refine g_icmpNo X0 hx hby dc4_110 (tlt (by decide)).2.1 ?_
  refine g_lload X0 hx hby dc4_113 rfl ?_
  refine g_bipush X0 hx hby dc4_115 (v := 8) rfl ?_
  refine Go.s (XS.lshl X0.here hx rfl (hb hby dc4_117) rfl) ?_
  show Go _ _ _ (s₁.setTop (mkF mi 118 #[.val (.ref el), .val (.int 0), .val (.int 129), .val (.int 2), .val (.long 0), .second, .val (.int 1), .val (.int 0)] [(.long 0)])) _
  refine g_aloadN X0 hx hby dc4_118 rfl rfl ?_
  refine g_iloadN X0 hx hby dc4_119 rfl ?_
  refine g_iload X0 hx hby dc4_120 rfl ?_
  refine g_iadd X0 hx hby dc4_122 (z := 2) rfl ?_
  have ov5 := A0
  obtain ⟨cl5, Ar5, q5, S5, M5, H5, G5⟩ := ov5
  have hin5 : ¬ ((2 : Int32) < 0 ∨ cl5.slots.size ≤ ((2 : Int32)).toNatClampNeg) := inb_of S5 ⟨by decide, by decide⟩
  have hat5 : cl5.slots[((2 : Int32)).toNatClampNeg]? = some (.int b2) := Has.at H5 hin5 rfl
  refine Go.st (X0.baloadBytes hx (j := (2 : Int32)) (v := (.int b2)) (by rw [e0]; exact Ar5.1) (State.isArrayOf_alike hZ.alike Ar5.2.1) Ar5.2.2 hin5 hat5 (g := (mkF mi 123 #[.val (.ref el), .val (.int 0), .val (.int 129), .val (.int 2), .val (.long 0), .second, .val (.int 1), .val (.int 0)] [(.int 2), (.ref el), (.long 0)])) rfl rfl (hb hby dc4_123)) ?_
  refine g_sipush X0 hx hby dc4_124 (v := 255) rfl ?_
  refine g_iand X0 hx hby dc4_127 rfl ?_
  show Go _ _ _ (s₁.setTop (mkF mi 128 #[.val (.ref el), .val (.int 0), .val (.int 129), .val (.int 2), .val (.long 0), .second, .val (.int 1), .val (.int 0)] [(.int (b2 &&& (255 : Int32))), (.long 0)])) _
  rw [hb2]
  show Go _ _ _ (s₁.setTop (mkF mi 128 #[.val (.ref el), .val (.int 0), .val (.int 129), .val (.int 2), .val (.long 0), .second, .val (.int 1), .val (.int 0)] [(.int L), (.long 0)])) _
  refine Go.s (XS.i2l X0.here hx rfl (hb hby dc4_128) rfl) ?_
  refine Go.s (XS.lor X0.here hx rfl (hb hby dc4_129) rfl) ?_
  show Go _ _ _ (s₁.setTop (mkF mi 130 #[.val (.ref el), .val (.int 0), .val (.int 129), .val (.int 2), .val (.long 0), .second, .val (.int 1), .val (.int 0)] [(.long ((0 : Int64) ||| (L.toInt64)))])) _
  rw [show ((0 : Int64) ||| L.toInt64) = L.toInt64 from Int64.zero_or]
  show Go _ _ _ (s₁.setTop (mkF mi 130 #[.val (.ref el), .val (.int 0), .val (.int 129), .val (.int 2), .val (.long 0), .second, .val (.int 1), .val (.int 0)] [(.long (L.toInt64))])) _
  refine Go.s (XS.lstore X0.here hx rfl (hb hby dc4_130) rfl (l' := #[.val (.ref el), .val (.int 0), .val (.int 129), .val (.int 2), .val (.long (L.toInt64)), .second, .val (.int 1), .val (.int 0)]) rfl) ?_
  refine g_iinc X0 hx hby dc4_132 rfl (x' := 1) rfl (l' := #[.val (.ref el), .val (.int 0), .val (.int 129), .val (.int 2), .val (.long (L.toInt64)), .second, .val (.int 1), .val (.int 1)]) rfl ?_
  refine g_goto X0 hx hby dc4_135 (pc0 := 135) (pc' := 106) rfl (by decide) (by decide) ?_
  refine g_iload X0 hx hby dc4_106 rfl ?_
  refine g_iload X0 hx hby dc4_108 rfl ?_
  refine g_icmpYes X0 hx hby dc4_110 (flt (by decide)).2.1 (pc0 := 110) (pc' := 138) rfl (by decide) (by decide) ?_
  refine g_iloadN X0 hx hby dc4_138 rfl ?_
  refine g_iload X0 hx hby dc4_139 rfl ?_
  refine g_iadd X0 hx hby dc4_141 (z := 3) rfl ?_
  refine g_istoreN X0 hx hby dc4_142 (l' := #[.val (.ref el), .val (.int 0), .val (.int 129), .val (.int 3), .val (.long (L.toInt64)), .second, .val (.int 1), .val (.int 1)]) rfl ?_
  refine g_lload X0 hx hby dc4_143 rfl ?_
  refine g_aloadN X0 hx hby dc4_145 rfl rfl ?_
  have ov6 := A0
  obtain ⟨cl6, Ar6, q6, S6, M6, H6, G6⟩ := ov6
  refine Go.st (X0.arraylength hx (by rw [e0]; exact Ar6.1) (State.isArrayOf_alike hZ.alike Ar6.2.1) (g := (mkF mi 146 #[.val (.ref el), .val (.int 0), .val (.int 129), .val (.int 3), .val (.long (L.toInt64)), .second, .val (.int 1), .val (.int 1)] [(.ref el), (.long (L.toInt64))])) rfl rfl (hb hby dc4_146)) ?_
  rw [len_of S6 M6]
  show Go _ _ _ (s₁.setTop (mkF mi 147 #[.val (.ref el), .val (.int 0), .val (.int 129), .val (.int 3), .val (.long (L.toInt64)), .second, .val (.int 1), .val (.int 1)] [(.int 10), (.long (L.toInt64))])) _
  refine g_iloadN X0 hx hby dc4_147 rfl ?_
  refine g_isub X0 hx hby dc4_148 (z := 7) rfl ?_
  refine Go.s (XS.i2l X0.here hx rfl (hb hby dc4_149) rfl) ?_
  refine Go.s (XS.lcmp X0.here hx rfl (hb hby dc4_150) rfl) ?_
  refine g_ifYes X0 hx hby dc4_151 ((if0 _ _).trans (flt (own_ngt (own_gtL (z := (7 : Int64)) hL2))).2.2.2) (pc0 := 151) (pc' := 164) rfl (by decide) (by decide) ?_
  show Go _ _ _ (s₁.setTop (mkF mi 164 #[.val (.ref el), .val (.int 0), .val (.int 129), .val (.int 3), .val (.long (L.toInt64)), .second, .val (.int 1), .val (.int 1)] [])) _
  refine g_iconst X0 hx hby dc4_164 (v := 2) rfl ?_
  obtain ⟨T7, h7, k7, X7, e7, E7, A7, st7⟩ := newP X0 hx hZ (hw _ (own_m 9 rfl)) e0 (g := (mkF mi 165 #[.val (.ref el), .val (.int 0), .val (.int 129), .val (.int 3), .val (.long (L.toInt64)), .second, .val (.int 1), .val (.int 1)] [(.int 2)])) rfl (hb hby dc4_165) rfl (by decide) (cap := 2) (by decide) (by decide) (by decide) (by decide)
  obtain ⟨ob7, g7⟩ : ∃ z, z = h0.size := ⟨_, rfl⟩
  rw [← g7] at A7 st7
  have Zs8 : n0 ≤ h7.size := Nat.le_trans Z0 E7.1
  have KC8 : Keep h0 h7 [] := (Keep.refl h0 []).ext E7
  have g_ob7 : n0 ≤ ob7 := Nat.le_trans Z0 (Nat.le_of_eq g7.symm)
  have sz_ob7 : h0.size ≤ ob7 := Nat.le_trans (Keep.refl h0 []).1 (Nat.le_of_eq g7.symm)
  have V7 : Arv Z h7 ob7 k7 .int (2 : Int32) [(.int (0 : Int32)), (.int (0 : Int32))] (.int (0 : Int32)) := (Arv.new A7 (by decide)).pad (pad_rep [] (.int (0 : Int32)) 2)
  refine Go.st st7 ?_
  refine g_dup X7 hx hby dc4_167 rfl ?_
  refine g_iconst X7 hx hby dc4_168 (v := 0) rfl ?_
  refine g_iloadN X7 hx hby dc4_169 rfl ?_
  have ov9 := V7
  obtain ⟨cl9, Ar9, q9, S9, M9, H9, G9⟩ := ov9
  have hin9 : ¬ ((0 : Int32) < 0 ∨ cl9.slots.size ≤ ((0 : Int32)).toNatClampNeg) := inb_of S9 ⟨by decide, by decide⟩
  obtain ⟨T10, h10, X10, e10, W10, st10⟩ := stI X7 hx hZ e7 Ar9 (j := (0 : Int32)) hin9 (g := (mkF mi 170 #[.val (.ref el), .val (.int 0), .val (.int 129), .val (.int 3), .val (.long (L.toInt64)), .second, .val (.int 1), .val (.int 1)] [(.int 3), (.int 0), (.ref ob7), (.ref ob7)])) rfl rfl (hb hby dc4_170)
  have Zs11 : n0 ≤ h10.size := Nat.le_trans Zs8 (Keep.of_wr W10).1
  have KC11 : Keep h0 h10 [] := KC8.wr W10 (Or.inr sz_ob7)
  have N11 := Fr.snoc X10 N0 g_ob7
  have V10 : Arv Z h10 ob7 k7 .int (2 : Int32) [(.int 3), (.int 0)] (.int (0 : Int32)) := Arv.set Ar9 q9 S9 M9 H9 G9 rfl W10 0 rfl (Nat.le_of_ble_eq_true rfl)
  refine Go.st st10 ?_
  refine g_dup X10 hx hby dc4_171 rfl ?_
  refine g_iconst X10 hx hby dc4_172 (v := 1) rfl ?_
  refine g_lload X10 hx hby dc4_173 rfl ?_
  refine Go.s (XS.l2i X10.here hx rfl (hb hby dc4_175) rfl) ?_
  show Go _ _ _ (T10.setTop (mkF mi 176 #[.val (.ref el), .val (.int 0), .val (.int 129), .val (.int 3), .val (.long (L.toInt64)), .second, .val (.int 1), .val (.int 1)] [(.int ((L.toInt64).toInt32)), (.int 1), (.ref ob7), (.ref ob7)])) _
  rw [own_i]
  show Go _ _ _ (T10.setTop (mkF mi 176 #[.val (.ref el), .val (.int 0), .val (.int 129), .val (.int 3), .val (.long (L.toInt64)), .second, .val (.int 1), .val (.int 1)] [(.int L), (.int 1), (.ref ob7), (.ref ob7)])) _
  have ov12 := V10
  obtain ⟨cl12, Ar12, q12, S12, M12, H12, G12⟩ := ov12
  have hin12 : ¬ ((1 : Int32) < 0 ∨ cl12.slots.size ≤ ((1 : Int32)).toNatClampNeg) := inb_of S12 ⟨by decide, by decide⟩
  obtain ⟨T13, h13, X13, e13, W13, st13⟩ := stI X10 hx hZ e10 Ar12 (j := (1 : Int32)) hin12 (g := (mkF mi 176 #[.val (.ref el), .val (.int 0), .val (.int 129), .val (.int 3), .val (.long (L.toInt64)), .second, .val (.int 1), .val (.int 1)] [(.int L), (.int 1), (.ref ob7), (.ref ob7)])) rfl rfl (hb hby dc4_176)
  have Zs14 : n0 ≤ h13.size := Nat.le_trans Zs11 (Keep.of_wr W13).1
  have KC14 : Keep h0 h13 [] := KC11.wr W13 (Or.inr sz_ob7)
  have N14 := Fr.snoc X13 N11 g_ob7
  have V13 : Arv Z h13 ob7 k7 .int (2 : Int32) [(.int 3), (.int L)] (.int (0 : Int32)) := Arv.set Ar12 q12 S12 M12 H12 G12 rfl W13 1 rfl (Nat.le_of_ble_eq_true rfl)
  refine Go.st st13 ?_
  obtain ⟨fs, hr, hrun, hended, hW, hsame⟩ := X13.leave (v := some (.ref ob7)) (fun h => by rw [Bd.returns] at h; cases h) (BodyLoose.notSynchronized Bd)
  refine ⟨_, _, ?_, hP _ _ ⟨hrun, hended, _, _, rfl, ?_, ⟨_, rfl⟩, hW, hsame.mono (by decide) (by decide)⟩⟩
  · exact retOut X13 hx Bd.returns rfl (Or.inr (Or.inr (Or.inr (Or.inr ⟨rfl, rfl, rfl⟩)))) (hb hby dc4_177) hr
  · show ∃ (z : Addr) (kz : ClassId), (some (.ref ob7) : Option Value) = some (.ref z) ∧ Fr n0 _ ∧ Keep h0 T13.heap [] ∧ h0.size ≤ z ∧ n0 ≤ z ∧ Arv Z T13.heap z kz .int (2 : Int32) [(.int (3 : Int32)), (.int L)] (.int (0 : Int32))
    rw [e13]
    exact ⟨ob7, _, rfl, N14, KC14, sz_ob7, g_ob7, V13⟩
theorem ef_rmCt1 (mi : MethodId) (el : Addr) (ke : ClassId) (L : Int32) (b0 : Int32) (b1 : Int32) (b2 : Int32) (b3 : Int32) (b4 : Int32) (b5 : Int32) (b6 : Int32) (b7 : Int32) (b8 : Int32) (b9 : Int32) : entryFrame mi #[(.ref el)] 2 = mkF mi 0 #[.val (.ref el), .unset] [] := by first | (simp [entryFrame, mkF, argsToLocals, Value.category]; done) | rfl
def Q_rmCt1 (Z : State) (el : Addr) (ke : ClassId) (L : Int32) (b0 : Int32) (b1 : Int32) (b2 : Int32) (b3 : Int32) (b4 : Int32) (b5 : Int32) (b6 : Int32) (b7 : Int32) (b8 : Int32) (b9 : Int32) (h0 : Heap) (n0 : Nat) (vv_ : Option Value) (hh_ : Heap) (LL_ : List Loc) : Prop := ∃ (r : Addr) (kr : ClassId) (us : List Value), vv_ = some (.ref r) ∧ Fr n0 LL_ ∧ Keep h0 hh_ [] ∧ h0.size ≤ r ∧ n0 ≤ r ∧ Arv Z hh_ r kr .byte L us (.int (0 : Int32)) ∧ (∀ i, i < L.toNatClampNeg → us.getD i (.int (0 : Int32)) = [(.int b0), (.int b1), (.int b2), (.int b3), (.int b4), (.int b5), (.int b6), (.int b7), (.int b8), (.int b9)].getD (3 + i) (.int (0 : Int32)))
set_option maxRecDepth 65536 in
set_option maxHeartbeats 40000000 in
theorem rmCt1 (l : Launch) (Z : State) (a0 : Array Value) (hw : ∀ d ∈ tables_1, d.before a0 Z = true) (ws : List Jvm.Cond) (el : Addr) (ke : ClassId) (L : Int32) (b0 : Int32) (b1 : Int32) (b2 : Int32) (b3 : Int32) (b4 : Int32) (b5 : Int32) (b6 : Int32) (b7 : Int32) (b8 : Int32) (b9 : Int32) (h0 : Heap) (n0 : Nat) (Z0 : n0 ≤ h0.size) (A0 : Arv Z h0 el ke .byte (10 : Int32) [(.int b0), (.int b1), (.int b2), (.int b3), (.int b4), (.int b5), (.int b6), (.int b7), (.int b8), (.int b9)] (.int (0 : Int32))) (hL1 : 0 ≤ L.toInt) (hL2 : L.toInt ≤ 7) (hL2' : L.toInt ≤ 8) (ht : ¬ ((b0 &&& (31 : Int32)) = (31 : Int32))) (hb1 : (b1 &&& (255 : Int32)) = (129 : Int32)) (hb2 : (b2 &&& (255 : Int32)) = L) :
    MetFree l (⟨"com/example/pemgate/pemgate/core/Der", "contents", "([B)[B"⟩ : MethodName) (head1 (Jvm.Cond.code (⟨"com/example/pemgate/pemgate/core/Der", "contents", "([B)[B"⟩ : MethodName) prog_16_method_7_code 2 (some (.array .byte)) :: ws) ({ frames := 3, cells := 2, slots := 10, locals := 48 } : Room)) (fun aa_ U => aa_ = #[(.ref el)] ∧ Z.Warmed39 U.vm ∧ U.heap = h0) (fun _ _ _ _ _ => True) (fun _ U oo_ UV_ => ∃ vv_ LL_, oo_ = .returned vv_ ∧ Q_rmCt1 Z el ke L b0 b1 b2 b3 b4 b5 b6 b7 b8 b9 h0 n0 vv_ UV_.heap LL_ ∧ FrameEnd U oo_ UV_ LL_ ({ frames := 3, cells := 2, slots := 10, locals := 48 } : Room).cells ({ frames := 3, cells := 2, slots := 10, locals := 48 } : Room).slots) := by
  refine MetFree.of_bodySF (plainFor_of_name pn_1) hisR ?_
  intro pg ev si mi args below meth ci s₁ Bd hml0 hP0 hK
  obtain ⟨rfl, hZ, hh⟩ := hP0
  have hx := Bd.exec
  have hby := Bd.bytes
  have hml : ci.maxLocals = 2 := hml0
  have hown : si.vm.findClass "com/example/pemgate/pemgate/core/Der" = some mi.cls := findClass_of_methodNamed Bd.named
  have hnm := (name_of_methodNamed Bd.named Bd.method).1
  have X0 : Stand pg l ev ({ frames := 3, cells := 2, slots := 10, locals := 48 } : Room) si mi #[(.ref el)] below meth ci s₁ [] 0 0 := Stand.of_body Bd
  have e0 : s₁.heap = h0 := by rw [← hh, Bd.state]; rfl
  have N0 := Fr.nil n0
  refine Go.start (fun P hP => ?_)
  refine Go.st (fun t_ k_ => castTop (ef_rmCt1 mi el ke L b0 b1 b2 b3 b4 b5 b6 b7 b8 b9) k_) (A := s₁.setTop (mkF mi 0 #[.val (.ref el), .unset] [])) ?_
  show Go _ _ _ (s₁.setTop (mkF mi 0 #[.val (.ref el), .unset] [])) _
  refine g_aloadN X0 hx hby dc5_0 rfl rfl ?_
  refine g_iconst X0 hx hby dc5_1 (v := 0) rfl ?_
  obtain ⟨_, _, ⟨T1, L1, k1, n1⟩, -, X1, ⟨Lc1, hQ1, l1, y1, z1⟩, st1⟩ := Jvm.LawKit.callS X0 hx (y := (⟨"com/example/pemgate/pemgate/core/Der", "header", "([BI)[I"⟩ : MethodName)) hown (mvT hZ (hw _ (own_m 6 rfl))) (mvT hZ (hw _ (own_m 7 rfl))) (mvT hZ (hw _ (own_m 4 rfl))) (mvT hZ (hw _ (own_m 8 rfl))) (by decide) (backOf (W := 0) (rmH1 l Z a0 hw [] el ke L b0 b1 b2 b3 b4 b5 b6 b7 b8 b9 h0 n0 Z0 A0 hL1 hL2 hL2' ht hb1 hb2) hZ (hw _ (own_m 8 rfl)) (hw _ (own_m 4 rfl)) (by decide) (by decide)) (g := (mkF mi 2 #[.val (.ref el), .unset] [(.int 0), (.ref el)])) rfl (by rw [hml]; rfl) (argsL := [(.ref el), (.int 0)]) (rest := []) (lenOf pd_3 rfl) rfl (by show 2 * 0 + _ ≤ _; exact Nat.le_of_eq rfl) (hb hby dc5_2) (fun _ _ => ⟨rfl, e0, (by decide : 0 + 1 ≤ _), (by decide : 0 + 2 ≤ _)⟩)
  dsimp only [Pt.U, Pt.locs, Pt.cells, Pt.slots] at X1 l1 y1 z1 st1 hQ1
  subst y1 z1
  have X1 := own_cs X1 (cells' := 1) (slots' := 2) rfl rfl
  obtain ⟨h1, e1⟩ : ∃ z, T1.heap = z := ⟨_, rfl⟩
  rw [e1] at hQ1
  obtain ⟨z1, kz1, rfl, N1q, K1, z_z1, g_z1, V_z1⟩ := hQ1
  have N1 := own_fr l1 (Fr.app N0 N1q)
  have Zs2 : n0 ≤ h1.size := Nat.le_trans Z0 K1.1
  have KC2 : Keep h0 h1 [] := (Keep.refl h0 []).trans K1 all0
  refine Go.st st1 ?_
  refine g_astoreN X1 hx hby dc5_5 rfl (l' := #[.val (.ref el), .val (.ref z1)]) rfl ?_
  refine g_aloadN X1 hx hby dc5_6 rfl rfl ?_
  refine g_aloadN X1 hx hby dc5_7 rfl rfl ?_
  refine g_iconst X1 hx hby dc5_8 (v := 0) rfl ?_
  have ov3 := V_z1
  obtain ⟨cl3, Ar3, q3, S3, M3, H3, G3⟩ := ov3
  have hin3 : ¬ ((0 : Int32) < 0 ∨ cl3.slots.size ≤ ((0 : Int32)).toNatClampNeg) := inb_of S3 ⟨by decide, by decide⟩
  have hat3 : cl3.slots[((0 : Int32)).toNatClampNeg]? = some (.int 3) := Has.at H3 hin3 rfl
  refine Go.st (X1.iaload hx (j := (0 : Int32)) (v := (.int 3)) (by rw [e1]; exact Ar3.1) (State.isArrayOf_alike hZ.alike Ar3.2.1) Ar3.2.2 hin3 hat3 (g := (mkF mi 9 #[.val (.ref el), .val (.ref z1)] [(.int 0), (.ref z1), (.ref el)])) rfl rfl (hb hby dc5_9)) ?_
  refine g_aloadN X1 hx hby dc5_10 rfl rfl ?_
  refine g_iconst X1 hx hby dc5_11 (v := 0) rfl ?_
  have ov4 := V_z1
  obtain ⟨cl4, Ar4, q4, S4, M4, H4, G4⟩ := ov4
  have hin4 : ¬ ((0 : Int32) < 0 ∨ cl4.slots.size ≤ ((0 : Int32)).toNatClampNeg) := inb_of S4 ⟨by decide, by decide⟩
  have hat4 : cl4.slots[((0 : Int32)).toNatClampNeg]? = some (.int 3) := Has.at H4 hin4 rfl
  refine Go.st (X1.iaload hx (j := (0 : Int32)) (v := (.int 3)) (by rw [e1]; exact Ar4.1) (State.isArrayOf_alike hZ.alike Ar4.2.1) Ar4.2.2 hin4 hat4 (g := (mkF mi 12 #[.val (.ref el), .val (.ref z1)] [(.int 0), (.ref z1), (.int 3), (.ref el)])) rfl rfl (hb hby dc5_12)) ?_
  refine g_aloadN X1 hx hby dc5_13 rfl rfl ?_
  refine g_iconst X1 hx hby dc5_14 (v := 1) rfl ?_
  have ov5 := V_z1
  obtain ⟨cl5, Ar5, q5, S5, M5, H5, G5⟩ := ov5
  have hin5 : ¬ ((1 : Int32) < 0 ∨ cl5.slots.size ≤ ((1 : Int32)).toNatClampNeg) := inb_of S5 ⟨by decide, by decide⟩
  have hat5 : cl5.slots[((1 : Int32)).toNatClampNeg]? = some (.int L) := Has.at H5 hin5 rfl
  refine Go.st (X1.iaload hx (j := (1 : Int32)) (v := (.int L)) (by rw [e1]; exact Ar5.1) (State.isArrayOf_alike hZ.alike Ar5.2.1) Ar5.2.2 hin5 hat5 (g := (mkF mi 15 #[.val (.ref el), .val (.ref z1)] [(.int 1), (.ref z1), (.int 3), (.int 3), (.ref el)])) rfl rfl (hb hby dc5_15)) ?_
  refine g_iadd X1 hx hby dc5_16 rfl ?_
  have f7 := (A0.keep K1 nin0)
  obtain ⟨_, _, ⟨T6, L6, k6, n6⟩, -, X6, ⟨Lc6, hQ6, l6, y6, z6⟩, st6⟩ := Jvm.LawKit.callS X1 hx (y := (⟨"java/util/Arrays", "copyOfRange", "([BII)[B"⟩ : MethodName)) hown (mvT hZ (hw _ (own_m 10 rfl))) (mvT hZ (hw _ (own_m 11 rfl))) (mvT hZ (hw _ (own_m 12 rfl))) (mvT hZ (hw _ (own_m 13 rfl))) (by decide) (backOf (W := 0) (rmCR3 l Z a0 hw [] el ke L b0 b1 b2 b3 b4 b5 b6 b7 b8 b9 h1 n0 Zs2 f7 hL1 hL2 hL2') hZ (hw _ (own_m 13 rfl)) (hw _ (own_m 12 rfl)) (by decide) (by decide)) (g := (mkF mi 17 #[.val (.ref el), .val (.ref z1)] [(.int ((3 : Int32) + L)), (.int 3), (.ref el)])) rfl (by rw [hml]; rfl) (argsL := [(.ref el), (.int 3), (.int ((3 : Int32) + L))]) (rest := []) (lenOf pd_2 rfl) rfl (by show 2 * 0 + _ ≤ _; exact Nat.le_of_eq rfl) (hb hby dc5_17) (fun _ _ => ⟨rfl, e1, (by decide : 1 + 1 ≤ _), (by decide : 2 + 8 ≤ _)⟩)
  dsimp only [Pt.U, Pt.locs, Pt.cells, Pt.slots] at X6 l6 y6 z6 st6 hQ6
  subst y6 z6
  have X6 := own_cs X6 (cells' := 2) (slots' := 10) rfl rfl
  obtain ⟨h6, e6⟩ : ∃ z, T6.heap = z := ⟨_, rfl⟩
  rw [e6] at hQ6
  obtain ⟨r6, kr6, us6, rfl, N6q, K6, z_r6, g_r6, V_r6, U_r6⟩ := hQ6
  have N6 := own_fr l6 (Fr.app N1 N6q)
  have Zs8 : n0 ≤ h6.size := Nat.le_trans Zs2 K6.1
  have KC8 : Keep h0 h6 [] := KC2.trans K6 all0
  have sz_r6 : h0.size ≤ r6 := Nat.le_trans KC2.1 z_r6
  refine Go.st st6 ?_
  obtain ⟨fs, hr, hrun, hended, hW, hsame⟩ := X6.leave (v := some (.ref r6)) (fun h => by rw [Bd.returns] at h; cases h) (BodyLoose.notSynchronized Bd)
  refine ⟨_, _, ?_, hP _ _ ⟨hrun, hended, _, _, rfl, ?_, ⟨_, rfl⟩, hW, hsame.mono (by decide) (by decide)⟩⟩
  · exact retOut X6 hx Bd.returns rfl (Or.inr (Or.inr (Or.inr (Or.inr ⟨rfl, rfl, rfl⟩)))) (hb hby dc5_20) hr
  · show ∃ (r : Addr) (kr : ClassId) (us : List Value), (some (.ref r6) : Option Value) = some (.ref r) ∧ Fr n0 _ ∧ Keep h0 T6.heap [] ∧ h0.size ≤ r ∧ n0 ≤ r ∧ Arv Z T6.heap r kr .byte L us (.int (0 : Int32)) ∧ (∀ i, i < L.toNatClampNeg → us.getD i (.int (0 : Int32)) = [(.int b0), (.int b1), (.int b2), (.int b3), (.int b4), (.int b5), (.int b6), (.int b7), (.int b8), (.int b9)].getD (3 + i) (.int (0 : Int32)))
    rw [e6]
    exact ⟨r6, kr6, us6, rfl, N6, KC8, sz_r6, g_r6, V_r6, U_r6⟩
theorem ef_rmH2 (mi : MethodId) (el : Addr) (ke : ClassId) (L : Int32) (b0 : Int32) (b1 : Int32) (b2 : Int32) (b3 : Int32) (b4 : Int32) (b5 : Int32) (b6 : Int32) (b7 : Int32) (b8 : Int32) (b9 : Int32) : entryFrame mi #[(.ref el), (.int 0)] 8 = mkF mi 0 #[.val (.ref el), .val (.int 0), .unset, .unset, .unset, .unset, .unset, .unset] [] := by first | (simp [entryFrame, mkF, argsToLocals, Value.category]; done) | rfl
def Q_rmH2 (Z : State) (el : Addr) (ke : ClassId) (L : Int32) (b0 : Int32) (b1 : Int32) (b2 : Int32) (b3 : Int32) (b4 : Int32) (b5 : Int32) (b6 : Int32) (b7 : Int32) (b8 : Int32) (b9 : Int32) (h0 : Heap) (n0 : Nat) (vv_ : Option Value) (hh_ : Heap) (LL_ : List Loc) : Prop := ∃ (z : Addr) (kz : ClassId), vv_ = some (.ref z) ∧ Fr n0 LL_ ∧ Keep h0 hh_ [] ∧ h0.size ≤ z ∧ n0 ≤ z ∧ Arv Z hh_ z kz .int (2 : Int32) [(.int (4 : Int32)), (.int L)] (.int (0 : Int32))
set_option maxRecDepth 65536 in
set_option maxHeartbeats 40000000 in
theorem rmH2 (l : Launch) (Z : State) (a0 : Array Value) (hw : ∀ d ∈ tables_1, d.before a0 Z = true) (ws : List Jvm.Cond) (el : Addr) (ke : ClassId) (L : Int32) (b0 : Int32) (b1 : Int32) (b2 : Int32) (b3 : Int32) (b4 : Int32) (b5 : Int32) (b6 : Int32) (b7 : Int32) (b8 : Int32) (b9 : Int32) (h0 : Heap) (n0 : Nat) (Z0 : n0 ≤ h0.size) (A0 : Arv Z h0 el ke .byte (10 : Int32) [(.int b0), (.int b1), (.int b2), (.int b3), (.int b4), (.int b5), (.int b6), (.int b7), (.int b8), (.int b9)] (.int (0 : Int32))) (hL1 : 0 ≤ L.toInt) (hL2 : L.toInt ≤ 6) (hL2' : L.toInt ≤ 8) (ht : ¬ ((b0 &&& (31 : Int32)) = (31 : Int32))) (hb1 : (b1 &&& (255 : Int32)) = (130 : Int32)) (hb2 : (b2 &&& (255 : Int32)) = (0 : Int32)) (hb3 : (b3 &&& (255 : Int32)) = L) :
    MetFree l (⟨"com/example/pemgate/pemgate/core/Der", "header", "([BI)[I"⟩ : MethodName) (head1 (Jvm.Cond.code (⟨"com/example/pemgate/pemgate/core/Der", "header", "([BI)[I"⟩ : MethodName) prog_16_method_9_code 8 (some (.array .int)) :: ws) ({ frames := 0, cells := 1, slots := 2, locals := 0 } : Room)) (fun aa_ U => aa_ = #[(.ref el), (.int 0)] ∧ Z.Warmed39 U.vm ∧ U.heap = h0) (fun _ _ _ _ _ => True) (fun _ U oo_ UV_ => ∃ vv_ LL_, oo_ = .returned vv_ ∧ Q_rmH2 Z el ke L b0 b1 b2 b3 b4 b5 b6 b7 b8 b9 h0 n0 vv_ UV_.heap LL_ ∧ FrameEnd U oo_ UV_ LL_ ({ frames := 0, cells := 1, slots := 2, locals := 0 } : Room).cells ({ frames := 0, cells := 1, slots := 2, locals := 0 } : Room).slots) := by
  refine MetFree.of_bodySF (plainFor_of_name pn_1) hisR ?_
  intro pg ev si mi args below meth ci s₁ Bd hml0 hP0 hK
  obtain ⟨rfl, hZ, hh⟩ := hP0
  have hx := Bd.exec
  have hby := Bd.bytes
  have hml : ci.maxLocals = 8 := hml0
  have hown : si.vm.findClass "com/example/pemgate/pemgate/core/Der" = some mi.cls := findClass_of_methodNamed Bd.named
  have hnm := (name_of_methodNamed Bd.named Bd.method).1
  have X0 : Stand pg l ev ({ frames := 0, cells := 1, slots := 2, locals := 0 } : Room) si mi #[(.ref el), (.int 0)] below meth ci s₁ [] 0 0 := Stand.of_body Bd
  have e0 : s₁.heap = h0 := by rw [← hh, Bd.state]; rfl
  have N0 := Fr.nil n0
  refine Go.start (fun P hP => ?_)
  refine Go.st (fun t_ k_ => castTop (ef_rmH2 mi el ke L b0 b1 b2 b3 b4 b5 b6 b7 b8 b9) k_) (A := s₁.setTop (mkF mi 0 #[.val (.ref el), .val (.int 0), .unset, .unset, .unset, .unset, .unset, .unset] [])) ?_
  show Go _ _ _ (s₁.setTop (mkF mi 0 #[.val (.ref el), .val (.int 0), .unset, .unset, .unset, .unset, .unset, .unset] [])) _
  refine g_aloadN X0 hx hby dc4_0 rfl rfl ?_
  have ov1 := A0
  obtain ⟨cl1, Ar1, q1, S1, M1, H1, G1⟩ := ov1
  refine Go.st (X0.arraylength hx (by rw [e0]; exact Ar1.1) (State.isArrayOf_alike hZ.alike Ar1.2.1) (g := (mkF mi 1 #[.val (.ref el), .val (.int 0), .unset, .unset, .unset, .unset, .unset, .unset] [(.ref el)])) rfl rfl (hb hby dc4_1)) ?_
  rw [len_of S1 M1]
  refine g_iloadN X0 hx hby dc4_2 rfl ?_
  refine g_isub X0 hx hby dc4_3 (z := 10) rfl ?_
  refine g_iconst X0 hx hby dc4_4 (v := 2) rfl ?_
  refine g_icmpYes X0 hx hby dc4_5 (flt (by decide)).2.1 (pc0 := 5) (pc' := 18) rfl (by decide) (by decide) ?_
  refine g_aloadN X0 hx hby dc4_18 rfl rfl ?_
  refine g_iloadN X0 hx hby dc4_19 rfl ?_
  have ov2 := A0
  obtain ⟨cl2, Ar2, q2, S2, M2, H2, G2⟩ := ov2
  have hin2 : ¬ ((0 : Int32) < 0 ∨ cl2.slots.size ≤ ((0 : Int32)).toNatClampNeg) := inb_of S2 ⟨by decide, by decide⟩
  have hat2 : cl2.slots[((0 : Int32)).toNatClampNeg]? = some (.int b0) := Has.at H2 hin2 rfl
  refine Go.st (X0.baloadBytes hx (j := (0 : Int32)) (v := (.int b0)) (by rw [e0]; exact Ar2.1) (State.isArrayOf_alike hZ.alike Ar2.2.1) Ar2.2.2 hin2 hat2 (g := (mkF mi 20 #[.val (.ref el), .val (.int 0), .unset, .unset, .unset, .unset, .unset, .unset] [(.int 0), (.ref el)])) rfl rfl (hb hby dc4_20)) ?_
  refine g_bipush X0 hx hby dc4_21 (v := 31) rfl ?_
  refine g_iand X0 hx hby dc4_23 rfl ?_
  refine g_bipush X0 hx hby dc4_24 (v := 31) rfl ?_
  refine g_icmpYes X0 hx hby dc4_26 (feq ht).2 (pc0 := 26) (pc' := 39) rfl (by decide) (by decide) ?_
  refine g_aloadN X0 hx hby dc4_39 rfl rfl ?_
  refine g_iloadN X0 hx hby dc4_40 rfl ?_
  refine g_iconst X0 hx hby dc4_41 (v := 1) rfl ?_
  refine g_iadd X0 hx hby dc4_42 (z := 1) rfl ?_
  have ov3 := A0
  obtain ⟨cl3, Ar3, q3, S3, M3, H3, G3⟩ := ov3
  have hin3 : ¬ ((1 : Int32) < 0 ∨ cl3.slots.size ≤ ((1 : Int32)).toNatClampNeg) := inb_of S3 ⟨by decide, by decide⟩
  have hat3 : cl3.slots[((1 : Int32)).toNatClampNeg]? = some (.int b1) := Has.at H3 hin3 rfl
  refine Go.st (X0.baloadBytes hx (j := (1 : Int32)) (v := (.int b1)) (by rw [e0]; exact Ar3.1) (State.isArrayOf_alike hZ.alike Ar3.2.1) Ar3.2.2 hin3 hat3 (g := (mkF mi 43 #[.val (.ref el), .val (.int 0), .unset, .unset, .unset, .unset, .unset, .unset] [(.int 1), (.ref el)])) rfl rfl (hb hby dc4_43)) ?_
  refine g_sipush X0 hx hby dc4_44 (v := 255) rfl ?_
  refine g_iand X0 hx hby dc4_47 rfl ?_
  show Go _ _ _ (s₁.setTop (mkF mi 48 #[.val (.ref el), .val (.int 0), .unset, .unset, .unset, .unset, .unset, .unset] [(.int (b1 &&& (255 : Int32)))])) _
  rw [hb1]
  show Go _ _ _ (s₁.setTop (mkF mi 48 #[.val (.ref el), .val (.int 0), .unset, .unset, .unset, .unset, .unset, .unset] [(.int 130)])) _
  refine g_istoreN X0 hx hby dc4_48 (l' := #[.val (.ref el), .val (.int 0), .val (.int 130), .unset, .unset, .unset, .unset, .unset]) rfl ?_
  refine g_iloadN X0 hx hby dc4_49 rfl ?_
  refine g_iconst X0 hx hby dc4_50 (v := 2) rfl ?_
  refine g_iadd X0 hx hby dc4_51 (z := 2) rfl ?_
  refine g_istoreN X0 hx hby dc4_52 (l' := #[.val (.ref el), .val (.int 0), .val (.int 130), .val (.int 2), .unset, .unset, .unset, .unset]) rfl ?_
  refine g_iloadN X0 hx hby dc4_53 rfl ?_
  refine Go.s (XS.i2l X0.here hx rfl (hb hby dc4_54) rfl) ?_
  refine Go.s (XS.lstore X0.here hx rfl (hb hby dc4_55) rfl (l' := #[.val (.ref el), .val (.int 0), .val (.int 130), .val (.int 2), .val (.long 130), .second, .unset, .unset]) rfl) ?_
  show Go _ _ _ (s₁.setTop (mkF mi 57 #[.val (.ref el), .val (.int 0), .val (.int 130), .val (.int 2), .val (.long 130), .second, .unset, .unset] [])) _
  refine g_iloadN X0 hx hby dc4_57 rfl ?_
  refine g_sipush X0 hx hby dc4_58 (v := 128) rfl ?_
  refine g_icmpNo X0 hx hby dc4_61 (flt (by decide)).1 ?_
  refine g_iloadN X0 hx hby dc4_64 rfl ?_
  refine g_bipush X0 hx hby dc4_65 (v := 127) rfl ?_
  refine g_iand X0 hx hby dc4_67 (z := 2) rfl ?_
  refine g_istore X0 hx hby dc4_68 (l' := #[.val (.ref el), .val (.int 0), .val (.int 130), .val (.int 2), .val (.long 130), .second, .val (.int 2), .unset]) rfl ?_
  refine g_iload X0 hx hby dc4_70 rfl ?_
  refine g_ifNo X0 hx hby dc4_72 ((if0 _ _).trans (feq (by decide)).1) ?_
  refine g_iload X0 hx hby dc4_75 rfl ?_
  refine g_iconst X0 hx hby dc4_77 (v := 4) rfl ?_
  refine g_icmpNo X0 hx hby dc4_78 (flt (by decide)).2.2.1 ?_
  refine g_aloadN X0 hx hby dc4_81 rfl rfl ?_
  have ov4 := A0
  obtain ⟨cl4, Ar4, q4, S4, M4, H4, G4⟩ := ov4
  refine Go.st (X0.arraylength hx (by rw [e0]; exact Ar4.1) (State.isArrayOf_alike hZ.alike Ar4.2.1) (g := (mkF mi 82 #[.val (.ref el), .val (.int 0), .val (.int 130), .val (.int 2), .val (.long 130), .second, .val (.int 2), .unset] [(.ref el)])) rfl rfl (hb hby dc4_82)) ?_
  rw [len_of S4 M4]
  refine g_iloadN X0 hx hby dc4_83 rfl ?_
  refine g_isub X0 hx hby dc4_84 (z := 8) rfl ?_
  refine g_iload X0 hx hby dc4_85 rfl ?_
  refine g_icmpYes X0 hx hby dc4_87 (flt (by decide)).2.1 (pc0 := 87) (pc' := 100) rfl (by decide) (by decide) ?_
  refine Go.s (XS.lconst X0.here hx rfl (hb hby dc4_100)) ?_
  show Go _ _ _ (s₁.setTop (mkF mi 101 #[.val (.ref el), .val (.int 0), .val (.int 130), .val (.int 2), .val (.long 130), .second, .val (.int 2), .unset] [(.long 0)])) _
  refine Go.s (XS.lstore X0.here hx rfl (hb hby dc4_101) rfl (l' := #[.val (.ref el), .val (.int 0), .val (.int 130), .val (.int 2), .val (.long 0), .second, .val (.int 2), .unset]) rfl) ?_
  refine g_iconst X0 hx hby dc4_103 (v := 0) rfl ?_
  refine g_istore X0 hx hby dc4_104 (l' := #[.val (.ref el), .val (.int 0), .val (.int 130), .val (.int 2), .val (.long 0), .second, .val (.int 2), .val (.int 0)]) rfl ?_
  refine g_iload X0 hx hby dc4_106 rfl ?_
  refine g_iload X0 hx hby dc4_108 rfl ?_
  refine g_icmpNo X0 hx hby dc4_110 (tlt (by decide)).2.1 ?_
  refine g_lload X0 hx hby dc4_113 rfl ?_
  refine g_bipush X0 hx hby dc4_115 (v := 8) rfl ?_
  refine Go.s (XS.lshl X0.here hx rfl (hb hby dc4_117) rfl) ?_
  show Go _ _ _ (s₁.setTop (mkF mi 118 #[.val (.ref el), .val (.int 0), .val (.int 130), .val (.int 2), .val (.long 0), .second, .val (.int 2), .val (.int 0)] [(.long 0)])) _
  refine g_aloadN X0 hx hby dc4_118 rfl rfl ?_
  refine g_iloadN X0 hx hby dc4_119 rfl ?_
  refine g_iload X0 hx hby dc4_120 rfl ?_
  refine g_iadd X0 hx hby dc4_122 (z := 2) rfl ?_
  have ov5 := A0
  obtain ⟨cl5, Ar5, q5, S5, M5, H5, G5⟩ := ov5
  have hin5 : ¬ ((2 : Int32) < 0 ∨ cl5.slots.size ≤ ((2 : Int32)).toNatClampNeg) := inb_of S5 ⟨by decide, by decide⟩
  have hat5 : cl5.slots[((2 : Int32)).toNatClampNeg]? = some (.int b2) := Has.at H5 hin5 rfl
  refine Go.st (X0.baloadBytes hx (j := (2 : Int32)) (v := (.int b2)) (by rw [e0]; exact Ar5.1) (State.isArrayOf_alike hZ.alike Ar5.2.1) Ar5.2.2 hin5 hat5 (g := (mkF mi 123 #[.val (.ref el), .val (.int 0), .val (.int 130), .val (.int 2), .val (.long 0), .second, .val (.int 2), .val (.int 0)] [(.int 2), (.ref el), (.long 0)])) rfl rfl (hb hby dc4_123)) ?_
  refine g_sipush X0 hx hby dc4_124 (v := 255) rfl ?_
  refine g_iand X0 hx hby dc4_127 rfl ?_
  show Go _ _ _ (s₁.setTop (mkF mi 128 #[.val (.ref el), .val (.int 0), .val (.int 130), .val (.int 2), .val (.long 0), .second, .val (.int 2), .val (.int 0)] [(.int (b2 &&& (255 : Int32))), (.long 0)])) _
  rw [hb2]
  show Go _ _ _ (s₁.setTop (mkF mi 128 #[.val (.ref el), .val (.int 0), .val (.int 130), .val (.int 2), .val (.long 0), .second, .val (.int 2), .val (.int 0)] [(.int 0), (.long 0)])) _
  refine Go.s (XS.i2l X0.here hx rfl (hb hby dc4_128) rfl) ?_
  refine Go.s (XS.lor X0.here hx rfl (hb hby dc4_129) rfl) ?_
  show Go _ _ _ (s₁.setTop (mkF mi 130 #[.val (.ref el), .val (.int 0), .val (.int 130), .val (.int 2), .val (.long 0), .second, .val (.int 2), .val (.int 0)] [(.long 0)])) _
  refine Go.s (XS.lstore X0.here hx rfl (hb hby dc4_130) rfl (l' := #[.val (.ref el), .val (.int 0), .val (.int 130), .val (.int 2), .val (.long 0), .second, .val (.int 2), .val (.int 0)]) rfl) ?_
  refine g_iinc X0 hx hby dc4_132 rfl (x' := 1) rfl (l' := #[.val (.ref el), .val (.int 0), .val (.int 130), .val (.int 2), .val (.long 0), .second, .val (.int 2), .val (.int 1)]) rfl ?_
  refine g_goto X0 hx hby dc4_135 (pc0 := 135) (pc' := 106) rfl (by decide) (by decide) ?_
  refine g_iload X0 hx hby dc4_106 rfl ?_
  refine g_iload X0 hx hby dc4_108 rfl ?_
  refine g_icmpNo X0 hx hby dc4_110 (tlt (by decide)).2.1 ?_
  refine g_lload X0 hx hby dc4_113 rfl ?_
  refine g_bipush X0 hx hby dc4_115 (v := 8) rfl ?_
  refine Go.s (XS.lshl X0.here hx rfl (hb hby dc4_117) rfl) ?_
  show Go _ _ _ (s₁.setTop (mkF mi 118 #[.val (.ref el), .val (.int 0), .val (.int 130), .val (.int 2), .val (.long 0), .second, .val (.int 2), .val (.int 1)] [(.long 0)])) _
  refine g_aloadN X0 hx hby dc4_118 rfl rfl ?_
  refine g_iloadN X0 hx hby dc4_119 rfl ?_
  refine g_iload X0 hx hby dc4_120 rfl ?_
  refine g_iadd X0 hx hby dc4_122 (z := 3) rfl ?_
  have ov6 := A0
  obtain ⟨cl6, Ar6, q6, S6, M6, H6, G6⟩ := ov6
  have hin6 : ¬ ((3 : Int32) < 0 ∨ cl6.slots.size ≤ ((3 : Int32)).toNatClampNeg) := inb_of S6 ⟨by decide, by decide⟩
  have hat6 : cl6.slots[((3 : Int32)).toNatClampNeg]? = some (.int b3) := Has.at H6 hin6 rfl
  refine Go.st (X0.baloadBytes hx (j := (3 : Int32)) (v := (.int b3)) (by rw [e0]; exact Ar6.1) (State.isArrayOf_alike hZ.alike Ar6.2.1) Ar6.2.2 hin6 hat6 (g := (mkF mi 123 #[.val (.ref el), .val (.int 0), .val (.int 130), .val (.int 2), .val (.long 0), .second, .val (.int 2), .val (.int 1)] [(.int 3), (.ref el), (.long 0)])) rfl rfl (hb hby dc4_123)) ?_
  refine g_sipush X0 hx hby dc4_124 (v := 255) rfl ?_
  refine g_iand X0 hx hby dc4_127 rfl ?_
  show Go _ _ _ (s₁.setTop (mkF mi 128 #[.val (.ref el), .val (.int 0), .val (.int 130), .val (.int 2), .val (.long 0), .second, .val (.int 2), .val (.int 1)] [(.int (b3 &&& (255 : Int32))), (.long 0)])) _
  rw [hb3]
  show Go _ _ _ (s₁.setTop (mkF mi 128 #[.val (.ref el), .val (.int 0), .val (.int 130), .val (.int 2), .val (.long 0), .second, .val (.int 2), .val (.int 1)] [(.int L), (.long 0)])) _
  refine Go.s (XS.i2l X0.here hx rfl (hb hby dc4_128) rfl) ?_
  refine Go.s (XS.lor X0.here hx rfl (hb hby dc4_129) rfl) ?_
  show Go _ _ _ (s₁.setTop (mkF mi 130 #[.val (.ref el), .val (.int 0), .val (.int 130), .val (.int 2), .val (.long 0), .second, .val (.int 2), .val (.int 1)] [(.long ((0 : Int64) ||| (L.toInt64)))])) _
  rw [show ((0 : Int64) ||| L.toInt64) = L.toInt64 from Int64.zero_or]
  show Go _ _ _ (s₁.setTop (mkF mi 130 #[.val (.ref el), .val (.int 0), .val (.int 130), .val (.int 2), .val (.long 0), .second, .val (.int 2), .val (.int 1)] [(.long (L.toInt64))])) _
  refine Go.s (XS.lstore X0.here hx rfl (hb hby dc4_130) rfl (l' := #[.val (.ref el), .val (.int 0), .val (.int 130), .val (.int 2), .val (.long (L.toInt64)), .second, .val (.int 2), .val (.int 1)]) rfl) ?_
  refine g_iinc X0 hx hby dc4_132 rfl (x' := 2) rfl (l' := #[.val (.ref el), .val (.int 0), .val (.int 130), .val (.int 2), .val (.long (L.toInt64)), .second, .val (.int 2), .val (.int 2)]) rfl ?_
  refine g_goto X0 hx hby dc4_135 (pc0 := 135) (pc' := 106) rfl (by decide) (by decide) ?_
  refine g_iload X0 hx hby dc4_106 rfl ?_
  refine g_iload X0 hx hby dc4_108 rfl ?_
  refine g_icmpYes X0 hx hby dc4_110 (flt (by decide)).2.1 (pc0 := 110) (pc' := 138) rfl (by decide) (by decide) ?_
  refine g_iloadN X0 hx hby dc4_138 rfl ?_
  refine g_iload X0 hx hby dc4_139 rfl ?_
  refine g_iadd X0 hx hby dc4_141 (z := 4) rfl ?_
  refine g_istoreN X0 hx hby dc4_142 (l' := #[.val (.ref el), .val (.int 0), .val (.int 130), .val (.int 4), .val (.long (L.toInt64)), .second, .val (.int 2), .val (.int 2)]) rfl ?_
  refine g_lload X0 hx hby dc4_143 rfl ?_
  refine g_aloadN X0 hx hby dc4_145 rfl rfl ?_
  have ov7 := A0
  obtain ⟨cl7, Ar7, q7, S7, M7, H7, G7⟩ := ov7
  refine Go.st (X0.arraylength hx (by rw [e0]; exact Ar7.1) (State.isArrayOf_alike hZ.alike Ar7.2.1) (g := (mkF mi 146 #[.val (.ref el), .val (.int 0), .val (.int 130), .val (.int 4), .val (.long (L.toInt64)), .second, .val (.int 2), .val (.int 2)] [(.ref el), (.long (L.toInt64))])) rfl rfl (hb hby dc4_146)) ?_
  rw [len_of S7 M7]
  show Go _ _ _ (s₁.setTop (mkF mi 147 #[.val (.ref el), .val (.int 0), .val (.int 130), .val (.int 4), .val (.long (L.toInt64)), .second, .val (.int 2), .val (.int 2)] [(.int 10), (.long (L.toInt64))])) _
  refine g_iloadN X0 hx hby dc4_147 rfl ?_
  refine g_isub X0 hx hby dc4_148 (z := 6) rfl ?_
  refine Go.s (XS.i2l X0.here hx rfl (hb hby dc4_149) rfl) ?_
  refine Go.s (XS.lcmp X0.here hx rfl (hb hby dc4_150) rfl) ?_
  refine g_ifYes X0 hx hby dc4_151 ((if0 _ _).trans (flt (own_ngt (own_gtL (z := (6 : Int64)) hL2))).2.2.2) (pc0 := 151) (pc' := 164) rfl (by decide) (by decide) ?_
  show Go _ _ _ (s₁.setTop (mkF mi 164 #[.val (.ref el), .val (.int 0), .val (.int 130), .val (.int 4), .val (.long (L.toInt64)), .second, .val (.int 2), .val (.int 2)] [])) _
  refine g_iconst X0 hx hby dc4_164 (v := 2) rfl ?_
  obtain ⟨T8, h8, k8, X8, e8, E8, A8, st8⟩ := newP X0 hx hZ (hw _ (own_m 9 rfl)) e0 (g := (mkF mi 165 #[.val (.ref el), .val (.int 0), .val (.int 130), .val (.int 4), .val (.long (L.toInt64)), .second, .val (.int 2), .val (.int 2)] [(.int 2)])) rfl (hb hby dc4_165) rfl (by decide) (cap := 2) (by decide) (by decide) (by decide) (by decide)
  obtain ⟨ob8, g8⟩ : ∃ z, z = h0.size := ⟨_, rfl⟩
  rw [← g8] at A8 st8
  have Zs9 : n0 ≤ h8.size := Nat.le_trans Z0 E8.1
  have KC9 : Keep h0 h8 [] := (Keep.refl h0 []).ext E8
  have g_ob8 : n0 ≤ ob8 := Nat.le_trans Z0 (Nat.le_of_eq g8.symm)
  have sz_ob8 : h0.size ≤ ob8 := Nat.le_trans (Keep.refl h0 []).1 (Nat.le_of_eq g8.symm)
  have V8 : Arv Z h8 ob8 k8 .int (2 : Int32) [(.int (0 : Int32)), (.int (0 : Int32))] (.int (0 : Int32)) := (Arv.new A8 (by decide)).pad (pad_rep [] (.int (0 : Int32)) 2)
  refine Go.st st8 ?_
  refine g_dup X8 hx hby dc4_167 rfl ?_
  refine g_iconst X8 hx hby dc4_168 (v := 0) rfl ?_
  refine g_iloadN X8 hx hby dc4_169 rfl ?_
  have ov10 := V8
  obtain ⟨cl10, Ar10, q10, S10, M10, H10, G10⟩ := ov10
  have hin10 : ¬ ((0 : Int32) < 0 ∨ cl10.slots.size ≤ ((0 : Int32)).toNatClampNeg) := inb_of S10 ⟨by decide, by decide⟩
  obtain ⟨T11, h11, X11, e11, W11, st11⟩ := stI X8 hx hZ e8 Ar10 (j := (0 : Int32)) hin10 (g := (mkF mi 170 #[.val (.ref el), .val (.int 0), .val (.int 130), .val (.int 4), .val (.long (L.toInt64)), .second, .val (.int 2), .val (.int 2)] [(.int 4), (.int 0), (.ref ob8), (.ref ob8)])) rfl rfl (hb hby dc4_170)
  have Zs12 : n0 ≤ h11.size := Nat.le_trans Zs9 (Keep.of_wr W11).1
  have KC12 : Keep h0 h11 [] := KC9.wr W11 (Or.inr sz_ob8)
  have N12 := Fr.snoc X11 N0 g_ob8
  have V11 : Arv Z h11 ob8 k8 .int (2 : Int32) [(.int 4), (.int 0)] (.int (0 : Int32)) := Arv.set Ar10 q10 S10 M10 H10 G10 rfl W11 0 rfl (Nat.le_of_ble_eq_true rfl)
  refine Go.st st11 ?_
  refine g_dup X11 hx hby dc4_171 rfl ?_
  refine g_iconst X11 hx hby dc4_172 (v := 1) rfl ?_
  refine g_lload X11 hx hby dc4_173 rfl ?_
  refine Go.s (XS.l2i X11.here hx rfl (hb hby dc4_175) rfl) ?_
  show Go _ _ _ (T11.setTop (mkF mi 176 #[.val (.ref el), .val (.int 0), .val (.int 130), .val (.int 4), .val (.long (L.toInt64)), .second, .val (.int 2), .val (.int 2)] [(.int ((L.toInt64).toInt32)), (.int 1), (.ref ob8), (.ref ob8)])) _
  rw [own_i]
  show Go _ _ _ (T11.setTop (mkF mi 176 #[.val (.ref el), .val (.int 0), .val (.int 130), .val (.int 4), .val (.long (L.toInt64)), .second, .val (.int 2), .val (.int 2)] [(.int L), (.int 1), (.ref ob8), (.ref ob8)])) _
  have ov13 := V11
  obtain ⟨cl13, Ar13, q13, S13, M13, H13, G13⟩ := ov13
  have hin13 : ¬ ((1 : Int32) < 0 ∨ cl13.slots.size ≤ ((1 : Int32)).toNatClampNeg) := inb_of S13 ⟨by decide, by decide⟩
  obtain ⟨T14, h14, X14, e14, W14, st14⟩ := stI X11 hx hZ e11 Ar13 (j := (1 : Int32)) hin13 (g := (mkF mi 176 #[.val (.ref el), .val (.int 0), .val (.int 130), .val (.int 4), .val (.long (L.toInt64)), .second, .val (.int 2), .val (.int 2)] [(.int L), (.int 1), (.ref ob8), (.ref ob8)])) rfl rfl (hb hby dc4_176)
  have Zs15 : n0 ≤ h14.size := Nat.le_trans Zs12 (Keep.of_wr W14).1
  have KC15 : Keep h0 h14 [] := KC12.wr W14 (Or.inr sz_ob8)
  have N15 := Fr.snoc X14 N12 g_ob8
  have V14 : Arv Z h14 ob8 k8 .int (2 : Int32) [(.int 4), (.int L)] (.int (0 : Int32)) := Arv.set Ar13 q13 S13 M13 H13 G13 rfl W14 1 rfl (Nat.le_of_ble_eq_true rfl)
  refine Go.st st14 ?_
  obtain ⟨fs, hr, hrun, hended, hW, hsame⟩ := X14.leave (v := some (.ref ob8)) (fun h => by rw [Bd.returns] at h; cases h) (BodyLoose.notSynchronized Bd)
  refine ⟨_, _, ?_, hP _ _ ⟨hrun, hended, _, _, rfl, ?_, ⟨_, rfl⟩, hW, hsame.mono (by decide) (by decide)⟩⟩
  · exact retOut X14 hx Bd.returns rfl (Or.inr (Or.inr (Or.inr (Or.inr ⟨rfl, rfl, rfl⟩)))) (hb hby dc4_177) hr
  · show ∃ (z : Addr) (kz : ClassId), (some (.ref ob8) : Option Value) = some (.ref z) ∧ Fr n0 _ ∧ Keep h0 T14.heap [] ∧ h0.size ≤ z ∧ n0 ≤ z ∧ Arv Z T14.heap z kz .int (2 : Int32) [(.int (4 : Int32)), (.int L)] (.int (0 : Int32))
    rw [e14]
    exact ⟨ob8, _, rfl, N15, KC15, sz_ob8, g_ob8, V14⟩
theorem ef_rmCt2 (mi : MethodId) (el : Addr) (ke : ClassId) (L : Int32) (b0 : Int32) (b1 : Int32) (b2 : Int32) (b3 : Int32) (b4 : Int32) (b5 : Int32) (b6 : Int32) (b7 : Int32) (b8 : Int32) (b9 : Int32) : entryFrame mi #[(.ref el)] 2 = mkF mi 0 #[.val (.ref el), .unset] [] := by first | (simp [entryFrame, mkF, argsToLocals, Value.category]; done) | rfl
def Q_rmCt2 (Z : State) (el : Addr) (ke : ClassId) (L : Int32) (b0 : Int32) (b1 : Int32) (b2 : Int32) (b3 : Int32) (b4 : Int32) (b5 : Int32) (b6 : Int32) (b7 : Int32) (b8 : Int32) (b9 : Int32) (h0 : Heap) (n0 : Nat) (vv_ : Option Value) (hh_ : Heap) (LL_ : List Loc) : Prop := ∃ (r : Addr) (kr : ClassId) (us : List Value), vv_ = some (.ref r) ∧ Fr n0 LL_ ∧ Keep h0 hh_ [] ∧ h0.size ≤ r ∧ n0 ≤ r ∧ Arv Z hh_ r kr .byte L us (.int (0 : Int32)) ∧ (∀ i, i < L.toNatClampNeg → us.getD i (.int (0 : Int32)) = [(.int b0), (.int b1), (.int b2), (.int b3), (.int b4), (.int b5), (.int b6), (.int b7), (.int b8), (.int b9)].getD (4 + i) (.int (0 : Int32)))
set_option maxRecDepth 65536 in
set_option maxHeartbeats 40000000 in
theorem rmCt2 (l : Launch) (Z : State) (a0 : Array Value) (hw : ∀ d ∈ tables_1, d.before a0 Z = true) (ws : List Jvm.Cond) (el : Addr) (ke : ClassId) (L : Int32) (b0 : Int32) (b1 : Int32) (b2 : Int32) (b3 : Int32) (b4 : Int32) (b5 : Int32) (b6 : Int32) (b7 : Int32) (b8 : Int32) (b9 : Int32) (h0 : Heap) (n0 : Nat) (Z0 : n0 ≤ h0.size) (A0 : Arv Z h0 el ke .byte (10 : Int32) [(.int b0), (.int b1), (.int b2), (.int b3), (.int b4), (.int b5), (.int b6), (.int b7), (.int b8), (.int b9)] (.int (0 : Int32))) (hL1 : 0 ≤ L.toInt) (hL2 : L.toInt ≤ 6) (hL2' : L.toInt ≤ 8) (ht : ¬ ((b0 &&& (31 : Int32)) = (31 : Int32))) (hb1 : (b1 &&& (255 : Int32)) = (130 : Int32)) (hb2 : (b2 &&& (255 : Int32)) = (0 : Int32)) (hb3 : (b3 &&& (255 : Int32)) = L) :
    MetFree l (⟨"com/example/pemgate/pemgate/core/Der", "contents", "([B)[B"⟩ : MethodName) (head1 (Jvm.Cond.code (⟨"com/example/pemgate/pemgate/core/Der", "contents", "([B)[B"⟩ : MethodName) prog_16_method_7_code 2 (some (.array .byte)) :: ws) ({ frames := 3, cells := 2, slots := 10, locals := 48 } : Room)) (fun aa_ U => aa_ = #[(.ref el)] ∧ Z.Warmed39 U.vm ∧ U.heap = h0) (fun _ _ _ _ _ => True) (fun _ U oo_ UV_ => ∃ vv_ LL_, oo_ = .returned vv_ ∧ Q_rmCt2 Z el ke L b0 b1 b2 b3 b4 b5 b6 b7 b8 b9 h0 n0 vv_ UV_.heap LL_ ∧ FrameEnd U oo_ UV_ LL_ ({ frames := 3, cells := 2, slots := 10, locals := 48 } : Room).cells ({ frames := 3, cells := 2, slots := 10, locals := 48 } : Room).slots) := by
  refine MetFree.of_bodySF (plainFor_of_name pn_1) hisR ?_
  intro pg ev si mi args below meth ci s₁ Bd hml0 hP0 hK
  obtain ⟨rfl, hZ, hh⟩ := hP0
  have hx := Bd.exec
  have hby := Bd.bytes
  have hml : ci.maxLocals = 2 := hml0
  have hown : si.vm.findClass "com/example/pemgate/pemgate/core/Der" = some mi.cls := findClass_of_methodNamed Bd.named
  have hnm := (name_of_methodNamed Bd.named Bd.method).1
  have X0 : Stand pg l ev ({ frames := 3, cells := 2, slots := 10, locals := 48 } : Room) si mi #[(.ref el)] below meth ci s₁ [] 0 0 := Stand.of_body Bd
  have e0 : s₁.heap = h0 := by rw [← hh, Bd.state]; rfl
  have N0 := Fr.nil n0
  refine Go.start (fun P hP => ?_)
  refine Go.st (fun t_ k_ => castTop (ef_rmCt2 mi el ke L b0 b1 b2 b3 b4 b5 b6 b7 b8 b9) k_) (A := s₁.setTop (mkF mi 0 #[.val (.ref el), .unset] [])) ?_
  show Go _ _ _ (s₁.setTop (mkF mi 0 #[.val (.ref el), .unset] [])) _
  refine g_aloadN X0 hx hby dc5_0 rfl rfl ?_
  refine g_iconst X0 hx hby dc5_1 (v := 0) rfl ?_
  obtain ⟨_, _, ⟨T1, L1, k1, n1⟩, -, X1, ⟨Lc1, hQ1, l1, y1, z1⟩, st1⟩ := Jvm.LawKit.callS X0 hx (y := (⟨"com/example/pemgate/pemgate/core/Der", "header", "([BI)[I"⟩ : MethodName)) hown (mvT hZ (hw _ (own_m 6 rfl))) (mvT hZ (hw _ (own_m 7 rfl))) (mvT hZ (hw _ (own_m 4 rfl))) (mvT hZ (hw _ (own_m 8 rfl))) (by decide) (backOf (W := 0) (rmH2 l Z a0 hw [] el ke L b0 b1 b2 b3 b4 b5 b6 b7 b8 b9 h0 n0 Z0 A0 hL1 hL2 hL2' ht hb1 hb2 hb3) hZ (hw _ (own_m 8 rfl)) (hw _ (own_m 4 rfl)) (by decide) (by decide)) (g := (mkF mi 2 #[.val (.ref el), .unset] [(.int 0), (.ref el)])) rfl (by rw [hml]; rfl) (argsL := [(.ref el), (.int 0)]) (rest := []) (lenOf pd_3 rfl) rfl (by show 2 * 0 + _ ≤ _; exact Nat.le_of_eq rfl) (hb hby dc5_2) (fun _ _ => ⟨rfl, e0, (by decide : 0 + 1 ≤ _), (by decide : 0 + 2 ≤ _)⟩)
  dsimp only [Pt.U, Pt.locs, Pt.cells, Pt.slots] at X1 l1 y1 z1 st1 hQ1
  subst y1 z1
  have X1 := own_cs X1 (cells' := 1) (slots' := 2) rfl rfl
  obtain ⟨h1, e1⟩ : ∃ z, T1.heap = z := ⟨_, rfl⟩
  rw [e1] at hQ1
  obtain ⟨z1, kz1, rfl, N1q, K1, z_z1, g_z1, V_z1⟩ := hQ1
  have N1 := own_fr l1 (Fr.app N0 N1q)
  have Zs2 : n0 ≤ h1.size := Nat.le_trans Z0 K1.1
  have KC2 : Keep h0 h1 [] := (Keep.refl h0 []).trans K1 all0
  refine Go.st st1 ?_
  refine g_astoreN X1 hx hby dc5_5 rfl (l' := #[.val (.ref el), .val (.ref z1)]) rfl ?_
  refine g_aloadN X1 hx hby dc5_6 rfl rfl ?_
  refine g_aloadN X1 hx hby dc5_7 rfl rfl ?_
  refine g_iconst X1 hx hby dc5_8 (v := 0) rfl ?_
  have ov3 := V_z1
  obtain ⟨cl3, Ar3, q3, S3, M3, H3, G3⟩ := ov3
  have hin3 : ¬ ((0 : Int32) < 0 ∨ cl3.slots.size ≤ ((0 : Int32)).toNatClampNeg) := inb_of S3 ⟨by decide, by decide⟩
  have hat3 : cl3.slots[((0 : Int32)).toNatClampNeg]? = some (.int 4) := Has.at H3 hin3 rfl
  refine Go.st (X1.iaload hx (j := (0 : Int32)) (v := (.int 4)) (by rw [e1]; exact Ar3.1) (State.isArrayOf_alike hZ.alike Ar3.2.1) Ar3.2.2 hin3 hat3 (g := (mkF mi 9 #[.val (.ref el), .val (.ref z1)] [(.int 0), (.ref z1), (.ref el)])) rfl rfl (hb hby dc5_9)) ?_
  refine g_aloadN X1 hx hby dc5_10 rfl rfl ?_
  refine g_iconst X1 hx hby dc5_11 (v := 0) rfl ?_
  have ov4 := V_z1
  obtain ⟨cl4, Ar4, q4, S4, M4, H4, G4⟩ := ov4
  have hin4 : ¬ ((0 : Int32) < 0 ∨ cl4.slots.size ≤ ((0 : Int32)).toNatClampNeg) := inb_of S4 ⟨by decide, by decide⟩
  have hat4 : cl4.slots[((0 : Int32)).toNatClampNeg]? = some (.int 4) := Has.at H4 hin4 rfl
  refine Go.st (X1.iaload hx (j := (0 : Int32)) (v := (.int 4)) (by rw [e1]; exact Ar4.1) (State.isArrayOf_alike hZ.alike Ar4.2.1) Ar4.2.2 hin4 hat4 (g := (mkF mi 12 #[.val (.ref el), .val (.ref z1)] [(.int 0), (.ref z1), (.int 4), (.ref el)])) rfl rfl (hb hby dc5_12)) ?_
  refine g_aloadN X1 hx hby dc5_13 rfl rfl ?_
  refine g_iconst X1 hx hby dc5_14 (v := 1) rfl ?_
  have ov5 := V_z1
  obtain ⟨cl5, Ar5, q5, S5, M5, H5, G5⟩ := ov5
  have hin5 : ¬ ((1 : Int32) < 0 ∨ cl5.slots.size ≤ ((1 : Int32)).toNatClampNeg) := inb_of S5 ⟨by decide, by decide⟩
  have hat5 : cl5.slots[((1 : Int32)).toNatClampNeg]? = some (.int L) := Has.at H5 hin5 rfl
  refine Go.st (X1.iaload hx (j := (1 : Int32)) (v := (.int L)) (by rw [e1]; exact Ar5.1) (State.isArrayOf_alike hZ.alike Ar5.2.1) Ar5.2.2 hin5 hat5 (g := (mkF mi 15 #[.val (.ref el), .val (.ref z1)] [(.int 1), (.ref z1), (.int 4), (.int 4), (.ref el)])) rfl rfl (hb hby dc5_15)) ?_
  refine g_iadd X1 hx hby dc5_16 rfl ?_
  have f7 := (A0.keep K1 nin0)
  obtain ⟨_, _, ⟨T6, L6, k6, n6⟩, -, X6, ⟨Lc6, hQ6, l6, y6, z6⟩, st6⟩ := Jvm.LawKit.callS X1 hx (y := (⟨"java/util/Arrays", "copyOfRange", "([BII)[B"⟩ : MethodName)) hown (mvT hZ (hw _ (own_m 10 rfl))) (mvT hZ (hw _ (own_m 11 rfl))) (mvT hZ (hw _ (own_m 12 rfl))) (mvT hZ (hw _ (own_m 13 rfl))) (by decide) (backOf (W := 0) (rmCR4 l Z a0 hw [] el ke L b0 b1 b2 b3 b4 b5 b6 b7 b8 b9 h1 n0 Zs2 f7 hL1 hL2 hL2') hZ (hw _ (own_m 13 rfl)) (hw _ (own_m 12 rfl)) (by decide) (by decide)) (g := (mkF mi 17 #[.val (.ref el), .val (.ref z1)] [(.int ((4 : Int32) + L)), (.int 4), (.ref el)])) rfl (by rw [hml]; rfl) (argsL := [(.ref el), (.int 4), (.int ((4 : Int32) + L))]) (rest := []) (lenOf pd_2 rfl) rfl (by show 2 * 0 + _ ≤ _; exact Nat.le_of_eq rfl) (hb hby dc5_17) (fun _ _ => ⟨rfl, e1, (by decide : 1 + 1 ≤ _), (by decide : 2 + 8 ≤ _)⟩)
  dsimp only [Pt.U, Pt.locs, Pt.cells, Pt.slots] at X6 l6 y6 z6 st6 hQ6
  subst y6 z6
  have X6 := own_cs X6 (cells' := 2) (slots' := 10) rfl rfl
  obtain ⟨h6, e6⟩ : ∃ z, T6.heap = z := ⟨_, rfl⟩
  rw [e6] at hQ6
  obtain ⟨r6, kr6, us6, rfl, N6q, K6, z_r6, g_r6, V_r6, U_r6⟩ := hQ6
  have N6 := own_fr l6 (Fr.app N1 N6q)
  have Zs8 : n0 ≤ h6.size := Nat.le_trans Zs2 K6.1
  have KC8 : Keep h0 h6 [] := KC2.trans K6 all0
  have sz_r6 : h0.size ≤ r6 := Nat.le_trans KC2.1 z_r6
  refine Go.st st6 ?_
  obtain ⟨fs, hr, hrun, hended, hW, hsame⟩ := X6.leave (v := some (.ref r6)) (fun h => by rw [Bd.returns] at h; cases h) (BodyLoose.notSynchronized Bd)
  refine ⟨_, _, ?_, hP _ _ ⟨hrun, hended, _, _, rfl, ?_, ⟨_, rfl⟩, hW, hsame.mono (by decide) (by decide)⟩⟩
  · exact retOut X6 hx Bd.returns rfl (Or.inr (Or.inr (Or.inr (Or.inr ⟨rfl, rfl, rfl⟩)))) (hb hby dc5_20) hr
  · show ∃ (r : Addr) (kr : ClassId) (us : List Value), (some (.ref r6) : Option Value) = some (.ref r) ∧ Fr n0 _ ∧ Keep h0 T6.heap [] ∧ h0.size ≤ r ∧ n0 ≤ r ∧ Arv Z T6.heap r kr .byte L us (.int (0 : Int32)) ∧ (∀ i, i < L.toNatClampNeg → us.getD i (.int (0 : Int32)) = [(.int b0), (.int b1), (.int b2), (.int b3), (.int b4), (.int b5), (.int b6), (.int b7), (.int b8), (.int b9)].getD (4 + i) (.int (0 : Int32)))
    rw [e6]
    exact ⟨r6, kr6, us6, rfl, N6, KC8, sz_r6, g_r6, V_r6, U_r6⟩
theorem ef_rmH3 (mi : MethodId) (el : Addr) (ke : ClassId) (L : Int32) (b0 : Int32) (b1 : Int32) (b2 : Int32) (b3 : Int32) (b4 : Int32) (b5 : Int32) (b6 : Int32) (b7 : Int32) (b8 : Int32) (b9 : Int32) : entryFrame mi #[(.ref el), (.int 0)] 8 = mkF mi 0 #[.val (.ref el), .val (.int 0), .unset, .unset, .unset, .unset, .unset, .unset] [] := by first | (simp [entryFrame, mkF, argsToLocals, Value.category]; done) | rfl
def Q_rmH3 (Z : State) (el : Addr) (ke : ClassId) (L : Int32) (b0 : Int32) (b1 : Int32) (b2 : Int32) (b3 : Int32) (b4 : Int32) (b5 : Int32) (b6 : Int32) (b7 : Int32) (b8 : Int32) (b9 : Int32) (h0 : Heap) (n0 : Nat) (vv_ : Option Value) (hh_ : Heap) (LL_ : List Loc) : Prop := ∃ (z : Addr) (kz : ClassId), vv_ = some (.ref z) ∧ Fr n0 LL_ ∧ Keep h0 hh_ [] ∧ h0.size ≤ z ∧ n0 ≤ z ∧ Arv Z hh_ z kz .int (2 : Int32) [(.int (5 : Int32)), (.int L)] (.int (0 : Int32))
set_option maxRecDepth 65536 in
set_option maxHeartbeats 40000000 in
theorem rmH3 (l : Launch) (Z : State) (a0 : Array Value) (hw : ∀ d ∈ tables_1, d.before a0 Z = true) (ws : List Jvm.Cond) (el : Addr) (ke : ClassId) (L : Int32) (b0 : Int32) (b1 : Int32) (b2 : Int32) (b3 : Int32) (b4 : Int32) (b5 : Int32) (b6 : Int32) (b7 : Int32) (b8 : Int32) (b9 : Int32) (h0 : Heap) (n0 : Nat) (Z0 : n0 ≤ h0.size) (A0 : Arv Z h0 el ke .byte (10 : Int32) [(.int b0), (.int b1), (.int b2), (.int b3), (.int b4), (.int b5), (.int b6), (.int b7), (.int b8), (.int b9)] (.int (0 : Int32))) (hL1 : 0 ≤ L.toInt) (hL2 : L.toInt ≤ 5) (hL2' : L.toInt ≤ 8) (ht : ¬ ((b0 &&& (31 : Int32)) = (31 : Int32))) (hb1 : (b1 &&& (255 : Int32)) = (131 : Int32)) (hb2 : (b2 &&& (255 : Int32)) = (0 : Int32)) (hb3 : (b3 &&& (255 : Int32)) = (0 : Int32)) (hb4 : (b4 &&& (255 : Int32)) = L) :
    MetFree l (⟨"com/example/pemgate/pemgate/core/Der", "header", "([BI)[I"⟩ : MethodName) (head1 (Jvm.Cond.code (⟨"com/example/pemgate/pemgate/core/Der", "header", "([BI)[I"⟩ : MethodName) prog_16_method_9_code 8 (some (.array .int)) :: ws) ({ frames := 0, cells := 1, slots := 2, locals := 0 } : Room)) (fun aa_ U => aa_ = #[(.ref el), (.int 0)] ∧ Z.Warmed39 U.vm ∧ U.heap = h0) (fun _ _ _ _ _ => True) (fun _ U oo_ UV_ => ∃ vv_ LL_, oo_ = .returned vv_ ∧ Q_rmH3 Z el ke L b0 b1 b2 b3 b4 b5 b6 b7 b8 b9 h0 n0 vv_ UV_.heap LL_ ∧ FrameEnd U oo_ UV_ LL_ ({ frames := 0, cells := 1, slots := 2, locals := 0 } : Room).cells ({ frames := 0, cells := 1, slots := 2, locals := 0 } : Room).slots) := by
  refine MetFree.of_bodySF (plainFor_of_name pn_1) hisR ?_
  intro pg ev si mi args below meth ci s₁ Bd hml0 hP0 hK
  obtain ⟨rfl, hZ, hh⟩ := hP0
  have hx := Bd.exec
  have hby := Bd.bytes
  have hml : ci.maxLocals = 8 := hml0
  have hown : si.vm.findClass "com/example/pemgate/pemgate/core/Der" = some mi.cls := findClass_of_methodNamed Bd.named
  have hnm := (name_of_methodNamed Bd.named Bd.method).1
  have X0 : Stand pg l ev ({ frames := 0, cells := 1, slots := 2, locals := 0 } : Room) si mi #[(.ref el), (.int 0)] below meth ci s₁ [] 0 0 := Stand.of_body Bd
  have e0 : s₁.heap = h0 := by rw [← hh, Bd.state]; rfl
  have N0 := Fr.nil n0
  refine Go.start (fun P hP => ?_)
  refine Go.st (fun t_ k_ => castTop (ef_rmH3 mi el ke L b0 b1 b2 b3 b4 b5 b6 b7 b8 b9) k_) (A := s₁.setTop (mkF mi 0 #[.val (.ref el), .val (.int 0), .unset, .unset, .unset, .unset, .unset, .unset] [])) ?_
  show Go _ _ _ (s₁.setTop (mkF mi 0 #[.val (.ref el), .val (.int 0), .unset, .unset, .unset, .unset, .unset, .unset] [])) _
  refine g_aloadN X0 hx hby dc4_0 rfl rfl ?_
  have ov1 := A0
  obtain ⟨cl1, Ar1, q1, S1, M1, H1, G1⟩ := ov1
  refine Go.st (X0.arraylength hx (by rw [e0]; exact Ar1.1) (State.isArrayOf_alike hZ.alike Ar1.2.1) (g := (mkF mi 1 #[.val (.ref el), .val (.int 0), .unset, .unset, .unset, .unset, .unset, .unset] [(.ref el)])) rfl rfl (hb hby dc4_1)) ?_
  rw [len_of S1 M1]
  refine g_iloadN X0 hx hby dc4_2 rfl ?_
  refine g_isub X0 hx hby dc4_3 (z := 10) rfl ?_
  refine g_iconst X0 hx hby dc4_4 (v := 2) rfl ?_
  refine g_icmpYes X0 hx hby dc4_5 (flt (by decide)).2.1 (pc0 := 5) (pc' := 18) rfl (by decide) (by decide) ?_
  refine g_aloadN X0 hx hby dc4_18 rfl rfl ?_
  refine g_iloadN X0 hx hby dc4_19 rfl ?_
  have ov2 := A0
  obtain ⟨cl2, Ar2, q2, S2, M2, H2, G2⟩ := ov2
  have hin2 : ¬ ((0 : Int32) < 0 ∨ cl2.slots.size ≤ ((0 : Int32)).toNatClampNeg) := inb_of S2 ⟨by decide, by decide⟩
  have hat2 : cl2.slots[((0 : Int32)).toNatClampNeg]? = some (.int b0) := Has.at H2 hin2 rfl
  refine Go.st (X0.baloadBytes hx (j := (0 : Int32)) (v := (.int b0)) (by rw [e0]; exact Ar2.1) (State.isArrayOf_alike hZ.alike Ar2.2.1) Ar2.2.2 hin2 hat2 (g := (mkF mi 20 #[.val (.ref el), .val (.int 0), .unset, .unset, .unset, .unset, .unset, .unset] [(.int 0), (.ref el)])) rfl rfl (hb hby dc4_20)) ?_
  refine g_bipush X0 hx hby dc4_21 (v := 31) rfl ?_
  refine g_iand X0 hx hby dc4_23 rfl ?_
  refine g_bipush X0 hx hby dc4_24 (v := 31) rfl ?_
  refine g_icmpYes X0 hx hby dc4_26 (feq ht).2 (pc0 := 26) (pc' := 39) rfl (by decide) (by decide) ?_
  refine g_aloadN X0 hx hby dc4_39 rfl rfl ?_
  refine g_iloadN X0 hx hby dc4_40 rfl ?_
  refine g_iconst X0 hx hby dc4_41 (v := 1) rfl ?_
  refine g_iadd X0 hx hby dc4_42 (z := 1) rfl ?_
  have ov3 := A0
  obtain ⟨cl3, Ar3, q3, S3, M3, H3, G3⟩ := ov3
  have hin3 : ¬ ((1 : Int32) < 0 ∨ cl3.slots.size ≤ ((1 : Int32)).toNatClampNeg) := inb_of S3 ⟨by decide, by decide⟩
  have hat3 : cl3.slots[((1 : Int32)).toNatClampNeg]? = some (.int b1) := Has.at H3 hin3 rfl
  refine Go.st (X0.baloadBytes hx (j := (1 : Int32)) (v := (.int b1)) (by rw [e0]; exact Ar3.1) (State.isArrayOf_alike hZ.alike Ar3.2.1) Ar3.2.2 hin3 hat3 (g := (mkF mi 43 #[.val (.ref el), .val (.int 0), .unset, .unset, .unset, .unset, .unset, .unset] [(.int 1), (.ref el)])) rfl rfl (hb hby dc4_43)) ?_
  refine g_sipush X0 hx hby dc4_44 (v := 255) rfl ?_
  refine g_iand X0 hx hby dc4_47 rfl ?_
  show Go _ _ _ (s₁.setTop (mkF mi 48 #[.val (.ref el), .val (.int 0), .unset, .unset, .unset, .unset, .unset, .unset] [(.int (b1 &&& (255 : Int32)))])) _
  rw [hb1]
  show Go _ _ _ (s₁.setTop (mkF mi 48 #[.val (.ref el), .val (.int 0), .unset, .unset, .unset, .unset, .unset, .unset] [(.int 131)])) _
  refine g_istoreN X0 hx hby dc4_48 (l' := #[.val (.ref el), .val (.int 0), .val (.int 131), .unset, .unset, .unset, .unset, .unset]) rfl ?_
  refine g_iloadN X0 hx hby dc4_49 rfl ?_
  refine g_iconst X0 hx hby dc4_50 (v := 2) rfl ?_
  refine g_iadd X0 hx hby dc4_51 (z := 2) rfl ?_
  refine g_istoreN X0 hx hby dc4_52 (l' := #[.val (.ref el), .val (.int 0), .val (.int 131), .val (.int 2), .unset, .unset, .unset, .unset]) rfl ?_
  refine g_iloadN X0 hx hby dc4_53 rfl ?_
  refine Go.s (XS.i2l X0.here hx rfl (hb hby dc4_54) rfl) ?_
  refine Go.s (XS.lstore X0.here hx rfl (hb hby dc4_55) rfl (l' := #[.val (.ref el), .val (.int 0), .val (.int 131), .val (.int 2), .val (.long 131), .second, .unset, .unset]) rfl) ?_
  show Go _ _ _ (s₁.setTop (mkF mi 57 #[.val (.ref el), .val (.int 0), .val (.int 131), .val (.int 2), .val (.long 131), .second, .unset, .unset] [])) _
  refine g_iloadN X0 hx hby dc4_57 rfl ?_
  refine g_sipush X0 hx hby dc4_58 (v := 128) rfl ?_
  refine g_icmpNo X0 hx hby dc4_61 (flt (by decide)).1 ?_
  refine g_iloadN X0 hx hby dc4_64 rfl ?_
  refine g_bipush X0 hx hby dc4_65 (v := 127) rfl ?_
  refine g_iand X0 hx hby dc4_67 (z := 3) rfl ?_
  refine g_istore X0 hx hby dc4_68 (l' := #[.val (.ref el), .val (.int 0), .val (.int 131), .val (.int 2), .val (.long 131), .second, .val (.int 3), .unset]) rfl ?_
  refine g_iload X0 hx hby dc4_70 rfl ?_
  refine g_ifNo X0 hx hby dc4_72 ((if0 _ _).trans (feq (by decide)).1) ?_
  refine g_iload X0 hx hby dc4_75 rfl ?_
  refine g_iconst X0 hx hby dc4_77 (v := 4) rfl ?_
  refine g_icmpNo X0 hx hby dc4_78 (flt (by decide)).2.2.1 ?_
  refine g_aloadN X0 hx hby dc4_81 rfl rfl ?_
  have ov4 := A0
  obtain ⟨cl4, Ar4, q4, S4, M4, H4, G4⟩ := ov4
  refine Go.st (X0.arraylength hx (by rw [e0]; exact Ar4.1) (State.isArrayOf_alike hZ.alike Ar4.2.1) (g := (mkF mi 82 #[.val (.ref el), .val (.int 0), .val (.int 131), .val (.int 2), .val (.long 131), .second, .val (.int 3), .unset] [(.ref el)])) rfl rfl (hb hby dc4_82)) ?_
  rw [len_of S4 M4]
  refine g_iloadN X0 hx hby dc4_83 rfl ?_
  refine g_isub X0 hx hby dc4_84 (z := 8) rfl ?_
  refine g_iload X0 hx hby dc4_85 rfl ?_
  refine g_icmpYes X0 hx hby dc4_87 (flt (by decide)).2.1 (pc0 := 87) (pc' := 100) rfl (by decide) (by decide) ?_
  refine Go.s (XS.lconst X0.here hx rfl (hb hby dc4_100)) ?_
  show Go _ _ _ (s₁.setTop (mkF mi 101 #[.val (.ref el), .val (.int 0), .val (.int 131), .val (.int 2), .val (.long 131), .second, .val (.int 3), .unset] [(.long 0)])) _
  refine Go.s (XS.lstore X0.here hx rfl (hb hby dc4_101) rfl (l' := #[.val (.ref el), .val (.int 0), .val (.int 131), .val (.int 2), .val (.long 0), .second, .val (.int 3), .unset]) rfl) ?_
  refine g_iconst X0 hx hby dc4_103 (v := 0) rfl ?_
  refine g_istore X0 hx hby dc4_104 (l' := #[.val (.ref el), .val (.int 0), .val (.int 131), .val (.int 2), .val (.long 0), .second, .val (.int 3), .val (.int 0)]) rfl ?_
  refine g_iload X0 hx hby dc4_106 rfl ?_
  refine g_iload X0 hx hby dc4_108 rfl ?_
  refine g_icmpNo X0 hx hby dc4_110 (tlt (by decide)).2.1 ?_
  refine g_lload X0 hx hby dc4_113 rfl ?_
  refine g_bipush X0 hx hby dc4_115 (v := 8) rfl ?_
  refine Go.s (XS.lshl X0.here hx rfl (hb hby dc4_117) rfl) ?_
  show Go _ _ _ (s₁.setTop (mkF mi 118 #[.val (.ref el), .val (.int 0), .val (.int 131), .val (.int 2), .val (.long 0), .second, .val (.int 3), .val (.int 0)] [(.long 0)])) _
  refine g_aloadN X0 hx hby dc4_118 rfl rfl ?_
  refine g_iloadN X0 hx hby dc4_119 rfl ?_
  refine g_iload X0 hx hby dc4_120 rfl ?_
  refine g_iadd X0 hx hby dc4_122 (z := 2) rfl ?_
  have ov5 := A0
  obtain ⟨cl5, Ar5, q5, S5, M5, H5, G5⟩ := ov5
  have hin5 : ¬ ((2 : Int32) < 0 ∨ cl5.slots.size ≤ ((2 : Int32)).toNatClampNeg) := inb_of S5 ⟨by decide, by decide⟩
  have hat5 : cl5.slots[((2 : Int32)).toNatClampNeg]? = some (.int b2) := Has.at H5 hin5 rfl
  refine Go.st (X0.baloadBytes hx (j := (2 : Int32)) (v := (.int b2)) (by rw [e0]; exact Ar5.1) (State.isArrayOf_alike hZ.alike Ar5.2.1) Ar5.2.2 hin5 hat5 (g := (mkF mi 123 #[.val (.ref el), .val (.int 0), .val (.int 131), .val (.int 2), .val (.long 0), .second, .val (.int 3), .val (.int 0)] [(.int 2), (.ref el), (.long 0)])) rfl rfl (hb hby dc4_123)) ?_
  refine g_sipush X0 hx hby dc4_124 (v := 255) rfl ?_
  refine g_iand X0 hx hby dc4_127 rfl ?_
  show Go _ _ _ (s₁.setTop (mkF mi 128 #[.val (.ref el), .val (.int 0), .val (.int 131), .val (.int 2), .val (.long 0), .second, .val (.int 3), .val (.int 0)] [(.int (b2 &&& (255 : Int32))), (.long 0)])) _
  rw [hb2]
  show Go _ _ _ (s₁.setTop (mkF mi 128 #[.val (.ref el), .val (.int 0), .val (.int 131), .val (.int 2), .val (.long 0), .second, .val (.int 3), .val (.int 0)] [(.int 0), (.long 0)])) _
  refine Go.s (XS.i2l X0.here hx rfl (hb hby dc4_128) rfl) ?_
  refine Go.s (XS.lor X0.here hx rfl (hb hby dc4_129) rfl) ?_
  show Go _ _ _ (s₁.setTop (mkF mi 130 #[.val (.ref el), .val (.int 0), .val (.int 131), .val (.int 2), .val (.long 0), .second, .val (.int 3), .val (.int 0)] [(.long 0)])) _
  refine Go.s (XS.lstore X0.here hx rfl (hb hby dc4_130) rfl (l' := #[.val (.ref el), .val (.int 0), .val (.int 131), .val (.int 2), .val (.long 0), .second, .val (.int 3), .val (.int 0)]) rfl) ?_
  refine g_iinc X0 hx hby dc4_132 rfl (x' := 1) rfl (l' := #[.val (.ref el), .val (.int 0), .val (.int 131), .val (.int 2), .val (.long 0), .second, .val (.int 3), .val (.int 1)]) rfl ?_
  refine g_goto X0 hx hby dc4_135 (pc0 := 135) (pc' := 106) rfl (by decide) (by decide) ?_
  refine g_iload X0 hx hby dc4_106 rfl ?_
  refine g_iload X0 hx hby dc4_108 rfl ?_
  refine g_icmpNo X0 hx hby dc4_110 (tlt (by decide)).2.1 ?_
  refine g_lload X0 hx hby dc4_113 rfl ?_
  refine g_bipush X0 hx hby dc4_115 (v := 8) rfl ?_
  refine Go.s (XS.lshl X0.here hx rfl (hb hby dc4_117) rfl) ?_
  show Go _ _ _ (s₁.setTop (mkF mi 118 #[.val (.ref el), .val (.int 0), .val (.int 131), .val (.int 2), .val (.long 0), .second, .val (.int 3), .val (.int 1)] [(.long 0)])) _
  refine g_aloadN X0 hx hby dc4_118 rfl rfl ?_
  refine g_iloadN X0 hx hby dc4_119 rfl ?_
  refine g_iload X0 hx hby dc4_120 rfl ?_
  refine g_iadd X0 hx hby dc4_122 (z := 3) rfl ?_
  have ov6 := A0
  obtain ⟨cl6, Ar6, q6, S6, M6, H6, G6⟩ := ov6
  have hin6 : ¬ ((3 : Int32) < 0 ∨ cl6.slots.size ≤ ((3 : Int32)).toNatClampNeg) := inb_of S6 ⟨by decide, by decide⟩
  have hat6 : cl6.slots[((3 : Int32)).toNatClampNeg]? = some (.int b3) := Has.at H6 hin6 rfl
  refine Go.st (X0.baloadBytes hx (j := (3 : Int32)) (v := (.int b3)) (by rw [e0]; exact Ar6.1) (State.isArrayOf_alike hZ.alike Ar6.2.1) Ar6.2.2 hin6 hat6 (g := (mkF mi 123 #[.val (.ref el), .val (.int 0), .val (.int 131), .val (.int 2), .val (.long 0), .second, .val (.int 3), .val (.int 1)] [(.int 3), (.ref el), (.long 0)])) rfl rfl (hb hby dc4_123)) ?_
  refine g_sipush X0 hx hby dc4_124 (v := 255) rfl ?_
  refine g_iand X0 hx hby dc4_127 rfl ?_
  show Go _ _ _ (s₁.setTop (mkF mi 128 #[.val (.ref el), .val (.int 0), .val (.int 131), .val (.int 2), .val (.long 0), .second, .val (.int 3), .val (.int 1)] [(.int (b3 &&& (255 : Int32))), (.long 0)])) _
  rw [hb3]
  show Go _ _ _ (s₁.setTop (mkF mi 128 #[.val (.ref el), .val (.int 0), .val (.int 131), .val (.int 2), .val (.long 0), .second, .val (.int 3), .val (.int 1)] [(.int 0), (.long 0)])) _
  refine Go.s (XS.i2l X0.here hx rfl (hb hby dc4_128) rfl) ?_
  refine Go.s (XS.lor X0.here hx rfl (hb hby dc4_129) rfl) ?_
  show Go _ _ _ (s₁.setTop (mkF mi 130 #[.val (.ref el), .val (.int 0), .val (.int 131), .val (.int 2), .val (.long 0), .second, .val (.int 3), .val (.int 1)] [(.long 0)])) _
  refine Go.s (XS.lstore X0.here hx rfl (hb hby dc4_130) rfl (l' := #[.val (.ref el), .val (.int 0), .val (.int 131), .val (.int 2), .val (.long 0), .second, .val (.int 3), .val (.int 1)]) rfl) ?_
  refine g_iinc X0 hx hby dc4_132 rfl (x' := 2) rfl (l' := #[.val (.ref el), .val (.int 0), .val (.int 131), .val (.int 2), .val (.long 0), .second, .val (.int 3), .val (.int 2)]) rfl ?_
  refine g_goto X0 hx hby dc4_135 (pc0 := 135) (pc' := 106) rfl (by decide) (by decide) ?_
  refine g_iload X0 hx hby dc4_106 rfl ?_
  refine g_iload X0 hx hby dc4_108 rfl ?_
  refine g_icmpNo X0 hx hby dc4_110 (tlt (by decide)).2.1 ?_
  refine g_lload X0 hx hby dc4_113 rfl ?_
  refine g_bipush X0 hx hby dc4_115 (v := 8) rfl ?_
  refine Go.s (XS.lshl X0.here hx rfl (hb hby dc4_117) rfl) ?_
  show Go _ _ _ (s₁.setTop (mkF mi 118 #[.val (.ref el), .val (.int 0), .val (.int 131), .val (.int 2), .val (.long 0), .second, .val (.int 3), .val (.int 2)] [(.long 0)])) _
  refine g_aloadN X0 hx hby dc4_118 rfl rfl ?_
  refine g_iloadN X0 hx hby dc4_119 rfl ?_
  refine g_iload X0 hx hby dc4_120 rfl ?_
  refine g_iadd X0 hx hby dc4_122 (z := 4) rfl ?_
  have ov7 := A0
  obtain ⟨cl7, Ar7, q7, S7, M7, H7, G7⟩ := ov7
  have hin7 : ¬ ((4 : Int32) < 0 ∨ cl7.slots.size ≤ ((4 : Int32)).toNatClampNeg) := inb_of S7 ⟨by decide, by decide⟩
  have hat7 : cl7.slots[((4 : Int32)).toNatClampNeg]? = some (.int b4) := Has.at H7 hin7 rfl
  refine Go.st (X0.baloadBytes hx (j := (4 : Int32)) (v := (.int b4)) (by rw [e0]; exact Ar7.1) (State.isArrayOf_alike hZ.alike Ar7.2.1) Ar7.2.2 hin7 hat7 (g := (mkF mi 123 #[.val (.ref el), .val (.int 0), .val (.int 131), .val (.int 2), .val (.long 0), .second, .val (.int 3), .val (.int 2)] [(.int 4), (.ref el), (.long 0)])) rfl rfl (hb hby dc4_123)) ?_
  refine g_sipush X0 hx hby dc4_124 (v := 255) rfl ?_
  refine g_iand X0 hx hby dc4_127 rfl ?_
  show Go _ _ _ (s₁.setTop (mkF mi 128 #[.val (.ref el), .val (.int 0), .val (.int 131), .val (.int 2), .val (.long 0), .second, .val (.int 3), .val (.int 2)] [(.int (b4 &&& (255 : Int32))), (.long 0)])) _
  rw [hb4]
  show Go _ _ _ (s₁.setTop (mkF mi 128 #[.val (.ref el), .val (.int 0), .val (.int 131), .val (.int 2), .val (.long 0), .second, .val (.int 3), .val (.int 2)] [(.int L), (.long 0)])) _
  refine Go.s (XS.i2l X0.here hx rfl (hb hby dc4_128) rfl) ?_
  refine Go.s (XS.lor X0.here hx rfl (hb hby dc4_129) rfl) ?_
  show Go _ _ _ (s₁.setTop (mkF mi 130 #[.val (.ref el), .val (.int 0), .val (.int 131), .val (.int 2), .val (.long 0), .second, .val (.int 3), .val (.int 2)] [(.long ((0 : Int64) ||| (L.toInt64)))])) _
  rw [show ((0 : Int64) ||| L.toInt64) = L.toInt64 from Int64.zero_or]
  show Go _ _ _ (s₁.setTop (mkF mi 130 #[.val (.ref el), .val (.int 0), .val (.int 131), .val (.int 2), .val (.long 0), .second, .val (.int 3), .val (.int 2)] [(.long (L.toInt64))])) _
  refine Go.s (XS.lstore X0.here hx rfl (hb hby dc4_130) rfl (l' := #[.val (.ref el), .val (.int 0), .val (.int 131), .val (.int 2), .val (.long (L.toInt64)), .second, .val (.int 3), .val (.int 2)]) rfl) ?_
  refine g_iinc X0 hx hby dc4_132 rfl (x' := 3) rfl (l' := #[.val (.ref el), .val (.int 0), .val (.int 131), .val (.int 2), .val (.long (L.toInt64)), .second, .val (.int 3), .val (.int 3)]) rfl ?_
  refine g_goto X0 hx hby dc4_135 (pc0 := 135) (pc' := 106) rfl (by decide) (by decide) ?_
  refine g_iload X0 hx hby dc4_106 rfl ?_
  refine g_iload X0 hx hby dc4_108 rfl ?_
  refine g_icmpYes X0 hx hby dc4_110 (flt (by decide)).2.1 (pc0 := 110) (pc' := 138) rfl (by decide) (by decide) ?_
  refine g_iloadN X0 hx hby dc4_138 rfl ?_
  refine g_iload X0 hx hby dc4_139 rfl ?_
  refine g_iadd X0 hx hby dc4_141 (z := 5) rfl ?_
  refine g_istoreN X0 hx hby dc4_142 (l' := #[.val (.ref el), .val (.int 0), .val (.int 131), .val (.int 5), .val (.long (L.toInt64)), .second, .val (.int 3), .val (.int 3)]) rfl ?_
  refine g_lload X0 hx hby dc4_143 rfl ?_
  refine g_aloadN X0 hx hby dc4_145 rfl rfl ?_
  have ov8 := A0
  obtain ⟨cl8, Ar8, q8, S8, M8, H8, G8⟩ := ov8
  refine Go.st (X0.arraylength hx (by rw [e0]; exact Ar8.1) (State.isArrayOf_alike hZ.alike Ar8.2.1) (g := (mkF mi 146 #[.val (.ref el), .val (.int 0), .val (.int 131), .val (.int 5), .val (.long (L.toInt64)), .second, .val (.int 3), .val (.int 3)] [(.ref el), (.long (L.toInt64))])) rfl rfl (hb hby dc4_146)) ?_
  rw [len_of S8 M8]
  show Go _ _ _ (s₁.setTop (mkF mi 147 #[.val (.ref el), .val (.int 0), .val (.int 131), .val (.int 5), .val (.long (L.toInt64)), .second, .val (.int 3), .val (.int 3)] [(.int 10), (.long (L.toInt64))])) _
  refine g_iloadN X0 hx hby dc4_147 rfl ?_
  refine g_isub X0 hx hby dc4_148 (z := 5) rfl ?_
  refine Go.s (XS.i2l X0.here hx rfl (hb hby dc4_149) rfl) ?_
  refine Go.s (XS.lcmp X0.here hx rfl (hb hby dc4_150) rfl) ?_
  refine g_ifYes X0 hx hby dc4_151 ((if0 _ _).trans (flt (own_ngt (own_gtL (z := (5 : Int64)) hL2))).2.2.2) (pc0 := 151) (pc' := 164) rfl (by decide) (by decide) ?_
  show Go _ _ _ (s₁.setTop (mkF mi 164 #[.val (.ref el), .val (.int 0), .val (.int 131), .val (.int 5), .val (.long (L.toInt64)), .second, .val (.int 3), .val (.int 3)] [])) _
  refine g_iconst X0 hx hby dc4_164 (v := 2) rfl ?_
  obtain ⟨T9, h9, k9, X9, e9, E9, A9, st9⟩ := newP X0 hx hZ (hw _ (own_m 9 rfl)) e0 (g := (mkF mi 165 #[.val (.ref el), .val (.int 0), .val (.int 131), .val (.int 5), .val (.long (L.toInt64)), .second, .val (.int 3), .val (.int 3)] [(.int 2)])) rfl (hb hby dc4_165) rfl (by decide) (cap := 2) (by decide) (by decide) (by decide) (by decide)
  obtain ⟨ob9, g9⟩ : ∃ z, z = h0.size := ⟨_, rfl⟩
  rw [← g9] at A9 st9
  have Zs10 : n0 ≤ h9.size := Nat.le_trans Z0 E9.1
  have KC10 : Keep h0 h9 [] := (Keep.refl h0 []).ext E9
  have g_ob9 : n0 ≤ ob9 := Nat.le_trans Z0 (Nat.le_of_eq g9.symm)
  have sz_ob9 : h0.size ≤ ob9 := Nat.le_trans (Keep.refl h0 []).1 (Nat.le_of_eq g9.symm)
  have V9 : Arv Z h9 ob9 k9 .int (2 : Int32) [(.int (0 : Int32)), (.int (0 : Int32))] (.int (0 : Int32)) := (Arv.new A9 (by decide)).pad (pad_rep [] (.int (0 : Int32)) 2)
  refine Go.st st9 ?_
  refine g_dup X9 hx hby dc4_167 rfl ?_
  refine g_iconst X9 hx hby dc4_168 (v := 0) rfl ?_
  refine g_iloadN X9 hx hby dc4_169 rfl ?_
  have ov11 := V9
  obtain ⟨cl11, Ar11, q11, S11, M11, H11, G11⟩ := ov11
  have hin11 : ¬ ((0 : Int32) < 0 ∨ cl11.slots.size ≤ ((0 : Int32)).toNatClampNeg) := inb_of S11 ⟨by decide, by decide⟩
  obtain ⟨T12, h12, X12, e12, W12, st12⟩ := stI X9 hx hZ e9 Ar11 (j := (0 : Int32)) hin11 (g := (mkF mi 170 #[.val (.ref el), .val (.int 0), .val (.int 131), .val (.int 5), .val (.long (L.toInt64)), .second, .val (.int 3), .val (.int 3)] [(.int 5), (.int 0), (.ref ob9), (.ref ob9)])) rfl rfl (hb hby dc4_170)
  have Zs13 : n0 ≤ h12.size := Nat.le_trans Zs10 (Keep.of_wr W12).1
  have KC13 : Keep h0 h12 [] := KC10.wr W12 (Or.inr sz_ob9)
  have N13 := Fr.snoc X12 N0 g_ob9
  have V12 : Arv Z h12 ob9 k9 .int (2 : Int32) [(.int 5), (.int 0)] (.int (0 : Int32)) := Arv.set Ar11 q11 S11 M11 H11 G11 rfl W12 0 rfl (Nat.le_of_ble_eq_true rfl)
  refine Go.st st12 ?_
  refine g_dup X12 hx hby dc4_171 rfl ?_
  refine g_iconst X12 hx hby dc4_172 (v := 1) rfl ?_
  refine g_lload X12 hx hby dc4_173 rfl ?_
  refine Go.s (XS.l2i X12.here hx rfl (hb hby dc4_175) rfl) ?_
  show Go _ _ _ (T12.setTop (mkF mi 176 #[.val (.ref el), .val (.int 0), .val (.int 131), .val (.int 5), .val (.long (L.toInt64)), .second, .val (.int 3), .val (.int 3)] [(.int ((L.toInt64).toInt32)), (.int 1), (.ref ob9), (.ref ob9)])) _
  rw [own_i]
  show Go _ _ _ (T12.setTop (mkF mi 176 #[.val (.ref el), .val (.int 0), .val (.int 131), .val (.int 5), .val (.long (L.toInt64)), .second, .val (.int 3), .val (.int 3)] [(.int L), (.int 1), (.ref ob9), (.ref ob9)])) _
  have ov14 := V12
  obtain ⟨cl14, Ar14, q14, S14, M14, H14, G14⟩ := ov14
  have hin14 : ¬ ((1 : Int32) < 0 ∨ cl14.slots.size ≤ ((1 : Int32)).toNatClampNeg) := inb_of S14 ⟨by decide, by decide⟩
  obtain ⟨T15, h15, X15, e15, W15, st15⟩ := stI X12 hx hZ e12 Ar14 (j := (1 : Int32)) hin14 (g := (mkF mi 176 #[.val (.ref el), .val (.int 0), .val (.int 131), .val (.int 5), .val (.long (L.toInt64)), .second, .val (.int 3), .val (.int 3)] [(.int L), (.int 1), (.ref ob9), (.ref ob9)])) rfl rfl (hb hby dc4_176)
  have Zs16 : n0 ≤ h15.size := Nat.le_trans Zs13 (Keep.of_wr W15).1
  have KC16 : Keep h0 h15 [] := KC13.wr W15 (Or.inr sz_ob9)
  have N16 := Fr.snoc X15 N13 g_ob9
  have V15 : Arv Z h15 ob9 k9 .int (2 : Int32) [(.int 5), (.int L)] (.int (0 : Int32)) := Arv.set Ar14 q14 S14 M14 H14 G14 rfl W15 1 rfl (Nat.le_of_ble_eq_true rfl)
  refine Go.st st15 ?_
  obtain ⟨fs, hr, hrun, hended, hW, hsame⟩ := X15.leave (v := some (.ref ob9)) (fun h => by rw [Bd.returns] at h; cases h) (BodyLoose.notSynchronized Bd)
  refine ⟨_, _, ?_, hP _ _ ⟨hrun, hended, _, _, rfl, ?_, ⟨_, rfl⟩, hW, hsame.mono (by decide) (by decide)⟩⟩
  · exact retOut X15 hx Bd.returns rfl (Or.inr (Or.inr (Or.inr (Or.inr ⟨rfl, rfl, rfl⟩)))) (hb hby dc4_177) hr
  · show ∃ (z : Addr) (kz : ClassId), (some (.ref ob9) : Option Value) = some (.ref z) ∧ Fr n0 _ ∧ Keep h0 T15.heap [] ∧ h0.size ≤ z ∧ n0 ≤ z ∧ Arv Z T15.heap z kz .int (2 : Int32) [(.int (5 : Int32)), (.int L)] (.int (0 : Int32))
    rw [e15]
    exact ⟨ob9, _, rfl, N16, KC16, sz_ob9, g_ob9, V15⟩
theorem ef_rmCt3 (mi : MethodId) (el : Addr) (ke : ClassId) (L : Int32) (b0 : Int32) (b1 : Int32) (b2 : Int32) (b3 : Int32) (b4 : Int32) (b5 : Int32) (b6 : Int32) (b7 : Int32) (b8 : Int32) (b9 : Int32) : entryFrame mi #[(.ref el)] 2 = mkF mi 0 #[.val (.ref el), .unset] [] := by first | (simp [entryFrame, mkF, argsToLocals, Value.category]; done) | rfl
def Q_rmCt3 (Z : State) (el : Addr) (ke : ClassId) (L : Int32) (b0 : Int32) (b1 : Int32) (b2 : Int32) (b3 : Int32) (b4 : Int32) (b5 : Int32) (b6 : Int32) (b7 : Int32) (b8 : Int32) (b9 : Int32) (h0 : Heap) (n0 : Nat) (vv_ : Option Value) (hh_ : Heap) (LL_ : List Loc) : Prop := ∃ (r : Addr) (kr : ClassId) (us : List Value), vv_ = some (.ref r) ∧ Fr n0 LL_ ∧ Keep h0 hh_ [] ∧ h0.size ≤ r ∧ n0 ≤ r ∧ Arv Z hh_ r kr .byte L us (.int (0 : Int32)) ∧ (∀ i, i < L.toNatClampNeg → us.getD i (.int (0 : Int32)) = [(.int b0), (.int b1), (.int b2), (.int b3), (.int b4), (.int b5), (.int b6), (.int b7), (.int b8), (.int b9)].getD (5 + i) (.int (0 : Int32)))
set_option maxRecDepth 65536 in
set_option maxHeartbeats 40000000 in
theorem rmCt3 (l : Launch) (Z : State) (a0 : Array Value) (hw : ∀ d ∈ tables_1, d.before a0 Z = true) (ws : List Jvm.Cond) (el : Addr) (ke : ClassId) (L : Int32) (b0 : Int32) (b1 : Int32) (b2 : Int32) (b3 : Int32) (b4 : Int32) (b5 : Int32) (b6 : Int32) (b7 : Int32) (b8 : Int32) (b9 : Int32) (h0 : Heap) (n0 : Nat) (Z0 : n0 ≤ h0.size) (A0 : Arv Z h0 el ke .byte (10 : Int32) [(.int b0), (.int b1), (.int b2), (.int b3), (.int b4), (.int b5), (.int b6), (.int b7), (.int b8), (.int b9)] (.int (0 : Int32))) (hL1 : 0 ≤ L.toInt) (hL2 : L.toInt ≤ 5) (hL2' : L.toInt ≤ 8) (ht : ¬ ((b0 &&& (31 : Int32)) = (31 : Int32))) (hb1 : (b1 &&& (255 : Int32)) = (131 : Int32)) (hb2 : (b2 &&& (255 : Int32)) = (0 : Int32)) (hb3 : (b3 &&& (255 : Int32)) = (0 : Int32)) (hb4 : (b4 &&& (255 : Int32)) = L) :
    MetFree l (⟨"com/example/pemgate/pemgate/core/Der", "contents", "([B)[B"⟩ : MethodName) (head1 (Jvm.Cond.code (⟨"com/example/pemgate/pemgate/core/Der", "contents", "([B)[B"⟩ : MethodName) prog_16_method_7_code 2 (some (.array .byte)) :: ws) ({ frames := 3, cells := 2, slots := 10, locals := 48 } : Room)) (fun aa_ U => aa_ = #[(.ref el)] ∧ Z.Warmed39 U.vm ∧ U.heap = h0) (fun _ _ _ _ _ => True) (fun _ U oo_ UV_ => ∃ vv_ LL_, oo_ = .returned vv_ ∧ Q_rmCt3 Z el ke L b0 b1 b2 b3 b4 b5 b6 b7 b8 b9 h0 n0 vv_ UV_.heap LL_ ∧ FrameEnd U oo_ UV_ LL_ ({ frames := 3, cells := 2, slots := 10, locals := 48 } : Room).cells ({ frames := 3, cells := 2, slots := 10, locals := 48 } : Room).slots) := by
  refine MetFree.of_bodySF (plainFor_of_name pn_1) hisR ?_
  intro pg ev si mi args below meth ci s₁ Bd hml0 hP0 hK
  obtain ⟨rfl, hZ, hh⟩ := hP0
  have hx := Bd.exec
  have hby := Bd.bytes
  have hml : ci.maxLocals = 2 := hml0
  have hown : si.vm.findClass "com/example/pemgate/pemgate/core/Der" = some mi.cls := findClass_of_methodNamed Bd.named
  have hnm := (name_of_methodNamed Bd.named Bd.method).1
  have X0 : Stand pg l ev ({ frames := 3, cells := 2, slots := 10, locals := 48 } : Room) si mi #[(.ref el)] below meth ci s₁ [] 0 0 := Stand.of_body Bd
  have e0 : s₁.heap = h0 := by rw [← hh, Bd.state]; rfl
  have N0 := Fr.nil n0
  refine Go.start (fun P hP => ?_)
  refine Go.st (fun t_ k_ => castTop (ef_rmCt3 mi el ke L b0 b1 b2 b3 b4 b5 b6 b7 b8 b9) k_) (A := s₁.setTop (mkF mi 0 #[.val (.ref el), .unset] [])) ?_
  show Go _ _ _ (s₁.setTop (mkF mi 0 #[.val (.ref el), .unset] [])) _
  refine g_aloadN X0 hx hby dc5_0 rfl rfl ?_
  refine g_iconst X0 hx hby dc5_1 (v := 0) rfl ?_
  obtain ⟨_, _, ⟨T1, L1, k1, n1⟩, -, X1, ⟨Lc1, hQ1, l1, y1, z1⟩, st1⟩ := Jvm.LawKit.callS X0 hx (y := (⟨"com/example/pemgate/pemgate/core/Der", "header", "([BI)[I"⟩ : MethodName)) hown (mvT hZ (hw _ (own_m 6 rfl))) (mvT hZ (hw _ (own_m 7 rfl))) (mvT hZ (hw _ (own_m 4 rfl))) (mvT hZ (hw _ (own_m 8 rfl))) (by decide) (backOf (W := 0) (rmH3 l Z a0 hw [] el ke L b0 b1 b2 b3 b4 b5 b6 b7 b8 b9 h0 n0 Z0 A0 hL1 hL2 hL2' ht hb1 hb2 hb3 hb4) hZ (hw _ (own_m 8 rfl)) (hw _ (own_m 4 rfl)) (by decide) (by decide)) (g := (mkF mi 2 #[.val (.ref el), .unset] [(.int 0), (.ref el)])) rfl (by rw [hml]; rfl) (argsL := [(.ref el), (.int 0)]) (rest := []) (lenOf pd_3 rfl) rfl (by show 2 * 0 + _ ≤ _; exact Nat.le_of_eq rfl) (hb hby dc5_2) (fun _ _ => ⟨rfl, e0, (by decide : 0 + 1 ≤ _), (by decide : 0 + 2 ≤ _)⟩)
  dsimp only [Pt.U, Pt.locs, Pt.cells, Pt.slots] at X1 l1 y1 z1 st1 hQ1
  subst y1 z1
  have X1 := own_cs X1 (cells' := 1) (slots' := 2) rfl rfl
  obtain ⟨h1, e1⟩ : ∃ z, T1.heap = z := ⟨_, rfl⟩
  rw [e1] at hQ1
  obtain ⟨z1, kz1, rfl, N1q, K1, z_z1, g_z1, V_z1⟩ := hQ1
  have N1 := own_fr l1 (Fr.app N0 N1q)
  have Zs2 : n0 ≤ h1.size := Nat.le_trans Z0 K1.1
  have KC2 : Keep h0 h1 [] := (Keep.refl h0 []).trans K1 all0
  refine Go.st st1 ?_
  refine g_astoreN X1 hx hby dc5_5 rfl (l' := #[.val (.ref el), .val (.ref z1)]) rfl ?_
  refine g_aloadN X1 hx hby dc5_6 rfl rfl ?_
  refine g_aloadN X1 hx hby dc5_7 rfl rfl ?_
  refine g_iconst X1 hx hby dc5_8 (v := 0) rfl ?_
  have ov3 := V_z1
  obtain ⟨cl3, Ar3, q3, S3, M3, H3, G3⟩ := ov3
  have hin3 : ¬ ((0 : Int32) < 0 ∨ cl3.slots.size ≤ ((0 : Int32)).toNatClampNeg) := inb_of S3 ⟨by decide, by decide⟩
  have hat3 : cl3.slots[((0 : Int32)).toNatClampNeg]? = some (.int 5) := Has.at H3 hin3 rfl
  refine Go.st (X1.iaload hx (j := (0 : Int32)) (v := (.int 5)) (by rw [e1]; exact Ar3.1) (State.isArrayOf_alike hZ.alike Ar3.2.1) Ar3.2.2 hin3 hat3 (g := (mkF mi 9 #[.val (.ref el), .val (.ref z1)] [(.int 0), (.ref z1), (.ref el)])) rfl rfl (hb hby dc5_9)) ?_
  refine g_aloadN X1 hx hby dc5_10 rfl rfl ?_
  refine g_iconst X1 hx hby dc5_11 (v := 0) rfl ?_
  have ov4 := V_z1
  obtain ⟨cl4, Ar4, q4, S4, M4, H4, G4⟩ := ov4
  have hin4 : ¬ ((0 : Int32) < 0 ∨ cl4.slots.size ≤ ((0 : Int32)).toNatClampNeg) := inb_of S4 ⟨by decide, by decide⟩
  have hat4 : cl4.slots[((0 : Int32)).toNatClampNeg]? = some (.int 5) := Has.at H4 hin4 rfl
  refine Go.st (X1.iaload hx (j := (0 : Int32)) (v := (.int 5)) (by rw [e1]; exact Ar4.1) (State.isArrayOf_alike hZ.alike Ar4.2.1) Ar4.2.2 hin4 hat4 (g := (mkF mi 12 #[.val (.ref el), .val (.ref z1)] [(.int 0), (.ref z1), (.int 5), (.ref el)])) rfl rfl (hb hby dc5_12)) ?_
  refine g_aloadN X1 hx hby dc5_13 rfl rfl ?_
  refine g_iconst X1 hx hby dc5_14 (v := 1) rfl ?_
  have ov5 := V_z1
  obtain ⟨cl5, Ar5, q5, S5, M5, H5, G5⟩ := ov5
  have hin5 : ¬ ((1 : Int32) < 0 ∨ cl5.slots.size ≤ ((1 : Int32)).toNatClampNeg) := inb_of S5 ⟨by decide, by decide⟩
  have hat5 : cl5.slots[((1 : Int32)).toNatClampNeg]? = some (.int L) := Has.at H5 hin5 rfl
  refine Go.st (X1.iaload hx (j := (1 : Int32)) (v := (.int L)) (by rw [e1]; exact Ar5.1) (State.isArrayOf_alike hZ.alike Ar5.2.1) Ar5.2.2 hin5 hat5 (g := (mkF mi 15 #[.val (.ref el), .val (.ref z1)] [(.int 1), (.ref z1), (.int 5), (.int 5), (.ref el)])) rfl rfl (hb hby dc5_15)) ?_
  refine g_iadd X1 hx hby dc5_16 rfl ?_
  have f7 := (A0.keep K1 nin0)
  obtain ⟨_, _, ⟨T6, L6, k6, n6⟩, -, X6, ⟨Lc6, hQ6, l6, y6, z6⟩, st6⟩ := Jvm.LawKit.callS X1 hx (y := (⟨"java/util/Arrays", "copyOfRange", "([BII)[B"⟩ : MethodName)) hown (mvT hZ (hw _ (own_m 10 rfl))) (mvT hZ (hw _ (own_m 11 rfl))) (mvT hZ (hw _ (own_m 12 rfl))) (mvT hZ (hw _ (own_m 13 rfl))) (by decide) (backOf (W := 0) (rmCR5 l Z a0 hw [] el ke L b0 b1 b2 b3 b4 b5 b6 b7 b8 b9 h1 n0 Zs2 f7 hL1 hL2 hL2') hZ (hw _ (own_m 13 rfl)) (hw _ (own_m 12 rfl)) (by decide) (by decide)) (g := (mkF mi 17 #[.val (.ref el), .val (.ref z1)] [(.int ((5 : Int32) + L)), (.int 5), (.ref el)])) rfl (by rw [hml]; rfl) (argsL := [(.ref el), (.int 5), (.int ((5 : Int32) + L))]) (rest := []) (lenOf pd_2 rfl) rfl (by show 2 * 0 + _ ≤ _; exact Nat.le_of_eq rfl) (hb hby dc5_17) (fun _ _ => ⟨rfl, e1, (by decide : 1 + 1 ≤ _), (by decide : 2 + 8 ≤ _)⟩)
  dsimp only [Pt.U, Pt.locs, Pt.cells, Pt.slots] at X6 l6 y6 z6 st6 hQ6
  subst y6 z6
  have X6 := own_cs X6 (cells' := 2) (slots' := 10) rfl rfl
  obtain ⟨h6, e6⟩ : ∃ z, T6.heap = z := ⟨_, rfl⟩
  rw [e6] at hQ6
  obtain ⟨r6, kr6, us6, rfl, N6q, K6, z_r6, g_r6, V_r6, U_r6⟩ := hQ6
  have N6 := own_fr l6 (Fr.app N1 N6q)
  have Zs8 : n0 ≤ h6.size := Nat.le_trans Zs2 K6.1
  have KC8 : Keep h0 h6 [] := KC2.trans K6 all0
  have sz_r6 : h0.size ≤ r6 := Nat.le_trans KC2.1 z_r6
  refine Go.st st6 ?_
  obtain ⟨fs, hr, hrun, hended, hW, hsame⟩ := X6.leave (v := some (.ref r6)) (fun h => by rw [Bd.returns] at h; cases h) (BodyLoose.notSynchronized Bd)
  refine ⟨_, _, ?_, hP _ _ ⟨hrun, hended, _, _, rfl, ?_, ⟨_, rfl⟩, hW, hsame.mono (by decide) (by decide)⟩⟩
  · exact retOut X6 hx Bd.returns rfl (Or.inr (Or.inr (Or.inr (Or.inr ⟨rfl, rfl, rfl⟩)))) (hb hby dc5_20) hr
  · show ∃ (r : Addr) (kr : ClassId) (us : List Value), (some (.ref r6) : Option Value) = some (.ref r) ∧ Fr n0 _ ∧ Keep h0 T6.heap [] ∧ h0.size ≤ r ∧ n0 ≤ r ∧ Arv Z T6.heap r kr .byte L us (.int (0 : Int32)) ∧ (∀ i, i < L.toNatClampNeg → us.getD i (.int (0 : Int32)) = [(.int b0), (.int b1), (.int b2), (.int b3), (.int b4), (.int b5), (.int b6), (.int b7), (.int b8), (.int b9)].getD (5 + i) (.int (0 : Int32)))
    rw [e6]
    exact ⟨r6, kr6, us6, rfl, N6, KC8, sz_r6, g_r6, V_r6, U_r6⟩
theorem ef_rmH4 (mi : MethodId) (el : Addr) (ke : ClassId) (L : Int32) (b0 : Int32) (b1 : Int32) (b2 : Int32) (b3 : Int32) (b4 : Int32) (b5 : Int32) (b6 : Int32) (b7 : Int32) (b8 : Int32) (b9 : Int32) : entryFrame mi #[(.ref el), (.int 0)] 8 = mkF mi 0 #[.val (.ref el), .val (.int 0), .unset, .unset, .unset, .unset, .unset, .unset] [] := by first | (simp [entryFrame, mkF, argsToLocals, Value.category]; done) | rfl
def Q_rmH4 (Z : State) (el : Addr) (ke : ClassId) (L : Int32) (b0 : Int32) (b1 : Int32) (b2 : Int32) (b3 : Int32) (b4 : Int32) (b5 : Int32) (b6 : Int32) (b7 : Int32) (b8 : Int32) (b9 : Int32) (h0 : Heap) (n0 : Nat) (vv_ : Option Value) (hh_ : Heap) (LL_ : List Loc) : Prop := ∃ (z : Addr) (kz : ClassId), vv_ = some (.ref z) ∧ Fr n0 LL_ ∧ Keep h0 hh_ [] ∧ h0.size ≤ z ∧ n0 ≤ z ∧ Arv Z hh_ z kz .int (2 : Int32) [(.int (6 : Int32)), (.int L)] (.int (0 : Int32))
set_option maxRecDepth 65536 in
set_option maxHeartbeats 40000000 in
theorem rmH4 (l : Launch) (Z : State) (a0 : Array Value) (hw : ∀ d ∈ tables_1, d.before a0 Z = true) (ws : List Jvm.Cond) (el : Addr) (ke : ClassId) (L : Int32) (b0 : Int32) (b1 : Int32) (b2 : Int32) (b3 : Int32) (b4 : Int32) (b5 : Int32) (b6 : Int32) (b7 : Int32) (b8 : Int32) (b9 : Int32) (h0 : Heap) (n0 : Nat) (Z0 : n0 ≤ h0.size) (A0 : Arv Z h0 el ke .byte (10 : Int32) [(.int b0), (.int b1), (.int b2), (.int b3), (.int b4), (.int b5), (.int b6), (.int b7), (.int b8), (.int b9)] (.int (0 : Int32))) (hL1 : 0 ≤ L.toInt) (hL2 : L.toInt ≤ 4) (hL2' : L.toInt ≤ 8) (ht : ¬ ((b0 &&& (31 : Int32)) = (31 : Int32))) (hb1 : (b1 &&& (255 : Int32)) = (132 : Int32)) (hb2 : (b2 &&& (255 : Int32)) = (0 : Int32)) (hb3 : (b3 &&& (255 : Int32)) = (0 : Int32)) (hb4 : (b4 &&& (255 : Int32)) = (0 : Int32)) (hb5 : (b5 &&& (255 : Int32)) = L) :
    MetFree l (⟨"com/example/pemgate/pemgate/core/Der", "header", "([BI)[I"⟩ : MethodName) (head1 (Jvm.Cond.code (⟨"com/example/pemgate/pemgate/core/Der", "header", "([BI)[I"⟩ : MethodName) prog_16_method_9_code 8 (some (.array .int)) :: ws) ({ frames := 0, cells := 1, slots := 2, locals := 0 } : Room)) (fun aa_ U => aa_ = #[(.ref el), (.int 0)] ∧ Z.Warmed39 U.vm ∧ U.heap = h0) (fun _ _ _ _ _ => True) (fun _ U oo_ UV_ => ∃ vv_ LL_, oo_ = .returned vv_ ∧ Q_rmH4 Z el ke L b0 b1 b2 b3 b4 b5 b6 b7 b8 b9 h0 n0 vv_ UV_.heap LL_ ∧ FrameEnd U oo_ UV_ LL_ ({ frames := 0, cells := 1, slots := 2, locals := 0 } : Room).cells ({ frames := 0, cells := 1, slots := 2, locals := 0 } : Room).slots) := by
  refine MetFree.of_bodySF (plainFor_of_name pn_1) hisR ?_
  intro pg ev si mi args below meth ci s₁ Bd hml0 hP0 hK
  obtain ⟨rfl, hZ, hh⟩ := hP0
  have hx := Bd.exec
  have hby := Bd.bytes
  have hml : ci.maxLocals = 8 := hml0
  have hown : si.vm.findClass "com/example/pemgate/pemgate/core/Der" = some mi.cls := findClass_of_methodNamed Bd.named
  have hnm := (name_of_methodNamed Bd.named Bd.method).1
  have X0 : Stand pg l ev ({ frames := 0, cells := 1, slots := 2, locals := 0 } : Room) si mi #[(.ref el), (.int 0)] below meth ci s₁ [] 0 0 := Stand.of_body Bd
  have e0 : s₁.heap = h0 := by rw [← hh, Bd.state]; rfl
  have N0 := Fr.nil n0
  refine Go.start (fun P hP => ?_)
  refine Go.st (fun t_ k_ => castTop (ef_rmH4 mi el ke L b0 b1 b2 b3 b4 b5 b6 b7 b8 b9) k_) (A := s₁.setTop (mkF mi 0 #[.val (.ref el), .val (.int 0), .unset, .unset, .unset, .unset, .unset, .unset] [])) ?_
  show Go _ _ _ (s₁.setTop (mkF mi 0 #[.val (.ref el), .val (.int 0), .unset, .unset, .unset, .unset, .unset, .unset] [])) _
  refine g_aloadN X0 hx hby dc4_0 rfl rfl ?_
  have ov1 := A0
  obtain ⟨cl1, Ar1, q1, S1, M1, H1, G1⟩ := ov1
  refine Go.st (X0.arraylength hx (by rw [e0]; exact Ar1.1) (State.isArrayOf_alike hZ.alike Ar1.2.1) (g := (mkF mi 1 #[.val (.ref el), .val (.int 0), .unset, .unset, .unset, .unset, .unset, .unset] [(.ref el)])) rfl rfl (hb hby dc4_1)) ?_
  rw [len_of S1 M1]
  refine g_iloadN X0 hx hby dc4_2 rfl ?_
  refine g_isub X0 hx hby dc4_3 (z := 10) rfl ?_
  refine g_iconst X0 hx hby dc4_4 (v := 2) rfl ?_
  refine g_icmpYes X0 hx hby dc4_5 (flt (by decide)).2.1 (pc0 := 5) (pc' := 18) rfl (by decide) (by decide) ?_
  refine g_aloadN X0 hx hby dc4_18 rfl rfl ?_
  refine g_iloadN X0 hx hby dc4_19 rfl ?_
  have ov2 := A0
  obtain ⟨cl2, Ar2, q2, S2, M2, H2, G2⟩ := ov2
  have hin2 : ¬ ((0 : Int32) < 0 ∨ cl2.slots.size ≤ ((0 : Int32)).toNatClampNeg) := inb_of S2 ⟨by decide, by decide⟩
  have hat2 : cl2.slots[((0 : Int32)).toNatClampNeg]? = some (.int b0) := Has.at H2 hin2 rfl
  refine Go.st (X0.baloadBytes hx (j := (0 : Int32)) (v := (.int b0)) (by rw [e0]; exact Ar2.1) (State.isArrayOf_alike hZ.alike Ar2.2.1) Ar2.2.2 hin2 hat2 (g := (mkF mi 20 #[.val (.ref el), .val (.int 0), .unset, .unset, .unset, .unset, .unset, .unset] [(.int 0), (.ref el)])) rfl rfl (hb hby dc4_20)) ?_
  refine g_bipush X0 hx hby dc4_21 (v := 31) rfl ?_
  refine g_iand X0 hx hby dc4_23 rfl ?_
  refine g_bipush X0 hx hby dc4_24 (v := 31) rfl ?_
  refine g_icmpYes X0 hx hby dc4_26 (feq ht).2 (pc0 := 26) (pc' := 39) rfl (by decide) (by decide) ?_
  refine g_aloadN X0 hx hby dc4_39 rfl rfl ?_
  refine g_iloadN X0 hx hby dc4_40 rfl ?_
  refine g_iconst X0 hx hby dc4_41 (v := 1) rfl ?_
  refine g_iadd X0 hx hby dc4_42 (z := 1) rfl ?_
  have ov3 := A0
  obtain ⟨cl3, Ar3, q3, S3, M3, H3, G3⟩ := ov3
  have hin3 : ¬ ((1 : Int32) < 0 ∨ cl3.slots.size ≤ ((1 : Int32)).toNatClampNeg) := inb_of S3 ⟨by decide, by decide⟩
  have hat3 : cl3.slots[((1 : Int32)).toNatClampNeg]? = some (.int b1) := Has.at H3 hin3 rfl
  refine Go.st (X0.baloadBytes hx (j := (1 : Int32)) (v := (.int b1)) (by rw [e0]; exact Ar3.1) (State.isArrayOf_alike hZ.alike Ar3.2.1) Ar3.2.2 hin3 hat3 (g := (mkF mi 43 #[.val (.ref el), .val (.int 0), .unset, .unset, .unset, .unset, .unset, .unset] [(.int 1), (.ref el)])) rfl rfl (hb hby dc4_43)) ?_
  refine g_sipush X0 hx hby dc4_44 (v := 255) rfl ?_
  refine g_iand X0 hx hby dc4_47 rfl ?_
  show Go _ _ _ (s₁.setTop (mkF mi 48 #[.val (.ref el), .val (.int 0), .unset, .unset, .unset, .unset, .unset, .unset] [(.int (b1 &&& (255 : Int32)))])) _
  rw [hb1]
  show Go _ _ _ (s₁.setTop (mkF mi 48 #[.val (.ref el), .val (.int 0), .unset, .unset, .unset, .unset, .unset, .unset] [(.int 132)])) _
  refine g_istoreN X0 hx hby dc4_48 (l' := #[.val (.ref el), .val (.int 0), .val (.int 132), .unset, .unset, .unset, .unset, .unset]) rfl ?_
  refine g_iloadN X0 hx hby dc4_49 rfl ?_
  refine g_iconst X0 hx hby dc4_50 (v := 2) rfl ?_
  refine g_iadd X0 hx hby dc4_51 (z := 2) rfl ?_
  refine g_istoreN X0 hx hby dc4_52 (l' := #[.val (.ref el), .val (.int 0), .val (.int 132), .val (.int 2), .unset, .unset, .unset, .unset]) rfl ?_
  refine g_iloadN X0 hx hby dc4_53 rfl ?_
  refine Go.s (XS.i2l X0.here hx rfl (hb hby dc4_54) rfl) ?_
  refine Go.s (XS.lstore X0.here hx rfl (hb hby dc4_55) rfl (l' := #[.val (.ref el), .val (.int 0), .val (.int 132), .val (.int 2), .val (.long 132), .second, .unset, .unset]) rfl) ?_
  show Go _ _ _ (s₁.setTop (mkF mi 57 #[.val (.ref el), .val (.int 0), .val (.int 132), .val (.int 2), .val (.long 132), .second, .unset, .unset] [])) _
  refine g_iloadN X0 hx hby dc4_57 rfl ?_
  refine g_sipush X0 hx hby dc4_58 (v := 128) rfl ?_
  refine g_icmpNo X0 hx hby dc4_61 (flt (by decide)).1 ?_
  refine g_iloadN X0 hx hby dc4_64 rfl ?_
  refine g_bipush X0 hx hby dc4_65 (v := 127) rfl ?_
  refine g_iand X0 hx hby dc4_67 (z := 4) rfl ?_
  refine g_istore X0 hx hby dc4_68 (l' := #[.val (.ref el), .val (.int 0), .val (.int 132), .val (.int 2), .val (.long 132), .second, .val (.int 4), .unset]) rfl ?_
  refine g_iload X0 hx hby dc4_70 rfl ?_
  refine g_ifNo X0 hx hby dc4_72 ((if0 _ _).trans (feq (by decide)).1) ?_
  refine g_iload X0 hx hby dc4_75 rfl ?_
  refine g_iconst X0 hx hby dc4_77 (v := 4) rfl ?_
  refine g_icmpNo X0 hx hby dc4_78 (flt (by decide)).2.2.1 ?_
  refine g_aloadN X0 hx hby dc4_81 rfl rfl ?_
  have ov4 := A0
  obtain ⟨cl4, Ar4, q4, S4, M4, H4, G4⟩ := ov4
  refine Go.st (X0.arraylength hx (by rw [e0]; exact Ar4.1) (State.isArrayOf_alike hZ.alike Ar4.2.1) (g := (mkF mi 82 #[.val (.ref el), .val (.int 0), .val (.int 132), .val (.int 2), .val (.long 132), .second, .val (.int 4), .unset] [(.ref el)])) rfl rfl (hb hby dc4_82)) ?_
  rw [len_of S4 M4]
  refine g_iloadN X0 hx hby dc4_83 rfl ?_
  refine g_isub X0 hx hby dc4_84 (z := 8) rfl ?_
  refine g_iload X0 hx hby dc4_85 rfl ?_
  refine g_icmpYes X0 hx hby dc4_87 (flt (by decide)).2.1 (pc0 := 87) (pc' := 100) rfl (by decide) (by decide) ?_
  refine Go.s (XS.lconst X0.here hx rfl (hb hby dc4_100)) ?_
  show Go _ _ _ (s₁.setTop (mkF mi 101 #[.val (.ref el), .val (.int 0), .val (.int 132), .val (.int 2), .val (.long 132), .second, .val (.int 4), .unset] [(.long 0)])) _
  refine Go.s (XS.lstore X0.here hx rfl (hb hby dc4_101) rfl (l' := #[.val (.ref el), .val (.int 0), .val (.int 132), .val (.int 2), .val (.long 0), .second, .val (.int 4), .unset]) rfl) ?_
  refine g_iconst X0 hx hby dc4_103 (v := 0) rfl ?_
  refine g_istore X0 hx hby dc4_104 (l' := #[.val (.ref el), .val (.int 0), .val (.int 132), .val (.int 2), .val (.long 0), .second, .val (.int 4), .val (.int 0)]) rfl ?_
  refine g_iload X0 hx hby dc4_106 rfl ?_
  refine g_iload X0 hx hby dc4_108 rfl ?_
  refine g_icmpNo X0 hx hby dc4_110 (tlt (by decide)).2.1 ?_
  refine g_lload X0 hx hby dc4_113 rfl ?_
  refine g_bipush X0 hx hby dc4_115 (v := 8) rfl ?_
  refine Go.s (XS.lshl X0.here hx rfl (hb hby dc4_117) rfl) ?_
  show Go _ _ _ (s₁.setTop (mkF mi 118 #[.val (.ref el), .val (.int 0), .val (.int 132), .val (.int 2), .val (.long 0), .second, .val (.int 4), .val (.int 0)] [(.long 0)])) _
  refine g_aloadN X0 hx hby dc4_118 rfl rfl ?_
  refine g_iloadN X0 hx hby dc4_119 rfl ?_
  refine g_iload X0 hx hby dc4_120 rfl ?_
  refine g_iadd X0 hx hby dc4_122 (z := 2) rfl ?_
  have ov5 := A0
  obtain ⟨cl5, Ar5, q5, S5, M5, H5, G5⟩ := ov5
  have hin5 : ¬ ((2 : Int32) < 0 ∨ cl5.slots.size ≤ ((2 : Int32)).toNatClampNeg) := inb_of S5 ⟨by decide, by decide⟩
  have hat5 : cl5.slots[((2 : Int32)).toNatClampNeg]? = some (.int b2) := Has.at H5 hin5 rfl
  refine Go.st (X0.baloadBytes hx (j := (2 : Int32)) (v := (.int b2)) (by rw [e0]; exact Ar5.1) (State.isArrayOf_alike hZ.alike Ar5.2.1) Ar5.2.2 hin5 hat5 (g := (mkF mi 123 #[.val (.ref el), .val (.int 0), .val (.int 132), .val (.int 2), .val (.long 0), .second, .val (.int 4), .val (.int 0)] [(.int 2), (.ref el), (.long 0)])) rfl rfl (hb hby dc4_123)) ?_
  refine g_sipush X0 hx hby dc4_124 (v := 255) rfl ?_
  refine g_iand X0 hx hby dc4_127 rfl ?_
  show Go _ _ _ (s₁.setTop (mkF mi 128 #[.val (.ref el), .val (.int 0), .val (.int 132), .val (.int 2), .val (.long 0), .second, .val (.int 4), .val (.int 0)] [(.int (b2 &&& (255 : Int32))), (.long 0)])) _
  rw [hb2]
  show Go _ _ _ (s₁.setTop (mkF mi 128 #[.val (.ref el), .val (.int 0), .val (.int 132), .val (.int 2), .val (.long 0), .second, .val (.int 4), .val (.int 0)] [(.int 0), (.long 0)])) _
  refine Go.s (XS.i2l X0.here hx rfl (hb hby dc4_128) rfl) ?_
  refine Go.s (XS.lor X0.here hx rfl (hb hby dc4_129) rfl) ?_
  show Go _ _ _ (s₁.setTop (mkF mi 130 #[.val (.ref el), .val (.int 0), .val (.int 132), .val (.int 2), .val (.long 0), .second, .val (.int 4), .val (.int 0)] [(.long 0)])) _
  refine Go.s (XS.lstore X0.here hx rfl (hb hby dc4_130) rfl (l' := #[.val (.ref el), .val (.int 0), .val (.int 132), .val (.int 2), .val (.long 0), .second, .val (.int 4), .val (.int 0)]) rfl) ?_
  refine g_iinc X0 hx hby dc4_132 rfl (x' := 1) rfl (l' := #[.val (.ref el), .val (.int 0), .val (.int 132), .val (.int 2), .val (.long 0), .second, .val (.int 4), .val (.int 1)]) rfl ?_
  refine g_goto X0 hx hby dc4_135 (pc0 := 135) (pc' := 106) rfl (by decide) (by decide) ?_
  refine g_iload X0 hx hby dc4_106 rfl ?_
  refine g_iload X0 hx hby dc4_108 rfl ?_
  refine g_icmpNo X0 hx hby dc4_110 (tlt (by decide)).2.1 ?_
  refine g_lload X0 hx hby dc4_113 rfl ?_
  refine g_bipush X0 hx hby dc4_115 (v := 8) rfl ?_
  refine Go.s (XS.lshl X0.here hx rfl (hb hby dc4_117) rfl) ?_
  show Go _ _ _ (s₁.setTop (mkF mi 118 #[.val (.ref el), .val (.int 0), .val (.int 132), .val (.int 2), .val (.long 0), .second, .val (.int 4), .val (.int 1)] [(.long 0)])) _
  refine g_aloadN X0 hx hby dc4_118 rfl rfl ?_
  refine g_iloadN X0 hx hby dc4_119 rfl ?_
  refine g_iload X0 hx hby dc4_120 rfl ?_
  refine g_iadd X0 hx hby dc4_122 (z := 3) rfl ?_
  have ov6 := A0
  obtain ⟨cl6, Ar6, q6, S6, M6, H6, G6⟩ := ov6
  have hin6 : ¬ ((3 : Int32) < 0 ∨ cl6.slots.size ≤ ((3 : Int32)).toNatClampNeg) := inb_of S6 ⟨by decide, by decide⟩
  have hat6 : cl6.slots[((3 : Int32)).toNatClampNeg]? = some (.int b3) := Has.at H6 hin6 rfl
  refine Go.st (X0.baloadBytes hx (j := (3 : Int32)) (v := (.int b3)) (by rw [e0]; exact Ar6.1) (State.isArrayOf_alike hZ.alike Ar6.2.1) Ar6.2.2 hin6 hat6 (g := (mkF mi 123 #[.val (.ref el), .val (.int 0), .val (.int 132), .val (.int 2), .val (.long 0), .second, .val (.int 4), .val (.int 1)] [(.int 3), (.ref el), (.long 0)])) rfl rfl (hb hby dc4_123)) ?_
  refine g_sipush X0 hx hby dc4_124 (v := 255) rfl ?_
  refine g_iand X0 hx hby dc4_127 rfl ?_
  show Go _ _ _ (s₁.setTop (mkF mi 128 #[.val (.ref el), .val (.int 0), .val (.int 132), .val (.int 2), .val (.long 0), .second, .val (.int 4), .val (.int 1)] [(.int (b3 &&& (255 : Int32))), (.long 0)])) _
  rw [hb3]
  show Go _ _ _ (s₁.setTop (mkF mi 128 #[.val (.ref el), .val (.int 0), .val (.int 132), .val (.int 2), .val (.long 0), .second, .val (.int 4), .val (.int 1)] [(.int 0), (.long 0)])) _
  refine Go.s (XS.i2l X0.here hx rfl (hb hby dc4_128) rfl) ?_
  refine Go.s (XS.lor X0.here hx rfl (hb hby dc4_129) rfl) ?_
  show Go _ _ _ (s₁.setTop (mkF mi 130 #[.val (.ref el), .val (.int 0), .val (.int 132), .val (.int 2), .val (.long 0), .second, .val (.int 4), .val (.int 1)] [(.long 0)])) _
  refine Go.s (XS.lstore X0.here hx rfl (hb hby dc4_130) rfl (l' := #[.val (.ref el), .val (.int 0), .val (.int 132), .val (.int 2), .val (.long 0), .second, .val (.int 4), .val (.int 1)]) rfl) ?_
  refine g_iinc X0 hx hby dc4_132 rfl (x' := 2) rfl (l' := #[.val (.ref el), .val (.int 0), .val (.int 132), .val (.int 2), .val (.long 0), .second, .val (.int 4), .val (.int 2)]) rfl ?_
  refine g_goto X0 hx hby dc4_135 (pc0 := 135) (pc' := 106) rfl (by decide) (by decide) ?_
  refine g_iload X0 hx hby dc4_106 rfl ?_
  refine g_iload X0 hx hby dc4_108 rfl ?_
  refine g_icmpNo X0 hx hby dc4_110 (tlt (by decide)).2.1 ?_
  refine g_lload X0 hx hby dc4_113 rfl ?_
  refine g_bipush X0 hx hby dc4_115 (v := 8) rfl ?_
  refine Go.s (XS.lshl X0.here hx rfl (hb hby dc4_117) rfl) ?_
  show Go _ _ _ (s₁.setTop (mkF mi 118 #[.val (.ref el), .val (.int 0), .val (.int 132), .val (.int 2), .val (.long 0), .second, .val (.int 4), .val (.int 2)] [(.long 0)])) _
  refine g_aloadN X0 hx hby dc4_118 rfl rfl ?_
  refine g_iloadN X0 hx hby dc4_119 rfl ?_
  refine g_iload X0 hx hby dc4_120 rfl ?_
  refine g_iadd X0 hx hby dc4_122 (z := 4) rfl ?_
  have ov7 := A0
  obtain ⟨cl7, Ar7, q7, S7, M7, H7, G7⟩ := ov7
  have hin7 : ¬ ((4 : Int32) < 0 ∨ cl7.slots.size ≤ ((4 : Int32)).toNatClampNeg) := inb_of S7 ⟨by decide, by decide⟩
  have hat7 : cl7.slots[((4 : Int32)).toNatClampNeg]? = some (.int b4) := Has.at H7 hin7 rfl
  refine Go.st (X0.baloadBytes hx (j := (4 : Int32)) (v := (.int b4)) (by rw [e0]; exact Ar7.1) (State.isArrayOf_alike hZ.alike Ar7.2.1) Ar7.2.2 hin7 hat7 (g := (mkF mi 123 #[.val (.ref el), .val (.int 0), .val (.int 132), .val (.int 2), .val (.long 0), .second, .val (.int 4), .val (.int 2)] [(.int 4), (.ref el), (.long 0)])) rfl rfl (hb hby dc4_123)) ?_
  refine g_sipush X0 hx hby dc4_124 (v := 255) rfl ?_
  refine g_iand X0 hx hby dc4_127 rfl ?_
  show Go _ _ _ (s₁.setTop (mkF mi 128 #[.val (.ref el), .val (.int 0), .val (.int 132), .val (.int 2), .val (.long 0), .second, .val (.int 4), .val (.int 2)] [(.int (b4 &&& (255 : Int32))), (.long 0)])) _
  rw [hb4]
  show Go _ _ _ (s₁.setTop (mkF mi 128 #[.val (.ref el), .val (.int 0), .val (.int 132), .val (.int 2), .val (.long 0), .second, .val (.int 4), .val (.int 2)] [(.int 0), (.long 0)])) _
  refine Go.s (XS.i2l X0.here hx rfl (hb hby dc4_128) rfl) ?_
  refine Go.s (XS.lor X0.here hx rfl (hb hby dc4_129) rfl) ?_
  show Go _ _ _ (s₁.setTop (mkF mi 130 #[.val (.ref el), .val (.int 0), .val (.int 132), .val (.int 2), .val (.long 0), .second, .val (.int 4), .val (.int 2)] [(.long 0)])) _
  refine Go.s (XS.lstore X0.here hx rfl (hb hby dc4_130) rfl (l' := #[.val (.ref el), .val (.int 0), .val (.int 132), .val (.int 2), .val (.long 0), .second, .val (.int 4), .val (.int 2)]) rfl) ?_
  refine g_iinc X0 hx hby dc4_132 rfl (x' := 3) rfl (l' := #[.val (.ref el), .val (.int 0), .val (.int 132), .val (.int 2), .val (.long 0), .second, .val (.int 4), .val (.int 3)]) rfl ?_
  refine g_goto X0 hx hby dc4_135 (pc0 := 135) (pc' := 106) rfl (by decide) (by decide) ?_
  refine g_iload X0 hx hby dc4_106 rfl ?_
  refine g_iload X0 hx hby dc4_108 rfl ?_
  refine g_icmpNo X0 hx hby dc4_110 (tlt (by decide)).2.1 ?_
  refine g_lload X0 hx hby dc4_113 rfl ?_
  refine g_bipush X0 hx hby dc4_115 (v := 8) rfl ?_
  refine Go.s (XS.lshl X0.here hx rfl (hb hby dc4_117) rfl) ?_
  show Go _ _ _ (s₁.setTop (mkF mi 118 #[.val (.ref el), .val (.int 0), .val (.int 132), .val (.int 2), .val (.long 0), .second, .val (.int 4), .val (.int 3)] [(.long 0)])) _
  refine g_aloadN X0 hx hby dc4_118 rfl rfl ?_
  refine g_iloadN X0 hx hby dc4_119 rfl ?_
  refine g_iload X0 hx hby dc4_120 rfl ?_
  refine g_iadd X0 hx hby dc4_122 (z := 5) rfl ?_
  have ov8 := A0
  obtain ⟨cl8, Ar8, q8, S8, M8, H8, G8⟩ := ov8
  have hin8 : ¬ ((5 : Int32) < 0 ∨ cl8.slots.size ≤ ((5 : Int32)).toNatClampNeg) := inb_of S8 ⟨by decide, by decide⟩
  have hat8 : cl8.slots[((5 : Int32)).toNatClampNeg]? = some (.int b5) := Has.at H8 hin8 rfl
  refine Go.st (X0.baloadBytes hx (j := (5 : Int32)) (v := (.int b5)) (by rw [e0]; exact Ar8.1) (State.isArrayOf_alike hZ.alike Ar8.2.1) Ar8.2.2 hin8 hat8 (g := (mkF mi 123 #[.val (.ref el), .val (.int 0), .val (.int 132), .val (.int 2), .val (.long 0), .second, .val (.int 4), .val (.int 3)] [(.int 5), (.ref el), (.long 0)])) rfl rfl (hb hby dc4_123)) ?_
  refine g_sipush X0 hx hby dc4_124 (v := 255) rfl ?_
  refine g_iand X0 hx hby dc4_127 rfl ?_
  show Go _ _ _ (s₁.setTop (mkF mi 128 #[.val (.ref el), .val (.int 0), .val (.int 132), .val (.int 2), .val (.long 0), .second, .val (.int 4), .val (.int 3)] [(.int (b5 &&& (255 : Int32))), (.long 0)])) _
  rw [hb5]
  show Go _ _ _ (s₁.setTop (mkF mi 128 #[.val (.ref el), .val (.int 0), .val (.int 132), .val (.int 2), .val (.long 0), .second, .val (.int 4), .val (.int 3)] [(.int L), (.long 0)])) _
  refine Go.s (XS.i2l X0.here hx rfl (hb hby dc4_128) rfl) ?_
  refine Go.s (XS.lor X0.here hx rfl (hb hby dc4_129) rfl) ?_
  show Go _ _ _ (s₁.setTop (mkF mi 130 #[.val (.ref el), .val (.int 0), .val (.int 132), .val (.int 2), .val (.long 0), .second, .val (.int 4), .val (.int 3)] [(.long ((0 : Int64) ||| (L.toInt64)))])) _
  rw [show ((0 : Int64) ||| L.toInt64) = L.toInt64 from Int64.zero_or]
  show Go _ _ _ (s₁.setTop (mkF mi 130 #[.val (.ref el), .val (.int 0), .val (.int 132), .val (.int 2), .val (.long 0), .second, .val (.int 4), .val (.int 3)] [(.long (L.toInt64))])) _
  refine Go.s (XS.lstore X0.here hx rfl (hb hby dc4_130) rfl (l' := #[.val (.ref el), .val (.int 0), .val (.int 132), .val (.int 2), .val (.long (L.toInt64)), .second, .val (.int 4), .val (.int 3)]) rfl) ?_
  refine g_iinc X0 hx hby dc4_132 rfl (x' := 4) rfl (l' := #[.val (.ref el), .val (.int 0), .val (.int 132), .val (.int 2), .val (.long (L.toInt64)), .second, .val (.int 4), .val (.int 4)]) rfl ?_
  refine g_goto X0 hx hby dc4_135 (pc0 := 135) (pc' := 106) rfl (by decide) (by decide) ?_
  refine g_iload X0 hx hby dc4_106 rfl ?_
  refine g_iload X0 hx hby dc4_108 rfl ?_
  refine g_icmpYes X0 hx hby dc4_110 (flt (by decide)).2.1 (pc0 := 110) (pc' := 138) rfl (by decide) (by decide) ?_
  refine g_iloadN X0 hx hby dc4_138 rfl ?_
  refine g_iload X0 hx hby dc4_139 rfl ?_
  refine g_iadd X0 hx hby dc4_141 (z := 6) rfl ?_
  refine g_istoreN X0 hx hby dc4_142 (l' := #[.val (.ref el), .val (.int 0), .val (.int 132), .val (.int 6), .val (.long (L.toInt64)), .second, .val (.int 4), .val (.int 4)]) rfl ?_
  refine g_lload X0 hx hby dc4_143 rfl ?_
  refine g_aloadN X0 hx hby dc4_145 rfl rfl ?_
  have ov9 := A0
  obtain ⟨cl9, Ar9, q9, S9, M9, H9, G9⟩ := ov9
  refine Go.st (X0.arraylength hx (by rw [e0]; exact Ar9.1) (State.isArrayOf_alike hZ.alike Ar9.2.1) (g := (mkF mi 146 #[.val (.ref el), .val (.int 0), .val (.int 132), .val (.int 6), .val (.long (L.toInt64)), .second, .val (.int 4), .val (.int 4)] [(.ref el), (.long (L.toInt64))])) rfl rfl (hb hby dc4_146)) ?_
  rw [len_of S9 M9]
  show Go _ _ _ (s₁.setTop (mkF mi 147 #[.val (.ref el), .val (.int 0), .val (.int 132), .val (.int 6), .val (.long (L.toInt64)), .second, .val (.int 4), .val (.int 4)] [(.int 10), (.long (L.toInt64))])) _
  refine g_iloadN X0 hx hby dc4_147 rfl ?_
  refine g_isub X0 hx hby dc4_148 (z := 4) rfl ?_
  refine Go.s (XS.i2l X0.here hx rfl (hb hby dc4_149) rfl) ?_
  refine Go.s (XS.lcmp X0.here hx rfl (hb hby dc4_150) rfl) ?_
  refine g_ifYes X0 hx hby dc4_151 ((if0 _ _).trans (flt (own_ngt (own_gtL (z := (4 : Int64)) hL2))).2.2.2) (pc0 := 151) (pc' := 164) rfl (by decide) (by decide) ?_
  show Go _ _ _ (s₁.setTop (mkF mi 164 #[.val (.ref el), .val (.int 0), .val (.int 132), .val (.int 6), .val (.long (L.toInt64)), .second, .val (.int 4), .val (.int 4)] [])) _
  refine g_iconst X0 hx hby dc4_164 (v := 2) rfl ?_
  obtain ⟨T10, h10, k10, X10, e10, E10, A10, st10⟩ := newP X0 hx hZ (hw _ (own_m 9 rfl)) e0 (g := (mkF mi 165 #[.val (.ref el), .val (.int 0), .val (.int 132), .val (.int 6), .val (.long (L.toInt64)), .second, .val (.int 4), .val (.int 4)] [(.int 2)])) rfl (hb hby dc4_165) rfl (by decide) (cap := 2) (by decide) (by decide) (by decide) (by decide)
  obtain ⟨ob10, g10⟩ : ∃ z, z = h0.size := ⟨_, rfl⟩
  rw [← g10] at A10 st10
  have Zs11 : n0 ≤ h10.size := Nat.le_trans Z0 E10.1
  have KC11 : Keep h0 h10 [] := (Keep.refl h0 []).ext E10
  have g_ob10 : n0 ≤ ob10 := Nat.le_trans Z0 (Nat.le_of_eq g10.symm)
  have sz_ob10 : h0.size ≤ ob10 := Nat.le_trans (Keep.refl h0 []).1 (Nat.le_of_eq g10.symm)
  have V10 : Arv Z h10 ob10 k10 .int (2 : Int32) [(.int (0 : Int32)), (.int (0 : Int32))] (.int (0 : Int32)) := (Arv.new A10 (by decide)).pad (pad_rep [] (.int (0 : Int32)) 2)
  refine Go.st st10 ?_
  refine g_dup X10 hx hby dc4_167 rfl ?_
  refine g_iconst X10 hx hby dc4_168 (v := 0) rfl ?_
  refine g_iloadN X10 hx hby dc4_169 rfl ?_
  have ov12 := V10
  obtain ⟨cl12, Ar12, q12, S12, M12, H12, G12⟩ := ov12
  have hin12 : ¬ ((0 : Int32) < 0 ∨ cl12.slots.size ≤ ((0 : Int32)).toNatClampNeg) := inb_of S12 ⟨by decide, by decide⟩
  obtain ⟨T13, h13, X13, e13, W13, st13⟩ := stI X10 hx hZ e10 Ar12 (j := (0 : Int32)) hin12 (g := (mkF mi 170 #[.val (.ref el), .val (.int 0), .val (.int 132), .val (.int 6), .val (.long (L.toInt64)), .second, .val (.int 4), .val (.int 4)] [(.int 6), (.int 0), (.ref ob10), (.ref ob10)])) rfl rfl (hb hby dc4_170)
  have Zs14 : n0 ≤ h13.size := Nat.le_trans Zs11 (Keep.of_wr W13).1
  have KC14 : Keep h0 h13 [] := KC11.wr W13 (Or.inr sz_ob10)
  have N14 := Fr.snoc X13 N0 g_ob10
  have V13 : Arv Z h13 ob10 k10 .int (2 : Int32) [(.int 6), (.int 0)] (.int (0 : Int32)) := Arv.set Ar12 q12 S12 M12 H12 G12 rfl W13 0 rfl (Nat.le_of_ble_eq_true rfl)
  refine Go.st st13 ?_
  refine g_dup X13 hx hby dc4_171 rfl ?_
  refine g_iconst X13 hx hby dc4_172 (v := 1) rfl ?_
  refine g_lload X13 hx hby dc4_173 rfl ?_
  refine Go.s (XS.l2i X13.here hx rfl (hb hby dc4_175) rfl) ?_
  show Go _ _ _ (T13.setTop (mkF mi 176 #[.val (.ref el), .val (.int 0), .val (.int 132), .val (.int 6), .val (.long (L.toInt64)), .second, .val (.int 4), .val (.int 4)] [(.int ((L.toInt64).toInt32)), (.int 1), (.ref ob10), (.ref ob10)])) _
  rw [own_i]
  show Go _ _ _ (T13.setTop (mkF mi 176 #[.val (.ref el), .val (.int 0), .val (.int 132), .val (.int 6), .val (.long (L.toInt64)), .second, .val (.int 4), .val (.int 4)] [(.int L), (.int 1), (.ref ob10), (.ref ob10)])) _
  have ov15 := V13
  obtain ⟨cl15, Ar15, q15, S15, M15, H15, G15⟩ := ov15
  have hin15 : ¬ ((1 : Int32) < 0 ∨ cl15.slots.size ≤ ((1 : Int32)).toNatClampNeg) := inb_of S15 ⟨by decide, by decide⟩
  obtain ⟨T16, h16, X16, e16, W16, st16⟩ := stI X13 hx hZ e13 Ar15 (j := (1 : Int32)) hin15 (g := (mkF mi 176 #[.val (.ref el), .val (.int 0), .val (.int 132), .val (.int 6), .val (.long (L.toInt64)), .second, .val (.int 4), .val (.int 4)] [(.int L), (.int 1), (.ref ob10), (.ref ob10)])) rfl rfl (hb hby dc4_176)
  have Zs17 : n0 ≤ h16.size := Nat.le_trans Zs14 (Keep.of_wr W16).1
  have KC17 : Keep h0 h16 [] := KC14.wr W16 (Or.inr sz_ob10)
  have N17 := Fr.snoc X16 N14 g_ob10
  have V16 : Arv Z h16 ob10 k10 .int (2 : Int32) [(.int 6), (.int L)] (.int (0 : Int32)) := Arv.set Ar15 q15 S15 M15 H15 G15 rfl W16 1 rfl (Nat.le_of_ble_eq_true rfl)
  refine Go.st st16 ?_
  obtain ⟨fs, hr, hrun, hended, hW, hsame⟩ := X16.leave (v := some (.ref ob10)) (fun h => by rw [Bd.returns] at h; cases h) (BodyLoose.notSynchronized Bd)
  refine ⟨_, _, ?_, hP _ _ ⟨hrun, hended, _, _, rfl, ?_, ⟨_, rfl⟩, hW, hsame.mono (by decide) (by decide)⟩⟩
  · exact retOut X16 hx Bd.returns rfl (Or.inr (Or.inr (Or.inr (Or.inr ⟨rfl, rfl, rfl⟩)))) (hb hby dc4_177) hr
  · show ∃ (z : Addr) (kz : ClassId), (some (.ref ob10) : Option Value) = some (.ref z) ∧ Fr n0 _ ∧ Keep h0 T16.heap [] ∧ h0.size ≤ z ∧ n0 ≤ z ∧ Arv Z T16.heap z kz .int (2 : Int32) [(.int (6 : Int32)), (.int L)] (.int (0 : Int32))
    rw [e16]
    exact ⟨ob10, _, rfl, N17, KC17, sz_ob10, g_ob10, V16⟩
theorem ef_rmCt4 (mi : MethodId) (el : Addr) (ke : ClassId) (L : Int32) (b0 : Int32) (b1 : Int32) (b2 : Int32) (b3 : Int32) (b4 : Int32) (b5 : Int32) (b6 : Int32) (b7 : Int32) (b8 : Int32) (b9 : Int32) : entryFrame mi #[(.ref el)] 2 = mkF mi 0 #[.val (.ref el), .unset] [] := by first | (simp [entryFrame, mkF, argsToLocals, Value.category]; done) | rfl
def Q_rmCt4 (Z : State) (el : Addr) (ke : ClassId) (L : Int32) (b0 : Int32) (b1 : Int32) (b2 : Int32) (b3 : Int32) (b4 : Int32) (b5 : Int32) (b6 : Int32) (b7 : Int32) (b8 : Int32) (b9 : Int32) (h0 : Heap) (n0 : Nat) (vv_ : Option Value) (hh_ : Heap) (LL_ : List Loc) : Prop := ∃ (r : Addr) (kr : ClassId) (us : List Value), vv_ = some (.ref r) ∧ Fr n0 LL_ ∧ Keep h0 hh_ [] ∧ h0.size ≤ r ∧ n0 ≤ r ∧ Arv Z hh_ r kr .byte L us (.int (0 : Int32)) ∧ (∀ i, i < L.toNatClampNeg → us.getD i (.int (0 : Int32)) = [(.int b0), (.int b1), (.int b2), (.int b3), (.int b4), (.int b5), (.int b6), (.int b7), (.int b8), (.int b9)].getD (6 + i) (.int (0 : Int32)))
set_option maxRecDepth 65536 in
set_option maxHeartbeats 40000000 in
theorem rmCt4 (l : Launch) (Z : State) (a0 : Array Value) (hw : ∀ d ∈ tables_1, d.before a0 Z = true) (ws : List Jvm.Cond) (el : Addr) (ke : ClassId) (L : Int32) (b0 : Int32) (b1 : Int32) (b2 : Int32) (b3 : Int32) (b4 : Int32) (b5 : Int32) (b6 : Int32) (b7 : Int32) (b8 : Int32) (b9 : Int32) (h0 : Heap) (n0 : Nat) (Z0 : n0 ≤ h0.size) (A0 : Arv Z h0 el ke .byte (10 : Int32) [(.int b0), (.int b1), (.int b2), (.int b3), (.int b4), (.int b5), (.int b6), (.int b7), (.int b8), (.int b9)] (.int (0 : Int32))) (hL1 : 0 ≤ L.toInt) (hL2 : L.toInt ≤ 4) (hL2' : L.toInt ≤ 8) (ht : ¬ ((b0 &&& (31 : Int32)) = (31 : Int32))) (hb1 : (b1 &&& (255 : Int32)) = (132 : Int32)) (hb2 : (b2 &&& (255 : Int32)) = (0 : Int32)) (hb3 : (b3 &&& (255 : Int32)) = (0 : Int32)) (hb4 : (b4 &&& (255 : Int32)) = (0 : Int32)) (hb5 : (b5 &&& (255 : Int32)) = L) :
    MetFree l (⟨"com/example/pemgate/pemgate/core/Der", "contents", "([B)[B"⟩ : MethodName) (head1 (Jvm.Cond.code (⟨"com/example/pemgate/pemgate/core/Der", "contents", "([B)[B"⟩ : MethodName) prog_16_method_7_code 2 (some (.array .byte)) :: ws) ({ frames := 3, cells := 2, slots := 10, locals := 48 } : Room)) (fun aa_ U => aa_ = #[(.ref el)] ∧ Z.Warmed39 U.vm ∧ U.heap = h0) (fun _ _ _ _ _ => True) (fun _ U oo_ UV_ => ∃ vv_ LL_, oo_ = .returned vv_ ∧ Q_rmCt4 Z el ke L b0 b1 b2 b3 b4 b5 b6 b7 b8 b9 h0 n0 vv_ UV_.heap LL_ ∧ FrameEnd U oo_ UV_ LL_ ({ frames := 3, cells := 2, slots := 10, locals := 48 } : Room).cells ({ frames := 3, cells := 2, slots := 10, locals := 48 } : Room).slots) := by
  refine MetFree.of_bodySF (plainFor_of_name pn_1) hisR ?_
  intro pg ev si mi args below meth ci s₁ Bd hml0 hP0 hK
  obtain ⟨rfl, hZ, hh⟩ := hP0
  have hx := Bd.exec
  have hby := Bd.bytes
  have hml : ci.maxLocals = 2 := hml0
  have hown : si.vm.findClass "com/example/pemgate/pemgate/core/Der" = some mi.cls := findClass_of_methodNamed Bd.named
  have hnm := (name_of_methodNamed Bd.named Bd.method).1
  have X0 : Stand pg l ev ({ frames := 3, cells := 2, slots := 10, locals := 48 } : Room) si mi #[(.ref el)] below meth ci s₁ [] 0 0 := Stand.of_body Bd
  have e0 : s₁.heap = h0 := by rw [← hh, Bd.state]; rfl
  have N0 := Fr.nil n0
  refine Go.start (fun P hP => ?_)
  refine Go.st (fun t_ k_ => castTop (ef_rmCt4 mi el ke L b0 b1 b2 b3 b4 b5 b6 b7 b8 b9) k_) (A := s₁.setTop (mkF mi 0 #[.val (.ref el), .unset] [])) ?_
  show Go _ _ _ (s₁.setTop (mkF mi 0 #[.val (.ref el), .unset] [])) _
  refine g_aloadN X0 hx hby dc5_0 rfl rfl ?_
  refine g_iconst X0 hx hby dc5_1 (v := 0) rfl ?_
  obtain ⟨_, _, ⟨T1, L1, k1, n1⟩, -, X1, ⟨Lc1, hQ1, l1, y1, z1⟩, st1⟩ := Jvm.LawKit.callS X0 hx (y := (⟨"com/example/pemgate/pemgate/core/Der", "header", "([BI)[I"⟩ : MethodName)) hown (mvT hZ (hw _ (own_m 6 rfl))) (mvT hZ (hw _ (own_m 7 rfl))) (mvT hZ (hw _ (own_m 4 rfl))) (mvT hZ (hw _ (own_m 8 rfl))) (by decide) (backOf (W := 0) (rmH4 l Z a0 hw [] el ke L b0 b1 b2 b3 b4 b5 b6 b7 b8 b9 h0 n0 Z0 A0 hL1 hL2 hL2' ht hb1 hb2 hb3 hb4 hb5) hZ (hw _ (own_m 8 rfl)) (hw _ (own_m 4 rfl)) (by decide) (by decide)) (g := (mkF mi 2 #[.val (.ref el), .unset] [(.int 0), (.ref el)])) rfl (by rw [hml]; rfl) (argsL := [(.ref el), (.int 0)]) (rest := []) (lenOf pd_3 rfl) rfl (by show 2 * 0 + _ ≤ _; exact Nat.le_of_eq rfl) (hb hby dc5_2) (fun _ _ => ⟨rfl, e0, (by decide : 0 + 1 ≤ _), (by decide : 0 + 2 ≤ _)⟩)
  dsimp only [Pt.U, Pt.locs, Pt.cells, Pt.slots] at X1 l1 y1 z1 st1 hQ1
  subst y1 z1
  have X1 := own_cs X1 (cells' := 1) (slots' := 2) rfl rfl
  obtain ⟨h1, e1⟩ : ∃ z, T1.heap = z := ⟨_, rfl⟩
  rw [e1] at hQ1
  obtain ⟨z1, kz1, rfl, N1q, K1, z_z1, g_z1, V_z1⟩ := hQ1
  have N1 := own_fr l1 (Fr.app N0 N1q)
  have Zs2 : n0 ≤ h1.size := Nat.le_trans Z0 K1.1
  have KC2 : Keep h0 h1 [] := (Keep.refl h0 []).trans K1 all0
  refine Go.st st1 ?_
  refine g_astoreN X1 hx hby dc5_5 rfl (l' := #[.val (.ref el), .val (.ref z1)]) rfl ?_
  refine g_aloadN X1 hx hby dc5_6 rfl rfl ?_
  refine g_aloadN X1 hx hby dc5_7 rfl rfl ?_
  refine g_iconst X1 hx hby dc5_8 (v := 0) rfl ?_
  have ov3 := V_z1
  obtain ⟨cl3, Ar3, q3, S3, M3, H3, G3⟩ := ov3
  have hin3 : ¬ ((0 : Int32) < 0 ∨ cl3.slots.size ≤ ((0 : Int32)).toNatClampNeg) := inb_of S3 ⟨by decide, by decide⟩
  have hat3 : cl3.slots[((0 : Int32)).toNatClampNeg]? = some (.int 6) := Has.at H3 hin3 rfl
  refine Go.st (X1.iaload hx (j := (0 : Int32)) (v := (.int 6)) (by rw [e1]; exact Ar3.1) (State.isArrayOf_alike hZ.alike Ar3.2.1) Ar3.2.2 hin3 hat3 (g := (mkF mi 9 #[.val (.ref el), .val (.ref z1)] [(.int 0), (.ref z1), (.ref el)])) rfl rfl (hb hby dc5_9)) ?_
  refine g_aloadN X1 hx hby dc5_10 rfl rfl ?_
  refine g_iconst X1 hx hby dc5_11 (v := 0) rfl ?_
  have ov4 := V_z1
  obtain ⟨cl4, Ar4, q4, S4, M4, H4, G4⟩ := ov4
  have hin4 : ¬ ((0 : Int32) < 0 ∨ cl4.slots.size ≤ ((0 : Int32)).toNatClampNeg) := inb_of S4 ⟨by decide, by decide⟩
  have hat4 : cl4.slots[((0 : Int32)).toNatClampNeg]? = some (.int 6) := Has.at H4 hin4 rfl
  refine Go.st (X1.iaload hx (j := (0 : Int32)) (v := (.int 6)) (by rw [e1]; exact Ar4.1) (State.isArrayOf_alike hZ.alike Ar4.2.1) Ar4.2.2 hin4 hat4 (g := (mkF mi 12 #[.val (.ref el), .val (.ref z1)] [(.int 0), (.ref z1), (.int 6), (.ref el)])) rfl rfl (hb hby dc5_12)) ?_
  refine g_aloadN X1 hx hby dc5_13 rfl rfl ?_
  refine g_iconst X1 hx hby dc5_14 (v := 1) rfl ?_
  have ov5 := V_z1
  obtain ⟨cl5, Ar5, q5, S5, M5, H5, G5⟩ := ov5
  have hin5 : ¬ ((1 : Int32) < 0 ∨ cl5.slots.size ≤ ((1 : Int32)).toNatClampNeg) := inb_of S5 ⟨by decide, by decide⟩
  have hat5 : cl5.slots[((1 : Int32)).toNatClampNeg]? = some (.int L) := Has.at H5 hin5 rfl
  refine Go.st (X1.iaload hx (j := (1 : Int32)) (v := (.int L)) (by rw [e1]; exact Ar5.1) (State.isArrayOf_alike hZ.alike Ar5.2.1) Ar5.2.2 hin5 hat5 (g := (mkF mi 15 #[.val (.ref el), .val (.ref z1)] [(.int 1), (.ref z1), (.int 6), (.int 6), (.ref el)])) rfl rfl (hb hby dc5_15)) ?_
  refine g_iadd X1 hx hby dc5_16 rfl ?_
  have f7 := (A0.keep K1 nin0)
  obtain ⟨_, _, ⟨T6, L6, k6, n6⟩, -, X6, ⟨Lc6, hQ6, l6, y6, z6⟩, st6⟩ := Jvm.LawKit.callS X1 hx (y := (⟨"java/util/Arrays", "copyOfRange", "([BII)[B"⟩ : MethodName)) hown (mvT hZ (hw _ (own_m 10 rfl))) (mvT hZ (hw _ (own_m 11 rfl))) (mvT hZ (hw _ (own_m 12 rfl))) (mvT hZ (hw _ (own_m 13 rfl))) (by decide) (backOf (W := 0) (rmCR6 l Z a0 hw [] el ke L b0 b1 b2 b3 b4 b5 b6 b7 b8 b9 h1 n0 Zs2 f7 hL1 hL2 hL2') hZ (hw _ (own_m 13 rfl)) (hw _ (own_m 12 rfl)) (by decide) (by decide)) (g := (mkF mi 17 #[.val (.ref el), .val (.ref z1)] [(.int ((6 : Int32) + L)), (.int 6), (.ref el)])) rfl (by rw [hml]; rfl) (argsL := [(.ref el), (.int 6), (.int ((6 : Int32) + L))]) (rest := []) (lenOf pd_2 rfl) rfl (by show 2 * 0 + _ ≤ _; exact Nat.le_of_eq rfl) (hb hby dc5_17) (fun _ _ => ⟨rfl, e1, (by decide : 1 + 1 ≤ _), (by decide : 2 + 8 ≤ _)⟩)
  dsimp only [Pt.U, Pt.locs, Pt.cells, Pt.slots] at X6 l6 y6 z6 st6 hQ6
  subst y6 z6
  have X6 := own_cs X6 (cells' := 2) (slots' := 10) rfl rfl
  obtain ⟨h6, e6⟩ : ∃ z, T6.heap = z := ⟨_, rfl⟩
  rw [e6] at hQ6
  obtain ⟨r6, kr6, us6, rfl, N6q, K6, z_r6, g_r6, V_r6, U_r6⟩ := hQ6
  have N6 := own_fr l6 (Fr.app N1 N6q)
  have Zs8 : n0 ≤ h6.size := Nat.le_trans Zs2 K6.1
  have KC8 : Keep h0 h6 [] := KC2.trans K6 all0
  have sz_r6 : h0.size ≤ r6 := Nat.le_trans KC2.1 z_r6
  refine Go.st st6 ?_
  obtain ⟨fs, hr, hrun, hended, hW, hsame⟩ := X6.leave (v := some (.ref r6)) (fun h => by rw [Bd.returns] at h; cases h) (BodyLoose.notSynchronized Bd)
  refine ⟨_, _, ?_, hP _ _ ⟨hrun, hended, _, _, rfl, ?_, ⟨_, rfl⟩, hW, hsame.mono (by decide) (by decide)⟩⟩
  · exact retOut X6 hx Bd.returns rfl (Or.inr (Or.inr (Or.inr (Or.inr ⟨rfl, rfl, rfl⟩)))) (hb hby dc5_20) hr
  · show ∃ (r : Addr) (kr : ClassId) (us : List Value), (some (.ref r6) : Option Value) = some (.ref r) ∧ Fr n0 _ ∧ Keep h0 T6.heap [] ∧ h0.size ≤ r ∧ n0 ≤ r ∧ Arv Z T6.heap r kr .byte L us (.int (0 : Int32)) ∧ (∀ i, i < L.toNatClampNeg → us.getD i (.int (0 : Int32)) = [(.int b0), (.int b1), (.int b2), (.int b3), (.int b4), (.int b5), (.int b6), (.int b7), (.int b8), (.int b9)].getD (6 + i) (.int (0 : Int32)))
    rw [e6]
    exact ⟨r6, kr6, us6, rfl, N6, KC8, sz_r6, g_r6, V_r6, U_r6⟩
theorem own_fit {v : Value} (h : fits .byte v = true) : ∃ z, v = .int z := by cases v <;> simp [fits] at h ⊢
theorem dc6_0 : decode method_2_code 0 = .ok (.iload_n 3, 1) := by decide +kernel
theorem dc6_1 : decode method_2_code 1 = .ok (.iload 4, 2) := by decide +kernel
theorem dc6_3 : decode method_2_code 3 = .ok (.if_icmp .ge 14, 3) := by decide +kernel
theorem dc6_6 : decode method_2_code 6 = .ok (.aload_n 0, 1) := by decide +kernel
theorem dc6_7 : decode method_2_code 7 = .ok (.iload_n 3, 1) := by decide +kernel
theorem dc6_8 : decode method_2_code 8 = .ok (.baload, 1) := by decide +kernel
theorem dc6_9 : decode method_2_code 9 = .ok (.aload_n 1, 1) := by decide +kernel
theorem dc6_10 : decode method_2_code 10 = .ok (.iload_n 2, 1) := by decide +kernel
theorem dc6_11 : decode method_2_code 11 = .ok (.iload_n 3, 1) := by decide +kernel
theorem dc6_12 : decode method_2_code 12 = .ok (.iadd, 1) := by decide +kernel
theorem dc6_13 : decode method_2_code 13 = .ok (.baload, 1) := by decide +kernel
theorem dc6_14 : decode method_2_code 14 = .ok (.if_icmp .ne 7, 3) := by decide +kernel
theorem dc6_17 : decode method_2_code 17 = .ok (.iconst 1, 1) := by decide +kernel
theorem dc6_18 : decode method_2_code 18 = .ok (.goto 4, 3) := by decide +kernel
theorem dc6_22 : decode method_2_code 22 = .ok (.ireturn, 1) := by decide +kernel
theorem pn_2 : plainName "com/example/pemgate/pemgate/core/DerContentsPinLaw" = true := by first | (simp [plainName, overriddenIn]; done) | decide +kernel
theorem ef_rmS (mi : MethodId) (r : Addr) (el : Addr) (S : Int32) (i : Int32) (L : Int32) (kr : ClassId) (us : List Value) (ke : ClassId) (vs : List Value) : entryFrame mi #[(.ref r), (.ref el), (.int S), (.int i), (.int L)] 5 = mkF mi 0 #[.val (.ref r), .val (.ref el), .val (.int S), .val (.int i), .val (.int L)] [] := by first | (simp [entryFrame, mkF, argsToLocals, Value.category]; done) | rfl
def Q_rmS (Z : State) (r : Addr) (el : Addr) (S : Int32) (i : Int32) (L : Int32) (kr : ClassId) (us : List Value) (ke : ClassId) (vs : List Value) (h0 : Heap) (n0 : Nat) (vv_ : Option Value) (hh_ : Heap) (LL_ : List Loc) : Prop := vv_ = some (.int (1 : Int32)) ∧ Fr n0 LL_ ∧ hh_ = h0
set_option maxRecDepth 65536 in
set_option maxHeartbeats 40000000 in
theorem rmS (l : Launch) (Z : State) (a0 : Array Value) (hw : ∀ d ∈ tables_1, d.before a0 Z = true) (ws : List Jvm.Cond) (r : Addr) (el : Addr) (S : Int32) (i : Int32) (L : Int32) (kr : ClassId) (us : List Value) (ke : ClassId) (vs : List Value) (h0 : Heap) (n0 : Nat) (Z0 : n0 ≤ h0.size) (A0 : Arv Z h0 el ke .byte (10 : Int32) vs (.int (0 : Int32))) (R0 : Arv Z h0 r kr .byte L us (.int (0 : Int32))) (hi : ¬ i < 0) (hU : i < L → ¬ (S + i) < 0 ∧ (S + i) < (10 : Int32) ∧ ∃ z : Int32, us.getD i.toNatClampNeg (.int (0 : Int32)) = .int z ∧ vs.getD (S + i).toNatClampNeg (.int (0 : Int32)) = .int z) :
    MetFree l (⟨"com/example/pemgate/pemgate/core/DerContentsPinLaw", "same", "([B[BIII)Z"⟩ : MethodName) (head1 (Jvm.Cond.code (⟨"com/example/pemgate/pemgate/core/DerContentsPinLaw", "same", "([B[BIII)Z"⟩ : MethodName) method_2_code 5 (some .boolean) :: ws) ({ frames := 0, cells := 0, slots := 0, locals := 0 } : Room)) (fun aa_ U => aa_ = #[(.ref r), (.ref el), (.int S), (.int i), (.int L)] ∧ Z.Warmed39 U.vm ∧ U.heap = h0) (fun _ _ _ _ _ => True) (fun _ U oo_ UV_ => ∃ vv_ LL_, oo_ = .returned vv_ ∧ Q_rmS Z r el S i L kr us ke vs h0 n0 vv_ UV_.heap LL_ ∧ FrameEnd U oo_ UV_ LL_ ({ frames := 0, cells := 0, slots := 0, locals := 0 } : Room).cells ({ frames := 0, cells := 0, slots := 0, locals := 0 } : Room).slots) := by
  refine MetFree.of_bodySF (plainFor_of_name pn_2) hisR ?_
  intro pg ev si mi args below meth ci s₁ Bd hml0 hP0 hK
  obtain ⟨rfl, hZ, hh⟩ := hP0
  have hx := Bd.exec
  have hby := Bd.bytes
  have hml : ci.maxLocals = 5 := hml0
  have hown : si.vm.findClass "com/example/pemgate/pemgate/core/DerContentsPinLaw" = some mi.cls := findClass_of_methodNamed Bd.named
  have hnm := (name_of_methodNamed Bd.named Bd.method).1
  have X0 : Stand pg l ev ({ frames := 0, cells := 0, slots := 0, locals := 0 } : Room) si mi #[(.ref r), (.ref el), (.int S), (.int i), (.int L)] below meth ci s₁ [] 0 0 := Stand.of_body Bd
  have e0 : s₁.heap = h0 := by rw [← hh, Bd.state]; rfl
  have N0 := Fr.nil n0
  refine Go.start (fun P hP => ?_)
  refine Go.st (fun t_ k_ => castTop (ef_rmS mi r el S i L kr us ke vs) k_) (A := s₁.setTop (mkF mi 0 #[.val (.ref r), .val (.ref el), .val (.int S), .val (.int i), .val (.int L)] [])) ?_
  show Go _ _ _ (s₁.setTop (mkF mi 0 #[.val (.ref r), .val (.ref el), .val (.int S), .val (.int i), .val (.int L)] [])) _
  refine g_iloadN X0 hx hby dc6_0 rfl ?_
  refine g_iload X0 hx hby dc6_1 rfl ?_
  by_cases hc3_1 : i < L
  · refine g_icmpNo X0 hx hby dc6_3 (tlt hc3_1).2.1 ?_
    refine g_aloadN X0 hx hby dc6_6 rfl rfl ?_
    refine g_iloadN X0 hx hby dc6_7 rfl ?_
    have ov1 := R0
    obtain ⟨cl1, Ar1, q1, S1, M1, H1, G1⟩ := ov1
    obtain ⟨qq1, qq2, zz, hz1, hz2⟩ := hU hc3_1
    have hin1 : ¬ (i < 0 ∨ cl1.slots.size ≤ (i).toNatClampNeg) := inb_of S1 ⟨hi, hc3_1⟩
    have hat1 : cl1.slots[(i).toNatClampNeg]? = some (.int zz) := Has.at H1 hin1 hz1
    refine Go.st (X0.baloadBytes hx (j := i) (v := (.int zz)) (by rw [e0]; exact Ar1.1) (State.isArrayOf_alike hZ.alike Ar1.2.1) Ar1.2.2 hin1 hat1 (g := (mkF mi 8 #[.val (.ref r), .val (.ref el), .val (.int S), .val (.int i), .val (.int L)] [(.int i), (.ref r)])) rfl rfl (hb hby dc6_8)) ?_
    refine g_aloadN X0 hx hby dc6_9 rfl rfl ?_
    refine g_iloadN X0 hx hby dc6_10 rfl ?_
    refine g_iloadN X0 hx hby dc6_11 rfl ?_
    refine g_iadd X0 hx hby dc6_12 rfl ?_
    have ov2 := A0
    obtain ⟨cl2, Ar2, q2, S2, M2, H2, G2⟩ := ov2
    have hin2 : ¬ ((S + i) < 0 ∨ cl2.slots.size ≤ ((S + i)).toNatClampNeg) := inb_of S2 ⟨qq1, qq2⟩
    have hat2 : cl2.slots[((S + i)).toNatClampNeg]? = some (.int zz) := Has.at H2 hin2 hz2
    refine Go.st (X0.baloadBytes hx (j := (S + i)) (v := (.int zz)) (by rw [e0]; exact Ar2.1) (State.isArrayOf_alike hZ.alike Ar2.2.1) Ar2.2.2 hin2 hat2 (g := (mkF mi 13 #[.val (.ref r), .val (.ref el), .val (.int S), .val (.int i), .val (.int L)] [(.int (S + i)), (.ref el), (.int zz)])) rfl rfl (hb hby dc6_13)) ?_
    refine g_icmpNo X0 hx hby dc6_14 (teq rfl).2 ?_
    refine g_iconst X0 hx hby dc6_17 (v := 1) rfl ?_
    refine g_goto X0 hx hby dc6_18 (pc0 := 18) (pc' := 22) rfl (by decide) (by decide) ?_
    obtain ⟨fs, hr, hrun, hended, hW, hsame⟩ := X0.leave (v := some (.int 1)) (fun h => by rw [Bd.returns] at h; cases h) (BodyLoose.notSynchronized Bd)
    refine ⟨_, _, ?_, hP _ _ ⟨hrun, hended, _, _, rfl, ?_, ⟨_, rfl⟩, hW, hsame.mono (by decide) (by decide)⟩⟩
    · exact retN X0 hx (t := .boolean) Bd.returns (by simp) (hb hby dc6_22) hr
    · show (some (.int 1) : Option Value) = some (.int (1 : Int32)) ∧ Fr n0 _ ∧ s₁.heap = h0
      rw [e0]
      exact ⟨rfl, N0, rfl⟩
  · refine g_icmpYes X0 hx hby dc6_3 (flt hc3_1).2.1 (pc0 := 3) (pc' := 17) rfl (by decide) (by decide) ?_
    refine g_iconst X0 hx hby dc6_17 (v := 1) rfl ?_
    refine g_goto X0 hx hby dc6_18 (pc0 := 18) (pc' := 22) rfl (by decide) (by decide) ?_
    obtain ⟨fs, hr, hrun, hended, hW, hsame⟩ := X0.leave (v := some (.int 1)) (fun h => by rw [Bd.returns] at h; cases h) (BodyLoose.notSynchronized Bd)
    refine ⟨_, _, ?_, hP _ _ ⟨hrun, hended, _, _, rfl, ?_, ⟨_, rfl⟩, hW, hsame.mono (by decide) (by decide)⟩⟩
    · exact retN X0 hx (t := .boolean) Bd.returns (by simp) (hb hby dc6_22) hr
    · show (some (.int 1) : Option Value) = some (.int (1 : Int32)) ∧ Fr n0 _ ∧ s₁.heap = h0
      rw [e0]
      exact ⟨rfl, N0, rfl⟩
theorem own_tag (p tt : Int32) (h : tt = (if ((p &&& (255 : Int32)) &&& (31 : Int32)) = (31 : Int32) then ((p &&& (255 : Int32)) ^^^ (1 : Int32)) else (p &&& (255 : Int32)))) : ¬ ((((tt.toInt8.toInt32).toInt8.toInt32) &&& (31 : Int32)) = (31 : Int32)) := by
  have e1 := c_i2b tt
  have e2 := c_i2b tt.toInt8.toInt32
  have e3 := c_mask ((tt.toInt8.toInt32).toInt8.toInt32) 31 5 (by decide) (by decide)
  have e4 := c_mask (p &&& 255) 31 5 (by decide) (by decide)
  have e5 := c_xor2 (p &&& 255) 1
  have l1 : (1 : Int32).toInt = 1 := rfl
  have l31 : (31 : Int32).toInt = 31 := rfl
  rw [← Int32.toInt_inj]
  split at h
  · rename_i q; rw [← Int32.toInt_inj] at q; rw [← h] at e5; omega
  · rename_i q; rw [← Int32.toInt_inj] at q; rw [← h] at e4 q; omega
theorem own_n5 (f : Int32) : ((f &&& (2147483647 : Int32)) % (5 : Int32)) = 0 ∨ ((f &&& (2147483647 : Int32)) % (5 : Int32)) = 1 ∨ ((f &&& (2147483647 : Int32)) % (5 : Int32)) = 2 ∨ ((f &&& (2147483647 : Int32)) % (5 : Int32)) = 3 ∨ ((f &&& (2147483647 : Int32)) % (5 : Int32)) = 4 := by
  have e1 := c_mask f 2147483647 31 (by decide) (by decide)
  have e2 := c_irem (f &&& 2147483647) 5 5 rfl
  have l0 : (0 : Int32).toInt = 0 := rfl
  have l1 : (1 : Int32).toInt = 1 := rfl
  have l2 : (2 : Int32).toInt = 2 := rfl
  have l3 : (3 : Int32).toInt = 3 := rfl
  have l4 : (4 : Int32).toInt = 4 := rfl
  simp only [← Int32.toInt_inj]; omega
theorem own_l (q z L : Int32) (k : Int) (hz : z.toInt = k) (hk : 0 < k) (h : L = ((q &&& (2147483647 : Int32)) % z)) : 0 ≤ L.toInt ∧ L.toInt ≤ k - 1 := by
  have e1 := c_mask q 2147483647 31 (by decide) (by decide)
  have e2 := c_irem (q &&& 2147483647) z k hz
  rw [← h] at e2
  have e3 := e2.1 (by omega)
  have e4 := Int.emod_nonneg (q &&& 2147483647).toInt (show k ≠ 0 by omega)
  have e5 := Int.emod_lt_of_pos (q &&& 2147483647).toInt hk
  omega
theorem own_byte {L : Int32} (h1 : 0 ≤ L.toInt) (h2 : L.toInt ≤ 8) : (((L.toInt8.toInt32).toInt8.toInt32) &&& (255 : Int32)) = L := by
  have e1 := c_i2b L
  have e2 := c_i2b L.toInt8.toInt32
  have e3 := c_mask ((L.toInt8.toInt32).toInt8.toInt32) 255 8 (by decide) (by decide)
  apply Int32.toInt_inj.mp; omega
theorem own_nat {i L : Int32} (q : i < L) {k : Nat} (hk : i.toInt = k := by rfl) : k < L.toNatClampNeg := by
  rw [Int32.lt_iff_toInt_lt] at q
  simp only [Int32.toNatClampNeg]; omega
theorem pd_4 : parseMethodDescriptor "([B)[B" = some ⟨[(.array .byte)], some (.array .byte)⟩ := by decide +kernel
theorem pd_5 : parseMethodDescriptor "([B[BIII)Z" = some ⟨[(.array .byte), (.array .byte), .int, .int, .int], some .boolean⟩ := by decide +kernel
theorem ef_rm0 (mi : MethodId) (la : Int64) (lb : Int64) (tg : Int32) (fm : Int32) (ln : Int32) : entryFrame mi #[(.long la), (.long lb), (.int tg), (.int fm), (.int ln)] maxLocals = mkF mi 0 #[.val (.long la), .second, .val (.long lb), .second, .val (.int tg), .val (.int fm), .val (.int ln), .unset, .unset, .unset, .unset, .unset, .unset, .unset] [] := by first | (simp [entryFrame, mkF, argsToLocals, Value.category, maxLocals]; done) | rfl
def Q_rm0 (Z : State) (la : Int64) (lb : Int64) (tg : Int32) (fm : Int32) (ln : Int32) (h0 : Heap) (n0 : Nat) (vv_ : Option Value) (hh_ : Heap) (LL_ : List Loc) : Prop := vv_ = some (.int 1) ∧ Fr n0 LL_
set_option maxRecDepth 65536 in
set_option maxHeartbeats 40000000 in
theorem rm0 (l : Launch) (Z : State) (a0 : Array Value) (hw : ∀ d ∈ tables_1, d.before a0 Z = true) (ws : List Jvm.Cond) (la : Int64) (lb : Int64) (tg : Int32) (fm : Int32) (ln : Int32) (h0 : Heap) (n0 : Nat) (Z0 : n0 ≤ h0.size) :
    MetFree l x (head1 (Jvm.Cond.code x code maxLocals ret :: ws) room_1) (fun aa_ U => aa_ = #[(.long la), (.long lb), (.int tg), (.int fm), (.int ln)] ∧ Z.Warmed39 U.vm ∧ U.heap = h0) (fun _ _ _ _ _ => True) (fun _ U oo_ UV_ => ∃ vv_ LL_, oo_ = .returned vv_ ∧ Q_rm0 Z la lb tg fm ln h0 n0 vv_ UV_.heap LL_ ∧ FrameEnd U oo_ UV_ LL_ room_1.cells room_1.slots) := by
  refine MetFree.of_bodySF (plainFor_of_name pn_2) hisR ?_
  intro pg ev si mi args below meth ci s₁ Bd hml0 hP0 hK
  obtain ⟨rfl, hZ, hh⟩ := hP0
  have hx := Bd.exec
  have hby := Bd.bytes
  have hml : ci.maxLocals = 14 := hml0
  have hown : si.vm.findClass "com/example/pemgate/pemgate/core/DerContentsPinLaw" = some mi.cls := findClass_of_methodNamed Bd.named
  have hnm := (name_of_methodNamed Bd.named Bd.method).1
  have X0 : Stand pg l ev room_1 si mi #[(.long la), (.long lb), (.int tg), (.int fm), (.int ln)] below meth ci s₁ [] 0 0 := Stand.of_body Bd
  have e0 : s₁.heap = h0 := by rw [← hh, Bd.state]; rfl
  have N0 := Fr.nil n0
  refine Go.start (fun P hP => ?_)
  refine Go.st (fun t_ k_ => castTop (ef_rm0 mi la lb tg fm ln) k_) (A := s₁.setTop (mkF mi 0 #[.val (.long la), .second, .val (.long lb), .second, .val (.int tg), .val (.int fm), .val (.int ln), .unset, .unset, .unset, .unset, .unset, .unset, .unset] [])) ?_
  show Go _ _ _ (s₁.setTop (mkF mi 0 #[.val (.long la), .second, .val (.long lb), .second, .val (.int tg), .val (.int fm), .val (.int ln), .unset, .unset, .unset, .unset, .unset, .unset, .unset] [])) _
  refine g_bipush X0 hx hby at_0 (v := 10) rfl ?_
  obtain ⟨T1, h1, k1, X1, e1, E1, A1, st1⟩ := newP X0 hx hZ (hw _ (own_m 0 rfl)) e0 (g := (mkF mi 2 #[.val (.long la), .second, .val (.long lb), .second, .val (.int tg), .val (.int fm), .val (.int ln), .unset, .unset, .unset, .unset, .unset, .unset, .unset] [(.int 10)])) rfl (hb hby at_2) rfl (by decide) (cap := 10) (by decide) (by decide) (by decide) (by decide)
  obtain ⟨ob1, g1⟩ : ∃ z, z = h0.size := ⟨_, rfl⟩
  rw [← g1] at A1 st1
  have Zs2 : n0 ≤ h1.size := Nat.le_trans Z0 E1.1
  have g_ob1 : n0 ≤ ob1 := Nat.le_trans Z0 (Nat.le_of_eq g1.symm)
  have V1 : Arv Z h1 ob1 k1 .byte (10 : Int32) [(.int (0 : Int32)), (.int (0 : Int32)), (.int (0 : Int32)), (.int (0 : Int32)), (.int (0 : Int32)), (.int (0 : Int32)), (.int (0 : Int32)), (.int (0 : Int32)), (.int (0 : Int32)), (.int (0 : Int32))] (.int (0 : Int32)) := (Arv.new A1 (by decide)).pad (pad_rep [] (.int (0 : Int32)) 10)
  refine Go.st st1 ?_
  refine g_astore X1 hx hby at_4 rfl (l' := #[.val (.long la), .second, .val (.long lb), .second, .val (.int tg), .val (.int fm), .val (.int ln), .val (.ref ob1), .unset, .unset, .unset, .unset, .unset, .unset]) rfl ?_
  refine g_aload X1 hx hby at_6 rfl rfl ?_
  refine g_iconst X1 hx hby at_8 (v := 0) rfl ?_
  refine g_lloadN X1 hx hby at_9 rfl ?_
  refine Go.s (XS.l2i X1.here hx rfl (hb hby at_10) rfl) ?_
  refine g_i2b X1 hx hby at_11 rfl ?_
  have ov3 := V1
  obtain ⟨cl3, Ar3, q3, S3, M3, H3, G3⟩ := ov3
  have hin3 : ¬ ((0 : Int32) < 0 ∨ cl3.slots.size ≤ ((0 : Int32)).toNatClampNeg) := inb_of S3 ⟨by decide, by decide⟩
  obtain ⟨T4, h4, X4, e4, W4, st4⟩ := stB X1 hx hZ e1 Ar3 (j := (0 : Int32)) hin3 (g := (mkF mi 12 #[.val (.long la), .second, .val (.long lb), .second, .val (.int tg), .val (.int fm), .val (.int ln), .val (.ref ob1), .unset, .unset, .unset, .unset, .unset, .unset] [(.int ((la.toInt32).toInt8.toInt32)), (.int 0), (.ref ob1)])) rfl rfl (hb hby at_12)
  have Zs5 : n0 ≤ h4.size := Nat.le_trans Zs2 (Keep.of_wr W4).1
  have N5 := Fr.snoc X4 N0 g_ob1
  have V4 : Arv Z h4 ob1 k1 .byte (10 : Int32) [(.int (((la.toInt32).toInt8.toInt32).toInt8.toInt32)), (.int 0), (.int 0), (.int 0), (.int 0), (.int 0), (.int 0), (.int 0), (.int 0), (.int 0)] (.int (0 : Int32)) := Arv.set Ar3 q3 S3 M3 H3 G3 (fits_nar_byte _) W4 0 rfl (Nat.le_of_ble_eq_true rfl)
  refine Go.st st4 ?_
  refine g_aload X4 hx hby at_13 rfl rfl ?_
  refine g_iconst X4 hx hby at_15 (v := 1) rfl ?_
  refine g_lloadN X4 hx hby at_16 rfl ?_
  refine g_bipush X4 hx hby at_17 (v := 8) rfl ?_
  show Go _ _ _ (T4.setTop (mkF mi 19 #[.val (.long la), .second, .val (.long lb), .second, .val (.int tg), .val (.int fm), .val (.int ln), .val (.ref ob1), .unset, .unset, .unset, .unset, .unset, .unset] [(.int 8), (.long la), (.int 1), (.ref ob1)])) _
  refine Go.s (XS.lushr X4.here hx rfl (hb hby at_19) rfl) ?_
  refine Go.s (XS.l2i X4.here hx rfl (hb hby at_20) rfl) ?_
  refine g_i2b X4 hx hby at_21 rfl ?_
  have ov6 := V4
  obtain ⟨cl6, Ar6, q6, S6, M6, H6, G6⟩ := ov6
  have hin6 : ¬ ((1 : Int32) < 0 ∨ cl6.slots.size ≤ ((1 : Int32)).toNatClampNeg) := inb_of S6 ⟨by decide, by decide⟩
  obtain ⟨T7, h7, X7, e7, W7, st7⟩ := stB X4 hx hZ e4 Ar6 (j := (1 : Int32)) hin6 (g := (mkF mi 22 #[.val (.long la), .second, .val (.long lb), .second, .val (.int tg), .val (.int fm), .val (.int ln), .val (.ref ob1), .unset, .unset, .unset, .unset, .unset, .unset] [(.int ((((la.toUInt64 >>> ((8 : Int32) &&& 0x3f).toInt64.toUInt64).toInt64).toInt32).toInt8.toInt32)), (.int 1), (.ref ob1)])) rfl rfl (hb hby at_22)
  have Zs8 : n0 ≤ h7.size := Nat.le_trans Zs5 (Keep.of_wr W7).1
  have N8 := Fr.snoc X7 N5 g_ob1
  have V7 : Arv Z h7 ob1 k1 .byte (10 : Int32) [(.int (((la.toInt32).toInt8.toInt32).toInt8.toInt32)), (.int (((((la.toUInt64 >>> ((8 : Int32) &&& 0x3f).toInt64.toUInt64).toInt64).toInt32).toInt8.toInt32).toInt8.toInt32)), (.int 0), (.int 0), (.int 0), (.int 0), (.int 0), (.int 0), (.int 0), (.int 0)] (.int (0 : Int32)) := Arv.set Ar6 q6 S6 M6 H6 G6 (fits_nar_byte _) W7 1 rfl (Nat.le_of_ble_eq_true rfl)
  refine Go.st st7 ?_
  refine g_aload X7 hx hby at_23 rfl rfl ?_
  show Go _ _ _ (T7.setTop (mkF mi 25 #[.val (.long la), .second, .val (.long lb), .second, .val (.int tg), .val (.int fm), .val (.int ln), .val (.ref ob1), .unset, .unset, .unset, .unset, .unset, .unset] [(.ref ob1)])) _
  refine g_iconst X7 hx hby at_25 (v := 2) rfl ?_
  refine g_lloadN X7 hx hby at_26 rfl ?_
  refine g_bipush X7 hx hby at_27 (v := 16) rfl ?_
  refine Go.s (XS.lushr X7.here hx rfl (hb hby at_29) rfl) ?_
  refine Go.s (XS.l2i X7.here hx rfl (hb hby at_30) rfl) ?_
  show Go _ _ _ (T7.setTop (mkF mi 31 #[.val (.long la), .second, .val (.long lb), .second, .val (.int tg), .val (.int fm), .val (.int ln), .val (.ref ob1), .unset, .unset, .unset, .unset, .unset, .unset] [(.int (((la.toUInt64 >>> ((16 : Int32) &&& 0x3f).toInt64.toUInt64).toInt64).toInt32)), (.int 2), (.ref ob1)])) _
  refine g_i2b X7 hx hby at_31 rfl ?_
  have ov9 := V7
  obtain ⟨cl9, Ar9, q9, S9, M9, H9, G9⟩ := ov9
  have hin9 : ¬ ((2 : Int32) < 0 ∨ cl9.slots.size ≤ ((2 : Int32)).toNatClampNeg) := inb_of S9 ⟨by decide, by decide⟩
  obtain ⟨T10, h10, X10, e10, W10, st10⟩ := stB X7 hx hZ e7 Ar9 (j := (2 : Int32)) hin9 (g := (mkF mi 32 #[.val (.long la), .second, .val (.long lb), .second, .val (.int tg), .val (.int fm), .val (.int ln), .val (.ref ob1), .unset, .unset, .unset, .unset, .unset, .unset] [(.int ((((la.toUInt64 >>> ((16 : Int32) &&& 0x3f).toInt64.toUInt64).toInt64).toInt32).toInt8.toInt32)), (.int 2), (.ref ob1)])) rfl rfl (hb hby at_32)
  have Zs11 : n0 ≤ h10.size := Nat.le_trans Zs8 (Keep.of_wr W10).1
  have N11 := Fr.snoc X10 N8 g_ob1
  have V10 : Arv Z h10 ob1 k1 .byte (10 : Int32) [(.int (((la.toInt32).toInt8.toInt32).toInt8.toInt32)), (.int (((((la.toUInt64 >>> ((8 : Int32) &&& 0x3f).toInt64.toUInt64).toInt64).toInt32).toInt8.toInt32).toInt8.toInt32)), (.int (((((la.toUInt64 >>> ((16 : Int32) &&& 0x3f).toInt64.toUInt64).toInt64).toInt32).toInt8.toInt32).toInt8.toInt32)), (.int 0), (.int 0), (.int 0), (.int 0), (.int 0), (.int 0), (.int 0)] (.int (0 : Int32)) := Arv.set Ar9 q9 S9 M9 H9 G9 (fits_nar_byte _) W10 2 rfl (Nat.le_of_ble_eq_true rfl)
  refine Go.st st10 ?_
  refine g_aload X10 hx hby at_33 rfl rfl ?_
  refine g_iconst X10 hx hby at_35 (v := 3) rfl ?_
  refine g_lloadN X10 hx hby at_36 rfl ?_
  refine g_bipush X10 hx hby at_37 (v := 24) rfl ?_
  refine Go.s (XS.lushr X10.here hx rfl (hb hby at_39) rfl) ?_
  refine Go.s (XS.l2i X10.here hx rfl (hb hby at_40) rfl) ?_
  show Go _ _ _ (T10.setTop (mkF mi 41 #[.val (.long la), .second, .val (.long lb), .second, .val (.int tg), .val (.int fm), .val (.int ln), .val (.ref ob1), .unset, .unset, .unset, .unset, .unset, .unset] [(.int (((la.toUInt64 >>> ((24 : Int32) &&& 0x3f).toInt64.toUInt64).toInt64).toInt32)), (.int 3), (.ref ob1)])) _
  refine g_i2b X10 hx hby at_41 rfl ?_
  have ov12 := V10
  obtain ⟨cl12, Ar12, q12, S12, M12, H12, G12⟩ := ov12
  have hin12 : ¬ ((3 : Int32) < 0 ∨ cl12.slots.size ≤ ((3 : Int32)).toNatClampNeg) := inb_of S12 ⟨by decide, by decide⟩
  obtain ⟨T13, h13, X13, e13, W13, st13⟩ := stB X10 hx hZ e10 Ar12 (j := (3 : Int32)) hin12 (g := (mkF mi 42 #[.val (.long la), .second, .val (.long lb), .second, .val (.int tg), .val (.int fm), .val (.int ln), .val (.ref ob1), .unset, .unset, .unset, .unset, .unset, .unset] [(.int ((((la.toUInt64 >>> ((24 : Int32) &&& 0x3f).toInt64.toUInt64).toInt64).toInt32).toInt8.toInt32)), (.int 3), (.ref ob1)])) rfl rfl (hb hby at_42)
  have Zs14 : n0 ≤ h13.size := Nat.le_trans Zs11 (Keep.of_wr W13).1
  have N14 := Fr.snoc X13 N11 g_ob1
  have V13 : Arv Z h13 ob1 k1 .byte (10 : Int32) [(.int (((la.toInt32).toInt8.toInt32).toInt8.toInt32)), (.int (((((la.toUInt64 >>> ((8 : Int32) &&& 0x3f).toInt64.toUInt64).toInt64).toInt32).toInt8.toInt32).toInt8.toInt32)), (.int (((((la.toUInt64 >>> ((16 : Int32) &&& 0x3f).toInt64.toUInt64).toInt64).toInt32).toInt8.toInt32).toInt8.toInt32)), (.int (((((la.toUInt64 >>> ((24 : Int32) &&& 0x3f).toInt64.toUInt64).toInt64).toInt32).toInt8.toInt32).toInt8.toInt32)), (.int 0), (.int 0), (.int 0), (.int 0), (.int 0), (.int 0)] (.int (0 : Int32)) := Arv.set Ar12 q12 S12 M12 H12 G12 (fits_nar_byte _) W13 3 rfl (Nat.le_of_ble_eq_true rfl)
  refine Go.st st13 ?_
  refine g_aload X13 hx hby at_43 rfl rfl ?_
  refine g_iconst X13 hx hby at_45 (v := 4) rfl ?_
  refine g_lloadN X13 hx hby at_46 rfl ?_
  refine g_bipush X13 hx hby at_47 (v := 32) rfl ?_
  refine Go.s (XS.lushr X13.here hx rfl (hb hby at_49) rfl) ?_
  refine Go.s (XS.l2i X13.here hx rfl (hb hby at_50) rfl) ?_
  show Go _ _ _ (T13.setTop (mkF mi 51 #[.val (.long la), .second, .val (.long lb), .second, .val (.int tg), .val (.int fm), .val (.int ln), .val (.ref ob1), .unset, .unset, .unset, .unset, .unset, .unset] [(.int (((la.toUInt64 >>> ((32 : Int32) &&& 0x3f).toInt64.toUInt64).toInt64).toInt32)), (.int 4), (.ref ob1)])) _
  refine g_i2b X13 hx hby at_51 rfl ?_
  have ov15 := V13
  obtain ⟨cl15, Ar15, q15, S15, M15, H15, G15⟩ := ov15
  have hin15 : ¬ ((4 : Int32) < 0 ∨ cl15.slots.size ≤ ((4 : Int32)).toNatClampNeg) := inb_of S15 ⟨by decide, by decide⟩
  obtain ⟨T16, h16, X16, e16, W16, st16⟩ := stB X13 hx hZ e13 Ar15 (j := (4 : Int32)) hin15 (g := (mkF mi 52 #[.val (.long la), .second, .val (.long lb), .second, .val (.int tg), .val (.int fm), .val (.int ln), .val (.ref ob1), .unset, .unset, .unset, .unset, .unset, .unset] [(.int ((((la.toUInt64 >>> ((32 : Int32) &&& 0x3f).toInt64.toUInt64).toInt64).toInt32).toInt8.toInt32)), (.int 4), (.ref ob1)])) rfl rfl (hb hby at_52)
  have Zs17 : n0 ≤ h16.size := Nat.le_trans Zs14 (Keep.of_wr W16).1
  have N17 := Fr.snoc X16 N14 g_ob1
  have V16 : Arv Z h16 ob1 k1 .byte (10 : Int32) [(.int (((la.toInt32).toInt8.toInt32).toInt8.toInt32)), (.int (((((la.toUInt64 >>> ((8 : Int32) &&& 0x3f).toInt64.toUInt64).toInt64).toInt32).toInt8.toInt32).toInt8.toInt32)), (.int (((((la.toUInt64 >>> ((16 : Int32) &&& 0x3f).toInt64.toUInt64).toInt64).toInt32).toInt8.toInt32).toInt8.toInt32)), (.int (((((la.toUInt64 >>> ((24 : Int32) &&& 0x3f).toInt64.toUInt64).toInt64).toInt32).toInt8.toInt32).toInt8.toInt32)), (.int (((((la.toUInt64 >>> ((32 : Int32) &&& 0x3f).toInt64.toUInt64).toInt64).toInt32).toInt8.toInt32).toInt8.toInt32)), (.int 0), (.int 0), (.int 0), (.int 0), (.int 0)] (.int (0 : Int32)) := Arv.set Ar15 q15 S15 M15 H15 G15 (fits_nar_byte _) W16 4 rfl (Nat.le_of_ble_eq_true rfl)
  refine Go.st st16 ?_
  refine g_aload X16 hx hby at_53 rfl rfl ?_
  refine g_iconst X16 hx hby at_55 (v := 5) rfl ?_
  refine g_lloadN X16 hx hby at_56 rfl ?_
  refine g_bipush X16 hx hby at_57 (v := 40) rfl ?_
  refine Go.s (XS.lushr X16.here hx rfl (hb hby at_59) rfl) ?_
  refine Go.s (XS.l2i X16.here hx rfl (hb hby at_60) rfl) ?_
  show Go _ _ _ (T16.setTop (mkF mi 61 #[.val (.long la), .second, .val (.long lb), .second, .val (.int tg), .val (.int fm), .val (.int ln), .val (.ref ob1), .unset, .unset, .unset, .unset, .unset, .unset] [(.int (((la.toUInt64 >>> ((40 : Int32) &&& 0x3f).toInt64.toUInt64).toInt64).toInt32)), (.int 5), (.ref ob1)])) _
  refine g_i2b X16 hx hby at_61 rfl ?_
  have ov18 := V16
  obtain ⟨cl18, Ar18, q18, S18, M18, H18, G18⟩ := ov18
  have hin18 : ¬ ((5 : Int32) < 0 ∨ cl18.slots.size ≤ ((5 : Int32)).toNatClampNeg) := inb_of S18 ⟨by decide, by decide⟩
  obtain ⟨T19, h19, X19, e19, W19, st19⟩ := stB X16 hx hZ e16 Ar18 (j := (5 : Int32)) hin18 (g := (mkF mi 62 #[.val (.long la), .second, .val (.long lb), .second, .val (.int tg), .val (.int fm), .val (.int ln), .val (.ref ob1), .unset, .unset, .unset, .unset, .unset, .unset] [(.int ((((la.toUInt64 >>> ((40 : Int32) &&& 0x3f).toInt64.toUInt64).toInt64).toInt32).toInt8.toInt32)), (.int 5), (.ref ob1)])) rfl rfl (hb hby at_62)
  have Zs20 : n0 ≤ h19.size := Nat.le_trans Zs17 (Keep.of_wr W19).1
  have N20 := Fr.snoc X19 N17 g_ob1
  have V19 : Arv Z h19 ob1 k1 .byte (10 : Int32) [(.int (((la.toInt32).toInt8.toInt32).toInt8.toInt32)), (.int (((((la.toUInt64 >>> ((8 : Int32) &&& 0x3f).toInt64.toUInt64).toInt64).toInt32).toInt8.toInt32).toInt8.toInt32)), (.int (((((la.toUInt64 >>> ((16 : Int32) &&& 0x3f).toInt64.toUInt64).toInt64).toInt32).toInt8.toInt32).toInt8.toInt32)), (.int (((((la.toUInt64 >>> ((24 : Int32) &&& 0x3f).toInt64.toUInt64).toInt64).toInt32).toInt8.toInt32).toInt8.toInt32)), (.int (((((la.toUInt64 >>> ((32 : Int32) &&& 0x3f).toInt64.toUInt64).toInt64).toInt32).toInt8.toInt32).toInt8.toInt32)), (.int (((((la.toUInt64 >>> ((40 : Int32) &&& 0x3f).toInt64.toUInt64).toInt64).toInt32).toInt8.toInt32).toInt8.toInt32)), (.int 0), (.int 0), (.int 0), (.int 0)] (.int (0 : Int32)) := Arv.set Ar18 q18 S18 M18 H18 G18 (fits_nar_byte _) W19 5 rfl (Nat.le_of_ble_eq_true rfl)
  refine Go.st st19 ?_
  refine g_aload X19 hx hby at_63 rfl rfl ?_
  refine g_bipush X19 hx hby at_65 (v := 6) rfl ?_
  refine g_lloadN X19 hx hby at_67 rfl ?_
  refine g_bipush X19 hx hby at_68 (v := 48) rfl ?_
  refine Go.s (XS.lushr X19.here hx rfl (hb hby at_70) rfl) ?_
  refine Go.s (XS.l2i X19.here hx rfl (hb hby at_71) rfl) ?_
  show Go _ _ _ (T19.setTop (mkF mi 72 #[.val (.long la), .second, .val (.long lb), .second, .val (.int tg), .val (.int fm), .val (.int ln), .val (.ref ob1), .unset, .unset, .unset, .unset, .unset, .unset] [(.int (((la.toUInt64 >>> ((48 : Int32) &&& 0x3f).toInt64.toUInt64).toInt64).toInt32)), (.int 6), (.ref ob1)])) _
  refine g_i2b X19 hx hby at_72 rfl ?_
  have ov21 := V19
  obtain ⟨cl21, Ar21, q21, S21, M21, H21, G21⟩ := ov21
  have hin21 : ¬ ((6 : Int32) < 0 ∨ cl21.slots.size ≤ ((6 : Int32)).toNatClampNeg) := inb_of S21 ⟨by decide, by decide⟩
  obtain ⟨T22, h22, X22, e22, W22, st22⟩ := stB X19 hx hZ e19 Ar21 (j := (6 : Int32)) hin21 (g := (mkF mi 73 #[.val (.long la), .second, .val (.long lb), .second, .val (.int tg), .val (.int fm), .val (.int ln), .val (.ref ob1), .unset, .unset, .unset, .unset, .unset, .unset] [(.int ((((la.toUInt64 >>> ((48 : Int32) &&& 0x3f).toInt64.toUInt64).toInt64).toInt32).toInt8.toInt32)), (.int 6), (.ref ob1)])) rfl rfl (hb hby at_73)
  have Zs23 : n0 ≤ h22.size := Nat.le_trans Zs20 (Keep.of_wr W22).1
  have N23 := Fr.snoc X22 N20 g_ob1
  have V22 : Arv Z h22 ob1 k1 .byte (10 : Int32) [(.int (((la.toInt32).toInt8.toInt32).toInt8.toInt32)), (.int (((((la.toUInt64 >>> ((8 : Int32) &&& 0x3f).toInt64.toUInt64).toInt64).toInt32).toInt8.toInt32).toInt8.toInt32)), (.int (((((la.toUInt64 >>> ((16 : Int32) &&& 0x3f).toInt64.toUInt64).toInt64).toInt32).toInt8.toInt32).toInt8.toInt32)), (.int (((((la.toUInt64 >>> ((24 : Int32) &&& 0x3f).toInt64.toUInt64).toInt64).toInt32).toInt8.toInt32).toInt8.toInt32)), (.int (((((la.toUInt64 >>> ((32 : Int32) &&& 0x3f).toInt64.toUInt64).toInt64).toInt32).toInt8.toInt32).toInt8.toInt32)), (.int (((((la.toUInt64 >>> ((40 : Int32) &&& 0x3f).toInt64.toUInt64).toInt64).toInt32).toInt8.toInt32).toInt8.toInt32)), (.int (((((la.toUInt64 >>> ((48 : Int32) &&& 0x3f).toInt64.toUInt64).toInt64).toInt32).toInt8.toInt32).toInt8.toInt32)), (.int 0), (.int 0), (.int 0)] (.int (0 : Int32)) := Arv.set Ar21 q21 S21 M21 H21 G21 (fits_nar_byte _) W22 6 rfl (Nat.le_of_ble_eq_true rfl)
  refine Go.st st22 ?_
  refine g_aload X22 hx hby at_74 rfl rfl ?_
  refine g_bipush X22 hx hby at_76 (v := 7) rfl ?_
  refine g_lloadN X22 hx hby at_78 rfl ?_
  refine g_bipush X22 hx hby at_79 (v := 56) rfl ?_
  refine Go.s (XS.lushr X22.here hx rfl (hb hby at_81) rfl) ?_
  refine Go.s (XS.l2i X22.here hx rfl (hb hby at_82) rfl) ?_
  show Go _ _ _ (T22.setTop (mkF mi 83 #[.val (.long la), .second, .val (.long lb), .second, .val (.int tg), .val (.int fm), .val (.int ln), .val (.ref ob1), .unset, .unset, .unset, .unset, .unset, .unset] [(.int (((la.toUInt64 >>> ((56 : Int32) &&& 0x3f).toInt64.toUInt64).toInt64).toInt32)), (.int 7), (.ref ob1)])) _
  refine g_i2b X22 hx hby at_83 rfl ?_
  have ov24 := V22
  obtain ⟨cl24, Ar24, q24, S24, M24, H24, G24⟩ := ov24
  have hin24 : ¬ ((7 : Int32) < 0 ∨ cl24.slots.size ≤ ((7 : Int32)).toNatClampNeg) := inb_of S24 ⟨by decide, by decide⟩
  obtain ⟨T25, h25, X25, e25, W25, st25⟩ := stB X22 hx hZ e22 Ar24 (j := (7 : Int32)) hin24 (g := (mkF mi 84 #[.val (.long la), .second, .val (.long lb), .second, .val (.int tg), .val (.int fm), .val (.int ln), .val (.ref ob1), .unset, .unset, .unset, .unset, .unset, .unset] [(.int ((((la.toUInt64 >>> ((56 : Int32) &&& 0x3f).toInt64.toUInt64).toInt64).toInt32).toInt8.toInt32)), (.int 7), (.ref ob1)])) rfl rfl (hb hby at_84)
  have Zs26 : n0 ≤ h25.size := Nat.le_trans Zs23 (Keep.of_wr W25).1
  have N26 := Fr.snoc X25 N23 g_ob1
  have V25 : Arv Z h25 ob1 k1 .byte (10 : Int32) [(.int (((la.toInt32).toInt8.toInt32).toInt8.toInt32)), (.int (((((la.toUInt64 >>> ((8 : Int32) &&& 0x3f).toInt64.toUInt64).toInt64).toInt32).toInt8.toInt32).toInt8.toInt32)), (.int (((((la.toUInt64 >>> ((16 : Int32) &&& 0x3f).toInt64.toUInt64).toInt64).toInt32).toInt8.toInt32).toInt8.toInt32)), (.int (((((la.toUInt64 >>> ((24 : Int32) &&& 0x3f).toInt64.toUInt64).toInt64).toInt32).toInt8.toInt32).toInt8.toInt32)), (.int (((((la.toUInt64 >>> ((32 : Int32) &&& 0x3f).toInt64.toUInt64).toInt64).toInt32).toInt8.toInt32).toInt8.toInt32)), (.int (((((la.toUInt64 >>> ((40 : Int32) &&& 0x3f).toInt64.toUInt64).toInt64).toInt32).toInt8.toInt32).toInt8.toInt32)), (.int (((((la.toUInt64 >>> ((48 : Int32) &&& 0x3f).toInt64.toUInt64).toInt64).toInt32).toInt8.toInt32).toInt8.toInt32)), (.int (((((la.toUInt64 >>> ((56 : Int32) &&& 0x3f).toInt64.toUInt64).toInt64).toInt32).toInt8.toInt32).toInt8.toInt32)), (.int 0), (.int 0)] (.int (0 : Int32)) := Arv.set Ar24 q24 S24 M24 H24 G24 (fits_nar_byte _) W25 7 rfl (Nat.le_of_ble_eq_true rfl)
  refine Go.st st25 ?_
  refine g_aload X25 hx hby at_85 rfl rfl ?_
  refine g_bipush X25 hx hby at_87 (v := 8) rfl ?_
  refine g_lloadN X25 hx hby at_89 rfl ?_
  refine Go.s (XS.l2i X25.here hx rfl (hb hby at_90) rfl) ?_
  refine g_i2b X25 hx hby at_91 rfl ?_
  have ov27 := V25
  obtain ⟨cl27, Ar27, q27, S27, M27, H27, G27⟩ := ov27
  have hin27 : ¬ ((8 : Int32) < 0 ∨ cl27.slots.size ≤ ((8 : Int32)).toNatClampNeg) := inb_of S27 ⟨by decide, by decide⟩
  obtain ⟨T28, h28, X28, e28, W28, st28⟩ := stB X25 hx hZ e25 Ar27 (j := (8 : Int32)) hin27 (g := (mkF mi 92 #[.val (.long la), .second, .val (.long lb), .second, .val (.int tg), .val (.int fm), .val (.int ln), .val (.ref ob1), .unset, .unset, .unset, .unset, .unset, .unset] [(.int ((lb.toInt32).toInt8.toInt32)), (.int 8), (.ref ob1)])) rfl rfl (hb hby at_92)
  have Zs29 : n0 ≤ h28.size := Nat.le_trans Zs26 (Keep.of_wr W28).1
  have N29 := Fr.snoc X28 N26 g_ob1
  have V28 : Arv Z h28 ob1 k1 .byte (10 : Int32) [(.int (((la.toInt32).toInt8.toInt32).toInt8.toInt32)), (.int (((((la.toUInt64 >>> ((8 : Int32) &&& 0x3f).toInt64.toUInt64).toInt64).toInt32).toInt8.toInt32).toInt8.toInt32)), (.int (((((la.toUInt64 >>> ((16 : Int32) &&& 0x3f).toInt64.toUInt64).toInt64).toInt32).toInt8.toInt32).toInt8.toInt32)), (.int (((((la.toUInt64 >>> ((24 : Int32) &&& 0x3f).toInt64.toUInt64).toInt64).toInt32).toInt8.toInt32).toInt8.toInt32)), (.int (((((la.toUInt64 >>> ((32 : Int32) &&& 0x3f).toInt64.toUInt64).toInt64).toInt32).toInt8.toInt32).toInt8.toInt32)), (.int (((((la.toUInt64 >>> ((40 : Int32) &&& 0x3f).toInt64.toUInt64).toInt64).toInt32).toInt8.toInt32).toInt8.toInt32)), (.int (((((la.toUInt64 >>> ((48 : Int32) &&& 0x3f).toInt64.toUInt64).toInt64).toInt32).toInt8.toInt32).toInt8.toInt32)), (.int (((((la.toUInt64 >>> ((56 : Int32) &&& 0x3f).toInt64.toUInt64).toInt64).toInt32).toInt8.toInt32).toInt8.toInt32)), (.int (((lb.toInt32).toInt8.toInt32).toInt8.toInt32)), (.int 0)] (.int (0 : Int32)) := Arv.set Ar27 q27 S27 M27 H27 G27 (fits_nar_byte _) W28 8 rfl (Nat.le_of_ble_eq_true rfl)
  refine Go.st st28 ?_
  refine g_aload X28 hx hby at_93 rfl rfl ?_
  refine g_bipush X28 hx hby at_95 (v := 9) rfl ?_
  refine g_lloadN X28 hx hby at_97 rfl ?_
  refine g_bipush X28 hx hby at_98 (v := 8) rfl ?_
  refine Go.s (XS.lushr X28.here hx rfl (hb hby at_100) rfl) ?_
  show Go _ _ _ (T28.setTop (mkF mi 101 #[.val (.long la), .second, .val (.long lb), .second, .val (.int tg), .val (.int fm), .val (.int ln), .val (.ref ob1), .unset, .unset, .unset, .unset, .unset, .unset] [(.long ((lb.toUInt64 >>> ((8 : Int32) &&& 0x3f).toInt64.toUInt64).toInt64)), (.int 9), (.ref ob1)])) _
  refine Go.s (XS.l2i X28.here hx rfl (hb hby at_101) rfl) ?_
  refine g_i2b X28 hx hby at_102 rfl ?_
  have ov30 := V28
  obtain ⟨cl30, Ar30, q30, S30, M30, H30, G30⟩ := ov30
  have hin30 : ¬ ((9 : Int32) < 0 ∨ cl30.slots.size ≤ ((9 : Int32)).toNatClampNeg) := inb_of S30 ⟨by decide, by decide⟩
  obtain ⟨T31, h31, X31, e31, W31, st31⟩ := stB X28 hx hZ e28 Ar30 (j := (9 : Int32)) hin30 (g := (mkF mi 103 #[.val (.long la), .second, .val (.long lb), .second, .val (.int tg), .val (.int fm), .val (.int ln), .val (.ref ob1), .unset, .unset, .unset, .unset, .unset, .unset] [(.int ((((lb.toUInt64 >>> ((8 : Int32) &&& 0x3f).toInt64.toUInt64).toInt64).toInt32).toInt8.toInt32)), (.int 9), (.ref ob1)])) rfl rfl (hb hby at_103)
  have Zs32 : n0 ≤ h31.size := Nat.le_trans Zs29 (Keep.of_wr W31).1
  have N32 := Fr.snoc X31 N29 g_ob1
  have V31 : Arv Z h31 ob1 k1 .byte (10 : Int32) [(.int (((la.toInt32).toInt8.toInt32).toInt8.toInt32)), (.int (((((la.toUInt64 >>> ((8 : Int32) &&& 0x3f).toInt64.toUInt64).toInt64).toInt32).toInt8.toInt32).toInt8.toInt32)), (.int (((((la.toUInt64 >>> ((16 : Int32) &&& 0x3f).toInt64.toUInt64).toInt64).toInt32).toInt8.toInt32).toInt8.toInt32)), (.int (((((la.toUInt64 >>> ((24 : Int32) &&& 0x3f).toInt64.toUInt64).toInt64).toInt32).toInt8.toInt32).toInt8.toInt32)), (.int (((((la.toUInt64 >>> ((32 : Int32) &&& 0x3f).toInt64.toUInt64).toInt64).toInt32).toInt8.toInt32).toInt8.toInt32)), (.int (((((la.toUInt64 >>> ((40 : Int32) &&& 0x3f).toInt64.toUInt64).toInt64).toInt32).toInt8.toInt32).toInt8.toInt32)), (.int (((((la.toUInt64 >>> ((48 : Int32) &&& 0x3f).toInt64.toUInt64).toInt64).toInt32).toInt8.toInt32).toInt8.toInt32)), (.int (((((la.toUInt64 >>> ((56 : Int32) &&& 0x3f).toInt64.toUInt64).toInt64).toInt32).toInt8.toInt32).toInt8.toInt32)), (.int (((lb.toInt32).toInt8.toInt32).toInt8.toInt32)), (.int (((((lb.toUInt64 >>> ((8 : Int32) &&& 0x3f).toInt64.toUInt64).toInt64).toInt32).toInt8.toInt32).toInt8.toInt32))] (.int (0 : Int32)) := Arv.set Ar30 q30 S30 M30 H30 G30 (fits_nar_byte _) W31 9 rfl (Nat.le_of_ble_eq_true rfl)
  refine Go.st st31 ?_
  show Go _ _ _ (T31.setTop (mkF mi 104 #[.val (.long la), .second, .val (.long lb), .second, .val (.int tg), .val (.int fm), .val (.int ln), .val (.ref ob1), .unset, .unset, .unset, .unset, .unset, .unset] [])) _
  have VG := V31
  obtain ⟨y1, hy1⟩ : ∃ z, z = (((((la.toUInt64 >>> ((8 : Int32) &&& 0x3f).toInt64.toUInt64).toInt64).toInt32).toInt8.toInt32).toInt8.toInt32) := ⟨_, rfl⟩
  rw [← hy1] at VG
  obtain ⟨y2, hy2⟩ : ∃ z, z = (((((la.toUInt64 >>> ((16 : Int32) &&& 0x3f).toInt64.toUInt64).toInt64).toInt32).toInt8.toInt32).toInt8.toInt32) := ⟨_, rfl⟩
  rw [← hy2] at VG
  obtain ⟨y3, hy3⟩ : ∃ z, z = (((((la.toUInt64 >>> ((24 : Int32) &&& 0x3f).toInt64.toUInt64).toInt64).toInt32).toInt8.toInt32).toInt8.toInt32) := ⟨_, rfl⟩
  rw [← hy3] at VG
  obtain ⟨y4, hy4⟩ : ∃ z, z = (((((la.toUInt64 >>> ((32 : Int32) &&& 0x3f).toInt64.toUInt64).toInt64).toInt32).toInt8.toInt32).toInt8.toInt32) := ⟨_, rfl⟩
  rw [← hy4] at VG
  obtain ⟨y5, hy5⟩ : ∃ z, z = (((((la.toUInt64 >>> ((40 : Int32) &&& 0x3f).toInt64.toUInt64).toInt64).toInt32).toInt8.toInt32).toInt8.toInt32) := ⟨_, rfl⟩
  rw [← hy5] at VG
  obtain ⟨y6, hy6⟩ : ∃ z, z = (((((la.toUInt64 >>> ((48 : Int32) &&& 0x3f).toInt64.toUInt64).toInt64).toInt32).toInt8.toInt32).toInt8.toInt32) := ⟨_, rfl⟩
  rw [← hy6] at VG
  obtain ⟨y7, hy7⟩ : ∃ z, z = (((((la.toUInt64 >>> ((56 : Int32) &&& 0x3f).toInt64.toUInt64).toInt64).toInt32).toInt8.toInt32).toInt8.toInt32) := ⟨_, rfl⟩
  rw [← hy7] at VG
  obtain ⟨y8, hy8⟩ : ∃ z, z = (((lb.toInt32).toInt8.toInt32).toInt8.toInt32) := ⟨_, rfl⟩
  rw [← hy8] at VG
  obtain ⟨y9, hy9⟩ : ∃ z, z = (((((lb.toUInt64 >>> ((8 : Int32) &&& 0x3f).toInt64.toUInt64).toInt64).toInt32).toInt8.toInt32).toInt8.toInt32) := ⟨_, rfl⟩
  rw [← hy9] at VG
  clear hy1 hy2 hy3 hy4 hy5 hy6 hy7 hy8 hy9
  refine g_iload X31 hx hby at_104 rfl ?_
  refine g_sipush X31 hx hby at_106 (v := 255) rfl ?_
  refine g_iand X31 hx hby at_109 rfl ?_
  refine g_istore X31 hx hby at_110 (l' := #[.val (.long la), .second, .val (.long lb), .second, .val (.int tg), .val (.int fm), .val (.int ln), .val (.ref ob1), .val (.int (tg &&& (255 : Int32))), .unset, .unset, .unset, .unset, .unset]) rfl ?_
  refine g_iload X31 hx hby at_112 rfl ?_
  refine g_bipush X31 hx hby at_114 (v := 31) rfl ?_
  refine g_iand X31 hx hby at_116 rfl ?_
  refine g_bipush X31 hx hby at_117 (v := 31) rfl ?_
  show Go _ _ _ (T31.setTop (mkF mi 119 #[.val (.long la), .second, .val (.long lb), .second, .val (.int tg), .val (.int fm), .val (.int ln), .val (.ref ob1), .val (.int (tg &&& (255 : Int32))), .unset, .unset, .unset, .unset, .unset] [(.int 31), (.int ((tg &&& (255 : Int32)) &&& (31 : Int32)))])) _
  have dmT : ∀ t_, Steps pg.tables ev below (T31.setTop (mkF mi 128 #[.val (.long la), .second, .val (.long lb), .second, .val (.int tg), .val (.int fm), .val (.int ln), .val (.ref ob1), .val (.int (if ((tg &&& (255 : Int32)) &&& (31 : Int32)) = (31 : Int32) then ((tg &&& (255 : Int32)) ^^^ (1 : Int32)) else (tg &&& (255 : Int32)))), .unset, .unset, .unset, .unset, .unset] [])) t_ → Steps pg.tables ev below (T31.setTop (mkF mi 119 #[.val (.long la), .second, .val (.long lb), .second, .val (.int tg), .val (.int fm), .val (.int ln), .val (.ref ob1), .val (.int (tg &&& (255 : Int32))), .unset, .unset, .unset, .unset, .unset] [(.int 31), (.int ((tg &&& (255 : Int32)) &&& (31 : Int32)))])) t_ := by
    intro t_ k_
    by_cases hd : ((tg &&& (255 : Int32)) &&& (31 : Int32)) = (31 : Int32)
    · rw [if_pos hd] at k_
      refine XS.icmpNo X31.here hx rfl (hb hby at_119) rfl (teq hd).2 ?_
      show Steps pg.tables ev below (T31.setTop (mkF mi 122 #[.val (.long la), .second, .val (.long lb), .second, .val (.int tg), .val (.int fm), .val (.int ln), .val (.ref ob1), .val (.int (tg &&& (255 : Int32))), .unset, .unset, .unset, .unset, .unset] [])) t_
      refine XS.iload X31.here hx rfl (hb hby at_122) rfl ?_
      show Steps pg.tables ev below (T31.setTop (mkF mi 124 #[.val (.long la), .second, .val (.long lb), .second, .val (.int tg), .val (.int fm), .val (.int ln), .val (.ref ob1), .val (.int (tg &&& (255 : Int32))), .unset, .unset, .unset, .unset, .unset] [(.int (tg &&& (255 : Int32)))])) t_
      refine XS.iconst X31.here hx rfl (hb hby at_124) ?_
      show Steps pg.tables ev below (T31.setTop (mkF mi 125 #[.val (.long la), .second, .val (.long lb), .second, .val (.int tg), .val (.int fm), .val (.int ln), .val (.ref ob1), .val (.int (tg &&& (255 : Int32))), .unset, .unset, .unset, .unset, .unset] [(.int 1), (.int (tg &&& (255 : Int32)))])) t_
      refine XS.ixor X31.here hx rfl (hb hby at_125) rfl ?_
      show Steps pg.tables ev below (T31.setTop (mkF mi 126 #[.val (.long la), .second, .val (.long lb), .second, .val (.int tg), .val (.int fm), .val (.int ln), .val (.ref ob1), .val (.int (tg &&& (255 : Int32))), .unset, .unset, .unset, .unset, .unset] [(.int ((tg &&& (255 : Int32)) ^^^ (1 : Int32)))])) t_
      refine XS.istore X31.here hx rfl (hb hby at_126) rfl (l' := #[.val (.long la), .second, .val (.long lb), .second, .val (.int tg), .val (.int fm), .val (.int ln), .val (.ref ob1), .val (.int ((tg &&& (255 : Int32)) ^^^ (1 : Int32))), .unset, .unset, .unset, .unset, .unset]) rfl ?_
      show Steps pg.tables ev below (T31.setTop (mkF mi 128 #[.val (.long la), .second, .val (.long lb), .second, .val (.int tg), .val (.int fm), .val (.int ln), .val (.ref ob1), .val (.int ((tg &&& (255 : Int32)) ^^^ (1 : Int32))), .unset, .unset, .unset, .unset, .unset] [])) t_
      exact k_
    · rw [if_neg hd] at k_
      refine XS.icmpYes X31.here hx rfl (pc0 := 119) (pc' := 128) rfl (hb hby at_119) rfl (feq hd).2 (by decide) (by decide) ?_
      show Steps pg.tables ev below (T31.setTop (mkF mi 128 #[.val (.long la), .second, .val (.long lb), .second, .val (.int tg), .val (.int fm), .val (.int ln), .val (.ref ob1), .val (.int (tg &&& (255 : Int32))), .unset, .unset, .unset, .unset, .unset] [])) t_
      exact k_
  refine Go.st dmT ?_
  obtain ⟨tt, htt⟩ : ∃ z, z = (if ((tg &&& (255 : Int32)) &&& (31 : Int32)) = (31 : Int32) then ((tg &&& (255 : Int32)) ^^^ (1 : Int32)) else (tg &&& (255 : Int32))) := ⟨_, rfl⟩
  rw [← htt]
  show Go _ _ _ (T31.setTop (mkF mi 128 #[.val (.long la), .second, .val (.long lb), .second, .val (.int tg), .val (.int fm), .val (.int ln), .val (.ref ob1), .val (.int tt), .unset, .unset, .unset, .unset, .unset] [])) _
  refine g_aload X31 hx hby at_128 rfl rfl ?_
  refine g_iconst X31 hx hby at_130 (v := 0) rfl ?_
  refine g_iload X31 hx hby at_131 rfl ?_
  refine g_i2b X31 hx hby at_133 rfl ?_
  have ov33 := VG
  obtain ⟨cl33, Ar33, q33, S33, M33, H33, G33⟩ := ov33
  have hin33 : ¬ ((0 : Int32) < 0 ∨ cl33.slots.size ≤ ((0 : Int32)).toNatClampNeg) := inb_of S33 ⟨by decide, by decide⟩
  obtain ⟨T34, h34, X34, e34, W34, st34⟩ := stB X31 hx hZ e31 Ar33 (j := (0 : Int32)) hin33 (g := (mkF mi 134 #[.val (.long la), .second, .val (.long lb), .second, .val (.int tg), .val (.int fm), .val (.int ln), .val (.ref ob1), .val (.int tt), .unset, .unset, .unset, .unset, .unset] [(.int (tt.toInt8.toInt32)), (.int 0), (.ref ob1)])) rfl rfl (hb hby at_134)
  have Zs35 : n0 ≤ h34.size := Nat.le_trans Zs32 (Keep.of_wr W34).1
  have N35 := Fr.snoc X34 N32 g_ob1
  have V34 : Arv Z h34 ob1 k1 .byte (10 : Int32) [(.int ((tt.toInt8.toInt32).toInt8.toInt32)), (.int y1), (.int y2), (.int y3), (.int y4), (.int y5), (.int y6), (.int y7), (.int y8), (.int y9)] (.int (0 : Int32)) := Arv.set Ar33 q33 S33 M33 H33 G33 (fits_nar_byte _) W34 0 rfl (Nat.le_of_ble_eq_true rfl)
  refine Go.st st34 ?_
  refine g_iload X34 hx hby at_135 rfl ?_
  refine Go.st (X34.ldcInt hx hown (mvT hZ (hw _ (own_m 1 rfl))) (g := (mkF mi 137 #[.val (.long la), .second, .val (.long lb), .second, .val (.int tg), .val (.int fm), .val (.int ln), .val (.ref ob1), .val (.int tt), .unset, .unset, .unset, .unset, .unset] [(.int fm)])) rfl (hb hby at_137)) ?_
  refine g_iand X34 hx hby at_139 rfl ?_
  refine g_iconst X34 hx hby at_140 (v := 5) rfl ?_
  refine Go.s (iremM X34 hx rfl (hb hby at_141) rfl (by decide)) ?_
  show Go _ _ _ (T34.setTop (mkF mi 142 #[.val (.long la), .second, .val (.long lb), .second, .val (.int tg), .val (.int fm), .val (.int ln), .val (.ref ob1), .val (.int tt), .unset, .unset, .unset, .unset, .unset] [(.int ((fm &&& (2147483647 : Int32)) % (5 : Int32)))])) _
  refine g_istore X34 hx hby at_142 (l' := #[.val (.long la), .second, .val (.long lb), .second, .val (.int tg), .val (.int fm), .val (.int ln), .val (.ref ob1), .val (.int tt), .val (.int ((fm &&& (2147483647 : Int32)) % (5 : Int32))), .unset, .unset, .unset, .unset]) rfl ?_
  show Go _ _ _ (T34.setTop (mkF mi 144 #[.val (.long la), .second, .val (.long lb), .second, .val (.int tg), .val (.int fm), .val (.int ln), .val (.ref ob1), .val (.int tt), .val (.int ((fm &&& (2147483647 : Int32)) % (5 : Int32))), .unset, .unset, .unset, .unset] [])) _
  rcases own_n5 fm with hN | hN | hN | hN | hN
  · rw [hN]
    show Go _ _ _ (T34.setTop (mkF mi 144 #[.val (.long la), .second, .val (.long lb), .second, .val (.int tg), .val (.int fm), .val (.int ln), .val (.ref ob1), .val (.int tt), .val (.int 0), .unset, .unset, .unset, .unset] [])) _
    refine g_iconst X34 hx hby at_144 (v := 2) rfl ?_
    refine g_iload X34 hx hby at_145 rfl ?_
    refine g_iadd X34 hx hby at_147 (z := 2) rfl ?_
    refine g_istore X34 hx hby at_148 (l' := #[.val (.long la), .second, .val (.long lb), .second, .val (.int tg), .val (.int fm), .val (.int ln), .val (.ref ob1), .val (.int tt), .val (.int 0), .val (.int 2), .unset, .unset, .unset]) rfl ?_
    refine g_bipush X34 hx hby at_150 (v := 10) rfl ?_
    refine g_iload X34 hx hby at_152 rfl ?_
    refine g_isub X34 hx hby at_154 (z := 8) rfl ?_
    refine g_istore X34 hx hby at_155 (l' := #[.val (.long la), .second, .val (.long lb), .second, .val (.int tg), .val (.int fm), .val (.int ln), .val (.ref ob1), .val (.int tt), .val (.int 0), .val (.int 2), .val (.int 8), .unset, .unset]) rfl ?_
    refine g_iload X34 hx hby at_157 rfl ?_
    refine Go.st (X34.ldcInt hx hown (mvT hZ (hw _ (own_m 1 rfl))) (g := (mkF mi 159 #[.val (.long la), .second, .val (.long lb), .second, .val (.int tg), .val (.int fm), .val (.int ln), .val (.ref ob1), .val (.int tt), .val (.int 0), .val (.int 2), .val (.int 8), .unset, .unset] [(.int ln)])) rfl (hb hby at_159)) ?_
    refine g_iand X34 hx hby at_161 rfl ?_
    refine g_iload X34 hx hby at_162 rfl ?_
    refine g_iconst X34 hx hby at_164 (v := 1) rfl ?_
    show Go _ _ _ (T34.setTop (mkF mi 165 #[.val (.long la), .second, .val (.long lb), .second, .val (.int tg), .val (.int fm), .val (.int ln), .val (.ref ob1), .val (.int tt), .val (.int 0), .val (.int 2), .val (.int 8), .unset, .unset] [(.int 1), (.int 8), (.int (ln &&& (2147483647 : Int32)))])) _
    refine g_iadd X34 hx hby at_165 (z := 9) rfl ?_
    refine Go.s (iremM X34 hx rfl (hb hby at_166) rfl (by decide)) ?_
    refine g_istore X34 hx hby at_167 (l' := #[.val (.long la), .second, .val (.long lb), .second, .val (.int tg), .val (.int fm), .val (.int ln), .val (.ref ob1), .val (.int tt), .val (.int 0), .val (.int 2), .val (.int 8), .val (.int ((ln &&& (2147483647 : Int32)) % (9 : Int32))), .unset]) rfl ?_
    show Go _ _ _ (T34.setTop (mkF mi 169 #[.val (.long la), .second, .val (.long lb), .second, .val (.int tg), .val (.int fm), .val (.int ln), .val (.ref ob1), .val (.int tt), .val (.int 0), .val (.int 2), .val (.int 8), .val (.int ((ln &&& (2147483647 : Int32)) % (9 : Int32))), .unset] [])) _
    obtain ⟨L, hLe⟩ : ∃ z, z = ((ln &&& (2147483647 : Int32)) % (9 : Int32)) := ⟨_, rfl⟩
    rw [← hLe]
    obtain ⟨hL1, hL2⟩ := own_l ln (9 : Int32) L 9 rfl (by decide) hLe
    have hL2 : L.toInt ≤ 8 := by omega
    have hL2' : L.toInt ≤ 8 := by omega
    show Go _ _ _ (T34.setTop (mkF mi 169 #[.val (.long la), .second, .val (.long lb), .second, .val (.int tg), .val (.int fm), .val (.int ln), .val (.ref ob1), .val (.int tt), .val (.int 0), .val (.int 2), .val (.int 8), .val (.int L), .unset] [])) _
    refine g_iload X34 hx hby at_169 rfl ?_
    refine g_ifNo X34 hx hby at_171 ((if0 _ _).trans (teq rfl).2) ?_
    refine g_aload X34 hx hby at_174 rfl rfl ?_
    refine g_iconst X34 hx hby at_176 (v := 1) rfl ?_
    refine g_iload X34 hx hby at_177 rfl ?_
    refine g_i2b X34 hx hby at_179 rfl ?_
    have ov36 := V34
    obtain ⟨cl36, Ar36, q36, S36, M36, H36, G36⟩ := ov36
    have hin36 : ¬ ((1 : Int32) < 0 ∨ cl36.slots.size ≤ ((1 : Int32)).toNatClampNeg) := inb_of S36 ⟨by decide, by decide⟩
    obtain ⟨T37, h37, X37, e37, W37, st37⟩ := stB X34 hx hZ e34 Ar36 (j := (1 : Int32)) hin36 (g := (mkF mi 180 #[.val (.long la), .second, .val (.long lb), .second, .val (.int tg), .val (.int fm), .val (.int ln), .val (.ref ob1), .val (.int tt), .val (.int 0), .val (.int 2), .val (.int 8), .val (.int L), .unset] [(.int (L.toInt8.toInt32)), (.int 1), (.ref ob1)])) rfl rfl (hb hby at_180)
    have Zs38 : n0 ≤ h37.size := Nat.le_trans Zs35 (Keep.of_wr W37).1
    have N38 := Fr.snoc X37 N35 g_ob1
    have V37 : Arv Z h37 ob1 k1 .byte (10 : Int32) [(.int ((tt.toInt8.toInt32).toInt8.toInt32)), (.int ((L.toInt8.toInt32).toInt8.toInt32)), (.int y2), (.int y3), (.int y4), (.int y5), (.int y6), (.int y7), (.int y8), (.int y9)] (.int (0 : Int32)) := Arv.set Ar36 q36 S36 M36 H36 G36 (fits_nar_byte _) W37 1 rfl (Nat.le_of_ble_eq_true rfl)
    refine Go.st st37 ?_
    refine g_goto X37 hx hby at_181 (pc0 := 181) (pc' := 238) rfl (by decide) (by decide) ?_
    refine g_aload X37 hx hby at_238 rfl rfl ?_
    have ht := own_tag tg tt htt
    have hb1 := own_byte hL1 hL2'
    obtain ⟨_, _, ⟨T39, L39, k39, n39⟩, -, X39, ⟨Lc39, hQ39, l39, y39, z39⟩, st39⟩ := Jvm.LawKit.callS X37 hx (y := (⟨"com/example/pemgate/pemgate/core/Der", "contents", "([B)[B"⟩ : MethodName)) hown (mvT hZ (hw _ (own_m 2 rfl))) (mvT hZ (hw _ (own_m 3 rfl))) (mvT hZ (hw _ (own_m 4 rfl))) (mvT hZ (hw _ (own_m 5 rfl))) (by decide) (backOf (W := 0) (rmCt0 l Z a0 hw [] ob1 k1 L ((tt.toInt8.toInt32).toInt8.toInt32) ((L.toInt8.toInt32).toInt8.toInt32) y2 y3 y4 y5 y6 y7 y8 y9 h37 n0 Zs38 V37 hL1 hL2 hL2' ht hb1) hZ (hw _ (own_m 5 rfl)) (hw _ (own_m 4 rfl)) (by decide) (by decide)) (g := (mkF mi 240 #[.val (.long la), .second, .val (.long lb), .second, .val (.int tg), .val (.int fm), .val (.int ln), .val (.ref ob1), .val (.int tt), .val (.int 0), .val (.int 2), .val (.int 8), .val (.int L), .unset] [(.ref ob1)])) rfl (by rw [hml]; rfl) (argsL := [(.ref ob1)]) (rest := []) (lenOf pd_4 rfl) rfl (by show 2 * 0 + _ ≤ _; exact Nat.le_of_eq rfl) (hb hby at_240) (fun _ _ => ⟨rfl, e37, (by decide : 1 + 2 ≤ _), (by decide : 10 + 10 ≤ _)⟩)
    dsimp only [Pt.U, Pt.locs, Pt.cells, Pt.slots] at X39 l39 y39 z39 st39 hQ39
    subst y39 z39
    have X39 := own_cs X39 (cells' := 3) (slots' := 20) rfl rfl
    obtain ⟨h39, e39⟩ : ∃ z, T39.heap = z := ⟨_, rfl⟩
    rw [e39] at hQ39
    obtain ⟨r39, kr39, us39, rfl, N39q, K39, z_r39, g_r39, V_r39, U_r39⟩ := hQ39
    have N39 := own_fr l39 (Fr.app N38 N39q)
    have Zs40 : n0 ≤ h39.size := Nat.le_trans Zs38 K39.1
    refine Go.st st39 ?_
    refine g_astore X39 hx hby at_243 rfl (l' := #[.val (.long la), .second, .val (.long lb), .second, .val (.int tg), .val (.int fm), .val (.int ln), .val (.ref ob1), .val (.int tt), .val (.int 0), .val (.int 2), .val (.int 8), .val (.int L), .val (.ref r39)]) rfl ?_
    refine g_aload X39 hx hby at_245 rfl rfl ?_
    have ov41 := V_r39
    obtain ⟨cl41, Ar41, q41, S41, M41, H41, G41⟩ := ov41
    refine Go.st (X39.arraylength hx (by rw [e39]; exact Ar41.1) (State.isArrayOf_alike hZ.alike Ar41.2.1) (g := (mkF mi 247 #[.val (.long la), .second, .val (.long lb), .second, .val (.int tg), .val (.int fm), .val (.int ln), .val (.ref ob1), .val (.int tt), .val (.int 0), .val (.int 2), .val (.int 8), .val (.int L), .val (.ref r39)] [(.ref r39)])) rfl rfl (hb hby at_247)) ?_
    rw [len_of S41 M41]
    refine g_iload X39 hx hby at_248 rfl ?_
    refine g_icmpYes X39 hx hby at_250 (teq rfl).1 (pc0 := 250) (pc' := 255) rfl (by decide) (by decide) ?_
    refine g_aload X39 hx hby at_255 rfl rfl ?_
    refine g_aload X39 hx hby at_257 rfl rfl ?_
    refine g_iload X39 hx hby at_259 rfl ?_
    refine g_iconst X39 hx hby at_261 (v := 0) rfl ?_
    refine g_iload X39 hx hby at_262 rfl ?_
    have f43 := (V37.keep K39 nin0)
    obtain ⟨_, _, ⟨T42, L42, k42, n42⟩, -, X42, ⟨Lc42, hQ42, l42, y42, z42⟩, st42⟩ := Jvm.LawKit.callS X39 hx (y := (⟨"com/example/pemgate/pemgate/core/DerContentsPinLaw", "same", "([B[BIII)Z"⟩ : MethodName)) hown (mvT hZ (hw _ (own_m 28 rfl))) (mvT hZ (hw _ (own_m 29 rfl))) (mvT hZ (hw _ (own_m 30 rfl))) (mvT hZ (hw _ (own_m 31 rfl))) (by decide) (backOf (W := 0) (rmS l Z a0 hw [] r39 ob1 (2 : Int32) (0 : Int32) L kr39 us39 k1 [(.int ((tt.toInt8.toInt32).toInt8.toInt32)), (.int ((L.toInt8.toInt32).toInt8.toInt32)), (.int y2), (.int y3), (.int y4), (.int y5), (.int y6), (.int y7), (.int y8), (.int y9)] h39 n0 Zs40 f43 V_r39 (by decide) (fun q => ⟨by decide, by decide, y2, (congrArg (fun k => us39.getD k (.int (0 : Int32))) (by decide +kernel : (0 : Int32).toNatClampNeg = 0)).trans (U_r39 0 (own_nat q (k := 0) (by decide +kernel))), congrArg (fun k => List.getD ([(.int ((tt.toInt8.toInt32).toInt8.toInt32)), (.int ((L.toInt8.toInt32).toInt8.toInt32)), (.int y2), (.int y3), (.int y4), (.int y5), (.int y6), (.int y7), (.int y8), (.int y9)] : List Value) k (.int (0 : Int32))) (by decide +kernel : ((2 : Int32) + (0 : Int32)).toNatClampNeg = 2)⟩)) hZ (hw _ (own_m 31 rfl)) (hw _ (own_m 30 rfl)) (by decide) (by decide)) (g := (mkF mi 264 #[.val (.long la), .second, .val (.long lb), .second, .val (.int tg), .val (.int fm), .val (.int ln), .val (.ref ob1), .val (.int tt), .val (.int 0), .val (.int 2), .val (.int 8), .val (.int L), .val (.ref r39)] [(.int L), (.int 0), (.int 2), (.ref ob1), (.ref r39)])) rfl (by rw [hml]; rfl) (argsL := [(.ref r39), (.ref ob1), (.int 2), (.int 0), (.int L)]) (rest := []) (lenOf pd_5 rfl) rfl (by show 2 * 0 + _ ≤ _; exact Nat.le_of_eq rfl) (hb hby at_264) (fun _ _ => ⟨rfl, e39, (by decide : 3 + 0 ≤ _), (by decide : 20 + 0 ≤ _)⟩)
    dsimp only [Pt.U, Pt.locs, Pt.cells, Pt.slots] at X42 l42 y42 z42 st42 hQ42
    subst y42 z42
    have X42 := own_cs X42 (cells' := 3) (slots' := 20) rfl rfl
    obtain ⟨rfl, N42q, e42⟩ := hQ42
    have N42 := own_fr l42 (Fr.app N39 N42q)
    refine Go.st st42 ?_
    show Go _ _ _ (T42.setTop (mkF mi 267 #[.val (.long la), .second, .val (.long lb), .second, .val (.int tg), .val (.int fm), .val (.int ln), .val (.ref ob1), .val (.int tt), .val (.int 0), .val (.int 2), .val (.int 8), .val (.int L), .val (.ref r39)] [(.int 1)])) _
    refine g_ifNo X42 hx hby at_267 ((if0 _ _).trans (feq (by decide)).1) ?_
    refine g_aload X42 hx hby at_270 rfl rfl ?_
    refine g_aload X42 hx hby at_272 rfl rfl ?_
    refine g_iload X42 hx hby at_274 rfl ?_
    refine g_iconst X42 hx hby at_276 (v := 1) rfl ?_
    refine g_iload X42 hx hby at_277 rfl ?_
    obtain ⟨_, _, ⟨T44, L44, k44, n44⟩, -, X44, ⟨Lc44, hQ44, l44, y44, z44⟩, st44⟩ := Jvm.LawKit.callS X42 hx (y := (⟨"com/example/pemgate/pemgate/core/DerContentsPinLaw", "same", "([B[BIII)Z"⟩ : MethodName)) hown (mvT hZ (hw _ (own_m 28 rfl))) (mvT hZ (hw _ (own_m 29 rfl))) (mvT hZ (hw _ (own_m 30 rfl))) (mvT hZ (hw _ (own_m 31 rfl))) (by decide) (backOf (W := 0) (rmS l Z a0 hw [] r39 ob1 (2 : Int32) (1 : Int32) L kr39 us39 k1 [(.int ((tt.toInt8.toInt32).toInt8.toInt32)), (.int ((L.toInt8.toInt32).toInt8.toInt32)), (.int y2), (.int y3), (.int y4), (.int y5), (.int y6), (.int y7), (.int y8), (.int y9)] h39 n0 Zs40 f43 V_r39 (by decide) (fun q => ⟨by decide, by decide, y3, (congrArg (fun k => us39.getD k (.int (0 : Int32))) (by decide +kernel : (1 : Int32).toNatClampNeg = 1)).trans (U_r39 1 (own_nat q (k := 1) (by decide +kernel))), congrArg (fun k => List.getD ([(.int ((tt.toInt8.toInt32).toInt8.toInt32)), (.int ((L.toInt8.toInt32).toInt8.toInt32)), (.int y2), (.int y3), (.int y4), (.int y5), (.int y6), (.int y7), (.int y8), (.int y9)] : List Value) k (.int (0 : Int32))) (by decide +kernel : ((2 : Int32) + (1 : Int32)).toNatClampNeg = 3)⟩)) hZ (hw _ (own_m 31 rfl)) (hw _ (own_m 30 rfl)) (by decide) (by decide)) (g := (mkF mi 279 #[.val (.long la), .second, .val (.long lb), .second, .val (.int tg), .val (.int fm), .val (.int ln), .val (.ref ob1), .val (.int tt), .val (.int 0), .val (.int 2), .val (.int 8), .val (.int L), .val (.ref r39)] [(.int L), (.int 1), (.int 2), (.ref ob1), (.ref r39)])) rfl (by rw [hml]; rfl) (argsL := [(.ref r39), (.ref ob1), (.int 2), (.int 1), (.int L)]) (rest := []) (lenOf pd_5 rfl) rfl (by show 2 * 0 + _ ≤ _; exact Nat.le_of_eq rfl) (hb hby at_279) (fun _ _ => ⟨rfl, e42, (by decide : 3 + 0 ≤ _), (by decide : 20 + 0 ≤ _)⟩)
    dsimp only [Pt.U, Pt.locs, Pt.cells, Pt.slots] at X44 l44 y44 z44 st44 hQ44
    subst y44 z44
    have X44 := own_cs X44 (cells' := 3) (slots' := 20) rfl rfl
    obtain ⟨rfl, N44q, e44⟩ := hQ44
    have N44 := own_fr l44 (Fr.app N42 N44q)
    refine Go.st st44 ?_
    refine g_ifNo X44 hx hby at_282 ((if0 _ _).trans (feq (by decide)).1) ?_
    refine g_aload X44 hx hby at_285 rfl rfl ?_
    refine g_aload X44 hx hby at_287 rfl rfl ?_
    refine g_iload X44 hx hby at_289 rfl ?_
    refine g_iconst X44 hx hby at_291 (v := 2) rfl ?_
    refine g_iload X44 hx hby at_292 rfl ?_
    obtain ⟨_, _, ⟨T45, L45, k45, n45⟩, -, X45, ⟨Lc45, hQ45, l45, y45, z45⟩, st45⟩ := Jvm.LawKit.callS X44 hx (y := (⟨"com/example/pemgate/pemgate/core/DerContentsPinLaw", "same", "([B[BIII)Z"⟩ : MethodName)) hown (mvT hZ (hw _ (own_m 28 rfl))) (mvT hZ (hw _ (own_m 29 rfl))) (mvT hZ (hw _ (own_m 30 rfl))) (mvT hZ (hw _ (own_m 31 rfl))) (by decide) (backOf (W := 0) (rmS l Z a0 hw [] r39 ob1 (2 : Int32) (2 : Int32) L kr39 us39 k1 [(.int ((tt.toInt8.toInt32).toInt8.toInt32)), (.int ((L.toInt8.toInt32).toInt8.toInt32)), (.int y2), (.int y3), (.int y4), (.int y5), (.int y6), (.int y7), (.int y8), (.int y9)] h39 n0 Zs40 f43 V_r39 (by decide) (fun q => ⟨by decide, by decide, y4, (congrArg (fun k => us39.getD k (.int (0 : Int32))) (by decide +kernel : (2 : Int32).toNatClampNeg = 2)).trans (U_r39 2 (own_nat q (k := 2) (by decide +kernel))), congrArg (fun k => List.getD ([(.int ((tt.toInt8.toInt32).toInt8.toInt32)), (.int ((L.toInt8.toInt32).toInt8.toInt32)), (.int y2), (.int y3), (.int y4), (.int y5), (.int y6), (.int y7), (.int y8), (.int y9)] : List Value) k (.int (0 : Int32))) (by decide +kernel : ((2 : Int32) + (2 : Int32)).toNatClampNeg = 4)⟩)) hZ (hw _ (own_m 31 rfl)) (hw _ (own_m 30 rfl)) (by decide) (by decide)) (g := (mkF mi 294 #[.val (.long la), .second, .val (.long lb), .second, .val (.int tg), .val (.int fm), .val (.int ln), .val (.ref ob1), .val (.int tt), .val (.int 0), .val (.int 2), .val (.int 8), .val (.int L), .val (.ref r39)] [(.int L), (.int 2), (.int 2), (.ref ob1), (.ref r39)])) rfl (by rw [hml]; rfl) (argsL := [(.ref r39), (.ref ob1), (.int 2), (.int 2), (.int L)]) (rest := []) (lenOf pd_5 rfl) rfl (by show 2 * 0 + _ ≤ _; exact Nat.le_of_eq rfl) (hb hby at_294) (fun _ _ => ⟨rfl, e44, (by decide : 3 + 0 ≤ _), (by decide : 20 + 0 ≤ _)⟩)
    dsimp only [Pt.U, Pt.locs, Pt.cells, Pt.slots] at X45 l45 y45 z45 st45 hQ45
    subst y45 z45
    have X45 := own_cs X45 (cells' := 3) (slots' := 20) rfl rfl
    obtain ⟨rfl, N45q, e45⟩ := hQ45
    have N45 := own_fr l45 (Fr.app N44 N45q)
    refine Go.st st45 ?_
    refine g_ifNo X45 hx hby at_297 ((if0 _ _).trans (feq (by decide)).1) ?_
    refine g_aload X45 hx hby at_300 rfl rfl ?_
    refine g_aload X45 hx hby at_302 rfl rfl ?_
    refine g_iload X45 hx hby at_304 rfl ?_
    refine g_iconst X45 hx hby at_306 (v := 3) rfl ?_
    refine g_iload X45 hx hby at_307 rfl ?_
    obtain ⟨_, _, ⟨T46, L46, k46, n46⟩, -, X46, ⟨Lc46, hQ46, l46, y46, z46⟩, st46⟩ := Jvm.LawKit.callS X45 hx (y := (⟨"com/example/pemgate/pemgate/core/DerContentsPinLaw", "same", "([B[BIII)Z"⟩ : MethodName)) hown (mvT hZ (hw _ (own_m 28 rfl))) (mvT hZ (hw _ (own_m 29 rfl))) (mvT hZ (hw _ (own_m 30 rfl))) (mvT hZ (hw _ (own_m 31 rfl))) (by decide) (backOf (W := 0) (rmS l Z a0 hw [] r39 ob1 (2 : Int32) (3 : Int32) L kr39 us39 k1 [(.int ((tt.toInt8.toInt32).toInt8.toInt32)), (.int ((L.toInt8.toInt32).toInt8.toInt32)), (.int y2), (.int y3), (.int y4), (.int y5), (.int y6), (.int y7), (.int y8), (.int y9)] h39 n0 Zs40 f43 V_r39 (by decide) (fun q => ⟨by decide, by decide, y5, (congrArg (fun k => us39.getD k (.int (0 : Int32))) (by decide +kernel : (3 : Int32).toNatClampNeg = 3)).trans (U_r39 3 (own_nat q (k := 3) (by decide +kernel))), congrArg (fun k => List.getD ([(.int ((tt.toInt8.toInt32).toInt8.toInt32)), (.int ((L.toInt8.toInt32).toInt8.toInt32)), (.int y2), (.int y3), (.int y4), (.int y5), (.int y6), (.int y7), (.int y8), (.int y9)] : List Value) k (.int (0 : Int32))) (by decide +kernel : ((2 : Int32) + (3 : Int32)).toNatClampNeg = 5)⟩)) hZ (hw _ (own_m 31 rfl)) (hw _ (own_m 30 rfl)) (by decide) (by decide)) (g := (mkF mi 309 #[.val (.long la), .second, .val (.long lb), .second, .val (.int tg), .val (.int fm), .val (.int ln), .val (.ref ob1), .val (.int tt), .val (.int 0), .val (.int 2), .val (.int 8), .val (.int L), .val (.ref r39)] [(.int L), (.int 3), (.int 2), (.ref ob1), (.ref r39)])) rfl (by rw [hml]; rfl) (argsL := [(.ref r39), (.ref ob1), (.int 2), (.int 3), (.int L)]) (rest := []) (lenOf pd_5 rfl) rfl (by show 2 * 0 + _ ≤ _; exact Nat.le_of_eq rfl) (hb hby at_309) (fun _ _ => ⟨rfl, e45, (by decide : 3 + 0 ≤ _), (by decide : 20 + 0 ≤ _)⟩)
    dsimp only [Pt.U, Pt.locs, Pt.cells, Pt.slots] at X46 l46 y46 z46 st46 hQ46
    subst y46 z46
    have X46 := own_cs X46 (cells' := 3) (slots' := 20) rfl rfl
    obtain ⟨rfl, N46q, e46⟩ := hQ46
    have N46 := own_fr l46 (Fr.app N45 N46q)
    refine Go.st st46 ?_
    show Go _ _ _ (T46.setTop (mkF mi 312 #[.val (.long la), .second, .val (.long lb), .second, .val (.int tg), .val (.int fm), .val (.int ln), .val (.ref ob1), .val (.int tt), .val (.int 0), .val (.int 2), .val (.int 8), .val (.int L), .val (.ref r39)] [(.int 1)])) _
    refine g_ifNo X46 hx hby at_312 ((if0 _ _).trans (feq (by decide)).1) ?_
    refine g_aload X46 hx hby at_315 rfl rfl ?_
    refine g_aload X46 hx hby at_317 rfl rfl ?_
    refine g_iload X46 hx hby at_319 rfl ?_
    refine g_iconst X46 hx hby at_321 (v := 4) rfl ?_
    refine g_iload X46 hx hby at_322 rfl ?_
    obtain ⟨_, _, ⟨T47, L47, k47, n47⟩, -, X47, ⟨Lc47, hQ47, l47, y47, z47⟩, st47⟩ := Jvm.LawKit.callS X46 hx (y := (⟨"com/example/pemgate/pemgate/core/DerContentsPinLaw", "same", "([B[BIII)Z"⟩ : MethodName)) hown (mvT hZ (hw _ (own_m 28 rfl))) (mvT hZ (hw _ (own_m 29 rfl))) (mvT hZ (hw _ (own_m 30 rfl))) (mvT hZ (hw _ (own_m 31 rfl))) (by decide) (backOf (W := 0) (rmS l Z a0 hw [] r39 ob1 (2 : Int32) (4 : Int32) L kr39 us39 k1 [(.int ((tt.toInt8.toInt32).toInt8.toInt32)), (.int ((L.toInt8.toInt32).toInt8.toInt32)), (.int y2), (.int y3), (.int y4), (.int y5), (.int y6), (.int y7), (.int y8), (.int y9)] h39 n0 Zs40 f43 V_r39 (by decide) (fun q => ⟨by decide, by decide, y6, (congrArg (fun k => us39.getD k (.int (0 : Int32))) (by decide +kernel : (4 : Int32).toNatClampNeg = 4)).trans (U_r39 4 (own_nat q (k := 4) (by decide +kernel))), congrArg (fun k => List.getD ([(.int ((tt.toInt8.toInt32).toInt8.toInt32)), (.int ((L.toInt8.toInt32).toInt8.toInt32)), (.int y2), (.int y3), (.int y4), (.int y5), (.int y6), (.int y7), (.int y8), (.int y9)] : List Value) k (.int (0 : Int32))) (by decide +kernel : ((2 : Int32) + (4 : Int32)).toNatClampNeg = 6)⟩)) hZ (hw _ (own_m 31 rfl)) (hw _ (own_m 30 rfl)) (by decide) (by decide)) (g := (mkF mi 324 #[.val (.long la), .second, .val (.long lb), .second, .val (.int tg), .val (.int fm), .val (.int ln), .val (.ref ob1), .val (.int tt), .val (.int 0), .val (.int 2), .val (.int 8), .val (.int L), .val (.ref r39)] [(.int L), (.int 4), (.int 2), (.ref ob1), (.ref r39)])) rfl (by rw [hml]; rfl) (argsL := [(.ref r39), (.ref ob1), (.int 2), (.int 4), (.int L)]) (rest := []) (lenOf pd_5 rfl) rfl (by show 2 * 0 + _ ≤ _; exact Nat.le_of_eq rfl) (hb hby at_324) (fun _ _ => ⟨rfl, e46, (by decide : 3 + 0 ≤ _), (by decide : 20 + 0 ≤ _)⟩)
    dsimp only [Pt.U, Pt.locs, Pt.cells, Pt.slots] at X47 l47 y47 z47 st47 hQ47
    subst y47 z47
    have X47 := own_cs X47 (cells' := 3) (slots' := 20) rfl rfl
    obtain ⟨rfl, N47q, e47⟩ := hQ47
    have N47 := own_fr l47 (Fr.app N46 N47q)
    refine Go.st st47 ?_
    refine g_ifNo X47 hx hby at_327 ((if0 _ _).trans (feq (by decide)).1) ?_
    refine g_aload X47 hx hby at_330 rfl rfl ?_
    refine g_aload X47 hx hby at_332 rfl rfl ?_
    refine g_iload X47 hx hby at_334 rfl ?_
    refine g_iconst X47 hx hby at_336 (v := 5) rfl ?_
    refine g_iload X47 hx hby at_337 rfl ?_
    obtain ⟨_, _, ⟨T48, L48, k48, n48⟩, -, X48, ⟨Lc48, hQ48, l48, y48, z48⟩, st48⟩ := Jvm.LawKit.callS X47 hx (y := (⟨"com/example/pemgate/pemgate/core/DerContentsPinLaw", "same", "([B[BIII)Z"⟩ : MethodName)) hown (mvT hZ (hw _ (own_m 28 rfl))) (mvT hZ (hw _ (own_m 29 rfl))) (mvT hZ (hw _ (own_m 30 rfl))) (mvT hZ (hw _ (own_m 31 rfl))) (by decide) (backOf (W := 0) (rmS l Z a0 hw [] r39 ob1 (2 : Int32) (5 : Int32) L kr39 us39 k1 [(.int ((tt.toInt8.toInt32).toInt8.toInt32)), (.int ((L.toInt8.toInt32).toInt8.toInt32)), (.int y2), (.int y3), (.int y4), (.int y5), (.int y6), (.int y7), (.int y8), (.int y9)] h39 n0 Zs40 f43 V_r39 (by decide) (fun q => ⟨by decide, by decide, y7, (congrArg (fun k => us39.getD k (.int (0 : Int32))) (by decide +kernel : (5 : Int32).toNatClampNeg = 5)).trans (U_r39 5 (own_nat q (k := 5) (by decide +kernel))), congrArg (fun k => List.getD ([(.int ((tt.toInt8.toInt32).toInt8.toInt32)), (.int ((L.toInt8.toInt32).toInt8.toInt32)), (.int y2), (.int y3), (.int y4), (.int y5), (.int y6), (.int y7), (.int y8), (.int y9)] : List Value) k (.int (0 : Int32))) (by decide +kernel : ((2 : Int32) + (5 : Int32)).toNatClampNeg = 7)⟩)) hZ (hw _ (own_m 31 rfl)) (hw _ (own_m 30 rfl)) (by decide) (by decide)) (g := (mkF mi 339 #[.val (.long la), .second, .val (.long lb), .second, .val (.int tg), .val (.int fm), .val (.int ln), .val (.ref ob1), .val (.int tt), .val (.int 0), .val (.int 2), .val (.int 8), .val (.int L), .val (.ref r39)] [(.int L), (.int 5), (.int 2), (.ref ob1), (.ref r39)])) rfl (by rw [hml]; rfl) (argsL := [(.ref r39), (.ref ob1), (.int 2), (.int 5), (.int L)]) (rest := []) (lenOf pd_5 rfl) rfl (by show 2 * 0 + _ ≤ _; exact Nat.le_of_eq rfl) (hb hby at_339) (fun _ _ => ⟨rfl, e47, (by decide : 3 + 0 ≤ _), (by decide : 20 + 0 ≤ _)⟩)
    dsimp only [Pt.U, Pt.locs, Pt.cells, Pt.slots] at X48 l48 y48 z48 st48 hQ48
    subst y48 z48
    have X48 := own_cs X48 (cells' := 3) (slots' := 20) rfl rfl
    obtain ⟨rfl, N48q, e48⟩ := hQ48
    have N48 := own_fr l48 (Fr.app N47 N48q)
    refine Go.st st48 ?_
    refine g_ifNo X48 hx hby at_342 ((if0 _ _).trans (feq (by decide)).1) ?_
    refine g_aload X48 hx hby at_345 rfl rfl ?_
    refine g_aload X48 hx hby at_347 rfl rfl ?_
    refine g_iload X48 hx hby at_349 rfl ?_
    refine g_bipush X48 hx hby at_351 (v := 6) rfl ?_
    refine g_iload X48 hx hby at_353 rfl ?_
    obtain ⟨_, _, ⟨T49, L49, k49, n49⟩, -, X49, ⟨Lc49, hQ49, l49, y49, z49⟩, st49⟩ := Jvm.LawKit.callS X48 hx (y := (⟨"com/example/pemgate/pemgate/core/DerContentsPinLaw", "same", "([B[BIII)Z"⟩ : MethodName)) hown (mvT hZ (hw _ (own_m 28 rfl))) (mvT hZ (hw _ (own_m 29 rfl))) (mvT hZ (hw _ (own_m 30 rfl))) (mvT hZ (hw _ (own_m 31 rfl))) (by decide) (backOf (W := 0) (rmS l Z a0 hw [] r39 ob1 (2 : Int32) (6 : Int32) L kr39 us39 k1 [(.int ((tt.toInt8.toInt32).toInt8.toInt32)), (.int ((L.toInt8.toInt32).toInt8.toInt32)), (.int y2), (.int y3), (.int y4), (.int y5), (.int y6), (.int y7), (.int y8), (.int y9)] h39 n0 Zs40 f43 V_r39 (by decide) (fun q => ⟨by decide, by decide, y8, (congrArg (fun k => us39.getD k (.int (0 : Int32))) (by decide +kernel : (6 : Int32).toNatClampNeg = 6)).trans (U_r39 6 (own_nat q (k := 6) (by decide +kernel))), congrArg (fun k => List.getD ([(.int ((tt.toInt8.toInt32).toInt8.toInt32)), (.int ((L.toInt8.toInt32).toInt8.toInt32)), (.int y2), (.int y3), (.int y4), (.int y5), (.int y6), (.int y7), (.int y8), (.int y9)] : List Value) k (.int (0 : Int32))) (by decide +kernel : ((2 : Int32) + (6 : Int32)).toNatClampNeg = 8)⟩)) hZ (hw _ (own_m 31 rfl)) (hw _ (own_m 30 rfl)) (by decide) (by decide)) (g := (mkF mi 355 #[.val (.long la), .second, .val (.long lb), .second, .val (.int tg), .val (.int fm), .val (.int ln), .val (.ref ob1), .val (.int tt), .val (.int 0), .val (.int 2), .val (.int 8), .val (.int L), .val (.ref r39)] [(.int L), (.int 6), (.int 2), (.ref ob1), (.ref r39)])) rfl (by rw [hml]; rfl) (argsL := [(.ref r39), (.ref ob1), (.int 2), (.int 6), (.int L)]) (rest := []) (lenOf pd_5 rfl) rfl (by show 2 * 0 + _ ≤ _; exact Nat.le_of_eq rfl) (hb hby at_355) (fun _ _ => ⟨rfl, e48, (by decide : 3 + 0 ≤ _), (by decide : 20 + 0 ≤ _)⟩)
    dsimp only [Pt.U, Pt.locs, Pt.cells, Pt.slots] at X49 l49 y49 z49 st49 hQ49
    subst y49 z49
    have X49 := own_cs X49 (cells' := 3) (slots' := 20) rfl rfl
    obtain ⟨rfl, N49q, e49⟩ := hQ49
    have N49 := own_fr l49 (Fr.app N48 N49q)
    refine Go.st st49 ?_
    show Go _ _ _ (T49.setTop (mkF mi 358 #[.val (.long la), .second, .val (.long lb), .second, .val (.int tg), .val (.int fm), .val (.int ln), .val (.ref ob1), .val (.int tt), .val (.int 0), .val (.int 2), .val (.int 8), .val (.int L), .val (.ref r39)] [(.int 1)])) _
    refine g_ifNo X49 hx hby at_358 ((if0 _ _).trans (feq (by decide)).1) ?_
    refine g_aload X49 hx hby at_361 rfl rfl ?_
    refine g_aload X49 hx hby at_363 rfl rfl ?_
    refine g_iload X49 hx hby at_365 rfl ?_
    refine g_bipush X49 hx hby at_367 (v := 7) rfl ?_
    refine g_iload X49 hx hby at_369 rfl ?_
    obtain ⟨_, _, ⟨T50, L50, k50, n50⟩, -, X50, ⟨Lc50, hQ50, l50, y50, z50⟩, st50⟩ := Jvm.LawKit.callS X49 hx (y := (⟨"com/example/pemgate/pemgate/core/DerContentsPinLaw", "same", "([B[BIII)Z"⟩ : MethodName)) hown (mvT hZ (hw _ (own_m 28 rfl))) (mvT hZ (hw _ (own_m 29 rfl))) (mvT hZ (hw _ (own_m 30 rfl))) (mvT hZ (hw _ (own_m 31 rfl))) (by decide) (backOf (W := 0) (rmS l Z a0 hw [] r39 ob1 (2 : Int32) (7 : Int32) L kr39 us39 k1 [(.int ((tt.toInt8.toInt32).toInt8.toInt32)), (.int ((L.toInt8.toInt32).toInt8.toInt32)), (.int y2), (.int y3), (.int y4), (.int y5), (.int y6), (.int y7), (.int y8), (.int y9)] h39 n0 Zs40 f43 V_r39 (by decide) (fun q => ⟨by decide, by decide, y9, (congrArg (fun k => us39.getD k (.int (0 : Int32))) (by decide +kernel : (7 : Int32).toNatClampNeg = 7)).trans (U_r39 7 (own_nat q (k := 7) (by decide +kernel))), congrArg (fun k => List.getD ([(.int ((tt.toInt8.toInt32).toInt8.toInt32)), (.int ((L.toInt8.toInt32).toInt8.toInt32)), (.int y2), (.int y3), (.int y4), (.int y5), (.int y6), (.int y7), (.int y8), (.int y9)] : List Value) k (.int (0 : Int32))) (by decide +kernel : ((2 : Int32) + (7 : Int32)).toNatClampNeg = 9)⟩)) hZ (hw _ (own_m 31 rfl)) (hw _ (own_m 30 rfl)) (by decide) (by decide)) (g := (mkF mi 371 #[.val (.long la), .second, .val (.long lb), .second, .val (.int tg), .val (.int fm), .val (.int ln), .val (.ref ob1), .val (.int tt), .val (.int 0), .val (.int 2), .val (.int 8), .val (.int L), .val (.ref r39)] [(.int L), (.int 7), (.int 2), (.ref ob1), (.ref r39)])) rfl (by rw [hml]; rfl) (argsL := [(.ref r39), (.ref ob1), (.int 2), (.int 7), (.int L)]) (rest := []) (lenOf pd_5 rfl) rfl (by show 2 * 0 + _ ≤ _; exact Nat.le_of_eq rfl) (hb hby at_371) (fun _ _ => ⟨rfl, e49, (by decide : 3 + 0 ≤ _), (by decide : 20 + 0 ≤ _)⟩)
    dsimp only [Pt.U, Pt.locs, Pt.cells, Pt.slots] at X50 l50 y50 z50 st50 hQ50
    subst y50 z50
    have X50 := own_cs X50 (cells' := 3) (slots' := 20) rfl rfl
    obtain ⟨rfl, N50q, e50⟩ := hQ50
    have N50 := own_fr l50 (Fr.app N49 N50q)
    refine Go.st st50 ?_
    refine g_ifNo X50 hx hby at_374 ((if0 _ _).trans (feq (by decide)).1) ?_
    refine g_iconst X50 hx hby at_377 (v := 1) rfl ?_
    refine g_goto X50 hx hby at_378 (pc0 := 378) (pc' := 382) rfl (by decide) (by decide) ?_
    obtain ⟨fs, hr, hrun, hended, hW, hsame⟩ := X50.leave (v := some (.int 1)) (fun h => by rw [Bd.returns] at h; cases h) (BodyLoose.notSynchronized Bd)
    refine ⟨_, _, ?_, hP _ _ ⟨hrun, hended, _, _, rfl, ?_, ⟨_, rfl⟩, hW, hsame.mono (by decide) (by decide)⟩⟩
    · exact retN X50 hx (t := .boolean) Bd.returns (by simp) (hb hby at_382) hr
    · show (some (.int 1) : Option Value) = some (.int 1) ∧ Fr n0 _
      exact ⟨rfl, N50⟩
  · rw [hN]
    show Go _ _ _ (T34.setTop (mkF mi 144 #[.val (.long la), .second, .val (.long lb), .second, .val (.int tg), .val (.int fm), .val (.int ln), .val (.ref ob1), .val (.int tt), .val (.int 1), .unset, .unset, .unset, .unset] [])) _
    refine g_iconst X34 hx hby at_144 (v := 2) rfl ?_
    refine g_iload X34 hx hby at_145 rfl ?_
    refine g_iadd X34 hx hby at_147 (z := 3) rfl ?_
    refine g_istore X34 hx hby at_148 (l' := #[.val (.long la), .second, .val (.long lb), .second, .val (.int tg), .val (.int fm), .val (.int ln), .val (.ref ob1), .val (.int tt), .val (.int 1), .val (.int 3), .unset, .unset, .unset]) rfl ?_
    refine g_bipush X34 hx hby at_150 (v := 10) rfl ?_
    refine g_iload X34 hx hby at_152 rfl ?_
    refine g_isub X34 hx hby at_154 (z := 7) rfl ?_
    refine g_istore X34 hx hby at_155 (l' := #[.val (.long la), .second, .val (.long lb), .second, .val (.int tg), .val (.int fm), .val (.int ln), .val (.ref ob1), .val (.int tt), .val (.int 1), .val (.int 3), .val (.int 7), .unset, .unset]) rfl ?_
    refine g_iload X34 hx hby at_157 rfl ?_
    refine Go.st (X34.ldcInt hx hown (mvT hZ (hw _ (own_m 1 rfl))) (g := (mkF mi 159 #[.val (.long la), .second, .val (.long lb), .second, .val (.int tg), .val (.int fm), .val (.int ln), .val (.ref ob1), .val (.int tt), .val (.int 1), .val (.int 3), .val (.int 7), .unset, .unset] [(.int ln)])) rfl (hb hby at_159)) ?_
    show Go _ _ _ (T34.setTop (mkF mi 161 #[.val (.long la), .second, .val (.long lb), .second, .val (.int tg), .val (.int fm), .val (.int ln), .val (.ref ob1), .val (.int tt), .val (.int 1), .val (.int 3), .val (.int 7), .unset, .unset] [(.int 2147483647), (.int ln)])) _
    refine g_iand X34 hx hby at_161 rfl ?_
    refine g_iload X34 hx hby at_162 rfl ?_
    refine g_iconst X34 hx hby at_164 (v := 1) rfl ?_
    refine g_iadd X34 hx hby at_165 (z := 8) rfl ?_
    refine Go.s (iremM X34 hx rfl (hb hby at_166) rfl (by decide)) ?_
    refine g_istore X34 hx hby at_167 (l' := #[.val (.long la), .second, .val (.long lb), .second, .val (.int tg), .val (.int fm), .val (.int ln), .val (.ref ob1), .val (.int tt), .val (.int 1), .val (.int 3), .val (.int 7), .val (.int ((ln &&& (2147483647 : Int32)) % (8 : Int32))), .unset]) rfl ?_
    show Go _ _ _ (T34.setTop (mkF mi 169 #[.val (.long la), .second, .val (.long lb), .second, .val (.int tg), .val (.int fm), .val (.int ln), .val (.ref ob1), .val (.int tt), .val (.int 1), .val (.int 3), .val (.int 7), .val (.int ((ln &&& (2147483647 : Int32)) % (8 : Int32))), .unset] [])) _
    obtain ⟨L, hLe⟩ : ∃ z, z = ((ln &&& (2147483647 : Int32)) % (8 : Int32)) := ⟨_, rfl⟩
    rw [← hLe]
    obtain ⟨hL1, hL2⟩ := own_l ln (8 : Int32) L 8 rfl (by decide) hLe
    have hL2 : L.toInt ≤ 7 := by omega
    have hL2' : L.toInt ≤ 8 := by omega
    show Go _ _ _ (T34.setTop (mkF mi 169 #[.val (.long la), .second, .val (.long lb), .second, .val (.int tg), .val (.int fm), .val (.int ln), .val (.ref ob1), .val (.int tt), .val (.int 1), .val (.int 3), .val (.int 7), .val (.int L), .unset] [])) _
    refine g_iload X34 hx hby at_169 rfl ?_
    refine g_ifYes X34 hx hby at_171 ((if0 _ _).trans (feq (by decide)).2) (pc0 := 171) (pc' := 184) rfl (by decide) (by decide) ?_
    refine g_aload X34 hx hby at_184 rfl rfl ?_
    refine g_iconst X34 hx hby at_186 (v := 1) rfl ?_
    refine g_sipush X34 hx hby at_187 (v := 128) rfl ?_
    refine g_iload X34 hx hby at_190 rfl ?_
    refine g_ior X34 hx hby at_192 (z := 129) rfl ?_
    refine g_i2b X34 hx hby at_193 (z := (-127)) rfl ?_
    have ov51 := V34
    obtain ⟨cl51, Ar51, q51, S51, M51, H51, G51⟩ := ov51
    have hin51 : ¬ ((1 : Int32) < 0 ∨ cl51.slots.size ≤ ((1 : Int32)).toNatClampNeg) := inb_of S51 ⟨by decide, by decide⟩
    obtain ⟨T52, h52, X52, e52, W52, st52⟩ := stB X34 hx hZ e34 Ar51 (j := (1 : Int32)) hin51 (g := (mkF mi 194 #[.val (.long la), .second, .val (.long lb), .second, .val (.int tg), .val (.int fm), .val (.int ln), .val (.ref ob1), .val (.int tt), .val (.int 1), .val (.int 3), .val (.int 7), .val (.int L), .unset] [(.int (-127)), (.int 1), (.ref ob1)])) rfl rfl (hb hby at_194)
    have Zs53 : n0 ≤ h52.size := Nat.le_trans Zs35 (Keep.of_wr W52).1
    have N53 := Fr.snoc X52 N35 g_ob1
    have V52 : Arv Z h52 ob1 k1 .byte (10 : Int32) [(.int ((tt.toInt8.toInt32).toInt8.toInt32)), (.int (-127)), (.int y2), (.int y3), (.int y4), (.int y5), (.int y6), (.int y7), (.int y8), (.int y9)] (.int (0 : Int32)) := Arv.set Ar51 q51 S51 M51 H51 G51 (by decide) W52 1 rfl (Nat.le_of_ble_eq_true rfl)
    refine Go.st st52 ?_
    refine g_iload X52 hx hby at_195 rfl ?_
    refine g_iconst X52 hx hby at_197 (v := 2) rfl ?_
    refine g_icmpYes X52 hx hby at_198 (tlt (by decide)).1 (pc0 := 198) (pc' := 206) rfl (by decide) (by decide) ?_
    refine g_iload X52 hx hby at_206 rfl ?_
    refine g_iconst X52 hx hby at_208 (v := 3) rfl ?_
    refine g_icmpYes X52 hx hby at_209 (tlt (by decide)).1 (pc0 := 209) (pc' := 217) rfl (by decide) (by decide) ?_
    refine g_iload X52 hx hby at_217 rfl ?_
    refine g_iconst X52 hx hby at_219 (v := 4) rfl ?_
    refine g_icmpYes X52 hx hby at_220 (tlt (by decide)).1 (pc0 := 220) (pc' := 228) rfl (by decide) (by decide) ?_
    refine g_aload X52 hx hby at_228 rfl rfl ?_
    refine g_iconst X52 hx hby at_230 (v := 1) rfl ?_
    refine g_iload X52 hx hby at_231 rfl ?_
    show Go _ _ _ (T52.setTop (mkF mi 233 #[.val (.long la), .second, .val (.long lb), .second, .val (.int tg), .val (.int fm), .val (.int ln), .val (.ref ob1), .val (.int tt), .val (.int 1), .val (.int 3), .val (.int 7), .val (.int L), .unset] [(.int 1), (.int 1), (.ref ob1)])) _
    refine g_iadd X52 hx hby at_233 (z := 2) rfl ?_
    refine g_iload X52 hx hby at_234 rfl ?_
    refine g_i2b X52 hx hby at_236 rfl ?_
    have ov54 := V52
    obtain ⟨cl54, Ar54, q54, S54, M54, H54, G54⟩ := ov54
    have hin54 : ¬ ((2 : Int32) < 0 ∨ cl54.slots.size ≤ ((2 : Int32)).toNatClampNeg) := inb_of S54 ⟨by decide, by decide⟩
    obtain ⟨T55, h55, X55, e55, W55, st55⟩ := stB X52 hx hZ e52 Ar54 (j := (2 : Int32)) hin54 (g := (mkF mi 237 #[.val (.long la), .second, .val (.long lb), .second, .val (.int tg), .val (.int fm), .val (.int ln), .val (.ref ob1), .val (.int tt), .val (.int 1), .val (.int 3), .val (.int 7), .val (.int L), .unset] [(.int (L.toInt8.toInt32)), (.int 2), (.ref ob1)])) rfl rfl (hb hby at_237)
    have Zs56 : n0 ≤ h55.size := Nat.le_trans Zs53 (Keep.of_wr W55).1
    have N56 := Fr.snoc X55 N53 g_ob1
    have V55 : Arv Z h55 ob1 k1 .byte (10 : Int32) [(.int ((tt.toInt8.toInt32).toInt8.toInt32)), (.int (-127)), (.int ((L.toInt8.toInt32).toInt8.toInt32)), (.int y3), (.int y4), (.int y5), (.int y6), (.int y7), (.int y8), (.int y9)] (.int (0 : Int32)) := Arv.set Ar54 q54 S54 M54 H54 G54 (fits_nar_byte _) W55 2 rfl (Nat.le_of_ble_eq_true rfl)
    refine Go.st st55 ?_
    refine g_aload X55 hx hby at_238 rfl rfl ?_
    have ht := own_tag tg tt htt
    have hb1 : ((-127 : Int32) &&& (255 : Int32)) = (129 : Int32) := by decide
    have hb2 := own_byte hL1 hL2'
    obtain ⟨_, _, ⟨T57, L57, k57, n57⟩, -, X57, ⟨Lc57, hQ57, l57, y57, z57⟩, st57⟩ := Jvm.LawKit.callS X55 hx (y := (⟨"com/example/pemgate/pemgate/core/Der", "contents", "([B)[B"⟩ : MethodName)) hown (mvT hZ (hw _ (own_m 2 rfl))) (mvT hZ (hw _ (own_m 3 rfl))) (mvT hZ (hw _ (own_m 4 rfl))) (mvT hZ (hw _ (own_m 5 rfl))) (by decide) (backOf (W := 0) (rmCt1 l Z a0 hw [] ob1 k1 L ((tt.toInt8.toInt32).toInt8.toInt32) (-127 : Int32) ((L.toInt8.toInt32).toInt8.toInt32) y3 y4 y5 y6 y7 y8 y9 h55 n0 Zs56 V55 hL1 hL2 hL2' ht hb1 hb2) hZ (hw _ (own_m 5 rfl)) (hw _ (own_m 4 rfl)) (by decide) (by decide)) (g := (mkF mi 240 #[.val (.long la), .second, .val (.long lb), .second, .val (.int tg), .val (.int fm), .val (.int ln), .val (.ref ob1), .val (.int tt), .val (.int 1), .val (.int 3), .val (.int 7), .val (.int L), .unset] [(.ref ob1)])) rfl (by rw [hml]; rfl) (argsL := [(.ref ob1)]) (rest := []) (lenOf pd_4 rfl) rfl (by show 2 * 0 + _ ≤ _; exact Nat.le_of_eq rfl) (hb hby at_240) (fun _ _ => ⟨rfl, e55, (by decide : 1 + 2 ≤ _), (by decide : 10 + 10 ≤ _)⟩)
    dsimp only [Pt.U, Pt.locs, Pt.cells, Pt.slots] at X57 l57 y57 z57 st57 hQ57
    subst y57 z57
    have X57 := own_cs X57 (cells' := 3) (slots' := 20) rfl rfl
    obtain ⟨h57, e57⟩ : ∃ z, T57.heap = z := ⟨_, rfl⟩
    rw [e57] at hQ57
    obtain ⟨r57, kr57, us57, rfl, N57q, K57, z_r57, g_r57, V_r57, U_r57⟩ := hQ57
    have N57 := own_fr l57 (Fr.app N56 N57q)
    have Zs58 : n0 ≤ h57.size := Nat.le_trans Zs56 K57.1
    refine Go.st st57 ?_
    refine g_astore X57 hx hby at_243 rfl (l' := #[.val (.long la), .second, .val (.long lb), .second, .val (.int tg), .val (.int fm), .val (.int ln), .val (.ref ob1), .val (.int tt), .val (.int 1), .val (.int 3), .val (.int 7), .val (.int L), .val (.ref r57)]) rfl ?_
    refine g_aload X57 hx hby at_245 rfl rfl ?_
    have ov59 := V_r57
    obtain ⟨cl59, Ar59, q59, S59, M59, H59, G59⟩ := ov59
    refine Go.st (X57.arraylength hx (by rw [e57]; exact Ar59.1) (State.isArrayOf_alike hZ.alike Ar59.2.1) (g := (mkF mi 247 #[.val (.long la), .second, .val (.long lb), .second, .val (.int tg), .val (.int fm), .val (.int ln), .val (.ref ob1), .val (.int tt), .val (.int 1), .val (.int 3), .val (.int 7), .val (.int L), .val (.ref r57)] [(.ref r57)])) rfl rfl (hb hby at_247)) ?_
    rw [len_of S59 M59]
    refine g_iload X57 hx hby at_248 rfl ?_
    refine g_icmpYes X57 hx hby at_250 (teq rfl).1 (pc0 := 250) (pc' := 255) rfl (by decide) (by decide) ?_
    refine g_aload X57 hx hby at_255 rfl rfl ?_
    refine g_aload X57 hx hby at_257 rfl rfl ?_
    refine g_iload X57 hx hby at_259 rfl ?_
    refine g_iconst X57 hx hby at_261 (v := 0) rfl ?_
    refine g_iload X57 hx hby at_262 rfl ?_
    have f61 := (V55.keep K57 nin0)
    obtain ⟨_, _, ⟨T60, L60, k60, n60⟩, -, X60, ⟨Lc60, hQ60, l60, y60, z60⟩, st60⟩ := Jvm.LawKit.callS X57 hx (y := (⟨"com/example/pemgate/pemgate/core/DerContentsPinLaw", "same", "([B[BIII)Z"⟩ : MethodName)) hown (mvT hZ (hw _ (own_m 28 rfl))) (mvT hZ (hw _ (own_m 29 rfl))) (mvT hZ (hw _ (own_m 30 rfl))) (mvT hZ (hw _ (own_m 31 rfl))) (by decide) (backOf (W := 0) (rmS l Z a0 hw [] r57 ob1 (3 : Int32) (0 : Int32) L kr57 us57 k1 [(.int ((tt.toInt8.toInt32).toInt8.toInt32)), (.int (-127)), (.int ((L.toInt8.toInt32).toInt8.toInt32)), (.int y3), (.int y4), (.int y5), (.int y6), (.int y7), (.int y8), (.int y9)] h57 n0 Zs58 f61 V_r57 (by decide) (fun q => ⟨by decide, by decide, y3, (congrArg (fun k => us57.getD k (.int (0 : Int32))) (by decide +kernel : (0 : Int32).toNatClampNeg = 0)).trans (U_r57 0 (own_nat q (k := 0) (by decide +kernel))), congrArg (fun k => List.getD ([(.int ((tt.toInt8.toInt32).toInt8.toInt32)), (.int (-127)), (.int ((L.toInt8.toInt32).toInt8.toInt32)), (.int y3), (.int y4), (.int y5), (.int y6), (.int y7), (.int y8), (.int y9)] : List Value) k (.int (0 : Int32))) (by decide +kernel : ((3 : Int32) + (0 : Int32)).toNatClampNeg = 3)⟩)) hZ (hw _ (own_m 31 rfl)) (hw _ (own_m 30 rfl)) (by decide) (by decide)) (g := (mkF mi 264 #[.val (.long la), .second, .val (.long lb), .second, .val (.int tg), .val (.int fm), .val (.int ln), .val (.ref ob1), .val (.int tt), .val (.int 1), .val (.int 3), .val (.int 7), .val (.int L), .val (.ref r57)] [(.int L), (.int 0), (.int 3), (.ref ob1), (.ref r57)])) rfl (by rw [hml]; rfl) (argsL := [(.ref r57), (.ref ob1), (.int 3), (.int 0), (.int L)]) (rest := []) (lenOf pd_5 rfl) rfl (by show 2 * 0 + _ ≤ _; exact Nat.le_of_eq rfl) (hb hby at_264) (fun _ _ => ⟨rfl, e57, (by decide : 3 + 0 ≤ _), (by decide : 20 + 0 ≤ _)⟩)
    dsimp only [Pt.U, Pt.locs, Pt.cells, Pt.slots] at X60 l60 y60 z60 st60 hQ60
    subst y60 z60
    have X60 := own_cs X60 (cells' := 3) (slots' := 20) rfl rfl
    obtain ⟨rfl, N60q, e60⟩ := hQ60
    have N60 := own_fr l60 (Fr.app N57 N60q)
    refine Go.st st60 ?_
    refine g_ifNo X60 hx hby at_267 ((if0 _ _).trans (feq (by decide)).1) ?_
    refine g_aload X60 hx hby at_270 rfl rfl ?_
    refine g_aload X60 hx hby at_272 rfl rfl ?_
    refine g_iload X60 hx hby at_274 rfl ?_
    show Go _ _ _ (T60.setTop (mkF mi 276 #[.val (.long la), .second, .val (.long lb), .second, .val (.int tg), .val (.int fm), .val (.int ln), .val (.ref ob1), .val (.int tt), .val (.int 1), .val (.int 3), .val (.int 7), .val (.int L), .val (.ref r57)] [(.int 3), (.ref ob1), (.ref r57)])) _
    refine g_iconst X60 hx hby at_276 (v := 1) rfl ?_
    refine g_iload X60 hx hby at_277 rfl ?_
    obtain ⟨_, _, ⟨T62, L62, k62, n62⟩, -, X62, ⟨Lc62, hQ62, l62, y62, z62⟩, st62⟩ := Jvm.LawKit.callS X60 hx (y := (⟨"com/example/pemgate/pemgate/core/DerContentsPinLaw", "same", "([B[BIII)Z"⟩ : MethodName)) hown (mvT hZ (hw _ (own_m 28 rfl))) (mvT hZ (hw _ (own_m 29 rfl))) (mvT hZ (hw _ (own_m 30 rfl))) (mvT hZ (hw _ (own_m 31 rfl))) (by decide) (backOf (W := 0) (rmS l Z a0 hw [] r57 ob1 (3 : Int32) (1 : Int32) L kr57 us57 k1 [(.int ((tt.toInt8.toInt32).toInt8.toInt32)), (.int (-127)), (.int ((L.toInt8.toInt32).toInt8.toInt32)), (.int y3), (.int y4), (.int y5), (.int y6), (.int y7), (.int y8), (.int y9)] h57 n0 Zs58 f61 V_r57 (by decide) (fun q => ⟨by decide, by decide, y4, (congrArg (fun k => us57.getD k (.int (0 : Int32))) (by decide +kernel : (1 : Int32).toNatClampNeg = 1)).trans (U_r57 1 (own_nat q (k := 1) (by decide +kernel))), congrArg (fun k => List.getD ([(.int ((tt.toInt8.toInt32).toInt8.toInt32)), (.int (-127)), (.int ((L.toInt8.toInt32).toInt8.toInt32)), (.int y3), (.int y4), (.int y5), (.int y6), (.int y7), (.int y8), (.int y9)] : List Value) k (.int (0 : Int32))) (by decide +kernel : ((3 : Int32) + (1 : Int32)).toNatClampNeg = 4)⟩)) hZ (hw _ (own_m 31 rfl)) (hw _ (own_m 30 rfl)) (by decide) (by decide)) (g := (mkF mi 279 #[.val (.long la), .second, .val (.long lb), .second, .val (.int tg), .val (.int fm), .val (.int ln), .val (.ref ob1), .val (.int tt), .val (.int 1), .val (.int 3), .val (.int 7), .val (.int L), .val (.ref r57)] [(.int L), (.int 1), (.int 3), (.ref ob1), (.ref r57)])) rfl (by rw [hml]; rfl) (argsL := [(.ref r57), (.ref ob1), (.int 3), (.int 1), (.int L)]) (rest := []) (lenOf pd_5 rfl) rfl (by show 2 * 0 + _ ≤ _; exact Nat.le_of_eq rfl) (hb hby at_279) (fun _ _ => ⟨rfl, e60, (by decide : 3 + 0 ≤ _), (by decide : 20 + 0 ≤ _)⟩)
    dsimp only [Pt.U, Pt.locs, Pt.cells, Pt.slots] at X62 l62 y62 z62 st62 hQ62
    subst y62 z62
    have X62 := own_cs X62 (cells' := 3) (slots' := 20) rfl rfl
    obtain ⟨rfl, N62q, e62⟩ := hQ62
    have N62 := own_fr l62 (Fr.app N60 N62q)
    refine Go.st st62 ?_
    refine g_ifNo X62 hx hby at_282 ((if0 _ _).trans (feq (by decide)).1) ?_
    refine g_aload X62 hx hby at_285 rfl rfl ?_
    refine g_aload X62 hx hby at_287 rfl rfl ?_
    refine g_iload X62 hx hby at_289 rfl ?_
    refine g_iconst X62 hx hby at_291 (v := 2) rfl ?_
    refine g_iload X62 hx hby at_292 rfl ?_
    obtain ⟨_, _, ⟨T63, L63, k63, n63⟩, -, X63, ⟨Lc63, hQ63, l63, y63, z63⟩, st63⟩ := Jvm.LawKit.callS X62 hx (y := (⟨"com/example/pemgate/pemgate/core/DerContentsPinLaw", "same", "([B[BIII)Z"⟩ : MethodName)) hown (mvT hZ (hw _ (own_m 28 rfl))) (mvT hZ (hw _ (own_m 29 rfl))) (mvT hZ (hw _ (own_m 30 rfl))) (mvT hZ (hw _ (own_m 31 rfl))) (by decide) (backOf (W := 0) (rmS l Z a0 hw [] r57 ob1 (3 : Int32) (2 : Int32) L kr57 us57 k1 [(.int ((tt.toInt8.toInt32).toInt8.toInt32)), (.int (-127)), (.int ((L.toInt8.toInt32).toInt8.toInt32)), (.int y3), (.int y4), (.int y5), (.int y6), (.int y7), (.int y8), (.int y9)] h57 n0 Zs58 f61 V_r57 (by decide) (fun q => ⟨by decide, by decide, y5, (congrArg (fun k => us57.getD k (.int (0 : Int32))) (by decide +kernel : (2 : Int32).toNatClampNeg = 2)).trans (U_r57 2 (own_nat q (k := 2) (by decide +kernel))), congrArg (fun k => List.getD ([(.int ((tt.toInt8.toInt32).toInt8.toInt32)), (.int (-127)), (.int ((L.toInt8.toInt32).toInt8.toInt32)), (.int y3), (.int y4), (.int y5), (.int y6), (.int y7), (.int y8), (.int y9)] : List Value) k (.int (0 : Int32))) (by decide +kernel : ((3 : Int32) + (2 : Int32)).toNatClampNeg = 5)⟩)) hZ (hw _ (own_m 31 rfl)) (hw _ (own_m 30 rfl)) (by decide) (by decide)) (g := (mkF mi 294 #[.val (.long la), .second, .val (.long lb), .second, .val (.int tg), .val (.int fm), .val (.int ln), .val (.ref ob1), .val (.int tt), .val (.int 1), .val (.int 3), .val (.int 7), .val (.int L), .val (.ref r57)] [(.int L), (.int 2), (.int 3), (.ref ob1), (.ref r57)])) rfl (by rw [hml]; rfl) (argsL := [(.ref r57), (.ref ob1), (.int 3), (.int 2), (.int L)]) (rest := []) (lenOf pd_5 rfl) rfl (by show 2 * 0 + _ ≤ _; exact Nat.le_of_eq rfl) (hb hby at_294) (fun _ _ => ⟨rfl, e62, (by decide : 3 + 0 ≤ _), (by decide : 20 + 0 ≤ _)⟩)
    dsimp only [Pt.U, Pt.locs, Pt.cells, Pt.slots] at X63 l63 y63 z63 st63 hQ63
    subst y63 z63
    have X63 := own_cs X63 (cells' := 3) (slots' := 20) rfl rfl
    obtain ⟨rfl, N63q, e63⟩ := hQ63
    have N63 := own_fr l63 (Fr.app N62 N63q)
    refine Go.st st63 ?_
    refine g_ifNo X63 hx hby at_297 ((if0 _ _).trans (feq (by decide)).1) ?_
    refine g_aload X63 hx hby at_300 rfl rfl ?_
    refine g_aload X63 hx hby at_302 rfl rfl ?_
    refine g_iload X63 hx hby at_304 rfl ?_
    refine g_iconst X63 hx hby at_306 (v := 3) rfl ?_
    refine g_iload X63 hx hby at_307 rfl ?_
    obtain ⟨_, _, ⟨T64, L64, k64, n64⟩, -, X64, ⟨Lc64, hQ64, l64, y64, z64⟩, st64⟩ := Jvm.LawKit.callS X63 hx (y := (⟨"com/example/pemgate/pemgate/core/DerContentsPinLaw", "same", "([B[BIII)Z"⟩ : MethodName)) hown (mvT hZ (hw _ (own_m 28 rfl))) (mvT hZ (hw _ (own_m 29 rfl))) (mvT hZ (hw _ (own_m 30 rfl))) (mvT hZ (hw _ (own_m 31 rfl))) (by decide) (backOf (W := 0) (rmS l Z a0 hw [] r57 ob1 (3 : Int32) (3 : Int32) L kr57 us57 k1 [(.int ((tt.toInt8.toInt32).toInt8.toInt32)), (.int (-127)), (.int ((L.toInt8.toInt32).toInt8.toInt32)), (.int y3), (.int y4), (.int y5), (.int y6), (.int y7), (.int y8), (.int y9)] h57 n0 Zs58 f61 V_r57 (by decide) (fun q => ⟨by decide, by decide, y6, (congrArg (fun k => us57.getD k (.int (0 : Int32))) (by decide +kernel : (3 : Int32).toNatClampNeg = 3)).trans (U_r57 3 (own_nat q (k := 3) (by decide +kernel))), congrArg (fun k => List.getD ([(.int ((tt.toInt8.toInt32).toInt8.toInt32)), (.int (-127)), (.int ((L.toInt8.toInt32).toInt8.toInt32)), (.int y3), (.int y4), (.int y5), (.int y6), (.int y7), (.int y8), (.int y9)] : List Value) k (.int (0 : Int32))) (by decide +kernel : ((3 : Int32) + (3 : Int32)).toNatClampNeg = 6)⟩)) hZ (hw _ (own_m 31 rfl)) (hw _ (own_m 30 rfl)) (by decide) (by decide)) (g := (mkF mi 309 #[.val (.long la), .second, .val (.long lb), .second, .val (.int tg), .val (.int fm), .val (.int ln), .val (.ref ob1), .val (.int tt), .val (.int 1), .val (.int 3), .val (.int 7), .val (.int L), .val (.ref r57)] [(.int L), (.int 3), (.int 3), (.ref ob1), (.ref r57)])) rfl (by rw [hml]; rfl) (argsL := [(.ref r57), (.ref ob1), (.int 3), (.int 3), (.int L)]) (rest := []) (lenOf pd_5 rfl) rfl (by show 2 * 0 + _ ≤ _; exact Nat.le_of_eq rfl) (hb hby at_309) (fun _ _ => ⟨rfl, e63, (by decide : 3 + 0 ≤ _), (by decide : 20 + 0 ≤ _)⟩)
    dsimp only [Pt.U, Pt.locs, Pt.cells, Pt.slots] at X64 l64 y64 z64 st64 hQ64
    subst y64 z64
    have X64 := own_cs X64 (cells' := 3) (slots' := 20) rfl rfl
    obtain ⟨rfl, N64q, e64⟩ := hQ64
    have N64 := own_fr l64 (Fr.app N63 N64q)
    refine Go.st st64 ?_
    refine g_ifNo X64 hx hby at_312 ((if0 _ _).trans (feq (by decide)).1) ?_
    refine g_aload X64 hx hby at_315 rfl rfl ?_
    refine g_aload X64 hx hby at_317 rfl rfl ?_
    refine g_iload X64 hx hby at_319 rfl ?_
    show Go _ _ _ (T64.setTop (mkF mi 321 #[.val (.long la), .second, .val (.long lb), .second, .val (.int tg), .val (.int fm), .val (.int ln), .val (.ref ob1), .val (.int tt), .val (.int 1), .val (.int 3), .val (.int 7), .val (.int L), .val (.ref r57)] [(.int 3), (.ref ob1), (.ref r57)])) _
    refine g_iconst X64 hx hby at_321 (v := 4) rfl ?_
    refine g_iload X64 hx hby at_322 rfl ?_
    obtain ⟨_, _, ⟨T65, L65, k65, n65⟩, -, X65, ⟨Lc65, hQ65, l65, y65, z65⟩, st65⟩ := Jvm.LawKit.callS X64 hx (y := (⟨"com/example/pemgate/pemgate/core/DerContentsPinLaw", "same", "([B[BIII)Z"⟩ : MethodName)) hown (mvT hZ (hw _ (own_m 28 rfl))) (mvT hZ (hw _ (own_m 29 rfl))) (mvT hZ (hw _ (own_m 30 rfl))) (mvT hZ (hw _ (own_m 31 rfl))) (by decide) (backOf (W := 0) (rmS l Z a0 hw [] r57 ob1 (3 : Int32) (4 : Int32) L kr57 us57 k1 [(.int ((tt.toInt8.toInt32).toInt8.toInt32)), (.int (-127)), (.int ((L.toInt8.toInt32).toInt8.toInt32)), (.int y3), (.int y4), (.int y5), (.int y6), (.int y7), (.int y8), (.int y9)] h57 n0 Zs58 f61 V_r57 (by decide) (fun q => ⟨by decide, by decide, y7, (congrArg (fun k => us57.getD k (.int (0 : Int32))) (by decide +kernel : (4 : Int32).toNatClampNeg = 4)).trans (U_r57 4 (own_nat q (k := 4) (by decide +kernel))), congrArg (fun k => List.getD ([(.int ((tt.toInt8.toInt32).toInt8.toInt32)), (.int (-127)), (.int ((L.toInt8.toInt32).toInt8.toInt32)), (.int y3), (.int y4), (.int y5), (.int y6), (.int y7), (.int y8), (.int y9)] : List Value) k (.int (0 : Int32))) (by decide +kernel : ((3 : Int32) + (4 : Int32)).toNatClampNeg = 7)⟩)) hZ (hw _ (own_m 31 rfl)) (hw _ (own_m 30 rfl)) (by decide) (by decide)) (g := (mkF mi 324 #[.val (.long la), .second, .val (.long lb), .second, .val (.int tg), .val (.int fm), .val (.int ln), .val (.ref ob1), .val (.int tt), .val (.int 1), .val (.int 3), .val (.int 7), .val (.int L), .val (.ref r57)] [(.int L), (.int 4), (.int 3), (.ref ob1), (.ref r57)])) rfl (by rw [hml]; rfl) (argsL := [(.ref r57), (.ref ob1), (.int 3), (.int 4), (.int L)]) (rest := []) (lenOf pd_5 rfl) rfl (by show 2 * 0 + _ ≤ _; exact Nat.le_of_eq rfl) (hb hby at_324) (fun _ _ => ⟨rfl, e64, (by decide : 3 + 0 ≤ _), (by decide : 20 + 0 ≤ _)⟩)
    dsimp only [Pt.U, Pt.locs, Pt.cells, Pt.slots] at X65 l65 y65 z65 st65 hQ65
    subst y65 z65
    have X65 := own_cs X65 (cells' := 3) (slots' := 20) rfl rfl
    obtain ⟨rfl, N65q, e65⟩ := hQ65
    have N65 := own_fr l65 (Fr.app N64 N65q)
    refine Go.st st65 ?_
    refine g_ifNo X65 hx hby at_327 ((if0 _ _).trans (feq (by decide)).1) ?_
    refine g_aload X65 hx hby at_330 rfl rfl ?_
    refine g_aload X65 hx hby at_332 rfl rfl ?_
    refine g_iload X65 hx hby at_334 rfl ?_
    refine g_iconst X65 hx hby at_336 (v := 5) rfl ?_
    refine g_iload X65 hx hby at_337 rfl ?_
    obtain ⟨_, _, ⟨T66, L66, k66, n66⟩, -, X66, ⟨Lc66, hQ66, l66, y66, z66⟩, st66⟩ := Jvm.LawKit.callS X65 hx (y := (⟨"com/example/pemgate/pemgate/core/DerContentsPinLaw", "same", "([B[BIII)Z"⟩ : MethodName)) hown (mvT hZ (hw _ (own_m 28 rfl))) (mvT hZ (hw _ (own_m 29 rfl))) (mvT hZ (hw _ (own_m 30 rfl))) (mvT hZ (hw _ (own_m 31 rfl))) (by decide) (backOf (W := 0) (rmS l Z a0 hw [] r57 ob1 (3 : Int32) (5 : Int32) L kr57 us57 k1 [(.int ((tt.toInt8.toInt32).toInt8.toInt32)), (.int (-127)), (.int ((L.toInt8.toInt32).toInt8.toInt32)), (.int y3), (.int y4), (.int y5), (.int y6), (.int y7), (.int y8), (.int y9)] h57 n0 Zs58 f61 V_r57 (by decide) (fun q => ⟨by decide, by decide, y8, (congrArg (fun k => us57.getD k (.int (0 : Int32))) (by decide +kernel : (5 : Int32).toNatClampNeg = 5)).trans (U_r57 5 (own_nat q (k := 5) (by decide +kernel))), congrArg (fun k => List.getD ([(.int ((tt.toInt8.toInt32).toInt8.toInt32)), (.int (-127)), (.int ((L.toInt8.toInt32).toInt8.toInt32)), (.int y3), (.int y4), (.int y5), (.int y6), (.int y7), (.int y8), (.int y9)] : List Value) k (.int (0 : Int32))) (by decide +kernel : ((3 : Int32) + (5 : Int32)).toNatClampNeg = 8)⟩)) hZ (hw _ (own_m 31 rfl)) (hw _ (own_m 30 rfl)) (by decide) (by decide)) (g := (mkF mi 339 #[.val (.long la), .second, .val (.long lb), .second, .val (.int tg), .val (.int fm), .val (.int ln), .val (.ref ob1), .val (.int tt), .val (.int 1), .val (.int 3), .val (.int 7), .val (.int L), .val (.ref r57)] [(.int L), (.int 5), (.int 3), (.ref ob1), (.ref r57)])) rfl (by rw [hml]; rfl) (argsL := [(.ref r57), (.ref ob1), (.int 3), (.int 5), (.int L)]) (rest := []) (lenOf pd_5 rfl) rfl (by show 2 * 0 + _ ≤ _; exact Nat.le_of_eq rfl) (hb hby at_339) (fun _ _ => ⟨rfl, e65, (by decide : 3 + 0 ≤ _), (by decide : 20 + 0 ≤ _)⟩)
    dsimp only [Pt.U, Pt.locs, Pt.cells, Pt.slots] at X66 l66 y66 z66 st66 hQ66
    subst y66 z66
    have X66 := own_cs X66 (cells' := 3) (slots' := 20) rfl rfl
    obtain ⟨rfl, N66q, e66⟩ := hQ66
    have N66 := own_fr l66 (Fr.app N65 N66q)
    refine Go.st st66 ?_
    refine g_ifNo X66 hx hby at_342 ((if0 _ _).trans (feq (by decide)).1) ?_
    refine g_aload X66 hx hby at_345 rfl rfl ?_
    refine g_aload X66 hx hby at_347 rfl rfl ?_
    refine g_iload X66 hx hby at_349 rfl ?_
    refine g_bipush X66 hx hby at_351 (v := 6) rfl ?_
    refine g_iload X66 hx hby at_353 rfl ?_
    obtain ⟨_, _, ⟨T67, L67, k67, n67⟩, -, X67, ⟨Lc67, hQ67, l67, y67, z67⟩, st67⟩ := Jvm.LawKit.callS X66 hx (y := (⟨"com/example/pemgate/pemgate/core/DerContentsPinLaw", "same", "([B[BIII)Z"⟩ : MethodName)) hown (mvT hZ (hw _ (own_m 28 rfl))) (mvT hZ (hw _ (own_m 29 rfl))) (mvT hZ (hw _ (own_m 30 rfl))) (mvT hZ (hw _ (own_m 31 rfl))) (by decide) (backOf (W := 0) (rmS l Z a0 hw [] r57 ob1 (3 : Int32) (6 : Int32) L kr57 us57 k1 [(.int ((tt.toInt8.toInt32).toInt8.toInt32)), (.int (-127)), (.int ((L.toInt8.toInt32).toInt8.toInt32)), (.int y3), (.int y4), (.int y5), (.int y6), (.int y7), (.int y8), (.int y9)] h57 n0 Zs58 f61 V_r57 (by decide) (fun q => ⟨by decide, by decide, y9, (congrArg (fun k => us57.getD k (.int (0 : Int32))) (by decide +kernel : (6 : Int32).toNatClampNeg = 6)).trans (U_r57 6 (own_nat q (k := 6) (by decide +kernel))), congrArg (fun k => List.getD ([(.int ((tt.toInt8.toInt32).toInt8.toInt32)), (.int (-127)), (.int ((L.toInt8.toInt32).toInt8.toInt32)), (.int y3), (.int y4), (.int y5), (.int y6), (.int y7), (.int y8), (.int y9)] : List Value) k (.int (0 : Int32))) (by decide +kernel : ((3 : Int32) + (6 : Int32)).toNatClampNeg = 9)⟩)) hZ (hw _ (own_m 31 rfl)) (hw _ (own_m 30 rfl)) (by decide) (by decide)) (g := (mkF mi 355 #[.val (.long la), .second, .val (.long lb), .second, .val (.int tg), .val (.int fm), .val (.int ln), .val (.ref ob1), .val (.int tt), .val (.int 1), .val (.int 3), .val (.int 7), .val (.int L), .val (.ref r57)] [(.int L), (.int 6), (.int 3), (.ref ob1), (.ref r57)])) rfl (by rw [hml]; rfl) (argsL := [(.ref r57), (.ref ob1), (.int 3), (.int 6), (.int L)]) (rest := []) (lenOf pd_5 rfl) rfl (by show 2 * 0 + _ ≤ _; exact Nat.le_of_eq rfl) (hb hby at_355) (fun _ _ => ⟨rfl, e66, (by decide : 3 + 0 ≤ _), (by decide : 20 + 0 ≤ _)⟩)
    dsimp only [Pt.U, Pt.locs, Pt.cells, Pt.slots] at X67 l67 y67 z67 st67 hQ67
    subst y67 z67
    have X67 := own_cs X67 (cells' := 3) (slots' := 20) rfl rfl
    obtain ⟨rfl, N67q, e67⟩ := hQ67
    have N67 := own_fr l67 (Fr.app N66 N67q)
    refine Go.st st67 ?_
    refine g_ifNo X67 hx hby at_358 ((if0 _ _).trans (feq (by decide)).1) ?_
    refine g_aload X67 hx hby at_361 rfl rfl ?_
    refine g_aload X67 hx hby at_363 rfl rfl ?_
    refine g_iload X67 hx hby at_365 rfl ?_
    show Go _ _ _ (T67.setTop (mkF mi 367 #[.val (.long la), .second, .val (.long lb), .second, .val (.int tg), .val (.int fm), .val (.int ln), .val (.ref ob1), .val (.int tt), .val (.int 1), .val (.int 3), .val (.int 7), .val (.int L), .val (.ref r57)] [(.int 3), (.ref ob1), (.ref r57)])) _
    refine g_bipush X67 hx hby at_367 (v := 7) rfl ?_
    refine g_iload X67 hx hby at_369 rfl ?_
    obtain ⟨_, _, ⟨T68, L68, k68, n68⟩, -, X68, ⟨Lc68, hQ68, l68, y68, z68⟩, st68⟩ := Jvm.LawKit.callS X67 hx (y := (⟨"com/example/pemgate/pemgate/core/DerContentsPinLaw", "same", "([B[BIII)Z"⟩ : MethodName)) hown (mvT hZ (hw _ (own_m 28 rfl))) (mvT hZ (hw _ (own_m 29 rfl))) (mvT hZ (hw _ (own_m 30 rfl))) (mvT hZ (hw _ (own_m 31 rfl))) (by decide) (backOf (W := 0) (rmS l Z a0 hw [] r57 ob1 (3 : Int32) (7 : Int32) L kr57 us57 k1 [(.int ((tt.toInt8.toInt32).toInt8.toInt32)), (.int (-127)), (.int ((L.toInt8.toInt32).toInt8.toInt32)), (.int y3), (.int y4), (.int y5), (.int y6), (.int y7), (.int y8), (.int y9)] h57 n0 Zs58 f61 V_r57 (by decide) (fun q => absurd q (own_far hL2 (by decide)))) hZ (hw _ (own_m 31 rfl)) (hw _ (own_m 30 rfl)) (by decide) (by decide)) (g := (mkF mi 371 #[.val (.long la), .second, .val (.long lb), .second, .val (.int tg), .val (.int fm), .val (.int ln), .val (.ref ob1), .val (.int tt), .val (.int 1), .val (.int 3), .val (.int 7), .val (.int L), .val (.ref r57)] [(.int L), (.int 7), (.int 3), (.ref ob1), (.ref r57)])) rfl (by rw [hml]; rfl) (argsL := [(.ref r57), (.ref ob1), (.int 3), (.int 7), (.int L)]) (rest := []) (lenOf pd_5 rfl) rfl (by show 2 * 0 + _ ≤ _; exact Nat.le_of_eq rfl) (hb hby at_371) (fun _ _ => ⟨rfl, e67, (by decide : 3 + 0 ≤ _), (by decide : 20 + 0 ≤ _)⟩)
    dsimp only [Pt.U, Pt.locs, Pt.cells, Pt.slots] at X68 l68 y68 z68 st68 hQ68
    subst y68 z68
    have X68 := own_cs X68 (cells' := 3) (slots' := 20) rfl rfl
    obtain ⟨rfl, N68q, e68⟩ := hQ68
    have N68 := own_fr l68 (Fr.app N67 N68q)
    refine Go.st st68 ?_
    refine g_ifNo X68 hx hby at_374 ((if0 _ _).trans (feq (by decide)).1) ?_
    refine g_iconst X68 hx hby at_377 (v := 1) rfl ?_
    refine g_goto X68 hx hby at_378 (pc0 := 378) (pc' := 382) rfl (by decide) (by decide) ?_
    obtain ⟨fs, hr, hrun, hended, hW, hsame⟩ := X68.leave (v := some (.int 1)) (fun h => by rw [Bd.returns] at h; cases h) (BodyLoose.notSynchronized Bd)
    refine ⟨_, _, ?_, hP _ _ ⟨hrun, hended, _, _, rfl, ?_, ⟨_, rfl⟩, hW, hsame.mono (by decide) (by decide)⟩⟩
    · exact retN X68 hx (t := .boolean) Bd.returns (by simp) (hb hby at_382) hr
    · show (some (.int 1) : Option Value) = some (.int 1) ∧ Fr n0 _
      exact ⟨rfl, N68⟩
  · rw [hN]
    show Go _ _ _ (T34.setTop (mkF mi 144 #[.val (.long la), .second, .val (.long lb), .second, .val (.int tg), .val (.int fm), .val (.int ln), .val (.ref ob1), .val (.int tt), .val (.int 2), .unset, .unset, .unset, .unset] [])) _
    refine g_iconst X34 hx hby at_144 (v := 2) rfl ?_
    refine g_iload X34 hx hby at_145 rfl ?_
    refine g_iadd X34 hx hby at_147 (z := 4) rfl ?_
    refine g_istore X34 hx hby at_148 (l' := #[.val (.long la), .second, .val (.long lb), .second, .val (.int tg), .val (.int fm), .val (.int ln), .val (.ref ob1), .val (.int tt), .val (.int 2), .val (.int 4), .unset, .unset, .unset]) rfl ?_
    refine g_bipush X34 hx hby at_150 (v := 10) rfl ?_
    refine g_iload X34 hx hby at_152 rfl ?_
    refine g_isub X34 hx hby at_154 (z := 6) rfl ?_
    refine g_istore X34 hx hby at_155 (l' := #[.val (.long la), .second, .val (.long lb), .second, .val (.int tg), .val (.int fm), .val (.int ln), .val (.ref ob1), .val (.int tt), .val (.int 2), .val (.int 4), .val (.int 6), .unset, .unset]) rfl ?_
    refine g_iload X34 hx hby at_157 rfl ?_
    refine Go.st (X34.ldcInt hx hown (mvT hZ (hw _ (own_m 1 rfl))) (g := (mkF mi 159 #[.val (.long la), .second, .val (.long lb), .second, .val (.int tg), .val (.int fm), .val (.int ln), .val (.ref ob1), .val (.int tt), .val (.int 2), .val (.int 4), .val (.int 6), .unset, .unset] [(.int ln)])) rfl (hb hby at_159)) ?_
    show Go _ _ _ (T34.setTop (mkF mi 161 #[.val (.long la), .second, .val (.long lb), .second, .val (.int tg), .val (.int fm), .val (.int ln), .val (.ref ob1), .val (.int tt), .val (.int 2), .val (.int 4), .val (.int 6), .unset, .unset] [(.int 2147483647), (.int ln)])) _
    refine g_iand X34 hx hby at_161 rfl ?_
    refine g_iload X34 hx hby at_162 rfl ?_
    refine g_iconst X34 hx hby at_164 (v := 1) rfl ?_
    refine g_iadd X34 hx hby at_165 (z := 7) rfl ?_
    refine Go.s (iremM X34 hx rfl (hb hby at_166) rfl (by decide)) ?_
    refine g_istore X34 hx hby at_167 (l' := #[.val (.long la), .second, .val (.long lb), .second, .val (.int tg), .val (.int fm), .val (.int ln), .val (.ref ob1), .val (.int tt), .val (.int 2), .val (.int 4), .val (.int 6), .val (.int ((ln &&& (2147483647 : Int32)) % (7 : Int32))), .unset]) rfl ?_
    show Go _ _ _ (T34.setTop (mkF mi 169 #[.val (.long la), .second, .val (.long lb), .second, .val (.int tg), .val (.int fm), .val (.int ln), .val (.ref ob1), .val (.int tt), .val (.int 2), .val (.int 4), .val (.int 6), .val (.int ((ln &&& (2147483647 : Int32)) % (7 : Int32))), .unset] [])) _
    obtain ⟨L, hLe⟩ : ∃ z, z = ((ln &&& (2147483647 : Int32)) % (7 : Int32)) := ⟨_, rfl⟩
    rw [← hLe]
    obtain ⟨hL1, hL2⟩ := own_l ln (7 : Int32) L 7 rfl (by decide) hLe
    have hL2 : L.toInt ≤ 6 := by omega
    have hL2' : L.toInt ≤ 8 := by omega
    show Go _ _ _ (T34.setTop (mkF mi 169 #[.val (.long la), .second, .val (.long lb), .second, .val (.int tg), .val (.int fm), .val (.int ln), .val (.ref ob1), .val (.int tt), .val (.int 2), .val (.int 4), .val (.int 6), .val (.int L), .unset] [])) _
    refine g_iload X34 hx hby at_169 rfl ?_
    refine g_ifYes X34 hx hby at_171 ((if0 _ _).trans (feq (by decide)).2) (pc0 := 171) (pc' := 184) rfl (by decide) (by decide) ?_
    refine g_aload X34 hx hby at_184 rfl rfl ?_
    refine g_iconst X34 hx hby at_186 (v := 1) rfl ?_
    refine g_sipush X34 hx hby at_187 (v := 128) rfl ?_
    refine g_iload X34 hx hby at_190 rfl ?_
    refine g_ior X34 hx hby at_192 (z := 130) rfl ?_
    refine g_i2b X34 hx hby at_193 (z := (-126)) rfl ?_
    have ov69 := V34
    obtain ⟨cl69, Ar69, q69, S69, M69, H69, G69⟩ := ov69
    have hin69 : ¬ ((1 : Int32) < 0 ∨ cl69.slots.size ≤ ((1 : Int32)).toNatClampNeg) := inb_of S69 ⟨by decide, by decide⟩
    obtain ⟨T70, h70, X70, e70, W70, st70⟩ := stB X34 hx hZ e34 Ar69 (j := (1 : Int32)) hin69 (g := (mkF mi 194 #[.val (.long la), .second, .val (.long lb), .second, .val (.int tg), .val (.int fm), .val (.int ln), .val (.ref ob1), .val (.int tt), .val (.int 2), .val (.int 4), .val (.int 6), .val (.int L), .unset] [(.int (-126)), (.int 1), (.ref ob1)])) rfl rfl (hb hby at_194)
    have Zs71 : n0 ≤ h70.size := Nat.le_trans Zs35 (Keep.of_wr W70).1
    have N71 := Fr.snoc X70 N35 g_ob1
    have V70 : Arv Z h70 ob1 k1 .byte (10 : Int32) [(.int ((tt.toInt8.toInt32).toInt8.toInt32)), (.int (-126)), (.int y2), (.int y3), (.int y4), (.int y5), (.int y6), (.int y7), (.int y8), (.int y9)] (.int (0 : Int32)) := Arv.set Ar69 q69 S69 M69 H69 G69 (by decide) W70 1 rfl (Nat.le_of_ble_eq_true rfl)
    refine Go.st st70 ?_
    refine g_iload X70 hx hby at_195 rfl ?_
    refine g_iconst X70 hx hby at_197 (v := 2) rfl ?_
    refine g_icmpNo X70 hx hby at_198 (flt (by decide)).1 ?_
    refine g_aload X70 hx hby at_201 rfl rfl ?_
    refine g_iconst X70 hx hby at_203 (v := 2) rfl ?_
    refine g_iconst X70 hx hby at_204 (v := 0) rfl ?_
    have ov72 := V70
    obtain ⟨cl72, Ar72, q72, S72, M72, H72, G72⟩ := ov72
    have hin72 : ¬ ((2 : Int32) < 0 ∨ cl72.slots.size ≤ ((2 : Int32)).toNatClampNeg) := inb_of S72 ⟨by decide, by decide⟩
    obtain ⟨T73, h73, X73, e73, W73, st73⟩ := stB X70 hx hZ e70 Ar72 (j := (2 : Int32)) hin72 (g := (mkF mi 205 #[.val (.long la), .second, .val (.long lb), .second, .val (.int tg), .val (.int fm), .val (.int ln), .val (.ref ob1), .val (.int tt), .val (.int 2), .val (.int 4), .val (.int 6), .val (.int L), .unset] [(.int 0), (.int 2), (.ref ob1)])) rfl rfl (hb hby at_205)
    have Zs74 : n0 ≤ h73.size := Nat.le_trans Zs71 (Keep.of_wr W73).1
    have N74 := Fr.snoc X73 N71 g_ob1
    have V73 : Arv Z h73 ob1 k1 .byte (10 : Int32) [(.int ((tt.toInt8.toInt32).toInt8.toInt32)), (.int (-126)), (.int 0), (.int y3), (.int y4), (.int y5), (.int y6), (.int y7), (.int y8), (.int y9)] (.int (0 : Int32)) := Arv.set Ar72 q72 S72 M72 H72 G72 (by decide) W73 2 rfl (Nat.le_of_ble_eq_true rfl)
    refine Go.st st73 ?_
    refine g_iload X73 hx hby at_206 rfl ?_
    refine g_iconst X73 hx hby at_208 (v := 3) rfl ?_
    refine g_icmpYes X73 hx hby at_209 (tlt (by decide)).1 (pc0 := 209) (pc' := 217) rfl (by decide) (by decide) ?_
    refine g_iload X73 hx hby at_217 rfl ?_
    refine g_iconst X73 hx hby at_219 (v := 4) rfl ?_
    show Go _ _ _ (T73.setTop (mkF mi 220 #[.val (.long la), .second, .val (.long lb), .second, .val (.int tg), .val (.int fm), .val (.int ln), .val (.ref ob1), .val (.int tt), .val (.int 2), .val (.int 4), .val (.int 6), .val (.int L), .unset] [(.int 4), (.int 2)])) _
    refine g_icmpYes X73 hx hby at_220 (tlt (by decide)).1 (pc0 := 220) (pc' := 228) rfl (by decide) (by decide) ?_
    refine g_aload X73 hx hby at_228 rfl rfl ?_
    refine g_iconst X73 hx hby at_230 (v := 1) rfl ?_
    refine g_iload X73 hx hby at_231 rfl ?_
    refine g_iadd X73 hx hby at_233 (z := 3) rfl ?_
    refine g_iload X73 hx hby at_234 rfl ?_
    refine g_i2b X73 hx hby at_236 rfl ?_
    have ov75 := V73
    obtain ⟨cl75, Ar75, q75, S75, M75, H75, G75⟩ := ov75
    have hin75 : ¬ ((3 : Int32) < 0 ∨ cl75.slots.size ≤ ((3 : Int32)).toNatClampNeg) := inb_of S75 ⟨by decide, by decide⟩
    obtain ⟨T76, h76, X76, e76, W76, st76⟩ := stB X73 hx hZ e73 Ar75 (j := (3 : Int32)) hin75 (g := (mkF mi 237 #[.val (.long la), .second, .val (.long lb), .second, .val (.int tg), .val (.int fm), .val (.int ln), .val (.ref ob1), .val (.int tt), .val (.int 2), .val (.int 4), .val (.int 6), .val (.int L), .unset] [(.int (L.toInt8.toInt32)), (.int 3), (.ref ob1)])) rfl rfl (hb hby at_237)
    have Zs77 : n0 ≤ h76.size := Nat.le_trans Zs74 (Keep.of_wr W76).1
    have N77 := Fr.snoc X76 N74 g_ob1
    have V76 : Arv Z h76 ob1 k1 .byte (10 : Int32) [(.int ((tt.toInt8.toInt32).toInt8.toInt32)), (.int (-126)), (.int 0), (.int ((L.toInt8.toInt32).toInt8.toInt32)), (.int y4), (.int y5), (.int y6), (.int y7), (.int y8), (.int y9)] (.int (0 : Int32)) := Arv.set Ar75 q75 S75 M75 H75 G75 (fits_nar_byte _) W76 3 rfl (Nat.le_of_ble_eq_true rfl)
    refine Go.st st76 ?_
    refine g_aload X76 hx hby at_238 rfl rfl ?_
    have ht := own_tag tg tt htt
    have hb1 : ((-126 : Int32) &&& (255 : Int32)) = (130 : Int32) := by decide
    have hb2 : ((0 : Int32) &&& (255 : Int32)) = (0 : Int32) := by decide
    have hb3 := own_byte hL1 hL2'
    obtain ⟨_, _, ⟨T78, L78, k78, n78⟩, -, X78, ⟨Lc78, hQ78, l78, y78, z78⟩, st78⟩ := Jvm.LawKit.callS X76 hx (y := (⟨"com/example/pemgate/pemgate/core/Der", "contents", "([B)[B"⟩ : MethodName)) hown (mvT hZ (hw _ (own_m 2 rfl))) (mvT hZ (hw _ (own_m 3 rfl))) (mvT hZ (hw _ (own_m 4 rfl))) (mvT hZ (hw _ (own_m 5 rfl))) (by decide) (backOf (W := 0) (rmCt2 l Z a0 hw [] ob1 k1 L ((tt.toInt8.toInt32).toInt8.toInt32) (-126 : Int32) (0 : Int32) ((L.toInt8.toInt32).toInt8.toInt32) y4 y5 y6 y7 y8 y9 h76 n0 Zs77 V76 hL1 hL2 hL2' ht hb1 hb2 hb3) hZ (hw _ (own_m 5 rfl)) (hw _ (own_m 4 rfl)) (by decide) (by decide)) (g := (mkF mi 240 #[.val (.long la), .second, .val (.long lb), .second, .val (.int tg), .val (.int fm), .val (.int ln), .val (.ref ob1), .val (.int tt), .val (.int 2), .val (.int 4), .val (.int 6), .val (.int L), .unset] [(.ref ob1)])) rfl (by rw [hml]; rfl) (argsL := [(.ref ob1)]) (rest := []) (lenOf pd_4 rfl) rfl (by show 2 * 0 + _ ≤ _; exact Nat.le_of_eq rfl) (hb hby at_240) (fun _ _ => ⟨rfl, e76, (by decide : 1 + 2 ≤ _), (by decide : 10 + 10 ≤ _)⟩)
    dsimp only [Pt.U, Pt.locs, Pt.cells, Pt.slots] at X78 l78 y78 z78 st78 hQ78
    subst y78 z78
    have X78 := own_cs X78 (cells' := 3) (slots' := 20) rfl rfl
    obtain ⟨h78, e78⟩ : ∃ z, T78.heap = z := ⟨_, rfl⟩
    rw [e78] at hQ78
    obtain ⟨r78, kr78, us78, rfl, N78q, K78, z_r78, g_r78, V_r78, U_r78⟩ := hQ78
    have N78 := own_fr l78 (Fr.app N77 N78q)
    have Zs79 : n0 ≤ h78.size := Nat.le_trans Zs77 K78.1
    refine Go.st st78 ?_
    refine g_astore X78 hx hby at_243 rfl (l' := #[.val (.long la), .second, .val (.long lb), .second, .val (.int tg), .val (.int fm), .val (.int ln), .val (.ref ob1), .val (.int tt), .val (.int 2), .val (.int 4), .val (.int 6), .val (.int L), .val (.ref r78)]) rfl ?_
    refine g_aload X78 hx hby at_245 rfl rfl ?_
    have ov80 := V_r78
    obtain ⟨cl80, Ar80, q80, S80, M80, H80, G80⟩ := ov80
    refine Go.st (X78.arraylength hx (by rw [e78]; exact Ar80.1) (State.isArrayOf_alike hZ.alike Ar80.2.1) (g := (mkF mi 247 #[.val (.long la), .second, .val (.long lb), .second, .val (.int tg), .val (.int fm), .val (.int ln), .val (.ref ob1), .val (.int tt), .val (.int 2), .val (.int 4), .val (.int 6), .val (.int L), .val (.ref r78)] [(.ref r78)])) rfl rfl (hb hby at_247)) ?_
    rw [len_of S80 M80]
    refine g_iload X78 hx hby at_248 rfl ?_
    refine g_icmpYes X78 hx hby at_250 (teq rfl).1 (pc0 := 250) (pc' := 255) rfl (by decide) (by decide) ?_
    refine g_aload X78 hx hby at_255 rfl rfl ?_
    refine g_aload X78 hx hby at_257 rfl rfl ?_
    refine g_iload X78 hx hby at_259 rfl ?_
    refine g_iconst X78 hx hby at_261 (v := 0) rfl ?_
    refine g_iload X78 hx hby at_262 rfl ?_
    have f82 := (V76.keep K78 nin0)
    obtain ⟨_, _, ⟨T81, L81, k81, n81⟩, -, X81, ⟨Lc81, hQ81, l81, y81, z81⟩, st81⟩ := Jvm.LawKit.callS X78 hx (y := (⟨"com/example/pemgate/pemgate/core/DerContentsPinLaw", "same", "([B[BIII)Z"⟩ : MethodName)) hown (mvT hZ (hw _ (own_m 28 rfl))) (mvT hZ (hw _ (own_m 29 rfl))) (mvT hZ (hw _ (own_m 30 rfl))) (mvT hZ (hw _ (own_m 31 rfl))) (by decide) (backOf (W := 0) (rmS l Z a0 hw [] r78 ob1 (4 : Int32) (0 : Int32) L kr78 us78 k1 [(.int ((tt.toInt8.toInt32).toInt8.toInt32)), (.int (-126)), (.int 0), (.int ((L.toInt8.toInt32).toInt8.toInt32)), (.int y4), (.int y5), (.int y6), (.int y7), (.int y8), (.int y9)] h78 n0 Zs79 f82 V_r78 (by decide) (fun q => ⟨by decide, by decide, y4, (congrArg (fun k => us78.getD k (.int (0 : Int32))) (by decide +kernel : (0 : Int32).toNatClampNeg = 0)).trans (U_r78 0 (own_nat q (k := 0) (by decide +kernel))), congrArg (fun k => List.getD ([(.int ((tt.toInt8.toInt32).toInt8.toInt32)), (.int (-126)), (.int 0), (.int ((L.toInt8.toInt32).toInt8.toInt32)), (.int y4), (.int y5), (.int y6), (.int y7), (.int y8), (.int y9)] : List Value) k (.int (0 : Int32))) (by decide +kernel : ((4 : Int32) + (0 : Int32)).toNatClampNeg = 4)⟩)) hZ (hw _ (own_m 31 rfl)) (hw _ (own_m 30 rfl)) (by decide) (by decide)) (g := (mkF mi 264 #[.val (.long la), .second, .val (.long lb), .second, .val (.int tg), .val (.int fm), .val (.int ln), .val (.ref ob1), .val (.int tt), .val (.int 2), .val (.int 4), .val (.int 6), .val (.int L), .val (.ref r78)] [(.int L), (.int 0), (.int 4), (.ref ob1), (.ref r78)])) rfl (by rw [hml]; rfl) (argsL := [(.ref r78), (.ref ob1), (.int 4), (.int 0), (.int L)]) (rest := []) (lenOf pd_5 rfl) rfl (by show 2 * 0 + _ ≤ _; exact Nat.le_of_eq rfl) (hb hby at_264) (fun _ _ => ⟨rfl, e78, (by decide : 3 + 0 ≤ _), (by decide : 20 + 0 ≤ _)⟩)
    dsimp only [Pt.U, Pt.locs, Pt.cells, Pt.slots] at X81 l81 y81 z81 st81 hQ81
    subst y81 z81
    have X81 := own_cs X81 (cells' := 3) (slots' := 20) rfl rfl
    obtain ⟨rfl, N81q, e81⟩ := hQ81
    have N81 := own_fr l81 (Fr.app N78 N81q)
    refine Go.st st81 ?_
    show Go _ _ _ (T81.setTop (mkF mi 267 #[.val (.long la), .second, .val (.long lb), .second, .val (.int tg), .val (.int fm), .val (.int ln), .val (.ref ob1), .val (.int tt), .val (.int 2), .val (.int 4), .val (.int 6), .val (.int L), .val (.ref r78)] [(.int 1)])) _
    refine g_ifNo X81 hx hby at_267 ((if0 _ _).trans (feq (by decide)).1) ?_
    refine g_aload X81 hx hby at_270 rfl rfl ?_
    refine g_aload X81 hx hby at_272 rfl rfl ?_
    refine g_iload X81 hx hby at_274 rfl ?_
    refine g_iconst X81 hx hby at_276 (v := 1) rfl ?_
    refine g_iload X81 hx hby at_277 rfl ?_
    obtain ⟨_, _, ⟨T83, L83, k83, n83⟩, -, X83, ⟨Lc83, hQ83, l83, y83, z83⟩, st83⟩ := Jvm.LawKit.callS X81 hx (y := (⟨"com/example/pemgate/pemgate/core/DerContentsPinLaw", "same", "([B[BIII)Z"⟩ : MethodName)) hown (mvT hZ (hw _ (own_m 28 rfl))) (mvT hZ (hw _ (own_m 29 rfl))) (mvT hZ (hw _ (own_m 30 rfl))) (mvT hZ (hw _ (own_m 31 rfl))) (by decide) (backOf (W := 0) (rmS l Z a0 hw [] r78 ob1 (4 : Int32) (1 : Int32) L kr78 us78 k1 [(.int ((tt.toInt8.toInt32).toInt8.toInt32)), (.int (-126)), (.int 0), (.int ((L.toInt8.toInt32).toInt8.toInt32)), (.int y4), (.int y5), (.int y6), (.int y7), (.int y8), (.int y9)] h78 n0 Zs79 f82 V_r78 (by decide) (fun q => ⟨by decide, by decide, y5, (congrArg (fun k => us78.getD k (.int (0 : Int32))) (by decide +kernel : (1 : Int32).toNatClampNeg = 1)).trans (U_r78 1 (own_nat q (k := 1) (by decide +kernel))), congrArg (fun k => List.getD ([(.int ((tt.toInt8.toInt32).toInt8.toInt32)), (.int (-126)), (.int 0), (.int ((L.toInt8.toInt32).toInt8.toInt32)), (.int y4), (.int y5), (.int y6), (.int y7), (.int y8), (.int y9)] : List Value) k (.int (0 : Int32))) (by decide +kernel : ((4 : Int32) + (1 : Int32)).toNatClampNeg = 5)⟩)) hZ (hw _ (own_m 31 rfl)) (hw _ (own_m 30 rfl)) (by decide) (by decide)) (g := (mkF mi 279 #[.val (.long la), .second, .val (.long lb), .second, .val (.int tg), .val (.int fm), .val (.int ln), .val (.ref ob1), .val (.int tt), .val (.int 2), .val (.int 4), .val (.int 6), .val (.int L), .val (.ref r78)] [(.int L), (.int 1), (.int 4), (.ref ob1), (.ref r78)])) rfl (by rw [hml]; rfl) (argsL := [(.ref r78), (.ref ob1), (.int 4), (.int 1), (.int L)]) (rest := []) (lenOf pd_5 rfl) rfl (by show 2 * 0 + _ ≤ _; exact Nat.le_of_eq rfl) (hb hby at_279) (fun _ _ => ⟨rfl, e81, (by decide : 3 + 0 ≤ _), (by decide : 20 + 0 ≤ _)⟩)
    dsimp only [Pt.U, Pt.locs, Pt.cells, Pt.slots] at X83 l83 y83 z83 st83 hQ83
    subst y83 z83
    have X83 := own_cs X83 (cells' := 3) (slots' := 20) rfl rfl
    obtain ⟨rfl, N83q, e83⟩ := hQ83
    have N83 := own_fr l83 (Fr.app N81 N83q)
    refine Go.st st83 ?_
    refine g_ifNo X83 hx hby at_282 ((if0 _ _).trans (feq (by decide)).1) ?_
    refine g_aload X83 hx hby at_285 rfl rfl ?_
    refine g_aload X83 hx hby at_287 rfl rfl ?_
    refine g_iload X83 hx hby at_289 rfl ?_
    refine g_iconst X83 hx hby at_291 (v := 2) rfl ?_
    refine g_iload X83 hx hby at_292 rfl ?_
    obtain ⟨_, _, ⟨T84, L84, k84, n84⟩, -, X84, ⟨Lc84, hQ84, l84, y84, z84⟩, st84⟩ := Jvm.LawKit.callS X83 hx (y := (⟨"com/example/pemgate/pemgate/core/DerContentsPinLaw", "same", "([B[BIII)Z"⟩ : MethodName)) hown (mvT hZ (hw _ (own_m 28 rfl))) (mvT hZ (hw _ (own_m 29 rfl))) (mvT hZ (hw _ (own_m 30 rfl))) (mvT hZ (hw _ (own_m 31 rfl))) (by decide) (backOf (W := 0) (rmS l Z a0 hw [] r78 ob1 (4 : Int32) (2 : Int32) L kr78 us78 k1 [(.int ((tt.toInt8.toInt32).toInt8.toInt32)), (.int (-126)), (.int 0), (.int ((L.toInt8.toInt32).toInt8.toInt32)), (.int y4), (.int y5), (.int y6), (.int y7), (.int y8), (.int y9)] h78 n0 Zs79 f82 V_r78 (by decide) (fun q => ⟨by decide, by decide, y6, (congrArg (fun k => us78.getD k (.int (0 : Int32))) (by decide +kernel : (2 : Int32).toNatClampNeg = 2)).trans (U_r78 2 (own_nat q (k := 2) (by decide +kernel))), congrArg (fun k => List.getD ([(.int ((tt.toInt8.toInt32).toInt8.toInt32)), (.int (-126)), (.int 0), (.int ((L.toInt8.toInt32).toInt8.toInt32)), (.int y4), (.int y5), (.int y6), (.int y7), (.int y8), (.int y9)] : List Value) k (.int (0 : Int32))) (by decide +kernel : ((4 : Int32) + (2 : Int32)).toNatClampNeg = 6)⟩)) hZ (hw _ (own_m 31 rfl)) (hw _ (own_m 30 rfl)) (by decide) (by decide)) (g := (mkF mi 294 #[.val (.long la), .second, .val (.long lb), .second, .val (.int tg), .val (.int fm), .val (.int ln), .val (.ref ob1), .val (.int tt), .val (.int 2), .val (.int 4), .val (.int 6), .val (.int L), .val (.ref r78)] [(.int L), (.int 2), (.int 4), (.ref ob1), (.ref r78)])) rfl (by rw [hml]; rfl) (argsL := [(.ref r78), (.ref ob1), (.int 4), (.int 2), (.int L)]) (rest := []) (lenOf pd_5 rfl) rfl (by show 2 * 0 + _ ≤ _; exact Nat.le_of_eq rfl) (hb hby at_294) (fun _ _ => ⟨rfl, e83, (by decide : 3 + 0 ≤ _), (by decide : 20 + 0 ≤ _)⟩)
    dsimp only [Pt.U, Pt.locs, Pt.cells, Pt.slots] at X84 l84 y84 z84 st84 hQ84
    subst y84 z84
    have X84 := own_cs X84 (cells' := 3) (slots' := 20) rfl rfl
    obtain ⟨rfl, N84q, e84⟩ := hQ84
    have N84 := own_fr l84 (Fr.app N83 N84q)
    refine Go.st st84 ?_
    refine g_ifNo X84 hx hby at_297 ((if0 _ _).trans (feq (by decide)).1) ?_
    refine g_aload X84 hx hby at_300 rfl rfl ?_
    refine g_aload X84 hx hby at_302 rfl rfl ?_
    refine g_iload X84 hx hby at_304 rfl ?_
    refine g_iconst X84 hx hby at_306 (v := 3) rfl ?_
    refine g_iload X84 hx hby at_307 rfl ?_
    obtain ⟨_, _, ⟨T85, L85, k85, n85⟩, -, X85, ⟨Lc85, hQ85, l85, y85, z85⟩, st85⟩ := Jvm.LawKit.callS X84 hx (y := (⟨"com/example/pemgate/pemgate/core/DerContentsPinLaw", "same", "([B[BIII)Z"⟩ : MethodName)) hown (mvT hZ (hw _ (own_m 28 rfl))) (mvT hZ (hw _ (own_m 29 rfl))) (mvT hZ (hw _ (own_m 30 rfl))) (mvT hZ (hw _ (own_m 31 rfl))) (by decide) (backOf (W := 0) (rmS l Z a0 hw [] r78 ob1 (4 : Int32) (3 : Int32) L kr78 us78 k1 [(.int ((tt.toInt8.toInt32).toInt8.toInt32)), (.int (-126)), (.int 0), (.int ((L.toInt8.toInt32).toInt8.toInt32)), (.int y4), (.int y5), (.int y6), (.int y7), (.int y8), (.int y9)] h78 n0 Zs79 f82 V_r78 (by decide) (fun q => ⟨by decide, by decide, y7, (congrArg (fun k => us78.getD k (.int (0 : Int32))) (by decide +kernel : (3 : Int32).toNatClampNeg = 3)).trans (U_r78 3 (own_nat q (k := 3) (by decide +kernel))), congrArg (fun k => List.getD ([(.int ((tt.toInt8.toInt32).toInt8.toInt32)), (.int (-126)), (.int 0), (.int ((L.toInt8.toInt32).toInt8.toInt32)), (.int y4), (.int y5), (.int y6), (.int y7), (.int y8), (.int y9)] : List Value) k (.int (0 : Int32))) (by decide +kernel : ((4 : Int32) + (3 : Int32)).toNatClampNeg = 7)⟩)) hZ (hw _ (own_m 31 rfl)) (hw _ (own_m 30 rfl)) (by decide) (by decide)) (g := (mkF mi 309 #[.val (.long la), .second, .val (.long lb), .second, .val (.int tg), .val (.int fm), .val (.int ln), .val (.ref ob1), .val (.int tt), .val (.int 2), .val (.int 4), .val (.int 6), .val (.int L), .val (.ref r78)] [(.int L), (.int 3), (.int 4), (.ref ob1), (.ref r78)])) rfl (by rw [hml]; rfl) (argsL := [(.ref r78), (.ref ob1), (.int 4), (.int 3), (.int L)]) (rest := []) (lenOf pd_5 rfl) rfl (by show 2 * 0 + _ ≤ _; exact Nat.le_of_eq rfl) (hb hby at_309) (fun _ _ => ⟨rfl, e84, (by decide : 3 + 0 ≤ _), (by decide : 20 + 0 ≤ _)⟩)
    dsimp only [Pt.U, Pt.locs, Pt.cells, Pt.slots] at X85 l85 y85 z85 st85 hQ85
    subst y85 z85
    have X85 := own_cs X85 (cells' := 3) (slots' := 20) rfl rfl
    obtain ⟨rfl, N85q, e85⟩ := hQ85
    have N85 := own_fr l85 (Fr.app N84 N85q)
    refine Go.st st85 ?_
    show Go _ _ _ (T85.setTop (mkF mi 312 #[.val (.long la), .second, .val (.long lb), .second, .val (.int tg), .val (.int fm), .val (.int ln), .val (.ref ob1), .val (.int tt), .val (.int 2), .val (.int 4), .val (.int 6), .val (.int L), .val (.ref r78)] [(.int 1)])) _
    refine g_ifNo X85 hx hby at_312 ((if0 _ _).trans (feq (by decide)).1) ?_
    refine g_aload X85 hx hby at_315 rfl rfl ?_
    refine g_aload X85 hx hby at_317 rfl rfl ?_
    refine g_iload X85 hx hby at_319 rfl ?_
    refine g_iconst X85 hx hby at_321 (v := 4) rfl ?_
    refine g_iload X85 hx hby at_322 rfl ?_
    obtain ⟨_, _, ⟨T86, L86, k86, n86⟩, -, X86, ⟨Lc86, hQ86, l86, y86, z86⟩, st86⟩ := Jvm.LawKit.callS X85 hx (y := (⟨"com/example/pemgate/pemgate/core/DerContentsPinLaw", "same", "([B[BIII)Z"⟩ : MethodName)) hown (mvT hZ (hw _ (own_m 28 rfl))) (mvT hZ (hw _ (own_m 29 rfl))) (mvT hZ (hw _ (own_m 30 rfl))) (mvT hZ (hw _ (own_m 31 rfl))) (by decide) (backOf (W := 0) (rmS l Z a0 hw [] r78 ob1 (4 : Int32) (4 : Int32) L kr78 us78 k1 [(.int ((tt.toInt8.toInt32).toInt8.toInt32)), (.int (-126)), (.int 0), (.int ((L.toInt8.toInt32).toInt8.toInt32)), (.int y4), (.int y5), (.int y6), (.int y7), (.int y8), (.int y9)] h78 n0 Zs79 f82 V_r78 (by decide) (fun q => ⟨by decide, by decide, y8, (congrArg (fun k => us78.getD k (.int (0 : Int32))) (by decide +kernel : (4 : Int32).toNatClampNeg = 4)).trans (U_r78 4 (own_nat q (k := 4) (by decide +kernel))), congrArg (fun k => List.getD ([(.int ((tt.toInt8.toInt32).toInt8.toInt32)), (.int (-126)), (.int 0), (.int ((L.toInt8.toInt32).toInt8.toInt32)), (.int y4), (.int y5), (.int y6), (.int y7), (.int y8), (.int y9)] : List Value) k (.int (0 : Int32))) (by decide +kernel : ((4 : Int32) + (4 : Int32)).toNatClampNeg = 8)⟩)) hZ (hw _ (own_m 31 rfl)) (hw _ (own_m 30 rfl)) (by decide) (by decide)) (g := (mkF mi 324 #[.val (.long la), .second, .val (.long lb), .second, .val (.int tg), .val (.int fm), .val (.int ln), .val (.ref ob1), .val (.int tt), .val (.int 2), .val (.int 4), .val (.int 6), .val (.int L), .val (.ref r78)] [(.int L), (.int 4), (.int 4), (.ref ob1), (.ref r78)])) rfl (by rw [hml]; rfl) (argsL := [(.ref r78), (.ref ob1), (.int 4), (.int 4), (.int L)]) (rest := []) (lenOf pd_5 rfl) rfl (by show 2 * 0 + _ ≤ _; exact Nat.le_of_eq rfl) (hb hby at_324) (fun _ _ => ⟨rfl, e85, (by decide : 3 + 0 ≤ _), (by decide : 20 + 0 ≤ _)⟩)
    dsimp only [Pt.U, Pt.locs, Pt.cells, Pt.slots] at X86 l86 y86 z86 st86 hQ86
    subst y86 z86
    have X86 := own_cs X86 (cells' := 3) (slots' := 20) rfl rfl
    obtain ⟨rfl, N86q, e86⟩ := hQ86
    have N86 := own_fr l86 (Fr.app N85 N86q)
    refine Go.st st86 ?_
    refine g_ifNo X86 hx hby at_327 ((if0 _ _).trans (feq (by decide)).1) ?_
    refine g_aload X86 hx hby at_330 rfl rfl ?_
    refine g_aload X86 hx hby at_332 rfl rfl ?_
    refine g_iload X86 hx hby at_334 rfl ?_
    refine g_iconst X86 hx hby at_336 (v := 5) rfl ?_
    refine g_iload X86 hx hby at_337 rfl ?_
    obtain ⟨_, _, ⟨T87, L87, k87, n87⟩, -, X87, ⟨Lc87, hQ87, l87, y87, z87⟩, st87⟩ := Jvm.LawKit.callS X86 hx (y := (⟨"com/example/pemgate/pemgate/core/DerContentsPinLaw", "same", "([B[BIII)Z"⟩ : MethodName)) hown (mvT hZ (hw _ (own_m 28 rfl))) (mvT hZ (hw _ (own_m 29 rfl))) (mvT hZ (hw _ (own_m 30 rfl))) (mvT hZ (hw _ (own_m 31 rfl))) (by decide) (backOf (W := 0) (rmS l Z a0 hw [] r78 ob1 (4 : Int32) (5 : Int32) L kr78 us78 k1 [(.int ((tt.toInt8.toInt32).toInt8.toInt32)), (.int (-126)), (.int 0), (.int ((L.toInt8.toInt32).toInt8.toInt32)), (.int y4), (.int y5), (.int y6), (.int y7), (.int y8), (.int y9)] h78 n0 Zs79 f82 V_r78 (by decide) (fun q => ⟨by decide, by decide, y9, (congrArg (fun k => us78.getD k (.int (0 : Int32))) (by decide +kernel : (5 : Int32).toNatClampNeg = 5)).trans (U_r78 5 (own_nat q (k := 5) (by decide +kernel))), congrArg (fun k => List.getD ([(.int ((tt.toInt8.toInt32).toInt8.toInt32)), (.int (-126)), (.int 0), (.int ((L.toInt8.toInt32).toInt8.toInt32)), (.int y4), (.int y5), (.int y6), (.int y7), (.int y8), (.int y9)] : List Value) k (.int (0 : Int32))) (by decide +kernel : ((4 : Int32) + (5 : Int32)).toNatClampNeg = 9)⟩)) hZ (hw _ (own_m 31 rfl)) (hw _ (own_m 30 rfl)) (by decide) (by decide)) (g := (mkF mi 339 #[.val (.long la), .second, .val (.long lb), .second, .val (.int tg), .val (.int fm), .val (.int ln), .val (.ref ob1), .val (.int tt), .val (.int 2), .val (.int 4), .val (.int 6), .val (.int L), .val (.ref r78)] [(.int L), (.int 5), (.int 4), (.ref ob1), (.ref r78)])) rfl (by rw [hml]; rfl) (argsL := [(.ref r78), (.ref ob1), (.int 4), (.int 5), (.int L)]) (rest := []) (lenOf pd_5 rfl) rfl (by show 2 * 0 + _ ≤ _; exact Nat.le_of_eq rfl) (hb hby at_339) (fun _ _ => ⟨rfl, e86, (by decide : 3 + 0 ≤ _), (by decide : 20 + 0 ≤ _)⟩)
    dsimp only [Pt.U, Pt.locs, Pt.cells, Pt.slots] at X87 l87 y87 z87 st87 hQ87
    subst y87 z87
    have X87 := own_cs X87 (cells' := 3) (slots' := 20) rfl rfl
    obtain ⟨rfl, N87q, e87⟩ := hQ87
    have N87 := own_fr l87 (Fr.app N86 N87q)
    refine Go.st st87 ?_
    refine g_ifNo X87 hx hby at_342 ((if0 _ _).trans (feq (by decide)).1) ?_
    refine g_aload X87 hx hby at_345 rfl rfl ?_
    refine g_aload X87 hx hby at_347 rfl rfl ?_
    refine g_iload X87 hx hby at_349 rfl ?_
    refine g_bipush X87 hx hby at_351 (v := 6) rfl ?_
    refine g_iload X87 hx hby at_353 rfl ?_
    obtain ⟨_, _, ⟨T88, L88, k88, n88⟩, -, X88, ⟨Lc88, hQ88, l88, y88, z88⟩, st88⟩ := Jvm.LawKit.callS X87 hx (y := (⟨"com/example/pemgate/pemgate/core/DerContentsPinLaw", "same", "([B[BIII)Z"⟩ : MethodName)) hown (mvT hZ (hw _ (own_m 28 rfl))) (mvT hZ (hw _ (own_m 29 rfl))) (mvT hZ (hw _ (own_m 30 rfl))) (mvT hZ (hw _ (own_m 31 rfl))) (by decide) (backOf (W := 0) (rmS l Z a0 hw [] r78 ob1 (4 : Int32) (6 : Int32) L kr78 us78 k1 [(.int ((tt.toInt8.toInt32).toInt8.toInt32)), (.int (-126)), (.int 0), (.int ((L.toInt8.toInt32).toInt8.toInt32)), (.int y4), (.int y5), (.int y6), (.int y7), (.int y8), (.int y9)] h78 n0 Zs79 f82 V_r78 (by decide) (fun q => absurd q (own_far hL2 (by decide)))) hZ (hw _ (own_m 31 rfl)) (hw _ (own_m 30 rfl)) (by decide) (by decide)) (g := (mkF mi 355 #[.val (.long la), .second, .val (.long lb), .second, .val (.int tg), .val (.int fm), .val (.int ln), .val (.ref ob1), .val (.int tt), .val (.int 2), .val (.int 4), .val (.int 6), .val (.int L), .val (.ref r78)] [(.int L), (.int 6), (.int 4), (.ref ob1), (.ref r78)])) rfl (by rw [hml]; rfl) (argsL := [(.ref r78), (.ref ob1), (.int 4), (.int 6), (.int L)]) (rest := []) (lenOf pd_5 rfl) rfl (by show 2 * 0 + _ ≤ _; exact Nat.le_of_eq rfl) (hb hby at_355) (fun _ _ => ⟨rfl, e87, (by decide : 3 + 0 ≤ _), (by decide : 20 + 0 ≤ _)⟩)
    dsimp only [Pt.U, Pt.locs, Pt.cells, Pt.slots] at X88 l88 y88 z88 st88 hQ88
    subst y88 z88
    have X88 := own_cs X88 (cells' := 3) (slots' := 20) rfl rfl
    obtain ⟨rfl, N88q, e88⟩ := hQ88
    have N88 := own_fr l88 (Fr.app N87 N88q)
    refine Go.st st88 ?_
    show Go _ _ _ (T88.setTop (mkF mi 358 #[.val (.long la), .second, .val (.long lb), .second, .val (.int tg), .val (.int fm), .val (.int ln), .val (.ref ob1), .val (.int tt), .val (.int 2), .val (.int 4), .val (.int 6), .val (.int L), .val (.ref r78)] [(.int 1)])) _
    refine g_ifNo X88 hx hby at_358 ((if0 _ _).trans (feq (by decide)).1) ?_
    refine g_aload X88 hx hby at_361 rfl rfl ?_
    refine g_aload X88 hx hby at_363 rfl rfl ?_
    refine g_iload X88 hx hby at_365 rfl ?_
    refine g_bipush X88 hx hby at_367 (v := 7) rfl ?_
    refine g_iload X88 hx hby at_369 rfl ?_
    obtain ⟨_, _, ⟨T89, L89, k89, n89⟩, -, X89, ⟨Lc89, hQ89, l89, y89, z89⟩, st89⟩ := Jvm.LawKit.callS X88 hx (y := (⟨"com/example/pemgate/pemgate/core/DerContentsPinLaw", "same", "([B[BIII)Z"⟩ : MethodName)) hown (mvT hZ (hw _ (own_m 28 rfl))) (mvT hZ (hw _ (own_m 29 rfl))) (mvT hZ (hw _ (own_m 30 rfl))) (mvT hZ (hw _ (own_m 31 rfl))) (by decide) (backOf (W := 0) (rmS l Z a0 hw [] r78 ob1 (4 : Int32) (7 : Int32) L kr78 us78 k1 [(.int ((tt.toInt8.toInt32).toInt8.toInt32)), (.int (-126)), (.int 0), (.int ((L.toInt8.toInt32).toInt8.toInt32)), (.int y4), (.int y5), (.int y6), (.int y7), (.int y8), (.int y9)] h78 n0 Zs79 f82 V_r78 (by decide) (fun q => absurd q (own_far hL2 (by decide)))) hZ (hw _ (own_m 31 rfl)) (hw _ (own_m 30 rfl)) (by decide) (by decide)) (g := (mkF mi 371 #[.val (.long la), .second, .val (.long lb), .second, .val (.int tg), .val (.int fm), .val (.int ln), .val (.ref ob1), .val (.int tt), .val (.int 2), .val (.int 4), .val (.int 6), .val (.int L), .val (.ref r78)] [(.int L), (.int 7), (.int 4), (.ref ob1), (.ref r78)])) rfl (by rw [hml]; rfl) (argsL := [(.ref r78), (.ref ob1), (.int 4), (.int 7), (.int L)]) (rest := []) (lenOf pd_5 rfl) rfl (by show 2 * 0 + _ ≤ _; exact Nat.le_of_eq rfl) (hb hby at_371) (fun _ _ => ⟨rfl, e88, (by decide : 3 + 0 ≤ _), (by decide : 20 + 0 ≤ _)⟩)
    dsimp only [Pt.U, Pt.locs, Pt.cells, Pt.slots] at X89 l89 y89 z89 st89 hQ89
    subst y89 z89
    have X89 := own_cs X89 (cells' := 3) (slots' := 20) rfl rfl
    obtain ⟨rfl, N89q, e89⟩ := hQ89
    have N89 := own_fr l89 (Fr.app N88 N89q)
    refine Go.st st89 ?_
    refine g_ifNo X89 hx hby at_374 ((if0 _ _).trans (feq (by decide)).1) ?_
    refine g_iconst X89 hx hby at_377 (v := 1) rfl ?_
    refine g_goto X89 hx hby at_378 (pc0 := 378) (pc' := 382) rfl (by decide) (by decide) ?_
    obtain ⟨fs, hr, hrun, hended, hW, hsame⟩ := X89.leave (v := some (.int 1)) (fun h => by rw [Bd.returns] at h; cases h) (BodyLoose.notSynchronized Bd)
    refine ⟨_, _, ?_, hP _ _ ⟨hrun, hended, _, _, rfl, ?_, ⟨_, rfl⟩, hW, hsame.mono (by decide) (by decide)⟩⟩
    · exact retN X89 hx (t := .boolean) Bd.returns (by simp) (hb hby at_382) hr
    · show (some (.int 1) : Option Value) = some (.int 1) ∧ Fr n0 _
      exact ⟨rfl, N89⟩
  · rw [hN]
    show Go _ _ _ (T34.setTop (mkF mi 144 #[.val (.long la), .second, .val (.long lb), .second, .val (.int tg), .val (.int fm), .val (.int ln), .val (.ref ob1), .val (.int tt), .val (.int 3), .unset, .unset, .unset, .unset] [])) _
    refine g_iconst X34 hx hby at_144 (v := 2) rfl ?_
    refine g_iload X34 hx hby at_145 rfl ?_
    refine g_iadd X34 hx hby at_147 (z := 5) rfl ?_
    refine g_istore X34 hx hby at_148 (l' := #[.val (.long la), .second, .val (.long lb), .second, .val (.int tg), .val (.int fm), .val (.int ln), .val (.ref ob1), .val (.int tt), .val (.int 3), .val (.int 5), .unset, .unset, .unset]) rfl ?_
    refine g_bipush X34 hx hby at_150 (v := 10) rfl ?_
    refine g_iload X34 hx hby at_152 rfl ?_
    refine g_isub X34 hx hby at_154 (z := 5) rfl ?_
    refine g_istore X34 hx hby at_155 (l' := #[.val (.long la), .second, .val (.long lb), .second, .val (.int tg), .val (.int fm), .val (.int ln), .val (.ref ob1), .val (.int tt), .val (.int 3), .val (.int 5), .val (.int 5), .unset, .unset]) rfl ?_
    refine g_iload X34 hx hby at_157 rfl ?_
    refine Go.st (X34.ldcInt hx hown (mvT hZ (hw _ (own_m 1 rfl))) (g := (mkF mi 159 #[.val (.long la), .second, .val (.long lb), .second, .val (.int tg), .val (.int fm), .val (.int ln), .val (.ref ob1), .val (.int tt), .val (.int 3), .val (.int 5), .val (.int 5), .unset, .unset] [(.int ln)])) rfl (hb hby at_159)) ?_
    show Go _ _ _ (T34.setTop (mkF mi 161 #[.val (.long la), .second, .val (.long lb), .second, .val (.int tg), .val (.int fm), .val (.int ln), .val (.ref ob1), .val (.int tt), .val (.int 3), .val (.int 5), .val (.int 5), .unset, .unset] [(.int 2147483647), (.int ln)])) _
    refine g_iand X34 hx hby at_161 rfl ?_
    refine g_iload X34 hx hby at_162 rfl ?_
    refine g_iconst X34 hx hby at_164 (v := 1) rfl ?_
    refine g_iadd X34 hx hby at_165 (z := 6) rfl ?_
    refine Go.s (iremM X34 hx rfl (hb hby at_166) rfl (by decide)) ?_
    refine g_istore X34 hx hby at_167 (l' := #[.val (.long la), .second, .val (.long lb), .second, .val (.int tg), .val (.int fm), .val (.int ln), .val (.ref ob1), .val (.int tt), .val (.int 3), .val (.int 5), .val (.int 5), .val (.int ((ln &&& (2147483647 : Int32)) % (6 : Int32))), .unset]) rfl ?_
    show Go _ _ _ (T34.setTop (mkF mi 169 #[.val (.long la), .second, .val (.long lb), .second, .val (.int tg), .val (.int fm), .val (.int ln), .val (.ref ob1), .val (.int tt), .val (.int 3), .val (.int 5), .val (.int 5), .val (.int ((ln &&& (2147483647 : Int32)) % (6 : Int32))), .unset] [])) _
    obtain ⟨L, hLe⟩ : ∃ z, z = ((ln &&& (2147483647 : Int32)) % (6 : Int32)) := ⟨_, rfl⟩
    rw [← hLe]
    obtain ⟨hL1, hL2⟩ := own_l ln (6 : Int32) L 6 rfl (by decide) hLe
    have hL2 : L.toInt ≤ 5 := by omega
    have hL2' : L.toInt ≤ 8 := by omega
    show Go _ _ _ (T34.setTop (mkF mi 169 #[.val (.long la), .second, .val (.long lb), .second, .val (.int tg), .val (.int fm), .val (.int ln), .val (.ref ob1), .val (.int tt), .val (.int 3), .val (.int 5), .val (.int 5), .val (.int L), .unset] [])) _
    refine g_iload X34 hx hby at_169 rfl ?_
    refine g_ifYes X34 hx hby at_171 ((if0 _ _).trans (feq (by decide)).2) (pc0 := 171) (pc' := 184) rfl (by decide) (by decide) ?_
    refine g_aload X34 hx hby at_184 rfl rfl ?_
    refine g_iconst X34 hx hby at_186 (v := 1) rfl ?_
    refine g_sipush X34 hx hby at_187 (v := 128) rfl ?_
    refine g_iload X34 hx hby at_190 rfl ?_
    refine g_ior X34 hx hby at_192 (z := 131) rfl ?_
    refine g_i2b X34 hx hby at_193 (z := (-125)) rfl ?_
    have ov90 := V34
    obtain ⟨cl90, Ar90, q90, S90, M90, H90, G90⟩ := ov90
    have hin90 : ¬ ((1 : Int32) < 0 ∨ cl90.slots.size ≤ ((1 : Int32)).toNatClampNeg) := inb_of S90 ⟨by decide, by decide⟩
    obtain ⟨T91, h91, X91, e91, W91, st91⟩ := stB X34 hx hZ e34 Ar90 (j := (1 : Int32)) hin90 (g := (mkF mi 194 #[.val (.long la), .second, .val (.long lb), .second, .val (.int tg), .val (.int fm), .val (.int ln), .val (.ref ob1), .val (.int tt), .val (.int 3), .val (.int 5), .val (.int 5), .val (.int L), .unset] [(.int (-125)), (.int 1), (.ref ob1)])) rfl rfl (hb hby at_194)
    have Zs92 : n0 ≤ h91.size := Nat.le_trans Zs35 (Keep.of_wr W91).1
    have N92 := Fr.snoc X91 N35 g_ob1
    have V91 : Arv Z h91 ob1 k1 .byte (10 : Int32) [(.int ((tt.toInt8.toInt32).toInt8.toInt32)), (.int (-125)), (.int y2), (.int y3), (.int y4), (.int y5), (.int y6), (.int y7), (.int y8), (.int y9)] (.int (0 : Int32)) := Arv.set Ar90 q90 S90 M90 H90 G90 (by decide) W91 1 rfl (Nat.le_of_ble_eq_true rfl)
    refine Go.st st91 ?_
    refine g_iload X91 hx hby at_195 rfl ?_
    refine g_iconst X91 hx hby at_197 (v := 2) rfl ?_
    refine g_icmpNo X91 hx hby at_198 (flt (by decide)).1 ?_
    refine g_aload X91 hx hby at_201 rfl rfl ?_
    refine g_iconst X91 hx hby at_203 (v := 2) rfl ?_
    refine g_iconst X91 hx hby at_204 (v := 0) rfl ?_
    have ov93 := V91
    obtain ⟨cl93, Ar93, q93, S93, M93, H93, G93⟩ := ov93
    have hin93 : ¬ ((2 : Int32) < 0 ∨ cl93.slots.size ≤ ((2 : Int32)).toNatClampNeg) := inb_of S93 ⟨by decide, by decide⟩
    obtain ⟨T94, h94, X94, e94, W94, st94⟩ := stB X91 hx hZ e91 Ar93 (j := (2 : Int32)) hin93 (g := (mkF mi 205 #[.val (.long la), .second, .val (.long lb), .second, .val (.int tg), .val (.int fm), .val (.int ln), .val (.ref ob1), .val (.int tt), .val (.int 3), .val (.int 5), .val (.int 5), .val (.int L), .unset] [(.int 0), (.int 2), (.ref ob1)])) rfl rfl (hb hby at_205)
    have Zs95 : n0 ≤ h94.size := Nat.le_trans Zs92 (Keep.of_wr W94).1
    have N95 := Fr.snoc X94 N92 g_ob1
    have V94 : Arv Z h94 ob1 k1 .byte (10 : Int32) [(.int ((tt.toInt8.toInt32).toInt8.toInt32)), (.int (-125)), (.int 0), (.int y3), (.int y4), (.int y5), (.int y6), (.int y7), (.int y8), (.int y9)] (.int (0 : Int32)) := Arv.set Ar93 q93 S93 M93 H93 G93 (by decide) W94 2 rfl (Nat.le_of_ble_eq_true rfl)
    refine Go.st st94 ?_
    refine g_iload X94 hx hby at_206 rfl ?_
    refine g_iconst X94 hx hby at_208 (v := 3) rfl ?_
    refine g_icmpNo X94 hx hby at_209 (flt (by decide)).1 ?_
    refine g_aload X94 hx hby at_212 rfl rfl ?_
    refine g_iconst X94 hx hby at_214 (v := 3) rfl ?_
    show Go _ _ _ (T94.setTop (mkF mi 215 #[.val (.long la), .second, .val (.long lb), .second, .val (.int tg), .val (.int fm), .val (.int ln), .val (.ref ob1), .val (.int tt), .val (.int 3), .val (.int 5), .val (.int 5), .val (.int L), .unset] [(.int 3), (.ref ob1)])) _
    refine g_iconst X94 hx hby at_215 (v := 0) rfl ?_
    have ov96 := V94
    obtain ⟨cl96, Ar96, q96, S96, M96, H96, G96⟩ := ov96
    have hin96 : ¬ ((3 : Int32) < 0 ∨ cl96.slots.size ≤ ((3 : Int32)).toNatClampNeg) := inb_of S96 ⟨by decide, by decide⟩
    obtain ⟨T97, h97, X97, e97, W97, st97⟩ := stB X94 hx hZ e94 Ar96 (j := (3 : Int32)) hin96 (g := (mkF mi 216 #[.val (.long la), .second, .val (.long lb), .second, .val (.int tg), .val (.int fm), .val (.int ln), .val (.ref ob1), .val (.int tt), .val (.int 3), .val (.int 5), .val (.int 5), .val (.int L), .unset] [(.int 0), (.int 3), (.ref ob1)])) rfl rfl (hb hby at_216)
    have Zs98 : n0 ≤ h97.size := Nat.le_trans Zs95 (Keep.of_wr W97).1
    have N98 := Fr.snoc X97 N95 g_ob1
    have V97 : Arv Z h97 ob1 k1 .byte (10 : Int32) [(.int ((tt.toInt8.toInt32).toInt8.toInt32)), (.int (-125)), (.int 0), (.int 0), (.int y4), (.int y5), (.int y6), (.int y7), (.int y8), (.int y9)] (.int (0 : Int32)) := Arv.set Ar96 q96 S96 M96 H96 G96 (by decide) W97 3 rfl (Nat.le_of_ble_eq_true rfl)
    refine Go.st st97 ?_
    refine g_iload X97 hx hby at_217 rfl ?_
    refine g_iconst X97 hx hby at_219 (v := 4) rfl ?_
    refine g_icmpYes X97 hx hby at_220 (tlt (by decide)).1 (pc0 := 220) (pc' := 228) rfl (by decide) (by decide) ?_
    refine g_aload X97 hx hby at_228 rfl rfl ?_
    refine g_iconst X97 hx hby at_230 (v := 1) rfl ?_
    refine g_iload X97 hx hby at_231 rfl ?_
    refine g_iadd X97 hx hby at_233 (z := 4) rfl ?_
    refine g_iload X97 hx hby at_234 rfl ?_
    refine g_i2b X97 hx hby at_236 rfl ?_
    have ov99 := V97
    obtain ⟨cl99, Ar99, q99, S99, M99, H99, G99⟩ := ov99
    have hin99 : ¬ ((4 : Int32) < 0 ∨ cl99.slots.size ≤ ((4 : Int32)).toNatClampNeg) := inb_of S99 ⟨by decide, by decide⟩
    obtain ⟨T100, h100, X100, e100, W100, st100⟩ := stB X97 hx hZ e97 Ar99 (j := (4 : Int32)) hin99 (g := (mkF mi 237 #[.val (.long la), .second, .val (.long lb), .second, .val (.int tg), .val (.int fm), .val (.int ln), .val (.ref ob1), .val (.int tt), .val (.int 3), .val (.int 5), .val (.int 5), .val (.int L), .unset] [(.int (L.toInt8.toInt32)), (.int 4), (.ref ob1)])) rfl rfl (hb hby at_237)
    have Zs101 : n0 ≤ h100.size := Nat.le_trans Zs98 (Keep.of_wr W100).1
    have N101 := Fr.snoc X100 N98 g_ob1
    have V100 : Arv Z h100 ob1 k1 .byte (10 : Int32) [(.int ((tt.toInt8.toInt32).toInt8.toInt32)), (.int (-125)), (.int 0), (.int 0), (.int ((L.toInt8.toInt32).toInt8.toInt32)), (.int y5), (.int y6), (.int y7), (.int y8), (.int y9)] (.int (0 : Int32)) := Arv.set Ar99 q99 S99 M99 H99 G99 (fits_nar_byte _) W100 4 rfl (Nat.le_of_ble_eq_true rfl)
    refine Go.st st100 ?_
    refine g_aload X100 hx hby at_238 rfl rfl ?_
    have ht := own_tag tg tt htt
    have hb1 : ((-125 : Int32) &&& (255 : Int32)) = (131 : Int32) := by decide
    have hb2 : ((0 : Int32) &&& (255 : Int32)) = (0 : Int32) := by decide
    have hb3 : ((0 : Int32) &&& (255 : Int32)) = (0 : Int32) := by decide
    have hb4 := own_byte hL1 hL2'
    obtain ⟨_, _, ⟨T102, L102, k102, n102⟩, -, X102, ⟨Lc102, hQ102, l102, y102, z102⟩, st102⟩ := Jvm.LawKit.callS X100 hx (y := (⟨"com/example/pemgate/pemgate/core/Der", "contents", "([B)[B"⟩ : MethodName)) hown (mvT hZ (hw _ (own_m 2 rfl))) (mvT hZ (hw _ (own_m 3 rfl))) (mvT hZ (hw _ (own_m 4 rfl))) (mvT hZ (hw _ (own_m 5 rfl))) (by decide) (backOf (W := 0) (rmCt3 l Z a0 hw [] ob1 k1 L ((tt.toInt8.toInt32).toInt8.toInt32) (-125 : Int32) (0 : Int32) (0 : Int32) ((L.toInt8.toInt32).toInt8.toInt32) y5 y6 y7 y8 y9 h100 n0 Zs101 V100 hL1 hL2 hL2' ht hb1 hb2 hb3 hb4) hZ (hw _ (own_m 5 rfl)) (hw _ (own_m 4 rfl)) (by decide) (by decide)) (g := (mkF mi 240 #[.val (.long la), .second, .val (.long lb), .second, .val (.int tg), .val (.int fm), .val (.int ln), .val (.ref ob1), .val (.int tt), .val (.int 3), .val (.int 5), .val (.int 5), .val (.int L), .unset] [(.ref ob1)])) rfl (by rw [hml]; rfl) (argsL := [(.ref ob1)]) (rest := []) (lenOf pd_4 rfl) rfl (by show 2 * 0 + _ ≤ _; exact Nat.le_of_eq rfl) (hb hby at_240) (fun _ _ => ⟨rfl, e100, (by decide : 1 + 2 ≤ _), (by decide : 10 + 10 ≤ _)⟩)
    dsimp only [Pt.U, Pt.locs, Pt.cells, Pt.slots] at X102 l102 y102 z102 st102 hQ102
    subst y102 z102
    have X102 := own_cs X102 (cells' := 3) (slots' := 20) rfl rfl
    obtain ⟨h102, e102⟩ : ∃ z, T102.heap = z := ⟨_, rfl⟩
    rw [e102] at hQ102
    obtain ⟨r102, kr102, us102, rfl, N102q, K102, z_r102, g_r102, V_r102, U_r102⟩ := hQ102
    have N102 := own_fr l102 (Fr.app N101 N102q)
    have Zs103 : n0 ≤ h102.size := Nat.le_trans Zs101 K102.1
    refine Go.st st102 ?_
    refine g_astore X102 hx hby at_243 rfl (l' := #[.val (.long la), .second, .val (.long lb), .second, .val (.int tg), .val (.int fm), .val (.int ln), .val (.ref ob1), .val (.int tt), .val (.int 3), .val (.int 5), .val (.int 5), .val (.int L), .val (.ref r102)]) rfl ?_
    refine g_aload X102 hx hby at_245 rfl rfl ?_
    have ov104 := V_r102
    obtain ⟨cl104, Ar104, q104, S104, M104, H104, G104⟩ := ov104
    refine Go.st (X102.arraylength hx (by rw [e102]; exact Ar104.1) (State.isArrayOf_alike hZ.alike Ar104.2.1) (g := (mkF mi 247 #[.val (.long la), .second, .val (.long lb), .second, .val (.int tg), .val (.int fm), .val (.int ln), .val (.ref ob1), .val (.int tt), .val (.int 3), .val (.int 5), .val (.int 5), .val (.int L), .val (.ref r102)] [(.ref r102)])) rfl rfl (hb hby at_247)) ?_
    rw [len_of S104 M104]
    refine g_iload X102 hx hby at_248 rfl ?_
    refine g_icmpYes X102 hx hby at_250 (teq rfl).1 (pc0 := 250) (pc' := 255) rfl (by decide) (by decide) ?_
    refine g_aload X102 hx hby at_255 rfl rfl ?_
    refine g_aload X102 hx hby at_257 rfl rfl ?_
    show Go _ _ _ (T102.setTop (mkF mi 259 #[.val (.long la), .second, .val (.long lb), .second, .val (.int tg), .val (.int fm), .val (.int ln), .val (.ref ob1), .val (.int tt), .val (.int 3), .val (.int 5), .val (.int 5), .val (.int L), .val (.ref r102)] [(.ref ob1), (.ref r102)])) _
    refine g_iload X102 hx hby at_259 rfl ?_
    refine g_iconst X102 hx hby at_261 (v := 0) rfl ?_
    refine g_iload X102 hx hby at_262 rfl ?_
    have f106 := (V100.keep K102 nin0)
    obtain ⟨_, _, ⟨T105, L105, k105, n105⟩, -, X105, ⟨Lc105, hQ105, l105, y105, z105⟩, st105⟩ := Jvm.LawKit.callS X102 hx (y := (⟨"com/example/pemgate/pemgate/core/DerContentsPinLaw", "same", "([B[BIII)Z"⟩ : MethodName)) hown (mvT hZ (hw _ (own_m 28 rfl))) (mvT hZ (hw _ (own_m 29 rfl))) (mvT hZ (hw _ (own_m 30 rfl))) (mvT hZ (hw _ (own_m 31 rfl))) (by decide) (backOf (W := 0) (rmS l Z a0 hw [] r102 ob1 (5 : Int32) (0 : Int32) L kr102 us102 k1 [(.int ((tt.toInt8.toInt32).toInt8.toInt32)), (.int (-125)), (.int 0), (.int 0), (.int ((L.toInt8.toInt32).toInt8.toInt32)), (.int y5), (.int y6), (.int y7), (.int y8), (.int y9)] h102 n0 Zs103 f106 V_r102 (by decide) (fun q => ⟨by decide, by decide, y5, (congrArg (fun k => us102.getD k (.int (0 : Int32))) (by decide +kernel : (0 : Int32).toNatClampNeg = 0)).trans (U_r102 0 (own_nat q (k := 0) (by decide +kernel))), congrArg (fun k => List.getD ([(.int ((tt.toInt8.toInt32).toInt8.toInt32)), (.int (-125)), (.int 0), (.int 0), (.int ((L.toInt8.toInt32).toInt8.toInt32)), (.int y5), (.int y6), (.int y7), (.int y8), (.int y9)] : List Value) k (.int (0 : Int32))) (by decide +kernel : ((5 : Int32) + (0 : Int32)).toNatClampNeg = 5)⟩)) hZ (hw _ (own_m 31 rfl)) (hw _ (own_m 30 rfl)) (by decide) (by decide)) (g := (mkF mi 264 #[.val (.long la), .second, .val (.long lb), .second, .val (.int tg), .val (.int fm), .val (.int ln), .val (.ref ob1), .val (.int tt), .val (.int 3), .val (.int 5), .val (.int 5), .val (.int L), .val (.ref r102)] [(.int L), (.int 0), (.int 5), (.ref ob1), (.ref r102)])) rfl (by rw [hml]; rfl) (argsL := [(.ref r102), (.ref ob1), (.int 5), (.int 0), (.int L)]) (rest := []) (lenOf pd_5 rfl) rfl (by show 2 * 0 + _ ≤ _; exact Nat.le_of_eq rfl) (hb hby at_264) (fun _ _ => ⟨rfl, e102, (by decide : 3 + 0 ≤ _), (by decide : 20 + 0 ≤ _)⟩)
    dsimp only [Pt.U, Pt.locs, Pt.cells, Pt.slots] at X105 l105 y105 z105 st105 hQ105
    subst y105 z105
    have X105 := own_cs X105 (cells' := 3) (slots' := 20) rfl rfl
    obtain ⟨rfl, N105q, e105⟩ := hQ105
    have N105 := own_fr l105 (Fr.app N102 N105q)
    refine Go.st st105 ?_
    refine g_ifNo X105 hx hby at_267 ((if0 _ _).trans (feq (by decide)).1) ?_
    refine g_aload X105 hx hby at_270 rfl rfl ?_
    refine g_aload X105 hx hby at_272 rfl rfl ?_
    refine g_iload X105 hx hby at_274 rfl ?_
    refine g_iconst X105 hx hby at_276 (v := 1) rfl ?_
    refine g_iload X105 hx hby at_277 rfl ?_
    obtain ⟨_, _, ⟨T107, L107, k107, n107⟩, -, X107, ⟨Lc107, hQ107, l107, y107, z107⟩, st107⟩ := Jvm.LawKit.callS X105 hx (y := (⟨"com/example/pemgate/pemgate/core/DerContentsPinLaw", "same", "([B[BIII)Z"⟩ : MethodName)) hown (mvT hZ (hw _ (own_m 28 rfl))) (mvT hZ (hw _ (own_m 29 rfl))) (mvT hZ (hw _ (own_m 30 rfl))) (mvT hZ (hw _ (own_m 31 rfl))) (by decide) (backOf (W := 0) (rmS l Z a0 hw [] r102 ob1 (5 : Int32) (1 : Int32) L kr102 us102 k1 [(.int ((tt.toInt8.toInt32).toInt8.toInt32)), (.int (-125)), (.int 0), (.int 0), (.int ((L.toInt8.toInt32).toInt8.toInt32)), (.int y5), (.int y6), (.int y7), (.int y8), (.int y9)] h102 n0 Zs103 f106 V_r102 (by decide) (fun q => ⟨by decide, by decide, y6, (congrArg (fun k => us102.getD k (.int (0 : Int32))) (by decide +kernel : (1 : Int32).toNatClampNeg = 1)).trans (U_r102 1 (own_nat q (k := 1) (by decide +kernel))), congrArg (fun k => List.getD ([(.int ((tt.toInt8.toInt32).toInt8.toInt32)), (.int (-125)), (.int 0), (.int 0), (.int ((L.toInt8.toInt32).toInt8.toInt32)), (.int y5), (.int y6), (.int y7), (.int y8), (.int y9)] : List Value) k (.int (0 : Int32))) (by decide +kernel : ((5 : Int32) + (1 : Int32)).toNatClampNeg = 6)⟩)) hZ (hw _ (own_m 31 rfl)) (hw _ (own_m 30 rfl)) (by decide) (by decide)) (g := (mkF mi 279 #[.val (.long la), .second, .val (.long lb), .second, .val (.int tg), .val (.int fm), .val (.int ln), .val (.ref ob1), .val (.int tt), .val (.int 3), .val (.int 5), .val (.int 5), .val (.int L), .val (.ref r102)] [(.int L), (.int 1), (.int 5), (.ref ob1), (.ref r102)])) rfl (by rw [hml]; rfl) (argsL := [(.ref r102), (.ref ob1), (.int 5), (.int 1), (.int L)]) (rest := []) (lenOf pd_5 rfl) rfl (by show 2 * 0 + _ ≤ _; exact Nat.le_of_eq rfl) (hb hby at_279) (fun _ _ => ⟨rfl, e105, (by decide : 3 + 0 ≤ _), (by decide : 20 + 0 ≤ _)⟩)
    dsimp only [Pt.U, Pt.locs, Pt.cells, Pt.slots] at X107 l107 y107 z107 st107 hQ107
    subst y107 z107
    have X107 := own_cs X107 (cells' := 3) (slots' := 20) rfl rfl
    obtain ⟨rfl, N107q, e107⟩ := hQ107
    have N107 := own_fr l107 (Fr.app N105 N107q)
    refine Go.st st107 ?_
    refine g_ifNo X107 hx hby at_282 ((if0 _ _).trans (feq (by decide)).1) ?_
    refine g_aload X107 hx hby at_285 rfl rfl ?_
    refine g_aload X107 hx hby at_287 rfl rfl ?_
    refine g_iload X107 hx hby at_289 rfl ?_
    refine g_iconst X107 hx hby at_291 (v := 2) rfl ?_
    refine g_iload X107 hx hby at_292 rfl ?_
    obtain ⟨_, _, ⟨T108, L108, k108, n108⟩, -, X108, ⟨Lc108, hQ108, l108, y108, z108⟩, st108⟩ := Jvm.LawKit.callS X107 hx (y := (⟨"com/example/pemgate/pemgate/core/DerContentsPinLaw", "same", "([B[BIII)Z"⟩ : MethodName)) hown (mvT hZ (hw _ (own_m 28 rfl))) (mvT hZ (hw _ (own_m 29 rfl))) (mvT hZ (hw _ (own_m 30 rfl))) (mvT hZ (hw _ (own_m 31 rfl))) (by decide) (backOf (W := 0) (rmS l Z a0 hw [] r102 ob1 (5 : Int32) (2 : Int32) L kr102 us102 k1 [(.int ((tt.toInt8.toInt32).toInt8.toInt32)), (.int (-125)), (.int 0), (.int 0), (.int ((L.toInt8.toInt32).toInt8.toInt32)), (.int y5), (.int y6), (.int y7), (.int y8), (.int y9)] h102 n0 Zs103 f106 V_r102 (by decide) (fun q => ⟨by decide, by decide, y7, (congrArg (fun k => us102.getD k (.int (0 : Int32))) (by decide +kernel : (2 : Int32).toNatClampNeg = 2)).trans (U_r102 2 (own_nat q (k := 2) (by decide +kernel))), congrArg (fun k => List.getD ([(.int ((tt.toInt8.toInt32).toInt8.toInt32)), (.int (-125)), (.int 0), (.int 0), (.int ((L.toInt8.toInt32).toInt8.toInt32)), (.int y5), (.int y6), (.int y7), (.int y8), (.int y9)] : List Value) k (.int (0 : Int32))) (by decide +kernel : ((5 : Int32) + (2 : Int32)).toNatClampNeg = 7)⟩)) hZ (hw _ (own_m 31 rfl)) (hw _ (own_m 30 rfl)) (by decide) (by decide)) (g := (mkF mi 294 #[.val (.long la), .second, .val (.long lb), .second, .val (.int tg), .val (.int fm), .val (.int ln), .val (.ref ob1), .val (.int tt), .val (.int 3), .val (.int 5), .val (.int 5), .val (.int L), .val (.ref r102)] [(.int L), (.int 2), (.int 5), (.ref ob1), (.ref r102)])) rfl (by rw [hml]; rfl) (argsL := [(.ref r102), (.ref ob1), (.int 5), (.int 2), (.int L)]) (rest := []) (lenOf pd_5 rfl) rfl (by show 2 * 0 + _ ≤ _; exact Nat.le_of_eq rfl) (hb hby at_294) (fun _ _ => ⟨rfl, e107, (by decide : 3 + 0 ≤ _), (by decide : 20 + 0 ≤ _)⟩)
    dsimp only [Pt.U, Pt.locs, Pt.cells, Pt.slots] at X108 l108 y108 z108 st108 hQ108
    subst y108 z108
    have X108 := own_cs X108 (cells' := 3) (slots' := 20) rfl rfl
    obtain ⟨rfl, N108q, e108⟩ := hQ108
    have N108 := own_fr l108 (Fr.app N107 N108q)
    refine Go.st st108 ?_
    refine g_ifNo X108 hx hby at_297 ((if0 _ _).trans (feq (by decide)).1) ?_
    refine g_aload X108 hx hby at_300 rfl rfl ?_
    refine g_aload X108 hx hby at_302 rfl rfl ?_
    show Go _ _ _ (T108.setTop (mkF mi 304 #[.val (.long la), .second, .val (.long lb), .second, .val (.int tg), .val (.int fm), .val (.int ln), .val (.ref ob1), .val (.int tt), .val (.int 3), .val (.int 5), .val (.int 5), .val (.int L), .val (.ref r102)] [(.ref ob1), (.ref r102)])) _
    refine g_iload X108 hx hby at_304 rfl ?_
    refine g_iconst X108 hx hby at_306 (v := 3) rfl ?_
    refine g_iload X108 hx hby at_307 rfl ?_
    obtain ⟨_, _, ⟨T109, L109, k109, n109⟩, -, X109, ⟨Lc109, hQ109, l109, y109, z109⟩, st109⟩ := Jvm.LawKit.callS X108 hx (y := (⟨"com/example/pemgate/pemgate/core/DerContentsPinLaw", "same", "([B[BIII)Z"⟩ : MethodName)) hown (mvT hZ (hw _ (own_m 28 rfl))) (mvT hZ (hw _ (own_m 29 rfl))) (mvT hZ (hw _ (own_m 30 rfl))) (mvT hZ (hw _ (own_m 31 rfl))) (by decide) (backOf (W := 0) (rmS l Z a0 hw [] r102 ob1 (5 : Int32) (3 : Int32) L kr102 us102 k1 [(.int ((tt.toInt8.toInt32).toInt8.toInt32)), (.int (-125)), (.int 0), (.int 0), (.int ((L.toInt8.toInt32).toInt8.toInt32)), (.int y5), (.int y6), (.int y7), (.int y8), (.int y9)] h102 n0 Zs103 f106 V_r102 (by decide) (fun q => ⟨by decide, by decide, y8, (congrArg (fun k => us102.getD k (.int (0 : Int32))) (by decide +kernel : (3 : Int32).toNatClampNeg = 3)).trans (U_r102 3 (own_nat q (k := 3) (by decide +kernel))), congrArg (fun k => List.getD ([(.int ((tt.toInt8.toInt32).toInt8.toInt32)), (.int (-125)), (.int 0), (.int 0), (.int ((L.toInt8.toInt32).toInt8.toInt32)), (.int y5), (.int y6), (.int y7), (.int y8), (.int y9)] : List Value) k (.int (0 : Int32))) (by decide +kernel : ((5 : Int32) + (3 : Int32)).toNatClampNeg = 8)⟩)) hZ (hw _ (own_m 31 rfl)) (hw _ (own_m 30 rfl)) (by decide) (by decide)) (g := (mkF mi 309 #[.val (.long la), .second, .val (.long lb), .second, .val (.int tg), .val (.int fm), .val (.int ln), .val (.ref ob1), .val (.int tt), .val (.int 3), .val (.int 5), .val (.int 5), .val (.int L), .val (.ref r102)] [(.int L), (.int 3), (.int 5), (.ref ob1), (.ref r102)])) rfl (by rw [hml]; rfl) (argsL := [(.ref r102), (.ref ob1), (.int 5), (.int 3), (.int L)]) (rest := []) (lenOf pd_5 rfl) rfl (by show 2 * 0 + _ ≤ _; exact Nat.le_of_eq rfl) (hb hby at_309) (fun _ _ => ⟨rfl, e108, (by decide : 3 + 0 ≤ _), (by decide : 20 + 0 ≤ _)⟩)
    dsimp only [Pt.U, Pt.locs, Pt.cells, Pt.slots] at X109 l109 y109 z109 st109 hQ109
    subst y109 z109
    have X109 := own_cs X109 (cells' := 3) (slots' := 20) rfl rfl
    obtain ⟨rfl, N109q, e109⟩ := hQ109
    have N109 := own_fr l109 (Fr.app N108 N109q)
    refine Go.st st109 ?_
    refine g_ifNo X109 hx hby at_312 ((if0 _ _).trans (feq (by decide)).1) ?_
    refine g_aload X109 hx hby at_315 rfl rfl ?_
    refine g_aload X109 hx hby at_317 rfl rfl ?_
    refine g_iload X109 hx hby at_319 rfl ?_
    refine g_iconst X109 hx hby at_321 (v := 4) rfl ?_
    refine g_iload X109 hx hby at_322 rfl ?_
    obtain ⟨_, _, ⟨T110, L110, k110, n110⟩, -, X110, ⟨Lc110, hQ110, l110, y110, z110⟩, st110⟩ := Jvm.LawKit.callS X109 hx (y := (⟨"com/example/pemgate/pemgate/core/DerContentsPinLaw", "same", "([B[BIII)Z"⟩ : MethodName)) hown (mvT hZ (hw _ (own_m 28 rfl))) (mvT hZ (hw _ (own_m 29 rfl))) (mvT hZ (hw _ (own_m 30 rfl))) (mvT hZ (hw _ (own_m 31 rfl))) (by decide) (backOf (W := 0) (rmS l Z a0 hw [] r102 ob1 (5 : Int32) (4 : Int32) L kr102 us102 k1 [(.int ((tt.toInt8.toInt32).toInt8.toInt32)), (.int (-125)), (.int 0), (.int 0), (.int ((L.toInt8.toInt32).toInt8.toInt32)), (.int y5), (.int y6), (.int y7), (.int y8), (.int y9)] h102 n0 Zs103 f106 V_r102 (by decide) (fun q => ⟨by decide, by decide, y9, (congrArg (fun k => us102.getD k (.int (0 : Int32))) (by decide +kernel : (4 : Int32).toNatClampNeg = 4)).trans (U_r102 4 (own_nat q (k := 4) (by decide +kernel))), congrArg (fun k => List.getD ([(.int ((tt.toInt8.toInt32).toInt8.toInt32)), (.int (-125)), (.int 0), (.int 0), (.int ((L.toInt8.toInt32).toInt8.toInt32)), (.int y5), (.int y6), (.int y7), (.int y8), (.int y9)] : List Value) k (.int (0 : Int32))) (by decide +kernel : ((5 : Int32) + (4 : Int32)).toNatClampNeg = 9)⟩)) hZ (hw _ (own_m 31 rfl)) (hw _ (own_m 30 rfl)) (by decide) (by decide)) (g := (mkF mi 324 #[.val (.long la), .second, .val (.long lb), .second, .val (.int tg), .val (.int fm), .val (.int ln), .val (.ref ob1), .val (.int tt), .val (.int 3), .val (.int 5), .val (.int 5), .val (.int L), .val (.ref r102)] [(.int L), (.int 4), (.int 5), (.ref ob1), (.ref r102)])) rfl (by rw [hml]; rfl) (argsL := [(.ref r102), (.ref ob1), (.int 5), (.int 4), (.int L)]) (rest := []) (lenOf pd_5 rfl) rfl (by show 2 * 0 + _ ≤ _; exact Nat.le_of_eq rfl) (hb hby at_324) (fun _ _ => ⟨rfl, e109, (by decide : 3 + 0 ≤ _), (by decide : 20 + 0 ≤ _)⟩)
    dsimp only [Pt.U, Pt.locs, Pt.cells, Pt.slots] at X110 l110 y110 z110 st110 hQ110
    subst y110 z110
    have X110 := own_cs X110 (cells' := 3) (slots' := 20) rfl rfl
    obtain ⟨rfl, N110q, e110⟩ := hQ110
    have N110 := own_fr l110 (Fr.app N109 N110q)
    refine Go.st st110 ?_
    refine g_ifNo X110 hx hby at_327 ((if0 _ _).trans (feq (by decide)).1) ?_
    refine g_aload X110 hx hby at_330 rfl rfl ?_
    refine g_aload X110 hx hby at_332 rfl rfl ?_
    refine g_iload X110 hx hby at_334 rfl ?_
    refine g_iconst X110 hx hby at_336 (v := 5) rfl ?_
    refine g_iload X110 hx hby at_337 rfl ?_
    obtain ⟨_, _, ⟨T111, L111, k111, n111⟩, -, X111, ⟨Lc111, hQ111, l111, y111, z111⟩, st111⟩ := Jvm.LawKit.callS X110 hx (y := (⟨"com/example/pemgate/pemgate/core/DerContentsPinLaw", "same", "([B[BIII)Z"⟩ : MethodName)) hown (mvT hZ (hw _ (own_m 28 rfl))) (mvT hZ (hw _ (own_m 29 rfl))) (mvT hZ (hw _ (own_m 30 rfl))) (mvT hZ (hw _ (own_m 31 rfl))) (by decide) (backOf (W := 0) (rmS l Z a0 hw [] r102 ob1 (5 : Int32) (5 : Int32) L kr102 us102 k1 [(.int ((tt.toInt8.toInt32).toInt8.toInt32)), (.int (-125)), (.int 0), (.int 0), (.int ((L.toInt8.toInt32).toInt8.toInt32)), (.int y5), (.int y6), (.int y7), (.int y8), (.int y9)] h102 n0 Zs103 f106 V_r102 (by decide) (fun q => absurd q (own_far hL2 (by decide)))) hZ (hw _ (own_m 31 rfl)) (hw _ (own_m 30 rfl)) (by decide) (by decide)) (g := (mkF mi 339 #[.val (.long la), .second, .val (.long lb), .second, .val (.int tg), .val (.int fm), .val (.int ln), .val (.ref ob1), .val (.int tt), .val (.int 3), .val (.int 5), .val (.int 5), .val (.int L), .val (.ref r102)] [(.int L), (.int 5), (.int 5), (.ref ob1), (.ref r102)])) rfl (by rw [hml]; rfl) (argsL := [(.ref r102), (.ref ob1), (.int 5), (.int 5), (.int L)]) (rest := []) (lenOf pd_5 rfl) rfl (by show 2 * 0 + _ ≤ _; exact Nat.le_of_eq rfl) (hb hby at_339) (fun _ _ => ⟨rfl, e110, (by decide : 3 + 0 ≤ _), (by decide : 20 + 0 ≤ _)⟩)
    dsimp only [Pt.U, Pt.locs, Pt.cells, Pt.slots] at X111 l111 y111 z111 st111 hQ111
    subst y111 z111
    have X111 := own_cs X111 (cells' := 3) (slots' := 20) rfl rfl
    obtain ⟨rfl, N111q, e111⟩ := hQ111
    have N111 := own_fr l111 (Fr.app N110 N111q)
    refine Go.st st111 ?_
    refine g_ifNo X111 hx hby at_342 ((if0 _ _).trans (feq (by decide)).1) ?_
    refine g_aload X111 hx hby at_345 rfl rfl ?_
    refine g_aload X111 hx hby at_347 rfl rfl ?_
    show Go _ _ _ (T111.setTop (mkF mi 349 #[.val (.long la), .second, .val (.long lb), .second, .val (.int tg), .val (.int fm), .val (.int ln), .val (.ref ob1), .val (.int tt), .val (.int 3), .val (.int 5), .val (.int 5), .val (.int L), .val (.ref r102)] [(.ref ob1), (.ref r102)])) _
    refine g_iload X111 hx hby at_349 rfl ?_
    refine g_bipush X111 hx hby at_351 (v := 6) rfl ?_
    refine g_iload X111 hx hby at_353 rfl ?_
    obtain ⟨_, _, ⟨T112, L112, k112, n112⟩, -, X112, ⟨Lc112, hQ112, l112, y112, z112⟩, st112⟩ := Jvm.LawKit.callS X111 hx (y := (⟨"com/example/pemgate/pemgate/core/DerContentsPinLaw", "same", "([B[BIII)Z"⟩ : MethodName)) hown (mvT hZ (hw _ (own_m 28 rfl))) (mvT hZ (hw _ (own_m 29 rfl))) (mvT hZ (hw _ (own_m 30 rfl))) (mvT hZ (hw _ (own_m 31 rfl))) (by decide) (backOf (W := 0) (rmS l Z a0 hw [] r102 ob1 (5 : Int32) (6 : Int32) L kr102 us102 k1 [(.int ((tt.toInt8.toInt32).toInt8.toInt32)), (.int (-125)), (.int 0), (.int 0), (.int ((L.toInt8.toInt32).toInt8.toInt32)), (.int y5), (.int y6), (.int y7), (.int y8), (.int y9)] h102 n0 Zs103 f106 V_r102 (by decide) (fun q => absurd q (own_far hL2 (by decide)))) hZ (hw _ (own_m 31 rfl)) (hw _ (own_m 30 rfl)) (by decide) (by decide)) (g := (mkF mi 355 #[.val (.long la), .second, .val (.long lb), .second, .val (.int tg), .val (.int fm), .val (.int ln), .val (.ref ob1), .val (.int tt), .val (.int 3), .val (.int 5), .val (.int 5), .val (.int L), .val (.ref r102)] [(.int L), (.int 6), (.int 5), (.ref ob1), (.ref r102)])) rfl (by rw [hml]; rfl) (argsL := [(.ref r102), (.ref ob1), (.int 5), (.int 6), (.int L)]) (rest := []) (lenOf pd_5 rfl) rfl (by show 2 * 0 + _ ≤ _; exact Nat.le_of_eq rfl) (hb hby at_355) (fun _ _ => ⟨rfl, e111, (by decide : 3 + 0 ≤ _), (by decide : 20 + 0 ≤ _)⟩)
    dsimp only [Pt.U, Pt.locs, Pt.cells, Pt.slots] at X112 l112 y112 z112 st112 hQ112
    subst y112 z112
    have X112 := own_cs X112 (cells' := 3) (slots' := 20) rfl rfl
    obtain ⟨rfl, N112q, e112⟩ := hQ112
    have N112 := own_fr l112 (Fr.app N111 N112q)
    refine Go.st st112 ?_
    refine g_ifNo X112 hx hby at_358 ((if0 _ _).trans (feq (by decide)).1) ?_
    refine g_aload X112 hx hby at_361 rfl rfl ?_
    refine g_aload X112 hx hby at_363 rfl rfl ?_
    refine g_iload X112 hx hby at_365 rfl ?_
    refine g_bipush X112 hx hby at_367 (v := 7) rfl ?_
    refine g_iload X112 hx hby at_369 rfl ?_
    obtain ⟨_, _, ⟨T113, L113, k113, n113⟩, -, X113, ⟨Lc113, hQ113, l113, y113, z113⟩, st113⟩ := Jvm.LawKit.callS X112 hx (y := (⟨"com/example/pemgate/pemgate/core/DerContentsPinLaw", "same", "([B[BIII)Z"⟩ : MethodName)) hown (mvT hZ (hw _ (own_m 28 rfl))) (mvT hZ (hw _ (own_m 29 rfl))) (mvT hZ (hw _ (own_m 30 rfl))) (mvT hZ (hw _ (own_m 31 rfl))) (by decide) (backOf (W := 0) (rmS l Z a0 hw [] r102 ob1 (5 : Int32) (7 : Int32) L kr102 us102 k1 [(.int ((tt.toInt8.toInt32).toInt8.toInt32)), (.int (-125)), (.int 0), (.int 0), (.int ((L.toInt8.toInt32).toInt8.toInt32)), (.int y5), (.int y6), (.int y7), (.int y8), (.int y9)] h102 n0 Zs103 f106 V_r102 (by decide) (fun q => absurd q (own_far hL2 (by decide)))) hZ (hw _ (own_m 31 rfl)) (hw _ (own_m 30 rfl)) (by decide) (by decide)) (g := (mkF mi 371 #[.val (.long la), .second, .val (.long lb), .second, .val (.int tg), .val (.int fm), .val (.int ln), .val (.ref ob1), .val (.int tt), .val (.int 3), .val (.int 5), .val (.int 5), .val (.int L), .val (.ref r102)] [(.int L), (.int 7), (.int 5), (.ref ob1), (.ref r102)])) rfl (by rw [hml]; rfl) (argsL := [(.ref r102), (.ref ob1), (.int 5), (.int 7), (.int L)]) (rest := []) (lenOf pd_5 rfl) rfl (by show 2 * 0 + _ ≤ _; exact Nat.le_of_eq rfl) (hb hby at_371) (fun _ _ => ⟨rfl, e112, (by decide : 3 + 0 ≤ _), (by decide : 20 + 0 ≤ _)⟩)
    dsimp only [Pt.U, Pt.locs, Pt.cells, Pt.slots] at X113 l113 y113 z113 st113 hQ113
    subst y113 z113
    have X113 := own_cs X113 (cells' := 3) (slots' := 20) rfl rfl
    obtain ⟨rfl, N113q, e113⟩ := hQ113
    have N113 := own_fr l113 (Fr.app N112 N113q)
    refine Go.st st113 ?_
    refine g_ifNo X113 hx hby at_374 ((if0 _ _).trans (feq (by decide)).1) ?_
    refine g_iconst X113 hx hby at_377 (v := 1) rfl ?_
    refine g_goto X113 hx hby at_378 (pc0 := 378) (pc' := 382) rfl (by decide) (by decide) ?_
    obtain ⟨fs, hr, hrun, hended, hW, hsame⟩ := X113.leave (v := some (.int 1)) (fun h => by rw [Bd.returns] at h; cases h) (BodyLoose.notSynchronized Bd)
    refine ⟨_, _, ?_, hP _ _ ⟨hrun, hended, _, _, rfl, ?_, ⟨_, rfl⟩, hW, hsame.mono (by decide) (by decide)⟩⟩
    · exact retN X113 hx (t := .boolean) Bd.returns (by simp) (hb hby at_382) hr
    · show (some (.int 1) : Option Value) = some (.int 1) ∧ Fr n0 _
      exact ⟨rfl, N113⟩
  · rw [hN]
    show Go _ _ _ (T34.setTop (mkF mi 144 #[.val (.long la), .second, .val (.long lb), .second, .val (.int tg), .val (.int fm), .val (.int ln), .val (.ref ob1), .val (.int tt), .val (.int 4), .unset, .unset, .unset, .unset] [])) _
    refine g_iconst X34 hx hby at_144 (v := 2) rfl ?_
    refine g_iload X34 hx hby at_145 rfl ?_
    refine g_iadd X34 hx hby at_147 (z := 6) rfl ?_
    refine g_istore X34 hx hby at_148 (l' := #[.val (.long la), .second, .val (.long lb), .second, .val (.int tg), .val (.int fm), .val (.int ln), .val (.ref ob1), .val (.int tt), .val (.int 4), .val (.int 6), .unset, .unset, .unset]) rfl ?_
    refine g_bipush X34 hx hby at_150 (v := 10) rfl ?_
    refine g_iload X34 hx hby at_152 rfl ?_
    refine g_isub X34 hx hby at_154 (z := 4) rfl ?_
    show Go _ _ _ (T34.setTop (mkF mi 155 #[.val (.long la), .second, .val (.long lb), .second, .val (.int tg), .val (.int fm), .val (.int ln), .val (.ref ob1), .val (.int tt), .val (.int 4), .val (.int 6), .unset, .unset, .unset] [(.int 4)])) _
    refine g_istore X34 hx hby at_155 (l' := #[.val (.long la), .second, .val (.long lb), .second, .val (.int tg), .val (.int fm), .val (.int ln), .val (.ref ob1), .val (.int tt), .val (.int 4), .val (.int 6), .val (.int 4), .unset, .unset]) rfl ?_
    refine g_iload X34 hx hby at_157 rfl ?_
    refine Go.st (X34.ldcInt hx hown (mvT hZ (hw _ (own_m 1 rfl))) (g := (mkF mi 159 #[.val (.long la), .second, .val (.long lb), .second, .val (.int tg), .val (.int fm), .val (.int ln), .val (.ref ob1), .val (.int tt), .val (.int 4), .val (.int 6), .val (.int 4), .unset, .unset] [(.int ln)])) rfl (hb hby at_159)) ?_
    refine g_iand X34 hx hby at_161 rfl ?_
    refine g_iload X34 hx hby at_162 rfl ?_
    refine g_iconst X34 hx hby at_164 (v := 1) rfl ?_
    refine g_iadd X34 hx hby at_165 (z := 5) rfl ?_
    refine Go.s (iremM X34 hx rfl (hb hby at_166) rfl (by decide)) ?_
    show Go _ _ _ (T34.setTop (mkF mi 167 #[.val (.long la), .second, .val (.long lb), .second, .val (.int tg), .val (.int fm), .val (.int ln), .val (.ref ob1), .val (.int tt), .val (.int 4), .val (.int 6), .val (.int 4), .unset, .unset] [(.int ((ln &&& (2147483647 : Int32)) % (5 : Int32)))])) _
    refine g_istore X34 hx hby at_167 (l' := #[.val (.long la), .second, .val (.long lb), .second, .val (.int tg), .val (.int fm), .val (.int ln), .val (.ref ob1), .val (.int tt), .val (.int 4), .val (.int 6), .val (.int 4), .val (.int ((ln &&& (2147483647 : Int32)) % (5 : Int32))), .unset]) rfl ?_
    show Go _ _ _ (T34.setTop (mkF mi 169 #[.val (.long la), .second, .val (.long lb), .second, .val (.int tg), .val (.int fm), .val (.int ln), .val (.ref ob1), .val (.int tt), .val (.int 4), .val (.int 6), .val (.int 4), .val (.int ((ln &&& (2147483647 : Int32)) % (5 : Int32))), .unset] [])) _
    obtain ⟨L, hLe⟩ : ∃ z, z = ((ln &&& (2147483647 : Int32)) % (5 : Int32)) := ⟨_, rfl⟩
    rw [← hLe]
    obtain ⟨hL1, hL2⟩ := own_l ln (5 : Int32) L 5 rfl (by decide) hLe
    have hL2 : L.toInt ≤ 4 := by omega
    have hL2' : L.toInt ≤ 8 := by omega
    show Go _ _ _ (T34.setTop (mkF mi 169 #[.val (.long la), .second, .val (.long lb), .second, .val (.int tg), .val (.int fm), .val (.int ln), .val (.ref ob1), .val (.int tt), .val (.int 4), .val (.int 6), .val (.int 4), .val (.int L), .unset] [])) _
    refine g_iload X34 hx hby at_169 rfl ?_
    refine g_ifYes X34 hx hby at_171 ((if0 _ _).trans (feq (by decide)).2) (pc0 := 171) (pc' := 184) rfl (by decide) (by decide) ?_
    refine g_aload X34 hx hby at_184 rfl rfl ?_
    refine g_iconst X34 hx hby at_186 (v := 1) rfl ?_
    refine g_sipush X34 hx hby at_187 (v := 128) rfl ?_
    refine g_iload X34 hx hby at_190 rfl ?_
    refine g_ior X34 hx hby at_192 (z := 132) rfl ?_
    refine g_i2b X34 hx hby at_193 (z := (-124)) rfl ?_
    have ov114 := V34
    obtain ⟨cl114, Ar114, q114, S114, M114, H114, G114⟩ := ov114
    have hin114 : ¬ ((1 : Int32) < 0 ∨ cl114.slots.size ≤ ((1 : Int32)).toNatClampNeg) := inb_of S114 ⟨by decide, by decide⟩
    obtain ⟨T115, h115, X115, e115, W115, st115⟩ := stB X34 hx hZ e34 Ar114 (j := (1 : Int32)) hin114 (g := (mkF mi 194 #[.val (.long la), .second, .val (.long lb), .second, .val (.int tg), .val (.int fm), .val (.int ln), .val (.ref ob1), .val (.int tt), .val (.int 4), .val (.int 6), .val (.int 4), .val (.int L), .unset] [(.int (-124)), (.int 1), (.ref ob1)])) rfl rfl (hb hby at_194)
    have Zs116 : n0 ≤ h115.size := Nat.le_trans Zs35 (Keep.of_wr W115).1
    have N116 := Fr.snoc X115 N35 g_ob1
    have V115 : Arv Z h115 ob1 k1 .byte (10 : Int32) [(.int ((tt.toInt8.toInt32).toInt8.toInt32)), (.int (-124)), (.int y2), (.int y3), (.int y4), (.int y5), (.int y6), (.int y7), (.int y8), (.int y9)] (.int (0 : Int32)) := Arv.set Ar114 q114 S114 M114 H114 G114 (by decide) W115 1 rfl (Nat.le_of_ble_eq_true rfl)
    refine Go.st st115 ?_
    refine g_iload X115 hx hby at_195 rfl ?_
    refine g_iconst X115 hx hby at_197 (v := 2) rfl ?_
    refine g_icmpNo X115 hx hby at_198 (flt (by decide)).1 ?_
    refine g_aload X115 hx hby at_201 rfl rfl ?_
    refine g_iconst X115 hx hby at_203 (v := 2) rfl ?_
    refine g_iconst X115 hx hby at_204 (v := 0) rfl ?_
    have ov117 := V115
    obtain ⟨cl117, Ar117, q117, S117, M117, H117, G117⟩ := ov117
    have hin117 : ¬ ((2 : Int32) < 0 ∨ cl117.slots.size ≤ ((2 : Int32)).toNatClampNeg) := inb_of S117 ⟨by decide, by decide⟩
    obtain ⟨T118, h118, X118, e118, W118, st118⟩ := stB X115 hx hZ e115 Ar117 (j := (2 : Int32)) hin117 (g := (mkF mi 205 #[.val (.long la), .second, .val (.long lb), .second, .val (.int tg), .val (.int fm), .val (.int ln), .val (.ref ob1), .val (.int tt), .val (.int 4), .val (.int 6), .val (.int 4), .val (.int L), .unset] [(.int 0), (.int 2), (.ref ob1)])) rfl rfl (hb hby at_205)
    have Zs119 : n0 ≤ h118.size := Nat.le_trans Zs116 (Keep.of_wr W118).1
    have N119 := Fr.snoc X118 N116 g_ob1
    have V118 : Arv Z h118 ob1 k1 .byte (10 : Int32) [(.int ((tt.toInt8.toInt32).toInt8.toInt32)), (.int (-124)), (.int 0), (.int y3), (.int y4), (.int y5), (.int y6), (.int y7), (.int y8), (.int y9)] (.int (0 : Int32)) := Arv.set Ar117 q117 S117 M117 H117 G117 (by decide) W118 2 rfl (Nat.le_of_ble_eq_true rfl)
    refine Go.st st118 ?_
    refine g_iload X118 hx hby at_206 rfl ?_
    refine g_iconst X118 hx hby at_208 (v := 3) rfl ?_
    refine g_icmpNo X118 hx hby at_209 (flt (by decide)).1 ?_
    refine g_aload X118 hx hby at_212 rfl rfl ?_
    refine g_iconst X118 hx hby at_214 (v := 3) rfl ?_
    show Go _ _ _ (T118.setTop (mkF mi 215 #[.val (.long la), .second, .val (.long lb), .second, .val (.int tg), .val (.int fm), .val (.int ln), .val (.ref ob1), .val (.int tt), .val (.int 4), .val (.int 6), .val (.int 4), .val (.int L), .unset] [(.int 3), (.ref ob1)])) _
    refine g_iconst X118 hx hby at_215 (v := 0) rfl ?_
    have ov120 := V118
    obtain ⟨cl120, Ar120, q120, S120, M120, H120, G120⟩ := ov120
    have hin120 : ¬ ((3 : Int32) < 0 ∨ cl120.slots.size ≤ ((3 : Int32)).toNatClampNeg) := inb_of S120 ⟨by decide, by decide⟩
    obtain ⟨T121, h121, X121, e121, W121, st121⟩ := stB X118 hx hZ e118 Ar120 (j := (3 : Int32)) hin120 (g := (mkF mi 216 #[.val (.long la), .second, .val (.long lb), .second, .val (.int tg), .val (.int fm), .val (.int ln), .val (.ref ob1), .val (.int tt), .val (.int 4), .val (.int 6), .val (.int 4), .val (.int L), .unset] [(.int 0), (.int 3), (.ref ob1)])) rfl rfl (hb hby at_216)
    have Zs122 : n0 ≤ h121.size := Nat.le_trans Zs119 (Keep.of_wr W121).1
    have N122 := Fr.snoc X121 N119 g_ob1
    have V121 : Arv Z h121 ob1 k1 .byte (10 : Int32) [(.int ((tt.toInt8.toInt32).toInt8.toInt32)), (.int (-124)), (.int 0), (.int 0), (.int y4), (.int y5), (.int y6), (.int y7), (.int y8), (.int y9)] (.int (0 : Int32)) := Arv.set Ar120 q120 S120 M120 H120 G120 (by decide) W121 3 rfl (Nat.le_of_ble_eq_true rfl)
    refine Go.st st121 ?_
    refine g_iload X121 hx hby at_217 rfl ?_
    refine g_iconst X121 hx hby at_219 (v := 4) rfl ?_
    refine g_icmpNo X121 hx hby at_220 (flt (by decide)).1 ?_
    refine g_aload X121 hx hby at_223 rfl rfl ?_
    refine g_iconst X121 hx hby at_225 (v := 4) rfl ?_
    refine g_iconst X121 hx hby at_226 (v := 0) rfl ?_
    have ov123 := V121
    obtain ⟨cl123, Ar123, q123, S123, M123, H123, G123⟩ := ov123
    have hin123 : ¬ ((4 : Int32) < 0 ∨ cl123.slots.size ≤ ((4 : Int32)).toNatClampNeg) := inb_of S123 ⟨by decide, by decide⟩
    obtain ⟨T124, h124, X124, e124, W124, st124⟩ := stB X121 hx hZ e121 Ar123 (j := (4 : Int32)) hin123 (g := (mkF mi 227 #[.val (.long la), .second, .val (.long lb), .second, .val (.int tg), .val (.int fm), .val (.int ln), .val (.ref ob1), .val (.int tt), .val (.int 4), .val (.int 6), .val (.int 4), .val (.int L), .unset] [(.int 0), (.int 4), (.ref ob1)])) rfl rfl (hb hby at_227)
    have Zs125 : n0 ≤ h124.size := Nat.le_trans Zs122 (Keep.of_wr W124).1
    have N125 := Fr.snoc X124 N122 g_ob1
    have V124 : Arv Z h124 ob1 k1 .byte (10 : Int32) [(.int ((tt.toInt8.toInt32).toInt8.toInt32)), (.int (-124)), (.int 0), (.int 0), (.int 0), (.int y5), (.int y6), (.int y7), (.int y8), (.int y9)] (.int (0 : Int32)) := Arv.set Ar123 q123 S123 M123 H123 G123 (by decide) W124 4 rfl (Nat.le_of_ble_eq_true rfl)
    refine Go.st st124 ?_
    refine g_aload X124 hx hby at_228 rfl rfl ?_
    refine g_iconst X124 hx hby at_230 (v := 1) rfl ?_
    refine g_iload X124 hx hby at_231 rfl ?_
    refine g_iadd X124 hx hby at_233 (z := 5) rfl ?_
    refine g_iload X124 hx hby at_234 rfl ?_
    refine g_i2b X124 hx hby at_236 rfl ?_
    have ov126 := V124
    obtain ⟨cl126, Ar126, q126, S126, M126, H126, G126⟩ := ov126
    have hin126 : ¬ ((5 : Int32) < 0 ∨ cl126.slots.size ≤ ((5 : Int32)).toNatClampNeg) := inb_of S126 ⟨by decide, by decide⟩
    obtain ⟨T127, h127, X127, e127, W127, st127⟩ := stB X124 hx hZ e124 Ar126 (j := (5 : Int32)) hin126 (g := (mkF mi 237 #[.val (.long la), .second, .val (.long lb), .second, .val (.int tg), .val (.int fm), .val (.int ln), .val (.ref ob1), .val (.int tt), .val (.int 4), .val (.int 6), .val (.int 4), .val (.int L), .unset] [(.int (L.toInt8.toInt32)), (.int 5), (.ref ob1)])) rfl rfl (hb hby at_237)
    have Zs128 : n0 ≤ h127.size := Nat.le_trans Zs125 (Keep.of_wr W127).1
    have N128 := Fr.snoc X127 N125 g_ob1
    have V127 : Arv Z h127 ob1 k1 .byte (10 : Int32) [(.int ((tt.toInt8.toInt32).toInt8.toInt32)), (.int (-124)), (.int 0), (.int 0), (.int 0), (.int ((L.toInt8.toInt32).toInt8.toInt32)), (.int y6), (.int y7), (.int y8), (.int y9)] (.int (0 : Int32)) := Arv.set Ar126 q126 S126 M126 H126 G126 (fits_nar_byte _) W127 5 rfl (Nat.le_of_ble_eq_true rfl)
    refine Go.st st127 ?_
    refine g_aload X127 hx hby at_238 rfl rfl ?_
    have ht := own_tag tg tt htt
    have hb1 : ((-124 : Int32) &&& (255 : Int32)) = (132 : Int32) := by decide
    have hb2 : ((0 : Int32) &&& (255 : Int32)) = (0 : Int32) := by decide
    have hb3 : ((0 : Int32) &&& (255 : Int32)) = (0 : Int32) := by decide
    have hb4 : ((0 : Int32) &&& (255 : Int32)) = (0 : Int32) := by decide
    have hb5 := own_byte hL1 hL2'
    obtain ⟨_, _, ⟨T129, L129, k129, n129⟩, -, X129, ⟨Lc129, hQ129, l129, y129, z129⟩, st129⟩ := Jvm.LawKit.callS X127 hx (y := (⟨"com/example/pemgate/pemgate/core/Der", "contents", "([B)[B"⟩ : MethodName)) hown (mvT hZ (hw _ (own_m 2 rfl))) (mvT hZ (hw _ (own_m 3 rfl))) (mvT hZ (hw _ (own_m 4 rfl))) (mvT hZ (hw _ (own_m 5 rfl))) (by decide) (backOf (W := 0) (rmCt4 l Z a0 hw [] ob1 k1 L ((tt.toInt8.toInt32).toInt8.toInt32) (-124 : Int32) (0 : Int32) (0 : Int32) (0 : Int32) ((L.toInt8.toInt32).toInt8.toInt32) y6 y7 y8 y9 h127 n0 Zs128 V127 hL1 hL2 hL2' ht hb1 hb2 hb3 hb4 hb5) hZ (hw _ (own_m 5 rfl)) (hw _ (own_m 4 rfl)) (by decide) (by decide)) (g := (mkF mi 240 #[.val (.long la), .second, .val (.long lb), .second, .val (.int tg), .val (.int fm), .val (.int ln), .val (.ref ob1), .val (.int tt), .val (.int 4), .val (.int 6), .val (.int 4), .val (.int L), .unset] [(.ref ob1)])) rfl (by rw [hml]; rfl) (argsL := [(.ref ob1)]) (rest := []) (lenOf pd_4 rfl) rfl (by show 2 * 0 + _ ≤ _; exact Nat.le_of_eq rfl) (hb hby at_240) (fun _ _ => ⟨rfl, e127, (by decide : 1 + 2 ≤ _), (by decide : 10 + 10 ≤ _)⟩)
    dsimp only [Pt.U, Pt.locs, Pt.cells, Pt.slots] at X129 l129 y129 z129 st129 hQ129
    subst y129 z129
    have X129 := own_cs X129 (cells' := 3) (slots' := 20) rfl rfl
    obtain ⟨h129, e129⟩ : ∃ z, T129.heap = z := ⟨_, rfl⟩
    rw [e129] at hQ129
    obtain ⟨r129, kr129, us129, rfl, N129q, K129, z_r129, g_r129, V_r129, U_r129⟩ := hQ129
    have N129 := own_fr l129 (Fr.app N128 N129q)
    have Zs130 : n0 ≤ h129.size := Nat.le_trans Zs128 K129.1
    refine Go.st st129 ?_
    refine g_astore X129 hx hby at_243 rfl (l' := #[.val (.long la), .second, .val (.long lb), .second, .val (.int tg), .val (.int fm), .val (.int ln), .val (.ref ob1), .val (.int tt), .val (.int 4), .val (.int 6), .val (.int 4), .val (.int L), .val (.ref r129)]) rfl ?_
    refine g_aload X129 hx hby at_245 rfl rfl ?_
    have ov131 := V_r129
    obtain ⟨cl131, Ar131, q131, S131, M131, H131, G131⟩ := ov131
    refine Go.st (X129.arraylength hx (by rw [e129]; exact Ar131.1) (State.isArrayOf_alike hZ.alike Ar131.2.1) (g := (mkF mi 247 #[.val (.long la), .second, .val (.long lb), .second, .val (.int tg), .val (.int fm), .val (.int ln), .val (.ref ob1), .val (.int tt), .val (.int 4), .val (.int 6), .val (.int 4), .val (.int L), .val (.ref r129)] [(.ref r129)])) rfl rfl (hb hby at_247)) ?_
    rw [len_of S131 M131]
    show Go _ _ _ (T129.setTop (mkF mi 248 #[.val (.long la), .second, .val (.long lb), .second, .val (.int tg), .val (.int fm), .val (.int ln), .val (.ref ob1), .val (.int tt), .val (.int 4), .val (.int 6), .val (.int 4), .val (.int L), .val (.ref r129)] [(.int L)])) _
    refine g_iload X129 hx hby at_248 rfl ?_
    refine g_icmpYes X129 hx hby at_250 (teq rfl).1 (pc0 := 250) (pc' := 255) rfl (by decide) (by decide) ?_
    refine g_aload X129 hx hby at_255 rfl rfl ?_
    refine g_aload X129 hx hby at_257 rfl rfl ?_
    refine g_iload X129 hx hby at_259 rfl ?_
    refine g_iconst X129 hx hby at_261 (v := 0) rfl ?_
    refine g_iload X129 hx hby at_262 rfl ?_
    have f133 := (V127.keep K129 nin0)
    obtain ⟨_, _, ⟨T132, L132, k132, n132⟩, -, X132, ⟨Lc132, hQ132, l132, y132, z132⟩, st132⟩ := Jvm.LawKit.callS X129 hx (y := (⟨"com/example/pemgate/pemgate/core/DerContentsPinLaw", "same", "([B[BIII)Z"⟩ : MethodName)) hown (mvT hZ (hw _ (own_m 28 rfl))) (mvT hZ (hw _ (own_m 29 rfl))) (mvT hZ (hw _ (own_m 30 rfl))) (mvT hZ (hw _ (own_m 31 rfl))) (by decide) (backOf (W := 0) (rmS l Z a0 hw [] r129 ob1 (6 : Int32) (0 : Int32) L kr129 us129 k1 [(.int ((tt.toInt8.toInt32).toInt8.toInt32)), (.int (-124)), (.int 0), (.int 0), (.int 0), (.int ((L.toInt8.toInt32).toInt8.toInt32)), (.int y6), (.int y7), (.int y8), (.int y9)] h129 n0 Zs130 f133 V_r129 (by decide) (fun q => ⟨by decide, by decide, y6, (congrArg (fun k => us129.getD k (.int (0 : Int32))) (by decide +kernel : (0 : Int32).toNatClampNeg = 0)).trans (U_r129 0 (own_nat q (k := 0) (by decide +kernel))), congrArg (fun k => List.getD ([(.int ((tt.toInt8.toInt32).toInt8.toInt32)), (.int (-124)), (.int 0), (.int 0), (.int 0), (.int ((L.toInt8.toInt32).toInt8.toInt32)), (.int y6), (.int y7), (.int y8), (.int y9)] : List Value) k (.int (0 : Int32))) (by decide +kernel : ((6 : Int32) + (0 : Int32)).toNatClampNeg = 6)⟩)) hZ (hw _ (own_m 31 rfl)) (hw _ (own_m 30 rfl)) (by decide) (by decide)) (g := (mkF mi 264 #[.val (.long la), .second, .val (.long lb), .second, .val (.int tg), .val (.int fm), .val (.int ln), .val (.ref ob1), .val (.int tt), .val (.int 4), .val (.int 6), .val (.int 4), .val (.int L), .val (.ref r129)] [(.int L), (.int 0), (.int 6), (.ref ob1), (.ref r129)])) rfl (by rw [hml]; rfl) (argsL := [(.ref r129), (.ref ob1), (.int 6), (.int 0), (.int L)]) (rest := []) (lenOf pd_5 rfl) rfl (by show 2 * 0 + _ ≤ _; exact Nat.le_of_eq rfl) (hb hby at_264) (fun _ _ => ⟨rfl, e129, (by decide : 3 + 0 ≤ _), (by decide : 20 + 0 ≤ _)⟩)
    dsimp only [Pt.U, Pt.locs, Pt.cells, Pt.slots] at X132 l132 y132 z132 st132 hQ132
    subst y132 z132
    have X132 := own_cs X132 (cells' := 3) (slots' := 20) rfl rfl
    obtain ⟨rfl, N132q, e132⟩ := hQ132
    have N132 := own_fr l132 (Fr.app N129 N132q)
    refine Go.st st132 ?_
    refine g_ifNo X132 hx hby at_267 ((if0 _ _).trans (feq (by decide)).1) ?_
    refine g_aload X132 hx hby at_270 rfl rfl ?_
    refine g_aload X132 hx hby at_272 rfl rfl ?_
    refine g_iload X132 hx hby at_274 rfl ?_
    refine g_iconst X132 hx hby at_276 (v := 1) rfl ?_
    refine g_iload X132 hx hby at_277 rfl ?_
    obtain ⟨_, _, ⟨T134, L134, k134, n134⟩, -, X134, ⟨Lc134, hQ134, l134, y134, z134⟩, st134⟩ := Jvm.LawKit.callS X132 hx (y := (⟨"com/example/pemgate/pemgate/core/DerContentsPinLaw", "same", "([B[BIII)Z"⟩ : MethodName)) hown (mvT hZ (hw _ (own_m 28 rfl))) (mvT hZ (hw _ (own_m 29 rfl))) (mvT hZ (hw _ (own_m 30 rfl))) (mvT hZ (hw _ (own_m 31 rfl))) (by decide) (backOf (W := 0) (rmS l Z a0 hw [] r129 ob1 (6 : Int32) (1 : Int32) L kr129 us129 k1 [(.int ((tt.toInt8.toInt32).toInt8.toInt32)), (.int (-124)), (.int 0), (.int 0), (.int 0), (.int ((L.toInt8.toInt32).toInt8.toInt32)), (.int y6), (.int y7), (.int y8), (.int y9)] h129 n0 Zs130 f133 V_r129 (by decide) (fun q => ⟨by decide, by decide, y7, (congrArg (fun k => us129.getD k (.int (0 : Int32))) (by decide +kernel : (1 : Int32).toNatClampNeg = 1)).trans (U_r129 1 (own_nat q (k := 1) (by decide +kernel))), congrArg (fun k => List.getD ([(.int ((tt.toInt8.toInt32).toInt8.toInt32)), (.int (-124)), (.int 0), (.int 0), (.int 0), (.int ((L.toInt8.toInt32).toInt8.toInt32)), (.int y6), (.int y7), (.int y8), (.int y9)] : List Value) k (.int (0 : Int32))) (by decide +kernel : ((6 : Int32) + (1 : Int32)).toNatClampNeg = 7)⟩)) hZ (hw _ (own_m 31 rfl)) (hw _ (own_m 30 rfl)) (by decide) (by decide)) (g := (mkF mi 279 #[.val (.long la), .second, .val (.long lb), .second, .val (.int tg), .val (.int fm), .val (.int ln), .val (.ref ob1), .val (.int tt), .val (.int 4), .val (.int 6), .val (.int 4), .val (.int L), .val (.ref r129)] [(.int L), (.int 1), (.int 6), (.ref ob1), (.ref r129)])) rfl (by rw [hml]; rfl) (argsL := [(.ref r129), (.ref ob1), (.int 6), (.int 1), (.int L)]) (rest := []) (lenOf pd_5 rfl) rfl (by show 2 * 0 + _ ≤ _; exact Nat.le_of_eq rfl) (hb hby at_279) (fun _ _ => ⟨rfl, e132, (by decide : 3 + 0 ≤ _), (by decide : 20 + 0 ≤ _)⟩)
    dsimp only [Pt.U, Pt.locs, Pt.cells, Pt.slots] at X134 l134 y134 z134 st134 hQ134
    subst y134 z134
    have X134 := own_cs X134 (cells' := 3) (slots' := 20) rfl rfl
    obtain ⟨rfl, N134q, e134⟩ := hQ134
    have N134 := own_fr l134 (Fr.app N132 N134q)
    refine Go.st st134 ?_
    refine g_ifNo X134 hx hby at_282 ((if0 _ _).trans (feq (by decide)).1) ?_
    refine g_aload X134 hx hby at_285 rfl rfl ?_
    refine g_aload X134 hx hby at_287 rfl rfl ?_
    refine g_iload X134 hx hby at_289 rfl ?_
    refine g_iconst X134 hx hby at_291 (v := 2) rfl ?_
    refine g_iload X134 hx hby at_292 rfl ?_
    show Go _ _ _ (T134.setTop (mkF mi 294 #[.val (.long la), .second, .val (.long lb), .second, .val (.int tg), .val (.int fm), .val (.int ln), .val (.ref ob1), .val (.int tt), .val (.int 4), .val (.int 6), .val (.int 4), .val (.int L), .val (.ref r129)] [(.int L), (.int 2), (.int 6), (.ref ob1), (.ref r129)])) _
    obtain ⟨_, _, ⟨T135, L135, k135, n135⟩, -, X135, ⟨Lc135, hQ135, l135, y135, z135⟩, st135⟩ := Jvm.LawKit.callS X134 hx (y := (⟨"com/example/pemgate/pemgate/core/DerContentsPinLaw", "same", "([B[BIII)Z"⟩ : MethodName)) hown (mvT hZ (hw _ (own_m 28 rfl))) (mvT hZ (hw _ (own_m 29 rfl))) (mvT hZ (hw _ (own_m 30 rfl))) (mvT hZ (hw _ (own_m 31 rfl))) (by decide) (backOf (W := 0) (rmS l Z a0 hw [] r129 ob1 (6 : Int32) (2 : Int32) L kr129 us129 k1 [(.int ((tt.toInt8.toInt32).toInt8.toInt32)), (.int (-124)), (.int 0), (.int 0), (.int 0), (.int ((L.toInt8.toInt32).toInt8.toInt32)), (.int y6), (.int y7), (.int y8), (.int y9)] h129 n0 Zs130 f133 V_r129 (by decide) (fun q => ⟨by decide, by decide, y8, (congrArg (fun k => us129.getD k (.int (0 : Int32))) (by decide +kernel : (2 : Int32).toNatClampNeg = 2)).trans (U_r129 2 (own_nat q (k := 2) (by decide +kernel))), congrArg (fun k => List.getD ([(.int ((tt.toInt8.toInt32).toInt8.toInt32)), (.int (-124)), (.int 0), (.int 0), (.int 0), (.int ((L.toInt8.toInt32).toInt8.toInt32)), (.int y6), (.int y7), (.int y8), (.int y9)] : List Value) k (.int (0 : Int32))) (by decide +kernel : ((6 : Int32) + (2 : Int32)).toNatClampNeg = 8)⟩)) hZ (hw _ (own_m 31 rfl)) (hw _ (own_m 30 rfl)) (by decide) (by decide)) (g := (mkF mi 294 #[.val (.long la), .second, .val (.long lb), .second, .val (.int tg), .val (.int fm), .val (.int ln), .val (.ref ob1), .val (.int tt), .val (.int 4), .val (.int 6), .val (.int 4), .val (.int L), .val (.ref r129)] [(.int L), (.int 2), (.int 6), (.ref ob1), (.ref r129)])) rfl (by rw [hml]; rfl) (argsL := [(.ref r129), (.ref ob1), (.int 6), (.int 2), (.int L)]) (rest := []) (lenOf pd_5 rfl) rfl (by show 2 * 0 + _ ≤ _; exact Nat.le_of_eq rfl) (hb hby at_294) (fun _ _ => ⟨rfl, e134, (by decide : 3 + 0 ≤ _), (by decide : 20 + 0 ≤ _)⟩)
    dsimp only [Pt.U, Pt.locs, Pt.cells, Pt.slots] at X135 l135 y135 z135 st135 hQ135
    subst y135 z135
    have X135 := own_cs X135 (cells' := 3) (slots' := 20) rfl rfl
    obtain ⟨rfl, N135q, e135⟩ := hQ135
    have N135 := own_fr l135 (Fr.app N134 N135q)
    refine Go.st st135 ?_
    refine g_ifNo X135 hx hby at_297 ((if0 _ _).trans (feq (by decide)).1) ?_
    refine g_aload X135 hx hby at_300 rfl rfl ?_
    refine g_aload X135 hx hby at_302 rfl rfl ?_
    refine g_iload X135 hx hby at_304 rfl ?_
    refine g_iconst X135 hx hby at_306 (v := 3) rfl ?_
    refine g_iload X135 hx hby at_307 rfl ?_
    obtain ⟨_, _, ⟨T136, L136, k136, n136⟩, -, X136, ⟨Lc136, hQ136, l136, y136, z136⟩, st136⟩ := Jvm.LawKit.callS X135 hx (y := (⟨"com/example/pemgate/pemgate/core/DerContentsPinLaw", "same", "([B[BIII)Z"⟩ : MethodName)) hown (mvT hZ (hw _ (own_m 28 rfl))) (mvT hZ (hw _ (own_m 29 rfl))) (mvT hZ (hw _ (own_m 30 rfl))) (mvT hZ (hw _ (own_m 31 rfl))) (by decide) (backOf (W := 0) (rmS l Z a0 hw [] r129 ob1 (6 : Int32) (3 : Int32) L kr129 us129 k1 [(.int ((tt.toInt8.toInt32).toInt8.toInt32)), (.int (-124)), (.int 0), (.int 0), (.int 0), (.int ((L.toInt8.toInt32).toInt8.toInt32)), (.int y6), (.int y7), (.int y8), (.int y9)] h129 n0 Zs130 f133 V_r129 (by decide) (fun q => ⟨by decide, by decide, y9, (congrArg (fun k => us129.getD k (.int (0 : Int32))) (by decide +kernel : (3 : Int32).toNatClampNeg = 3)).trans (U_r129 3 (own_nat q (k := 3) (by decide +kernel))), congrArg (fun k => List.getD ([(.int ((tt.toInt8.toInt32).toInt8.toInt32)), (.int (-124)), (.int 0), (.int 0), (.int 0), (.int ((L.toInt8.toInt32).toInt8.toInt32)), (.int y6), (.int y7), (.int y8), (.int y9)] : List Value) k (.int (0 : Int32))) (by decide +kernel : ((6 : Int32) + (3 : Int32)).toNatClampNeg = 9)⟩)) hZ (hw _ (own_m 31 rfl)) (hw _ (own_m 30 rfl)) (by decide) (by decide)) (g := (mkF mi 309 #[.val (.long la), .second, .val (.long lb), .second, .val (.int tg), .val (.int fm), .val (.int ln), .val (.ref ob1), .val (.int tt), .val (.int 4), .val (.int 6), .val (.int 4), .val (.int L), .val (.ref r129)] [(.int L), (.int 3), (.int 6), (.ref ob1), (.ref r129)])) rfl (by rw [hml]; rfl) (argsL := [(.ref r129), (.ref ob1), (.int 6), (.int 3), (.int L)]) (rest := []) (lenOf pd_5 rfl) rfl (by show 2 * 0 + _ ≤ _; exact Nat.le_of_eq rfl) (hb hby at_309) (fun _ _ => ⟨rfl, e135, (by decide : 3 + 0 ≤ _), (by decide : 20 + 0 ≤ _)⟩)
    dsimp only [Pt.U, Pt.locs, Pt.cells, Pt.slots] at X136 l136 y136 z136 st136 hQ136
    subst y136 z136
    have X136 := own_cs X136 (cells' := 3) (slots' := 20) rfl rfl
    obtain ⟨rfl, N136q, e136⟩ := hQ136
    have N136 := own_fr l136 (Fr.app N135 N136q)
    refine Go.st st136 ?_
    refine g_ifNo X136 hx hby at_312 ((if0 _ _).trans (feq (by decide)).1) ?_
    refine g_aload X136 hx hby at_315 rfl rfl ?_
    refine g_aload X136 hx hby at_317 rfl rfl ?_
    refine g_iload X136 hx hby at_319 rfl ?_
    refine g_iconst X136 hx hby at_321 (v := 4) rfl ?_
    refine g_iload X136 hx hby at_322 rfl ?_
    obtain ⟨_, _, ⟨T137, L137, k137, n137⟩, -, X137, ⟨Lc137, hQ137, l137, y137, z137⟩, st137⟩ := Jvm.LawKit.callS X136 hx (y := (⟨"com/example/pemgate/pemgate/core/DerContentsPinLaw", "same", "([B[BIII)Z"⟩ : MethodName)) hown (mvT hZ (hw _ (own_m 28 rfl))) (mvT hZ (hw _ (own_m 29 rfl))) (mvT hZ (hw _ (own_m 30 rfl))) (mvT hZ (hw _ (own_m 31 rfl))) (by decide) (backOf (W := 0) (rmS l Z a0 hw [] r129 ob1 (6 : Int32) (4 : Int32) L kr129 us129 k1 [(.int ((tt.toInt8.toInt32).toInt8.toInt32)), (.int (-124)), (.int 0), (.int 0), (.int 0), (.int ((L.toInt8.toInt32).toInt8.toInt32)), (.int y6), (.int y7), (.int y8), (.int y9)] h129 n0 Zs130 f133 V_r129 (by decide) (fun q => absurd q (own_far hL2 (by decide)))) hZ (hw _ (own_m 31 rfl)) (hw _ (own_m 30 rfl)) (by decide) (by decide)) (g := (mkF mi 324 #[.val (.long la), .second, .val (.long lb), .second, .val (.int tg), .val (.int fm), .val (.int ln), .val (.ref ob1), .val (.int tt), .val (.int 4), .val (.int 6), .val (.int 4), .val (.int L), .val (.ref r129)] [(.int L), (.int 4), (.int 6), (.ref ob1), (.ref r129)])) rfl (by rw [hml]; rfl) (argsL := [(.ref r129), (.ref ob1), (.int 6), (.int 4), (.int L)]) (rest := []) (lenOf pd_5 rfl) rfl (by show 2 * 0 + _ ≤ _; exact Nat.le_of_eq rfl) (hb hby at_324) (fun _ _ => ⟨rfl, e136, (by decide : 3 + 0 ≤ _), (by decide : 20 + 0 ≤ _)⟩)
    dsimp only [Pt.U, Pt.locs, Pt.cells, Pt.slots] at X137 l137 y137 z137 st137 hQ137
    subst y137 z137
    have X137 := own_cs X137 (cells' := 3) (slots' := 20) rfl rfl
    obtain ⟨rfl, N137q, e137⟩ := hQ137
    have N137 := own_fr l137 (Fr.app N136 N137q)
    refine Go.st st137 ?_
    refine g_ifNo X137 hx hby at_327 ((if0 _ _).trans (feq (by decide)).1) ?_
    refine g_aload X137 hx hby at_330 rfl rfl ?_
    refine g_aload X137 hx hby at_332 rfl rfl ?_
    refine g_iload X137 hx hby at_334 rfl ?_
    refine g_iconst X137 hx hby at_336 (v := 5) rfl ?_
    refine g_iload X137 hx hby at_337 rfl ?_
    show Go _ _ _ (T137.setTop (mkF mi 339 #[.val (.long la), .second, .val (.long lb), .second, .val (.int tg), .val (.int fm), .val (.int ln), .val (.ref ob1), .val (.int tt), .val (.int 4), .val (.int 6), .val (.int 4), .val (.int L), .val (.ref r129)] [(.int L), (.int 5), (.int 6), (.ref ob1), (.ref r129)])) _
    obtain ⟨_, _, ⟨T138, L138, k138, n138⟩, -, X138, ⟨Lc138, hQ138, l138, y138, z138⟩, st138⟩ := Jvm.LawKit.callS X137 hx (y := (⟨"com/example/pemgate/pemgate/core/DerContentsPinLaw", "same", "([B[BIII)Z"⟩ : MethodName)) hown (mvT hZ (hw _ (own_m 28 rfl))) (mvT hZ (hw _ (own_m 29 rfl))) (mvT hZ (hw _ (own_m 30 rfl))) (mvT hZ (hw _ (own_m 31 rfl))) (by decide) (backOf (W := 0) (rmS l Z a0 hw [] r129 ob1 (6 : Int32) (5 : Int32) L kr129 us129 k1 [(.int ((tt.toInt8.toInt32).toInt8.toInt32)), (.int (-124)), (.int 0), (.int 0), (.int 0), (.int ((L.toInt8.toInt32).toInt8.toInt32)), (.int y6), (.int y7), (.int y8), (.int y9)] h129 n0 Zs130 f133 V_r129 (by decide) (fun q => absurd q (own_far hL2 (by decide)))) hZ (hw _ (own_m 31 rfl)) (hw _ (own_m 30 rfl)) (by decide) (by decide)) (g := (mkF mi 339 #[.val (.long la), .second, .val (.long lb), .second, .val (.int tg), .val (.int fm), .val (.int ln), .val (.ref ob1), .val (.int tt), .val (.int 4), .val (.int 6), .val (.int 4), .val (.int L), .val (.ref r129)] [(.int L), (.int 5), (.int 6), (.ref ob1), (.ref r129)])) rfl (by rw [hml]; rfl) (argsL := [(.ref r129), (.ref ob1), (.int 6), (.int 5), (.int L)]) (rest := []) (lenOf pd_5 rfl) rfl (by show 2 * 0 + _ ≤ _; exact Nat.le_of_eq rfl) (hb hby at_339) (fun _ _ => ⟨rfl, e137, (by decide : 3 + 0 ≤ _), (by decide : 20 + 0 ≤ _)⟩)
    dsimp only [Pt.U, Pt.locs, Pt.cells, Pt.slots] at X138 l138 y138 z138 st138 hQ138
    subst y138 z138
    have X138 := own_cs X138 (cells' := 3) (slots' := 20) rfl rfl
    obtain ⟨rfl, N138q, e138⟩ := hQ138
    have N138 := own_fr l138 (Fr.app N137 N138q)
    refine Go.st st138 ?_
    refine g_ifNo X138 hx hby at_342 ((if0 _ _).trans (feq (by decide)).1) ?_
    refine g_aload X138 hx hby at_345 rfl rfl ?_
    refine g_aload X138 hx hby at_347 rfl rfl ?_
    refine g_iload X138 hx hby at_349 rfl ?_
    refine g_bipush X138 hx hby at_351 (v := 6) rfl ?_
    refine g_iload X138 hx hby at_353 rfl ?_
    obtain ⟨_, _, ⟨T139, L139, k139, n139⟩, -, X139, ⟨Lc139, hQ139, l139, y139, z139⟩, st139⟩ := Jvm.LawKit.callS X138 hx (y := (⟨"com/example/pemgate/pemgate/core/DerContentsPinLaw", "same", "([B[BIII)Z"⟩ : MethodName)) hown (mvT hZ (hw _ (own_m 28 rfl))) (mvT hZ (hw _ (own_m 29 rfl))) (mvT hZ (hw _ (own_m 30 rfl))) (mvT hZ (hw _ (own_m 31 rfl))) (by decide) (backOf (W := 0) (rmS l Z a0 hw [] r129 ob1 (6 : Int32) (6 : Int32) L kr129 us129 k1 [(.int ((tt.toInt8.toInt32).toInt8.toInt32)), (.int (-124)), (.int 0), (.int 0), (.int 0), (.int ((L.toInt8.toInt32).toInt8.toInt32)), (.int y6), (.int y7), (.int y8), (.int y9)] h129 n0 Zs130 f133 V_r129 (by decide) (fun q => absurd q (own_far hL2 (by decide)))) hZ (hw _ (own_m 31 rfl)) (hw _ (own_m 30 rfl)) (by decide) (by decide)) (g := (mkF mi 355 #[.val (.long la), .second, .val (.long lb), .second, .val (.int tg), .val (.int fm), .val (.int ln), .val (.ref ob1), .val (.int tt), .val (.int 4), .val (.int 6), .val (.int 4), .val (.int L), .val (.ref r129)] [(.int L), (.int 6), (.int 6), (.ref ob1), (.ref r129)])) rfl (by rw [hml]; rfl) (argsL := [(.ref r129), (.ref ob1), (.int 6), (.int 6), (.int L)]) (rest := []) (lenOf pd_5 rfl) rfl (by show 2 * 0 + _ ≤ _; exact Nat.le_of_eq rfl) (hb hby at_355) (fun _ _ => ⟨rfl, e138, (by decide : 3 + 0 ≤ _), (by decide : 20 + 0 ≤ _)⟩)
    dsimp only [Pt.U, Pt.locs, Pt.cells, Pt.slots] at X139 l139 y139 z139 st139 hQ139
    subst y139 z139
    have X139 := own_cs X139 (cells' := 3) (slots' := 20) rfl rfl
    obtain ⟨rfl, N139q, e139⟩ := hQ139
    have N139 := own_fr l139 (Fr.app N138 N139q)
    refine Go.st st139 ?_
    refine g_ifNo X139 hx hby at_358 ((if0 _ _).trans (feq (by decide)).1) ?_
    refine g_aload X139 hx hby at_361 rfl rfl ?_
    refine g_aload X139 hx hby at_363 rfl rfl ?_
    refine g_iload X139 hx hby at_365 rfl ?_
    refine g_bipush X139 hx hby at_367 (v := 7) rfl ?_
    refine g_iload X139 hx hby at_369 rfl ?_
    obtain ⟨_, _, ⟨T140, L140, k140, n140⟩, -, X140, ⟨Lc140, hQ140, l140, y140, z140⟩, st140⟩ := Jvm.LawKit.callS X139 hx (y := (⟨"com/example/pemgate/pemgate/core/DerContentsPinLaw", "same", "([B[BIII)Z"⟩ : MethodName)) hown (mvT hZ (hw _ (own_m 28 rfl))) (mvT hZ (hw _ (own_m 29 rfl))) (mvT hZ (hw _ (own_m 30 rfl))) (mvT hZ (hw _ (own_m 31 rfl))) (by decide) (backOf (W := 0) (rmS l Z a0 hw [] r129 ob1 (6 : Int32) (7 : Int32) L kr129 us129 k1 [(.int ((tt.toInt8.toInt32).toInt8.toInt32)), (.int (-124)), (.int 0), (.int 0), (.int 0), (.int ((L.toInt8.toInt32).toInt8.toInt32)), (.int y6), (.int y7), (.int y8), (.int y9)] h129 n0 Zs130 f133 V_r129 (by decide) (fun q => absurd q (own_far hL2 (by decide)))) hZ (hw _ (own_m 31 rfl)) (hw _ (own_m 30 rfl)) (by decide) (by decide)) (g := (mkF mi 371 #[.val (.long la), .second, .val (.long lb), .second, .val (.int tg), .val (.int fm), .val (.int ln), .val (.ref ob1), .val (.int tt), .val (.int 4), .val (.int 6), .val (.int 4), .val (.int L), .val (.ref r129)] [(.int L), (.int 7), (.int 6), (.ref ob1), (.ref r129)])) rfl (by rw [hml]; rfl) (argsL := [(.ref r129), (.ref ob1), (.int 6), (.int 7), (.int L)]) (rest := []) (lenOf pd_5 rfl) rfl (by show 2 * 0 + _ ≤ _; exact Nat.le_of_eq rfl) (hb hby at_371) (fun _ _ => ⟨rfl, e139, (by decide : 3 + 0 ≤ _), (by decide : 20 + 0 ≤ _)⟩)
    dsimp only [Pt.U, Pt.locs, Pt.cells, Pt.slots] at X140 l140 y140 z140 st140 hQ140
    subst y140 z140
    have X140 := own_cs X140 (cells' := 3) (slots' := 20) rfl rfl
    obtain ⟨rfl, N140q, e140⟩ := hQ140
    have N140 := own_fr l140 (Fr.app N139 N140q)
    refine Go.st st140 ?_
    refine g_ifNo X140 hx hby at_374 ((if0 _ _).trans (feq (by decide)).1) ?_
    refine g_iconst X140 hx hby at_377 (v := 1) rfl ?_
    refine g_goto X140 hx hby at_378 (pc0 := 378) (pc' := 382) rfl (by decide) (by decide) ?_
    obtain ⟨fs, hr, hrun, hended, hW, hsame⟩ := X140.leave (v := some (.int 1)) (fun h => by rw [Bd.returns] at h; cases h) (BodyLoose.notSynchronized Bd)
    refine ⟨_, _, ?_, hP _ _ ⟨hrun, hended, _, _, rfl, ?_, ⟨_, rfl⟩, hW, hsame.mono (by decide) (by decide)⟩⟩
    · exact retN X140 hx (t := .boolean) Bd.returns (by simp) (hb hby at_382) hr
    · show (some (.int 1) : Option Value) = some (.int 1) ∧ Fr n0 _
      exact ⟨rfl, N140⟩
set_option maxRecDepth 65536 in
set_option maxHeartbeats 40000000 in
theorem comes_1 {Post : Tables → Env → Array Value → State → Outcome → State → Prop} (hpost : ∀ tb e args s v u, (limb_1_1.after args s (.returned v) u = true ∧ limb_1_2.after args s (.returned v) u = true ∧ True) → FrameEnd s (.returned v) u (Jvm.fieldLocs frame_1_writes args s ++ Jvm.arrayLocs frame_1_arrays args s ++ Jvm.staticLocs frame_1_statics s) 16 128 → Post tb e args s (.returned v) u) :
    ArmFor flags0 classFile x code maxLocals ret World_1 tables_1 room_1 Calls_1 rest_1 Pre_1 Post := by
  intro l hfl _ _ p e ha hc hk s m args below hf hA hF happ hP
  obtain ⟨hcalls, hrest, hpre⟩ := hP
  obtain ⟨-, -, -, hnamed, -, -, -, hat⟩ := (Spec.applies_iff hf).mp happ
  obtain ⟨hg, hn⟩ := and_e (Cond.before_iff.mp (show (Jvm.Cond.and given_1 narrow_1).before args s = true from hpre))
  obtain ⟨g1, g2⟩ := and_e hg
  obtain ⟨g3, g4⟩ := and_e g2
  obtain ⟨g5, g6⟩ := and_e g4
  obtain ⟨g7, g8⟩ := and_e g6
  obtain ⟨g9, g10⟩ := and_e g8
  obtain ⟨w0, w1, w2, w3, w4, rfl⟩ : ∃ w0 w1 w2 w3 w4 : Value, args = #[w0, w1, w2, w3, w4] := by
    have hs : args.size = 5 := by simpa [Cond.value, given_1] using g1
    obtain ⟨L⟩ := args
    match L, hs with
    | [w0, w1, w2, w3, w4], _ => exact ⟨w0, w1, w2, w3, w4, rfl⟩
  have hw := fun d (hd : d ∈ tables_1) => atoms_spec (ws := Jvm.Cond.code x code maxLocals ret :: tables_1) hat d (List.mem_cons_of_mem _ hd)
  have hfit : Fit s := fun {y c} hc i hi => by
    obtain ⟨ha, rfl⟩ := Array.getElem?_eq_some_iff.mp hc
    have q := List.all_eq_true.mp ((Array.all_eq_true_iff_forall_mem.mp hF) _ (Array.getElem_mem ha)) i (List.mem_range.mpr hi)
    simpa [Array.getElem?_eq_getElem hi] using q
  obtain ⟨i0, ei0⟩ := isL_v g3
  obtain rfl : w0 = (.long i0) := Option.some.inj ei0
  obtain ⟨i1, ei1⟩ := isL_v g5
  obtain rfl : w1 = (.long i1) := Option.some.inj ei1
  obtain ⟨i2, ei2⟩ := is_v g7
  obtain rfl : w2 = (.int i2) := Option.some.inj ei2
  obtain ⟨i3, ei3⟩ := is_v g9
  obtain rfl : w3 = (.int i3) := Option.some.inj ei3
  obtain ⟨i4, ei4⟩ := is_v g10
  obtain rfl : w4 = (.int i4) := Option.some.inj ei4
  obtain ⟨n, o, h1, h2, h3, _, L, rfl, ⟨rfl, N⟩, hq⟩ := rm0 l s _ hw tables_1 i0 i1 i2 i3 i4  s.heap s.heap.size (Nat.le_refl _)  p e ha hc hk s m _ below hf ((Spec.applies_iff_loose hf).mp happ).1 ⟨rfl, State.Warmed39.refl s, rfl⟩ trivial
  refine ⟨n, _, h1, h2, h3, hpost _ _ _ _ _ _ ⟨Cond.after_iff.mpr rfl, Cond.after_iff.mpr (eq_i res_at (Term.int_eval (1)) rfl), trivial⟩ ⟨hq.1, hq.2.1, (hq.2.2.sift fun y hy => Or.inr (N y hy)).mono (by decide) (by decide)⟩⟩
theorem main_1_1 : Claimed_1_1 := comes_1 fun _ _ _ _ _ _ h hF => ⟨h.1, hF⟩
theorem main_1_2 : Claimed_1_2 := comes_1 fun _ _ _ _ _ _ h hF => ⟨h.2.1, hF⟩
end Jvm.Pilot.@@N@@
namespace Jvm.Pilot.@@N@@
open Jvm Jvm.ClassFile Sem Op Lib Jvm.Free Jvm.Stand Jvm.Pilot.@@N@@.Jvm.D
/-! MADE BY PROGRAM (witnessworld.py) out of the Statement's table words and the real class files: 12 classes; the members and pool entries that the words name. The judged class is class 1, her method 2. -/
namespace start1
open Jvm.ClassFile
def u (s : String) : CpInfo := .utf8 (stringToUtf16 s)
/-- a pool by its gaps: so many unusable entries, then the entry; so many at the end -/
def gap : Nat → List CpInfo → List CpInfo
  | 0, r => r
  | n + 1, r => .unusable :: gap n r
def poolList (es : List (Nat × CpInfo)) (last : Nat) : List CpInfo := es.foldr (fun e r => gap e.1 (e.2 :: r)) (gap last [])
def pool (es : List (Nat × CpInfo)) (last : Nat) : Array CpInfo := ⟨poolList es last⟩
def fileOf (pool : Array CpInfo) (this : Nat) (attrs : Array Attribute := #[]) (ms : Array MethodInfo := #[]) (fl : Nat := 33) (sup : Nat := 0) (ifs : Array Nat := #[]) (fds : Array FieldInfo := #[]) : ClassFile where
  minorVersion := 0
  majorVersion := 65
  constantPool := pool
  accessFlags := fl
  thisClass := this
  superClass := sup
  interfaces := ifs
  fields := fds
  methods := ms
  attributes := attrs
def plain (name : String) (sup : Option ClassId) : Class where
  name := name
  kind := .ordinary
  loader := none
  accessFlags := 33
  super := sup
  interfaces := #[]
  cf := none
  fields := #[]
  methods := #[]
  instanceTypes := #[]
  staticTypes := #[]
  resolved := #[]
  callSites := []
  init := .initialized
  statics := none
  mirror := none

def pool0 : Array CpInfo := pool [(5, u "<init>"), (0, u "()V"), (1, .class_ 10), (1, u "java/lang/Object")] 113

def k0m0 : Method := { name := "<init>", desc := "()V", sig := { parameters := [], returnType := none }, accessFlags := 1, code := none }
/-- java/lang/Object -/
def k0 : Class := { plain "java/lang/Object" none with
  accessFlags := 33
  interfaces := #[]
  cf := some (fileOf pool0 8 #[] #[{ accessFlags := 1, nameIndex := 5, descriptorIndex := 6, attributes := #[] }] 33 0 #[] #[])
  fields := #[]
  methods := #[k0m0]
  instanceTypes := #[]
  staticTypes := #[]
  resolved := Array.replicate 124 none
  statics := none }

def pool1 : Array CpInfo := pool [(2, .class_ 4), (1, u "java/lang/Object"), (0, u "<init>"), (0, u "()V"), (0, .integer 2147483647), (0, .methodref 9 10), (0, .class_ 11), (0, .nameAndType 12 13), (0, u "com/example/pemgate/pemgate/core/Der"), (0, u "contents"), (0, u "([B)[B"), (0, .methodref 15 16), (0, .class_ 17), (0, .nameAndType 18 19), (0, u "com/example/pemgate/pemgate/core/DerContentsPinLaw"), (0, u "same"), (0, u "([B[BIII)Z"), (3, u "law"), (0, u "(JJIII)Z")] 7

def k1m0 : Method := { name := "<init>", desc := "()V", sig := { parameters := [], returnType := none }, accessFlags := 1, code := none }
def k1c1 : Code := { maxStack := 4, maxLocals := 5, code := method_2_code, exceptionTable := #[], attributes := #[] }
def k1m1 : Method := { name := "same", desc := "([B[BIII)Z", sig := { parameters := [(.array .byte), (.array .byte), .int, .int, .int], returnType := some .boolean }, accessFlags := 10, code := some k1c1 }
def k1c2 : Code := { maxStack := 5, maxLocals := 14, code := code, exceptionTable := #[], attributes := #[] }
def k1m2 : Method := { name := "law", desc := "(JJIII)Z", sig := { parameters := [.long, .long, .int, .int, .int], returnType := some .boolean }, accessFlags := 9, code := some k1c2 }
/-- com/example/pemgate/pemgate/core/DerContentsPinLaw -/
def k1 : Class := { plain "com/example/pemgate/pemgate/core/DerContentsPinLaw" (some 0) with
  accessFlags := 49
  interfaces := #[]
  cf := some (fileOf pool1 15 #[] #[{ accessFlags := 1, nameIndex := 5, descriptorIndex := 6, attributes := #[] }, { accessFlags := 10, nameIndex := 18, descriptorIndex := 19, attributes := #[] }, { accessFlags := 9, nameIndex := 23, descriptorIndex := 24, attributes := #[] }] 49 2 #[] #[])
  fields := #[]
  methods := #[k1m0, k1m1, k1m2]
  instanceTypes := #[]
  staticTypes := #[]
  resolved := Array.replicate 32 none
  statics := none }

def pool2 : Array CpInfo := pool [(2, .class_ 4), (1, u "java/lang/Object"), (0, u "<init>"), (0, u "()V"), (27, .class_ 35), (0, u "com/example/pemgate/pemgate/core/Der"), (1, u "SEQUENCE"), (5, u "SET"), (9, u "contents"), (0, u "([B)[B"), (10, u "Ljava/math/BigInteger;"), (25, u "ARC_TWO_FROM"), (5, u "SECOND_ARC_SPAN"), (46, .methodref 34 145), (0, .nameAndType 146 147), (0, u "header"), (0, u "([BI)[I"), (1, .methodref 150 151), (0, .class_ 152), (0, .nameAndType 153 154), (0, u "java/util/Arrays"), (0, u "copyOfRange"), (0, u "([BII)[B"), (33, u "INTEGER"), (0, u "I"), (2, u "OCTET_STRING"), (1, u "OBJECT_IDENTIFIER")] 47

def k2m0 : Method := { name := "<init>", desc := "()V", sig := { parameters := [], returnType := none }, accessFlags := 2, code := none }
def k2c1 : Code := { maxStack := 5, maxLocals := 2, code := prog_16_method_7_code, exceptionTable := #[], attributes := #[] }
def k2m1 : Method := { name := "contents", desc := "([B)[B", sig := { parameters := [(.array .byte)], returnType := some (.array .byte) }, accessFlags := 8, code := some k2c1 }
def k2c2 : Code := { maxStack := 5, maxLocals := 8, code := prog_16_method_9_code, exceptionTable := #[], attributes := #[] }
def k2m2 : Method := { name := "header", desc := "([BI)[I", sig := { parameters := [(.array .byte), .int], returnType := some (.array .int) }, accessFlags := 10, code := some k2c2 }
/-- com/example/pemgate/pemgate/core/Der -/
def k2 : Class := { plain "com/example/pemgate/pemgate/core/Der" (some 0) with
  accessFlags := 32
  interfaces := #[]
  cf := some (fileOf pool2 34 #[] #[{ accessFlags := 2, nameIndex := 5, descriptorIndex := 6, attributes := #[] }, { accessFlags := 8, nameIndex := 53, descriptorIndex := 54, attributes := #[] }, { accessFlags := 10, nameIndex := 146, descriptorIndex := 147, attributes := #[] }] 32 2 #[] #[{ accessFlags := 24, nameIndex := 188, descriptorIndex := 189, attributes := #[] }, { accessFlags := 24, nameIndex := 192, descriptorIndex := 189, attributes := #[] }, { accessFlags := 24, nameIndex := 194, descriptorIndex := 189, attributes := #[] }, { accessFlags := 24, nameIndex := 37, descriptorIndex := 189, attributes := #[] }, { accessFlags := 24, nameIndex := 43, descriptorIndex := 189, attributes := #[] }, { accessFlags := 26, nameIndex := 97, descriptorIndex := 65, attributes := #[] }, { accessFlags := 26, nameIndex := 91, descriptorIndex := 65, attributes := #[] }])
  fields := #[{ name := "INTEGER", type := .int, accessFlags := 24, slot := 0, constantValue := 0 }, { name := "OCTET_STRING", type := .int, accessFlags := 24, slot := 1, constantValue := 0 }, { name := "OBJECT_IDENTIFIER", type := .int, accessFlags := 24, slot := 2, constantValue := 0 }, { name := "SEQUENCE", type := .int, accessFlags := 24, slot := 3, constantValue := 0 }, { name := "SET", type := .int, accessFlags := 24, slot := 4, constantValue := 0 }, { name := "SECOND_ARC_SPAN", type := (.object "java/math/BigInteger"), accessFlags := 26, slot := 5, constantValue := 0 }, { name := "ARC_TWO_FROM", type := (.object "java/math/BigInteger"), accessFlags := 26, slot := 6, constantValue := 0 }]
  methods := #[k2m0, k2m1, k2m2]
  instanceTypes := #[]
  staticTypes := #[.int, .int, .int, .int, .int, (.object "java/math/BigInteger"), (.object "java/math/BigInteger")]
  resolved := Array.replicate 242 none
  statics := none }

def pool3 : Array CpInfo := pool [(2, .class_ 4), (1, u "java/lang/Object"), (0, u "<init>"), (0, u "()V"), (7, .class_ 16), (1, u "java/util/Arrays"), (57, .class_ 76), (1, u "java/util/Arrays$NaturalOrder"), (36, .class_ 115), (1, u "java/util/Arrays$LegacyMergeSort"), (1, u "Z"), (21, u "copyOfRange"), (10, .methodref 151 152), (0, .class_ 153), (0, .nameAndType 154 155), (0, u "java/lang/System"), (0, u "arraycopy"), (0, u "(Ljava/lang/Object;ILjava/lang/Object;II)V"), (148, .methodref 305 306), (0, .class_ 307), (0, .nameAndType 308 309), (0, u "java/lang/Math"), (0, u "min"), (0, u "(II)I"), (29, .methodref 14 340), (0, .nameAndType 341 342), (0, u "copyOfRangeByte"), (0, u "([BII)[B"), (0, .methodref 14 344), (0, .nameAndType 345 346), (0, u "checkLength"), (0, u "(II)V"), (28, .class_ 376), (0, u "java/util/Arrays$ArrayList"), (68, u "$assertionsDisabled"), (269, u "MIN_ARRAY_SORT_GRAN"), (0, u "I"), (2, u "INSERTIONSORT_THRESHOLD"), (255, .class_ 976), (0, u "java/util/Arrays$ArrayItr")] 52

def k3m0 : Method := { name := "<init>", desc := "()V", sig := { parameters := [], returnType := none }, accessFlags := 2, code := none }
def k3c1 : Code := { maxStack := 4, maxLocals := 2, code := jdk_65_method_131_code, exceptionTable := #[], attributes := #[] }
def k3m1 : Method := { name := "checkLength", desc := "(II)V", sig := { parameters := [.int, .int], returnType := none }, accessFlags := 10, code := some k3c1 }
def k3c2 : Code := { maxStack := 3, maxLocals := 3, code := jdk_65_method_132_code, exceptionTable := #[], attributes := #[] }
def k3m2 : Method := { name := "copyOfRange", desc := "([BII)[B", sig := { parameters := [(.array .byte), .int, .int], returnType := some (.array .byte) }, accessFlags := 9, code := some k3c2 }
def k3c3 : Code := { maxStack := 6, maxLocals := 5, code := jdk_65_method_133_code, exceptionTable := #[], attributes := #[] }
def k3m3 : Method := { name := "copyOfRangeByte", desc := "([BII)[B", sig := { parameters := [(.array .byte), .int, .int], returnType := some (.array .byte) }, accessFlags := 10, code := some k3c3 }
/-- java/util/Arrays -/
def k3 : Class := { plain "java/util/Arrays" (some 0) with
  accessFlags := 49
  interfaces := #[]
  cf := some (fileOf pool3 14 #[.nestMembers #[975, 375, 113, 74]] #[{ accessFlags := 2, nameIndex := 5, descriptorIndex := 6, attributes := #[] }, { accessFlags := 10, nameIndex := 345, descriptorIndex := 346, attributes := #[] }, { accessFlags := 9, nameIndex := 139, descriptorIndex := 342, attributes := #[] }, { accessFlags := 10, nameIndex := 341, descriptorIndex := 342, attributes := #[] }] 49 2 #[] #[{ accessFlags := 26, nameIndex := 715, descriptorIndex := 716, attributes := #[] }, { accessFlags := 26, nameIndex := 719, descriptorIndex := 716, attributes := #[] }, { accessFlags := 4120, nameIndex := 445, descriptorIndex := 117, attributes := #[] }])
  fields := #[{ name := "MIN_ARRAY_SORT_GRAN", type := .int, accessFlags := 26, slot := 0, constantValue := 0 }, { name := "INSERTIONSORT_THRESHOLD", type := .int, accessFlags := 26, slot := 1, constantValue := 0 }, { name := "$assertionsDisabled", type := .boolean, accessFlags := 4120, slot := 2, constantValue := 0 }]
  methods := #[k3m0, k3m1, k3m2, k3m3]
  instanceTypes := #[]
  staticTypes := #[.int, .int, .boolean]
  resolved := Array.replicate 1029 none
  statics := none }

def pool4 : Array CpInfo := pool [(1, .class_ 2), (0, u "java/lang/Math"), (1, .class_ 6), (1, u "java/lang/Object"), (0, u "<init>"), (0, u "()V"), (89, .class_ 100), (1, u "java/lang/Math$RandomNumberGeneratorHolder"), (71, u "negativeZeroFloatBits"), (0, u "J"), (2, u "negativeZeroDoubleBits"), (24, u "min"), (43, u "$assertionsDisabled"), (0, u "Z"), (88, u "(II)I"), (2, u "twoToTheDoubleScaleDown"), (0, u "D"), (4, u "twoToTheDoubleScaleUp"), (9, u "E"), (3, u "PI"), (2, u "TAU"), (2, u "DEGREES_TO_RADIANS"), (0, u "RADIANS_TO_DEGREES")] 94

def k4m0 : Method := { name := "<init>", desc := "()V", sig := { parameters := [], returnType := none }, accessFlags := 2, code := none }
def k4c1 : Code := { maxStack := 2, maxLocals := 2, code := jdk_29_method_69_code, exceptionTable := #[], attributes := #[] }
def k4m1 : Method := { name := "min", desc := "(II)I", sig := { parameters := [.int, .int], returnType := some .int }, accessFlags := 9, code := some k4c1 }
/-- java/lang/Math -/
def k4 : Class := { plain "java/lang/Math" (some 0) with
  accessFlags := 49
  interfaces := #[]
  cf := some (fileOf pool4 1 #[.nestMembers #[98]] #[{ accessFlags := 2, nameIndex := 7, descriptorIndex := 8, attributes := #[] }, { accessFlags := 9, nameIndex := 201, descriptorIndex := 335, attributes := #[] }] 49 4 #[] #[{ accessFlags := 25, nameIndex := 354, descriptorIndex := 339, attributes := #[] }, { accessFlags := 25, nameIndex := 358, descriptorIndex := 339, attributes := #[] }, { accessFlags := 25, nameIndex := 361, descriptorIndex := 339, attributes := #[] }, { accessFlags := 26, nameIndex := 364, descriptorIndex := 339, attributes := #[] }, { accessFlags := 26, nameIndex := 365, descriptorIndex := 339, attributes := #[] }, { accessFlags := 26, nameIndex := 172, descriptorIndex := 173, attributes := #[] }, { accessFlags := 26, nameIndex := 176, descriptorIndex := 173, attributes := #[] }, { accessFlags := 8, nameIndex := 344, descriptorIndex := 339, attributes := #[] }, { accessFlags := 8, nameIndex := 338, descriptorIndex := 339, attributes := #[] }, { accessFlags := 4120, nameIndex := 245, descriptorIndex := 246, attributes := #[] }])
  fields := #[{ name := "E", type := .double, accessFlags := 25, slot := 0, constantValue := 0 }, { name := "PI", type := .double, accessFlags := 25, slot := 1, constantValue := 0 }, { name := "TAU", type := .double, accessFlags := 25, slot := 2, constantValue := 0 }, { name := "DEGREES_TO_RADIANS", type := .double, accessFlags := 26, slot := 3, constantValue := 0 }, { name := "RADIANS_TO_DEGREES", type := .double, accessFlags := 26, slot := 4, constantValue := 0 }, { name := "negativeZeroFloatBits", type := .long, accessFlags := 26, slot := 5, constantValue := 0 }, { name := "negativeZeroDoubleBits", type := .long, accessFlags := 26, slot := 6, constantValue := 0 }, { name := "twoToTheDoubleScaleUp", type := .double, accessFlags := 8, slot := 7, constantValue := 0 }, { name := "twoToTheDoubleScaleDown", type := .double, accessFlags := 8, slot := 8, constantValue := 0 }, { name := "$assertionsDisabled", type := .boolean, accessFlags := 4120, slot := 9, constantValue := 0 }]
  methods := #[k4m0, k4m1]
  instanceTypes := #[]
  staticTypes := #[.double, .double, .double, .double, .double, .long, .long, .double, .double, .boolean]
  resolved := Array.replicate 460 none
  statics := none }

def pool5 : Array CpInfo := pool [(2, .class_ 4), (1, u "java/lang/Object"), (0, u "<init>"), (0, u "()V"), (1, .class_ 10), (1, u "java/lang/System"), (0, u "allowSecurityManager"), (0, u "I"), (16, u "cons"), (0, u "Ljava/io/Console;"), (77, .class_ 110), (1, u "java/lang/System$CallersHolder"), (43, u "initialErrStream"), (0, u "Ljava/io/PrintStream;"), (19, u "security"), (0, u "Ljava/lang/SecurityManager;"), (31, .class_ 209), (0, u "java/lang/System$1"), (7, u "props"), (0, u "Ljava/util/Properties;"), (2, u "lineSeparator"), (0, u "Ljava/lang/String;"), (96, .class_ 321), (1, u "java/lang/System$LoggerFinder"), (5, .class_ 328), (0, u "java/lang/System$Logger"), (67, u "err"), (2, u "out"), (91, u "notSupportedJnuEncoding"), (15, u "in"), (17, u "initialIn"), (0, u "Ljava/io/InputStream;"), (35, u "bootLayer"), (0, u "Ljava/lang/ModuleLayer;"), (99, .class_ 664), (0, u "java/lang/System$2"), (9, u "NEVER"), (2, u "MAYBE"), (49, u "arraycopy"), (0, u "(Ljava/lang/Object;ILjava/lang/Object;II)V"), (72, .class_ 802), (0, u "java/lang/System$Logger$Level")] 31

def k5m0 : Method := { name := "<init>", desc := "()V", sig := { parameters := [], returnType := none }, accessFlags := 2, code := none }
def k5m1 : Method := { name := "arraycopy", desc := "(Ljava/lang/Object;ILjava/lang/Object;II)V", sig := { parameters := [(.object "java/lang/Object"), .int, (.object "java/lang/Object"), .int, .int], returnType := none }, accessFlags := 265, code := none }
/-- java/lang/System -/
def k5 : Class := { plain "java/lang/System" (some 0) with
  accessFlags := 49
  interfaces := #[]
  cf := some (fileOf pool5 8 #[.nestMembers #[319, 327, 801, 108, 663, 208]] #[{ accessFlags := 2, nameIndex := 5, descriptorIndex := 6, attributes := #[] }, { accessFlags := 265, nameIndex := 727, descriptorIndex := 728, attributes := #[] }] 49 2 #[] #[{ accessFlags := 25, nameIndex := 507, descriptorIndex := 526, attributes := #[] }, { accessFlags := 25, nameIndex := 399, descriptorIndex := 155, attributes := #[] }, { accessFlags := 25, nameIndex := 396, descriptorIndex := 155, attributes := #[] }, { accessFlags := 10, nameIndex := 525, descriptorIndex := 526, attributes := #[] }, { accessFlags := 26, nameIndex := 674, descriptorIndex := 12, attributes := #[] }, { accessFlags := 26, nameIndex := 677, descriptorIndex := 12, attributes := #[] }, { accessFlags := 10, nameIndex := 11, descriptorIndex := 12, attributes := #[] }, { accessFlags := 74, nameIndex := 175, descriptorIndex := 176, attributes := #[] }, { accessFlags := 10, nameIndex := 491, descriptorIndex := 222, attributes := #[] }, { accessFlags := 74, nameIndex := 29, descriptorIndex := 30, attributes := #[] }, { accessFlags := 74, nameIndex := 154, descriptorIndex := 155, attributes := #[] }, { accessFlags := 10, nameIndex := 217, descriptorIndex := 218, attributes := #[] }, { accessFlags := 10, nameIndex := 221, descriptorIndex := 222, attributes := #[] }, { accessFlags := 8, nameIndex := 562, descriptorIndex := 563, attributes := #[] }])
  fields := #[{ name := "in", type := (.object "java/io/InputStream"), accessFlags := 25, slot := 0, constantValue := 0 }, { name := "out", type := (.object "java/io/PrintStream"), accessFlags := 25, slot := 1, constantValue := 0 }, { name := "err", type := (.object "java/io/PrintStream"), accessFlags := 25, slot := 2, constantValue := 0 }, { name := "initialIn", type := (.object "java/io/InputStream"), accessFlags := 10, slot := 3, constantValue := 0 }, { name := "NEVER", type := .int, accessFlags := 26, slot := 4, constantValue := 0 }, { name := "MAYBE", type := .int, accessFlags := 26, slot := 5, constantValue := 0 }, { name := "allowSecurityManager", type := .int, accessFlags := 10, slot := 6, constantValue := 0 }, { name := "security", type := (.object "java/lang/SecurityManager"), accessFlags := 74, slot := 7, constantValue := 0 }, { name := "notSupportedJnuEncoding", type := (.object "java/lang/String"), accessFlags := 10, slot := 8, constantValue := 0 }, { name := "cons", type := (.object "java/io/Console"), accessFlags := 74, slot := 9, constantValue := 0 }, { name := "initialErrStream", type := (.object "java/io/PrintStream"), accessFlags := 74, slot := 10, constantValue := 0 }, { name := "props", type := (.object "java/util/Properties"), accessFlags := 10, slot := 11, constantValue := 0 }, { name := "lineSeparator", type := (.object "java/lang/String"), accessFlags := 10, slot := 12, constantValue := 0 }, { name := "bootLayer", type := (.object "java/lang/ModuleLayer"), accessFlags := 8, slot := 13, constantValue := 0 }]
  methods := #[k5m0, k5m1]
  instanceTypes := #[]
  staticTypes := #[(.object "java/io/InputStream"), (.object "java/io/PrintStream"), (.object "java/io/PrintStream"), (.object "java/io/InputStream"), .int, .int, .int, (.object "java/lang/SecurityManager"), (.object "java/lang/String"), (.object "java/io/Console"), (.object "java/io/PrintStream"), (.object "java/util/Properties"), (.object "java/lang/String"), (.object "java/lang/ModuleLayer")]
  resolved := Array.replicate 834 none
  statics := none }

def pool6 : Array CpInfo := pool [(1, u "java/lang/Cloneable"), (0, .class_ 1), (0, u "java/lang/Object"), (0, .class_ 3)] 3

/-- java/lang/Cloneable -/
def k6 : Class := { plain "java/lang/Cloneable" (some 0) with
  accessFlags := 1537
  interfaces := #[]
  cf := some (fileOf pool6 2 #[] #[] 1537 4 #[] #[])
  fields := #[]
  methods := #[]
  instanceTypes := #[]
  staticTypes := #[]
  resolved := Array.replicate 8 none
  statics := none }

def pool7 : Array CpInfo := pool [(1, u "java/io/Serializable"), (0, .class_ 1), (0, u "java/lang/Object"), (0, .class_ 3)] 3

/-- java/io/Serializable -/
def k7 : Class := { plain "java/io/Serializable" (some 0) with
  accessFlags := 1537
  interfaces := #[]
  cf := some (fileOf pool7 2 #[] #[] 1537 4 #[] #[])
  fields := #[]
  methods := #[]
  instanceTypes := #[]
  staticTypes := #[]
  resolved := Array.replicate 8 none
  statics := none }

/-- the primitive byte -/
def k8 : Class := { plain "byte" none with kind := .primitive 'B', accessFlags := 0x411 }
/-- [B -/
def k9 : Class := { plain "[B" (some 0) with kind := .array 8 .byte, interfaces := #[6, 7], accessFlags := 1041 }

/-- the primitive int -/
def k10 : Class := { plain "int" none with kind := .primitive 'I', accessFlags := 0x411 }
/-- [I -/
def k11 : Class := { plain "[I" (some 0) with kind := .array 10 .int, interfaces := #[6, 7], accessFlags := 1041 }

def heap : Heap := #[]
def classes : Array Class := #[k0, k1, k2, k3, k4, k5, k6, k7, k8, k9, k10, k11]
def interned : List (Array UInt16 × Addr) := []
def slotsUsed : Nat := 0
def theMethod : MethodId := ⟨1, 2⟩
def args0 : Array Value := #[.long 5, .long 3, .int 2, .int 1, .int 4]
def aboutOver (below : List Frame) : State where
  vm := { classes := classes, interned := interned.toArray }
  heap := heap
  slotsUsed := slotsUsed
  threads := #[{ frames := .invoking theMethod args0 :: below }]
def below0 : List Frame := [.native { method := ⟨0, 0⟩, args := #[] }]
def about1 : State := aboutOver below0
def p0 : Program := .bare "" "" ""
def e0 : Env := launch0.env 0 0 0
theorem w_frames : about1.frames = Frame.invoking theMethod args0 :: below0 := rfl
set_option maxRecDepth 65536 in
theorem w_args : argsFit about1.vm theMethod args0 = true := by decide +kernel
set_option maxRecDepth 65536 in
theorem w_heap : heapFits about1 = true := by decide +kernel
set_option maxRecDepth 65536 in
theorem w_runnable : about1.curStatus? = some .runnable := by decide +kernel
set_option maxRecDepth 65536 in
theorem w_alone : about1.alone = true := by decide +kernel
set_option maxRecDepth 65536 in
theorem w_named : about1.methodNamed? x = some theMethod := by decide +kernel
set_option maxRecDepth 65536 in
theorem w_hears : about1.hears theMethod below0 = true := by decide +kernel
set_option maxRecDepth 65536 in
theorem w_ripe : about1.ripe theMethod args0 below0 = true := by decide +kernel
theorem w_running : about1.status = .running := rfl
set_option maxRecDepth 65536 in
theorem w_room : about1.hasRoom e0.platform room_1 = true :=
  launch0.hasRoom_least _ room_1 (by decide +kernel) (by decide +kernel) (by decide +kernel) (by decide +kernel) (by decide +kernel) (by decide +kernel)
theorem allAtoms_all (ts : List Jvm.Cond) (a : Array Jvm.Value) (st : Jvm.State) : (allAtoms ts).before a st = ts.all (fun c => c.before a st) := by
  induction ts with
  | nil => rfl
  | cons c t ih =>
    show (Jvm.Cond.and c (allAtoms t)).before a st = _
    rw [Jvm.Cond.before_and, ih, List.all_cons]
def words1 : List Jvm.Cond := Jvm.Cond.code x code maxLocals ret :: tables_1
/-- a 'code' word, met by the world's own term for the bytes: nothing is compared byte by byte -/
theorem code_word {y : MethodName} {bytes : ByteArray} {mx : Nat} {rt : Option FieldType} {a : Array Value} {s : State} {m : MethodId} {meth : Method} {c : Code} (h1 : s.methodNamed? y = some m) (h2 : s.vm.method? m = some meth) (h3 : meth.code = some c) (h4 : c.code = bytes)
    (h5 : (c.maxLocals == mx && c.exceptionTable.isEmpty && decide (c.maxStack ≤ mostOperands) && decide (meth.sig.returnType = rt) && !meth.locks && decide (parseMethodDescriptor y.desc = some meth.sig)) = true) : (Jvm.Cond.code y bytes mx rt).before a s = true := by
  simp only [Bool.and_eq_true, beq_iff_eq, Bool.not_eq_true', decide_eq_true_eq] at h5
  obtain ⟨⟨⟨⟨⟨g1, g2⟩, g3⟩, g4⟩, g5⟩, g6⟩ := h5
  simp [Cond.before, Cond.holds, Cond.value, h1, h2, h3, h4, g1, g2, g3, g4, g5, g6]
def isCode : Jvm.Cond → Bool
  | .code _ _ _ _ => true
  | _ => false
theorem all_split {L : List Jvm.Cond} {P : Jvm.Cond → Bool} (h1 : L.all (fun c => isCode c || P c) = true) (h2 : ∀ c ∈ L.filter isCode, P c = true) : L.all P = true := by
  refine List.all_eq_true.mpr fun c hc => ?_
  have h := List.all_eq_true.mp h1 c hc
  rcases Bool.eq_false_or_eq_true (isCode c) with hi | hi
  · exact h2 c (List.mem_filter.mpr ⟨hc, hi⟩)
  · simpa [hi] using h
set_option maxRecDepth 65536 in
theorem w_c0 : (Jvm.Cond.code x code maxLocals ret).before args0 about1 = true := code_word (m := ⟨1, 2⟩) (meth := k1m2) (c := k1c2) (by decide +kernel) rfl rfl rfl (by decide +kernel)
set_option maxRecDepth 65536 in
theorem w_c1 : (Jvm.Cond.code ({ cls := "com/example/pemgate/pemgate/core/Der", name := "contents", desc := "([B)[B" } : Jvm.MethodName) prog_16_method_7_code (2 : Nat) (Option.some (Jvm.ClassFile.FieldType.array Jvm.ClassFile.FieldType.byte))).before args0 about1 = true := code_word (m := ⟨2, 1⟩) (meth := k2m1) (c := k2c1) (by decide +kernel) rfl rfl rfl (by decide +kernel)
set_option maxRecDepth 65536 in
theorem w_c2 : (Jvm.Cond.code ({ cls := "com/example/pemgate/pemgate/core/Der", name := "header", desc := "([BI)[I" } : Jvm.MethodName) prog_16_method_9_code (8 : Nat) (Option.some (Jvm.ClassFile.FieldType.array Jvm.ClassFile.FieldType.int))).before args0 about1 = true := code_word (m := ⟨2, 2⟩) (meth := k2m2) (c := k2c2) (by decide +kernel) rfl rfl rfl (by decide +kernel)
set_option maxRecDepth 65536 in
theorem w_c3 : (Jvm.Cond.code ({ cls := "java/util/Arrays", name := "copyOfRange", desc := "([BII)[B" } : Jvm.MethodName) jdk_65_method_132_code (3 : Nat) (Option.some (Jvm.ClassFile.FieldType.array Jvm.ClassFile.FieldType.byte))).before args0 about1 = true := code_word (m := ⟨3, 2⟩) (meth := k3m2) (c := k3c2) (by decide +kernel) rfl rfl rfl (by decide +kernel)
set_option maxRecDepth 65536 in
theorem w_c4 : (Jvm.Cond.code ({ cls := "java/util/Arrays", name := "copyOfRangeByte", desc := "([BII)[B" } : Jvm.MethodName) jdk_65_method_133_code (5 : Nat) (Option.some (Jvm.ClassFile.FieldType.array Jvm.ClassFile.FieldType.byte))).before args0 about1 = true := code_word (m := ⟨3, 3⟩) (meth := k3m3) (c := k3c3) (by decide +kernel) rfl rfl rfl (by decide +kernel)
set_option maxRecDepth 65536 in
theorem w_c5 : (Jvm.Cond.code ({ cls := "java/util/Arrays", name := "checkLength", desc := "(II)V" } : Jvm.MethodName) jdk_65_method_131_code (2 : Nat) (Option.none : Option Jvm.ClassFile.FieldType)).before args0 about1 = true := code_word (m := ⟨3, 1⟩) (meth := k3m1) (c := k3c1) (by decide +kernel) rfl rfl rfl (by decide +kernel)
set_option maxRecDepth 65536 in
theorem w_c6 : (Jvm.Cond.code ({ cls := "java/lang/Math", name := "min", desc := "(II)I" } : Jvm.MethodName) jdk_29_method_69_code (2 : Nat) (Option.some Jvm.ClassFile.FieldType.int)).before args0 about1 = true := code_word (m := ⟨4, 1⟩) (meth := k4m1) (c := k4c1) (by decide +kernel) rfl rfl rfl (by decide +kernel)
set_option maxRecDepth 65536 in
theorem w_c7 : (Jvm.Cond.code ({ cls := "com/example/pemgate/pemgate/core/DerContentsPinLaw", name := "same", desc := "([B[BIII)Z" } : Jvm.MethodName) method_2_code (5 : Nat) (Option.some Jvm.ClassFile.FieldType.boolean)).before args0 about1 = true := code_word (m := ⟨1, 1⟩) (meth := k1m1) (c := k1c1) (by decide +kernel) rfl rfl rfl (by decide +kernel)
def codes1 : List Jvm.Cond := [Jvm.Cond.code x code maxLocals ret, Jvm.Cond.code ({ cls := "com/example/pemgate/pemgate/core/Der", name := "contents", desc := "([B)[B" } : Jvm.MethodName) prog_16_method_7_code (2 : Nat) (Option.some (Jvm.ClassFile.FieldType.array Jvm.ClassFile.FieldType.byte)), Jvm.Cond.code ({ cls := "com/example/pemgate/pemgate/core/Der", name := "header", desc := "([BI)[I" } : Jvm.MethodName) prog_16_method_9_code (8 : Nat) (Option.some (Jvm.ClassFile.FieldType.array Jvm.ClassFile.FieldType.int)), Jvm.Cond.code ({ cls := "java/util/Arrays", name := "copyOfRange", desc := "([BII)[B" } : Jvm.MethodName) jdk_65_method_132_code (3 : Nat) (Option.some (Jvm.ClassFile.FieldType.array Jvm.ClassFile.FieldType.byte)), Jvm.Cond.code ({ cls := "java/util/Arrays", name := "copyOfRangeByte", desc := "([BII)[B" } : Jvm.MethodName) jdk_65_method_133_code (5 : Nat) (Option.some (Jvm.ClassFile.FieldType.array Jvm.ClassFile.FieldType.byte)), Jvm.Cond.code ({ cls := "java/util/Arrays", name := "checkLength", desc := "(II)V" } : Jvm.MethodName) jdk_65_method_131_code (2 : Nat) (Option.none : Option Jvm.ClassFile.FieldType), Jvm.Cond.code ({ cls := "java/lang/Math", name := "min", desc := "(II)I" } : Jvm.MethodName) jdk_29_method_69_code (2 : Nat) (Option.some Jvm.ClassFile.FieldType.int), Jvm.Cond.code ({ cls := "com/example/pemgate/pemgate/core/DerContentsPinLaw", name := "same", desc := "([B[BIII)Z" } : Jvm.MethodName) method_2_code (5 : Nat) (Option.some Jvm.ClassFile.FieldType.boolean)]
set_option maxRecDepth 65536 in
theorem codes_eq : words1.filter isCode = codes1 := rfl
theorem w_codes : ∀ c ∈ words1.filter isCode, c.before args0 about1 = true := by
  rw [codes_eq]
  intro c hc
  simp only [codes1, List.mem_cons, List.not_mem_nil, or_false] at hc
  rcases hc with rfl | rfl | rfl | rfl | rfl | rfl | rfl | rfl
  · exact w_c0
  · exact w_c1
  · exact w_c2
  · exact w_c3
  · exact w_c4
  · exact w_c5
  · exact w_c6
  · exact w_c7
set_option maxRecDepth 65536 in
theorem w_t1 : (words1.take 24).all (fun c => isCode c || c.before args0 about1) = true := by decide +kernel
set_option maxRecDepth 65536 in
theorem w_t2 : (words1.drop 24).all (fun c => isCode c || c.before args0 about1) = true := by decide +kernel
theorem w_tables : (allAtoms (Jvm.Cond.code x code maxLocals ret :: tables_1)).before args0 about1 = true := by
  rw [allAtoms_all]
  show words1.all (fun c => c.before args0 about1) = true
  refine all_split ?_ w_codes
  rw [← List.take_append_drop 24 words1, List.all_append, w_t1, w_t2]
  rfl
set_option maxRecDepth 65536 in
theorem w_case : (Jvm.Cond.and given_1 narrow_1).before args0 about1 = true := by decide +kernel
theorem w_applies : (headSpec (Jvm.Cond.code x code maxLocals ret :: tables_1) room_1).applies x e0.platform about1 = true :=
  (Spec.applies_iff w_frames).mpr ⟨w_running, w_runnable, w_alone, w_named, w_hears, w_ripe, w_room, w_tables⟩
theorem atStart : AtStart classFile x code maxLocals ret World_1 tables_1 room_1 Calls_1 rest_1 Pre_1 launch0 p0 e0 about1 theMethod args0 below0 :=
  ⟨lists_1, trivial, launch0.admits_env _ _ _, launch0.least_env, fairChoices_fair.cas, fairChoices_fair.clock, w_frames, w_args, w_heap, w_applies, trivial, trivial, w_case⟩
end start1
theorem witness_1 : WitnessClaimed_1 := ⟨start1.p0, start1.e0, start1.about1, start1.theMethod, start1.args0, start1.below0, start1.atStart⟩
end Jvm.Pilot.@@N@@
