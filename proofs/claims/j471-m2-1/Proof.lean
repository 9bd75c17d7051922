import JvmDerived
import JvmDerived.Pilot.@@N@@Statement
import JvmDerived.Pilot.@@N@@Code
set_option linter.unusedVariables false
set_option linter.unusedSimpArgs false
namespace Jvm.RoadKit
open Sem ClassFile Op Lib Jvm.Stand Jvm.Free Jvm.LawKit
section New
variable {p : Program} {l : Launch} {e : Env} {R : Room} {s : State} {m : MethodId} {args : Array Value} {below : List Frame} {meth : Method} {c : Code} {T : State} {locs : List Loc} {cells slots : Nat}
theorem retI (X : Stand p l e R s m args below meth c T locs cells slots) (hx : p.tables.exec = Jvm.exec) {pc : Nat} {Ls : Array Slot} {z : Int32} {rest : List Value} (hret : meth.sig.returnType = some .int) (hd : decode c.code pc = .ok (.ireturn, 1)) {fs : List Frame}
  (hl : ∀ (f : JFrame) (acts : List Action), f.method = m → f.locked = none → f.entered = [] → (doReturn e (T.setTop f) acts (some (.int z))).1 = T.setFrames fs) : Steps p.tables e below (T.setTop (mkF m pc Ls (.int z :: rest))) (T.setFrames fs) := by
 have hm' : T.vm.method? m = some meth := X.method'
 have hn : narrow .int (.int z) = .int z := rfl
 show Steps p.tables e below (T.setTop { method := m, pc := pc, locals := Ls, stack := _ :: rest, locked := none }) _
 jvm_step X.here [X.here.top, hx, hd, hm', hret, hn]
 first | (intro acts; rw [hl _ acts rfl rfl rfl]) | rw [hl _ _ rfl rfl rfl]
 exact Steps.refl _
theorem own_nb {t : FieldType} {c : Prop} [Decidable c] {a b : Int32} (ha : nar t a = a) (hb : nar t b = b) : nar t (if c then a else b) = (if c then a else b) := by
 by_cases h : c
 ·rw [if_pos h]; exact ha
 ·rw [if_neg h]; exact hb
theorem own_retN (X : Stand p l e R s m args below meth c T locs cells slots) (hx : p.tables.exec = Jvm.exec) {pc : Nat} {Ls : Array Slot} {z : Int32} {t : FieldType} {rest : List Value} (hret : meth.sig.returnType = some t) (ht : t = .boolean ∨ t = .byte ∨ t = .char ∨ t = .short) (hz : nar t z = z)
  (hd : decode c.code pc = .ok (.ireturn, 1)) {fs : List Frame} (hl : ∀ (f : JFrame) (acts : List Action), f.method = m → f.locked = none → f.entered = [] → (doReturn e (T.setTop f) acts (some (.int z))).1 = T.setFrames fs) :
  Steps p.tables e below (T.setTop (mkF m pc Ls (.int z :: rest))) (T.setFrames fs) := retN X hx hret ht hd (by rw [hz]; exact hl)
end New
end Jvm.RoadKit
namespace Jvm.Pilot.@@N@@
open Jvm Jvm.ClassFile Sem Op Lib Jvm.Free Jvm.Stand Jvm.LawKit Jvm.RoadKit Bundle Jvm.Pilot.@@N@@.Jvm.D
set_option maxRecDepth 65536
set_option maxHeartbeats 40000000
abbrev zy0 : MethodName := ⟨"java/lang/String", "coder", "()B"⟩
abbrev zy1 : MethodName := ⟨"java/lang/String", "length", "()I"⟩
abbrev zy2 : MethodName := ⟨"java/lang/String", "isLatin1", "()Z"⟩
abbrev zy3 : MethodName := ⟨"jdk/internal/util/Preconditions", "checkIndex", "(IILjava/util/function/BiFunction;)I"⟩
abbrev zy4 : MethodName := ⟨"java/lang/String", "checkIndex", "(II)V"⟩
abbrev zy5 : MethodName := ⟨"java/lang/StringLatin1", "charAt", "([BI)C"⟩
abbrev zy6 : MethodName := ⟨"java/lang/String", "charAt", "(I)C"⟩
abbrev zy7 : MethodName := ⟨"java/lang/Math", "max", "(II)I"⟩
abbrev zy8 : MethodName := ⟨"java/lang/Math", "min", "(II)I"⟩
abbrev zy9 : MethodName := ⟨"java/lang/StringLatin1", "canEncode", "(I)Z"⟩
abbrev zy10 : MethodName := ⟨"com/example/corduroy/corduroy/TopicsHasWildcardPinLaw", "pick", "(I)C"⟩
abbrev zy11 : MethodName := ⟨"com/example/corduroy/corduroy/TopicsHasWildcardPinLaw", "wild", "(IICCC)Z"⟩
abbrev zy12 : MethodName := ⟨"java/lang/String", "<init>", "([BB)V"⟩
abbrev zy13 : MethodName := ⟨"java/lang/StringUTF16", "compress", "([CI[BII)I"⟩
abbrev zy14 : MethodName := ⟨"java/lang/StringUTF16", "compress", "([CII)[B"⟩
abbrev zy15 : MethodName := ⟨"java/lang/StringUTF16", "coderFromArrayLen", "([BI)B"⟩
abbrev zy16 : MethodName := ⟨"java/lang/String", "<init>", "([CIILjava/lang/Void;)V"⟩
abbrev zy17 : MethodName := ⟨"java/lang/String", "<init>", "([C)V"⟩
abbrev zy18 : MethodName := ⟨"com/example/corduroy/corduroy/TopicsHasWildcardPinLaw", "make", "(ICCCC)Ljava/lang/String;"⟩
abbrev zy19 : MethodName := ⟨"java/lang/String", "isEmpty", "()Z"⟩
abbrev zy20 : MethodName := ⟨"java/lang/StringLatin1", "indexOfChar", "([BIII)I"⟩
abbrev zy21 : MethodName := ⟨"java/lang/StringLatin1", "indexOf", "([BIII)I"⟩
abbrev zy22 : MethodName := ⟨"java/lang/String", "indexOf", "(II)I"⟩
abbrev zy23 : MethodName := ⟨"java/lang/String", "indexOf", "(I)I"⟩
abbrev zy24 : MethodName := ⟨"jdk/internal/util/Preconditions", "checkFromToIndex", "(IIILjava/util/function/BiFunction;)I"⟩
abbrev zy25 : MethodName := ⟨"java/lang/String", "checkBoundsBeginEnd", "(III)V"⟩
abbrev zy26 : MethodName := ⟨"java/util/Arrays", "checkLength", "(II)V"⟩
abbrev zy27 : MethodName := ⟨"java/util/Arrays", "copyOfRangeByte", "([BII)[B"⟩
abbrev zy28 : MethodName := ⟨"java/util/Arrays", "copyOfRange", "([BII)[B"⟩
abbrev zy29 : MethodName := ⟨"java/lang/StringLatin1", "newString", "([BII)Ljava/lang/String;"⟩
abbrev zy30 : MethodName := ⟨"java/lang/String", "substring", "(II)Ljava/lang/String;"⟩
abbrev zy31 : MethodName := ⟨"java/util/AbstractCollection", "<init>", "()V"⟩
abbrev zy32 : MethodName := ⟨"java/util/AbstractList", "<init>", "()V"⟩
abbrev zy33 : MethodName := ⟨"java/util/ArrayList", "<init>", "()V"⟩
abbrev zy34 : MethodName := ⟨"java/util/ArrayList", "grow", "(I)[Ljava/lang/Object;"⟩
abbrev zy35 : MethodName := ⟨"java/util/ArrayList", "grow", "()[Ljava/lang/Object;"⟩
abbrev zy36 : MethodName := ⟨"java/util/ArrayList", "add", "(Ljava/lang/Object;[Ljava/lang/Object;I)V"⟩
abbrev zy37 : MethodName := ⟨"java/util/ArrayList", "add", "(Ljava/lang/Object;)Z"⟩
abbrev zy38 : MethodName := ⟨"java/util/ArrayList", "size", "()I"⟩
abbrev zy39 : MethodName := ⟨"java/util/AbstractList", "subListRangeCheck", "(III)V"⟩
abbrev zy40 : MethodName := ⟨"java/util/ArrayList$SubList", "<init>", "(Ljava/util/ArrayList;II)V"⟩
abbrev zy41 : MethodName := ⟨"java/util/ArrayList", "subList", "(II)Ljava/util/List;"⟩
abbrev zy42 : MethodName := ⟨"java/util/ArrayList$SubList", "checkForComodification", "()V"⟩
abbrev zy43 : MethodName := ⟨"java/util/ArrayList$SubList", "toArray", "([Ljava/lang/Object;)[Ljava/lang/Object;"⟩
abbrev zy44 : MethodName := ⟨"java/lang/String", "split", "(CIZ)[Ljava/lang/String;"⟩
abbrev zy45 : MethodName := ⟨"java/lang/String", "split", "(Ljava/lang/String;IZ)[Ljava/lang/String;"⟩
abbrev zy46 : MethodName := ⟨"java/lang/String", "split", "(Ljava/lang/String;I)[Ljava/lang/String;"⟩
abbrev zy47 : MethodName := ⟨"com/example/corduroy/corduroy/Topics", "levels", "(Ljava/lang/String;)[Ljava/lang/String;"⟩
abbrev zy48 : MethodName := ⟨"java/lang/StringLatin1", "equals", "([B[B)Z"⟩
abbrev zy49 : MethodName := ⟨"java/lang/String", "equals", "(Ljava/lang/Object;)Z"⟩
abbrev zy50 : MethodName := ⟨"com/example/corduroy/corduroy/Topics", "isValidFilter", "(Ljava/lang/String;)Z"⟩
abbrev zy51 : MethodName := ⟨"java/lang/StringLatin1", "indexOf", "([BI[BII)I"⟩
abbrev zy52 : MethodName := ⟨"java/lang/StringLatin1", "indexOf", "([B[B)I"⟩
abbrev zy53 : MethodName := ⟨"java/lang/String", "indexOf", "(Ljava/lang/String;)I"⟩
abbrev zy54 : MethodName := ⟨"java/lang/String", "toString", "()Ljava/lang/String;"⟩
abbrev zy55 : MethodName := ⟨"java/lang/String", "contains", "(Ljava/lang/CharSequence;)Z"⟩
abbrev zy56 : MethodName := ⟨"com/example/corduroy/corduroy/Topics", "hasWildcard", "(Ljava/lang/String;)Z"⟩
abbrev zb0 : ByteArray := jdk_42_method_152_code
abbrev zb1 : ByteArray := jdk_42_method_54_code
abbrev zb2 : ByteArray := jdk_42_method_154_code
abbrev zb3 : ByteArray := jdk_41_method_11_code
abbrev zb4 : ByteArray := jdk_42_method_155_code
abbrev zb5 : ByteArray := jdk_43_method_2_code
abbrev zb6 : ByteArray := jdk_42_method_56_code
abbrev zb7 : ByteArray := jdk_29_method_65_code
abbrev zb8 : ByteArray := jdk_29_method_69_code
abbrev zb9 : ByteArray := jdk_43_method_4_code
abbrev zb10 : ByteArray := method_3_code
abbrev zb11 : ByteArray := method_5_code
abbrev zb12 : ByteArray := jdk_42_method_151_code
abbrev zb13 : ByteArray := jdk_52_method_21_code
abbrev zb14 : ByteArray := jdk_52_method_16_code
abbrev zb15 : ByteArray := jdk_52_method_15_code
abbrev zb16 : ByteArray := jdk_42_method_149_code
abbrev zb17 : ByteArray := jdk_42_method_3_code
abbrev zb18 : ByteArray := method_4_code
abbrev zb19 : ByteArray := jdk_42_method_55_code
abbrev zb20 : ByteArray := jdk_43_method_23_code
abbrev zb21 : ByteArray := jdk_43_method_22_code
abbrev zb22 : ByteArray := jdk_42_method_80_code
abbrev zb23 : ByteArray := jdk_42_method_79_code
abbrev zb24 : ByteArray := jdk_41_method_12_code
abbrev zb25 : ByteArray := jdk_42_method_158_code
abbrev zb26 : ByteArray := jdk_65_method_131_code
abbrev zb27 : ByteArray := jdk_65_method_133_code
abbrev zb28 : ByteArray := jdk_65_method_132_code
abbrev zb29 : ByteArray := jdk_43_method_47_code
abbrev zb30 : ByteArray := jdk_42_method_92_code
abbrev zb31 : ByteArray := jdk_22_method_1_code
abbrev zb32 : ByteArray := jdk_39_method_1_code
abbrev zb33 : ByteArray := jdk_38_method_2_code
abbrev zb34 : ByteArray := jdk_38_method_6_code
abbrev zb35 : ByteArray := jdk_38_method_7_code
abbrev zb36 : ByteArray := jdk_38_method_24_code
abbrev zb37 : ByteArray := jdk_38_method_25_code
abbrev zb38 : ByteArray := jdk_38_method_8_code
abbrev zb39 : ByteArray := jdk_39_method_15_code
abbrev zb40 : ByteArray := jdk_130_method_1_code
abbrev zb41 : ByteArray := jdk_38_method_56_code
abbrev zb42 : ByteArray := jdk_130_method_28_code
abbrev zb43 : ByteArray := jdk_130_method_17_code
abbrev zb44 : ByteArray := jdk_42_method_104_code
abbrev zb45 : ByteArray := jdk_42_method_103_code
abbrev zb46 : ByteArray := jdk_42_method_101_code
abbrev zb47 : ByteArray := prog_29_method_2_code
abbrev zb48 : ByteArray := jdk_43_method_13_code
abbrev zb49 : ByteArray := jdk_42_method_66_code
abbrev zb50 : ByteArray := prog_29_method_5_code
abbrev zb51 : ByteArray := jdk_43_method_25_code
abbrev zb52 : ByteArray := jdk_43_method_24_code
abbrev zb53 : ByteArray := jdk_42_method_84_code
abbrev zb54 : ByteArray := jdk_42_method_126_code
abbrev zb55 : ByteArray := jdk_42_method_97_code
abbrev zb56 : ByteArray := prog_29_method_13_code
abbrev zR0 : Room := ⟨0, 0, 0, 0⟩
abbrev zR1 : Room := ⟨1, 0, 0, 13⟩
abbrev zR2 : Room := ⟨1, 0, 0, 14⟩
abbrev zR3 : Room := ⟨2, 0, 0, 27⟩
abbrev zR4 : Room := ⟨3, 0, 0, 40⟩
abbrev zR5 : Room := ⟨1, 0, 0, 12⟩
abbrev zR6 : Room := ⟨1, 1, 4, 18⟩
abbrev zR7 : Room := ⟨2, 1, 4, 35⟩
abbrev zR8 : Room := ⟨3, 1, 4, 52⟩
abbrev zR9 : Room := ⟨1, 1, 3, 18⟩
abbrev zR10 : Room := ⟨2, 1, 3, 35⟩
abbrev zR11 : Room := ⟨1, 1, 2, 18⟩
abbrev zR12 : Room := ⟨2, 1, 2, 35⟩
abbrev zR13 : Room := ⟨1, 1, 1, 18⟩
abbrev zR14 : Room := ⟨2, 1, 1, 35⟩
abbrev zR15 : Room := ⟨4, 3, 12, 66⟩
abbrev zR16 : Room := ⟨1, 0, 0, 17⟩
abbrev zR17 : Room := ⟨2, 0, 0, 32⟩
abbrev zR18 : Room := ⟨3, 0, 0, 46⟩
abbrev zR19 : Room := ⟨1, 0, 0, 15⟩
abbrev zR20 : Room := ⟨2, 1, 4, 34⟩
abbrev zR21 : Room := ⟨3, 2, 8, 50⟩
abbrev zR22 : Room := ⟨4, 2, 8, 64⟩
abbrev zR23 : Room := ⟨2, 0, 0, 24⟩
abbrev zR24 : Room := ⟨3, 0, 0, 36⟩
abbrev zR25 : Room := ⟨1, 1, 10, 14⟩
abbrev zR26 : Room := ⟨2, 1, 10, 29⟩
abbrev zR27 : Room := ⟨3, 1, 10, 41⟩
abbrev zR28 : Room := ⟨4, 1, 10, 56⟩
abbrev zR29 : Room := ⟨4, 1, 5, 52⟩
abbrev zR30 : Room := ⟨1, 0, 0, 18⟩
abbrev zR31 : Room := ⟨8, 14, 64, 160⟩
abbrev zR32 : Room := ⟨9, 16, 116, 183⟩
abbrev zR33 : Room := ⟨10, 16, 116, 200⟩
abbrev zR34 : Room := ⟨11, 18, 124, 214⟩
abbrev zR35 : Room := ⟨12, 30, 172, 234⟩
abbrev zR36 : Room := ⟨1, 0, 0, 22⟩
abbrev zR37 : Room := ⟨2, 0, 0, 35⟩
abbrev zR38 : Room := ⟨3, 0, 0, 49⟩
abbrev zR39 : Room := ⟨4, 4, 16, 62⟩
abbrev Dk (b : ByteArray) (p : Nat) (i : Instr) (n : Nat) : Prop := decode b p = .ok (i, n)
abbrev Tb (Z : State) (a0 : Array Value) : Prop := ∀ d ∈ tables_1, d.before a0 Z = true
abbrev Mt (l : Launch) (Z : State) (y : MethodName) (b : ByteArray) (ml : Nat) (rt : Option FieldType) (ws : List Jvm.Cond) (R : Room) (A : Array Value) (h0 : Heap) (Q : Option Value → Heap → List Loc → Prop) : Prop := MetFree l y (head1 (Jvm.Cond.code y b ml rt :: ws) R) (fun aa_ U => aa_ = A ∧ Z.Warmed39 U.vm ∧ U.heap = h0) (fun _ _ _ _ _ => True) (fun _ U oo_ UV_ => ∃ vv_ LL_, oo_ = .returned vv_ ∧ Q vv_ UV_.heap LL_ ∧ FrameEnd U oo_ UV_ LL_ R.cells R.slots)
abbrev QP (v : Option Value) (h0 : Heap) (n0 : Nat) (vv_ : Option Value) (hh_ : Heap) (LL_ : List Loc) : Prop := vv_ = v ∧ Fr n0 LL_ ∧ hh_ = h0
theorem own_m {α : Type} {l : List α} {a : α} (i : Nat) (h : l[i]? = some a) : a ∈ l := List.mem_of_getElem? h
def Go (tb : Tables) (e : Env) (below : List Frame) (A : State) (P : State → Outcome → Prop) : Prop := ∃ t o, Steps tb e below A t ∧ P t o
theorem Go.st {tb : Tables} {e : Env} {below : List Frame} {A B : State} {P : State → Outcome → Prop} (h : ∀ t, Steps tb e below A t → Steps tb e below B t) (k : Go tb e below A P) : Go tb e below B P := by
 obtain ⟨t, o, h1, h2⟩ := k; exact ⟨t, o, h t h1, h2⟩
theorem Go.s {tb : Tables} {e : Env} {below : List Frame} {A B : State} {P : State → Outcome → Prop} (h : ∀ {t}, Steps tb e below A t → Steps tb e below B t) (k : Go tb e below A P) : Go tb e below B P := Go.st (fun _ q => h q) k
theorem Go.tr {tb : Tables} {e : Env} {below : List Frame} {A B : State} {P : State → Outcome → Prop} (h : Steps tb e below B A) (k : Go tb e below A P) : Go tb e below B P := by
 obtain ⟨t, o, h1, h2⟩ := k; exact ⟨t, o, h.trans h1, h2⟩
theorem Go.start {tb : Tables} {e : Env} {below : List Frame} {A : State} {P0 : State → Outcome → Prop} (h : ∀ P : State → Outcome → Prop, (∀ t o, P0 t o → P t o) → Go tb e below A P) : ∃ t o, Steps tb e below A t ∧ P0 t o := h P0 (fun _ _ q => q)
theorem own_cs {p : Program} {l : Launch} {e : Env} {R : Room} {s : State} {m : MethodId} {args : Array Value} {below : List Frame} {meth : Method} {c : Code} {T : State} {locs : List Loc} {cells slots cells' slots' : Nat} (X : Stand p l e R s m args below meth c T locs cells slots) (h1 : cells = cells') (h2 : slots = slots') : Stand p l e R s m args below meth c T locs cells' slots' := h1 ▸ h2 ▸ X
theorem own_sta_keep {Z : State} {h h' : Heap} {C n d : String} {v : Value} {ws : List Addr} (F : Sta Z h C n d v) (K : Keep h h' ws) (q : ∀ x ∈ ws, ∀ cell : Cell, h[x]? = some cell → cell.vm.isStatics = false) : Sta Z h' C n d v := by
 obtain ⟨cf, i, k, f, st, cell, h1, h2, h3, h4, h5, h6, h7⟩ := F
 exact ⟨cf, i, k, f, st, cell, h1, h2, h3, h4, K.2.1 st cell h5 (fun hm => by rw [q st hm cell h5] at h6; cases h6), h6, h7⟩
theorem own_fr {k : Nat} {L L' : List Loc} (h : L = L') (N : Fr k L') : Fr k L := h ▸ N
theorem own_cat {v : Value} (h : v.isRef = true) : v.category = 1 := by rcases ref_cases h with rfl | ⟨_, rfl⟩ <;> rfl
theorem own_cst {tb : Tables} {e : Env} {below : List Frame} {T : State} {m : MethodId} {J : Nat} {Ls : Array Slot} {a b : Int32} {rest : List Value} {t : State} (h : a = b) (k : Steps tb e below (T.setTop (mkF m J Ls (.int a :: rest))) t) : Steps tb e below (T.setTop (mkF m J Ls (.int b :: rest))) t := h ▸ k
theorem own_lt {x y : Int64} (h : x < y) : lcmpW x y < 0 := (lw_lt x y).mpr h
theorem own_nlt {x y : Int64} (h : ¬ x < y) : ¬ lcmpW x y < 0 := fun q => h ((lw_lt x y).mp q)
theorem own_gt {x y : Int64} (h : y < x) : 0 < lcmpW x y := (lw_gt x y).mpr h
theorem own_ngt {x y : Int64} (h : ¬ y < x) : ¬ 0 < lcmpW x y := fun q => h ((lw_gt x y).mp q)
theorem own_eq {x y : Int64} (h : x = y) : lcmpW x y = 0 := (lw_eq x y).mpr h
theorem own_neq {x y : Int64} (h : ¬ x = y) : ¬ lcmpW x y = 0 := fun q => h ((lw_eq x y).mp q)
section G
variable {p : Program} {l : Launch} {e : Env} {R : Room} {s : State} {m : MethodId} {args : Array Value} {below : List Frame} {meth : Method} {c : Code} {T : State} {locs : List Loc} {cells slots : Nat} {bytes : ByteArray} {pc : Nat} {Ls : Array Slot} {S : List Value} {P : State → Outcome → Prop}
theorem g_iload (X : Stand p l e R s m args below meth c T locs cells slots) (hx : p.tables.exec = Jvm.exec) (hby : c.code = bytes) {k : Nat} {v : Int32} (hd : decode bytes pc = .ok (.iload k, 2)) (hl : Ls[k]? = some (.val (.int v))) (q : Go p.tables e below (T.setTop (mkF m (pc + 2) Ls (.int v :: S))) P) : Go p.tables e below (T.setTop (mkF m pc Ls S)) P := Go.s (XS.iload X.here hx rfl (hb hby hd) hl) q
theorem g_iloadN (X : Stand p l e R s m args below meth c T locs cells slots) (hx : p.tables.exec = Jvm.exec) (hby : c.code = bytes) {k : Fin 4} {v : Int32} (hd : decode bytes pc = .ok (.iload_n k, 1)) (hl : Ls[k.val]? = some (.val (.int v))) (q : Go p.tables e below (T.setTop (mkF m (pc + 1) Ls (.int v :: S))) P) : Go p.tables e below (T.setTop (mkF m pc Ls S)) P := Go.s (XS.iloadN X.here hx rfl (hb hby hd) hl) q
theorem g_lload (X : Stand p l e R s m args below meth c T locs cells slots) (hx : p.tables.exec = Jvm.exec) (hby : c.code = bytes) {k : Nat} {v : Int64} (hd : decode bytes pc = .ok (.lload k, 2)) (hl : Ls[k]? = some (.val (.long v))) (q : Go p.tables e below (T.setTop (mkF m (pc + 2) Ls (.long v :: S))) P) : Go p.tables e below (T.setTop (mkF m pc Ls S)) P := Go.s (XS.lload X.here hx rfl (hb hby hd) hl) q
theorem g_lloadN (X : Stand p l e R s m args below meth c T locs cells slots) (hx : p.tables.exec = Jvm.exec) (hby : c.code = bytes) {k : Fin 4} {v : Int64} (hd : decode bytes pc = .ok (.lload_n k, 1)) (hl : Ls[k.val]? = some (.val (.long v))) (q : Go p.tables e below (T.setTop (mkF m (pc + 1) Ls (.long v :: S))) P) : Go p.tables e below (T.setTop (mkF m pc Ls S)) P := Go.s (XS.lloadN X.here hx rfl (hb hby hd) hl) q
theorem g_aload (X : Stand p l e R s m args below meth c T locs cells slots) (hx : p.tables.exec = Jvm.exec) (hby : c.code = bytes) {k : Nat} {v : Value} (hd : decode bytes pc = .ok (.aload k, 2)) (hl : Ls[k]? = some (.val v)) (hv : v.isRef = true) (q : Go p.tables e below (T.setTop (mkF m (pc + 2) Ls (v :: S))) P) : Go p.tables e below (T.setTop (mkF m pc Ls S)) P := Go.s (XS.aload X.here hx rfl (hb hby hd) hl hv) q
theorem g_aloadN (X : Stand p l e R s m args below meth c T locs cells slots) (hx : p.tables.exec = Jvm.exec) (hby : c.code = bytes) {k : Fin 4} {v : Value} (hd : decode bytes pc = .ok (.aload_n k, 1)) (hl : Ls[k.val]? = some (.val v)) (hv : v.isRef = true) (q : Go p.tables e below (T.setTop (mkF m (pc + 1) Ls (v :: S))) P) : Go p.tables e below (T.setTop (mkF m pc Ls S)) P := Go.s (XS.aloadN X.here hx rfl (hb hby hd) hl hv) q
theorem g_istore (X : Stand p l e R s m args below meth c T locs cells slots) (hx : p.tables.exec = Jvm.exec) (hby : c.code = bytes) {k : Nat} {x : Int32} {l' : Array Slot} (hd : decode bytes pc = .ok (.istore k, 2)) (hl : storeLocals Ls k (.int x) = some l') (q : Go p.tables e below (T.setTop (mkF m (pc + 2) l' S)) P) : Go p.tables e below (T.setTop (mkF m pc Ls (.int x :: S))) P := Go.s (XS.istore X.here hx rfl (hb hby hd) rfl hl) q
theorem g_istoreN (X : Stand p l e R s m args below meth c T locs cells slots) (hx : p.tables.exec = Jvm.exec) (hby : c.code = bytes) {k : Fin 4} {x : Int32} {l' : Array Slot} (hd : decode bytes pc = .ok (.istore_n k, 1)) (hl : storeLocals Ls k.val (.int x) = some l') (q : Go p.tables e below (T.setTop (mkF m (pc + 1) l' S)) P) : Go p.tables e below (T.setTop (mkF m pc Ls (.int x :: S))) P := Go.s (XS.istoreN X.here hx rfl (hb hby hd) rfl hl) q
theorem g_astore (X : Stand p l e R s m args below meth c T locs cells slots) (hx : p.tables.exec = Jvm.exec) (hby : c.code = bytes) {k : Nat} {x : Value} {l' : Array Slot} (hd : decode bytes pc = .ok (.astore k, 2)) (hv : x.isRef = true) (hl : storeLocals Ls k x = some l') (q : Go p.tables e below (T.setTop (mkF m (pc + 2) l' S)) P) : Go p.tables e below (T.setTop (mkF m pc Ls (x :: S))) P := Go.s (XS.astore X.here hx rfl (hb hby hd) rfl hv hl) q
theorem g_astoreN (X : Stand p l e R s m args below meth c T locs cells slots) (hx : p.tables.exec = Jvm.exec) (hby : c.code = bytes) {k : Fin 4} {x : Value} {l' : Array Slot} (hd : decode bytes pc = .ok (.astore_n k, 1)) (hv : x.isRef = true) (hl : storeLocals Ls k.val x = some l') (q : Go p.tables e below (T.setTop (mkF m (pc + 1) l' S)) P) : Go p.tables e below (T.setTop (mkF m pc Ls (x :: S))) P := Go.s (XS.astoreN X.here hx rfl (hb hby hd) rfl hv hl) q
theorem g_iconst (X : Stand p l e R s m args below meth c T locs cells slots) (hx : p.tables.exec = Jvm.exec) (hby : c.code = bytes) {i : Int} {v : Int32} (hd : decode bytes pc = .ok (.iconst i, 1)) (hv : Int32.ofInt i = v) (q : Go p.tables e below (T.setTop (mkF m (pc + 1) Ls (.int v :: S))) P) : Go p.tables e below (T.setTop (mkF m pc Ls S)) P := by subst hv; exact Go.s (XS.iconst X.here hx rfl (hb hby hd)) q
theorem g_bipush (X : Stand p l e R s m args below meth c T locs cells slots) (hx : p.tables.exec = Jvm.exec) (hby : c.code = bytes) {i : Int} {v : Int32} (hd : decode bytes pc = .ok (.bipush i, 2)) (hv : (Int8.ofInt i).toInt32 = v) (q : Go p.tables e below (T.setTop (mkF m (pc + 2) Ls (.int v :: S))) P) : Go p.tables e below (T.setTop (mkF m pc Ls S)) P := by subst hv; exact Go.s (XS.bipush X.here hx rfl (hb hby hd)) q
theorem g_sipush (X : Stand p l e R s m args below meth c T locs cells slots) (hx : p.tables.exec = Jvm.exec) (hby : c.code = bytes) {i : Int} {v : Int32} (hd : decode bytes pc = .ok (.sipush i, 3)) (hv : (Int16.ofInt i).toInt32 = v) (q : Go p.tables e below (T.setTop (mkF m (pc + 3) Ls (.int v :: S))) P) : Go p.tables e below (T.setTop (mkF m pc Ls S)) P := by subst hv; exact Go.s (XS.sipush X.here hx rfl (hb hby hd)) q
theorem g_iadd (X : Stand p l e R s m args below meth c T locs cells slots) (hx : p.tables.exec = Jvm.exec) (hby : c.code = bytes) {x y z : Int32} (hd : decode bytes pc = .ok (.iadd, 1)) (hz : x + y = z) (q : Go p.tables e below (T.setTop (mkF m (pc + 1) Ls (.int z :: S))) P) : Go p.tables e below (T.setTop (mkF m pc Ls (.int y :: .int x :: S))) P := by subst hz; exact Go.s (XS.iadd X.here hx rfl (hb hby hd) rfl) q
theorem g_isub (X : Stand p l e R s m args below meth c T locs cells slots) (hx : p.tables.exec = Jvm.exec) (hby : c.code = bytes) {x y z : Int32} (hd : decode bytes pc = .ok (.isub, 1)) (hz : x - y = z) (q : Go p.tables e below (T.setTop (mkF m (pc + 1) Ls (.int z :: S))) P) : Go p.tables e below (T.setTop (mkF m pc Ls (.int y :: .int x :: S))) P := by subst hz; exact Go.s (XS.isub X.here hx rfl (hb hby hd) rfl) q
theorem g_imul (X : Stand p l e R s m args below meth c T locs cells slots) (hx : p.tables.exec = Jvm.exec) (hby : c.code = bytes) {x y z : Int32} (hd : decode bytes pc = .ok (.imul, 1)) (hz : x * y = z) (q : Go p.tables e below (T.setTop (mkF m (pc + 1) Ls (.int z :: S))) P) : Go p.tables e below (T.setTop (mkF m pc Ls (.int y :: .int x :: S))) P := by subst hz; exact Go.s (XS.imul X.here hx rfl (hb hby hd) rfl) q
theorem g_iand (X : Stand p l e R s m args below meth c T locs cells slots) (hx : p.tables.exec = Jvm.exec) (hby : c.code = bytes) {x y z : Int32} (hd : decode bytes pc = .ok (.iand, 1)) (hz : x &&& y = z) (q : Go p.tables e below (T.setTop (mkF m (pc + 1) Ls (.int z :: S))) P) : Go p.tables e below (T.setTop (mkF m pc Ls (.int y :: .int x :: S))) P := by subst hz; exact Go.s (XS.iand X.here hx rfl (hb hby hd) rfl) q
theorem g_ior (X : Stand p l e R s m args below meth c T locs cells slots) (hx : p.tables.exec = Jvm.exec) (hby : c.code = bytes) {x y z : Int32} (hd : decode bytes pc = .ok (.ior, 1)) (hz : x ||| y = z) (q : Go p.tables e below (T.setTop (mkF m (pc + 1) Ls (.int z :: S))) P) : Go p.tables e below (T.setTop (mkF m pc Ls (.int y :: .int x :: S))) P := by subst hz; exact Go.s (XS.ior X.here hx rfl (hb hby hd) rfl) q
theorem g_ixor (X : Stand p l e R s m args below meth c T locs cells slots) (hx : p.tables.exec = Jvm.exec) (hby : c.code = bytes) {x y z : Int32} (hd : decode bytes pc = .ok (.ixor, 1)) (hz : x ^^^ y = z) (q : Go p.tables e below (T.setTop (mkF m (pc + 1) Ls (.int z :: S))) P) : Go p.tables e below (T.setTop (mkF m pc Ls (.int y :: .int x :: S))) P := by subst hz; exact Go.s (XS.ixor X.here hx rfl (hb hby hd) rfl) q
theorem g_i2b (X : Stand p l e R s m args below meth c T locs cells slots) (hx : p.tables.exec = Jvm.exec) (hby : c.code = bytes) {x z : Int32} (hd : decode bytes pc = .ok (.i2b, 1)) (hz : x.toInt8.toInt32 = z) (q : Go p.tables e below (T.setTop (mkF m (pc + 1) Ls (.int z :: S))) P) : Go p.tables e below (T.setTop (mkF m pc Ls (.int x :: S))) P := by subst hz; exact Go.s (XS.i2b X.here hx rfl (hb hby hd) rfl) q
theorem g_i2c (X : Stand p l e R s m args below meth c T locs cells slots) (hx : p.tables.exec = Jvm.exec) (hby : c.code = bytes) {x z : Int32} (hd : decode bytes pc = .ok (.i2c, 1)) (hz : x.toUInt32.toUInt16.toUInt32.toInt32 = z) (q : Go p.tables e below (T.setTop (mkF m (pc + 1) Ls (.int z :: S))) P) : Go p.tables e below (T.setTop (mkF m pc Ls (.int x :: S))) P := by subst hz; exact Go.s (XS.i2c X.here hx rfl (hb hby hd) rfl) q
theorem g_dup (X : Stand p l e R s m args below meth c T locs cells slots) (hx : p.tables.exec = Jvm.exec) (hby : c.code = bytes) {x : Value} (hd : decode bytes pc = .ok (.dup, 1)) (hc : x.category = 1) (q : Go p.tables e below (T.setTop (mkF m (pc + 1) Ls (x :: x :: S))) P) : Go p.tables e below (T.setTop (mkF m pc Ls (x :: S))) P := Go.s (XS.dup X.here hx rfl (hb hby hd) rfl hc) q
theorem g_goto (X : Stand p l e R s m args below meth c T locs cells slots) (hx : p.tables.exec = Jvm.exec) (hby : c.code = bytes) {o : Int} {pc0 pc' : Nat} (hd : decode bytes pc = .ok (.goto o, 3)) (hpc : pc = pc0) (ho : 0 ≤ (pc0 : Int) + o) (hp : ((pc0 : Int) + o).toNat = pc') (q : Go p.tables e below (T.setTop (mkF m pc' Ls S)) P) : Go p.tables e below (T.setTop (mkF m pc Ls S)) P := by subst hpc; exact Go.s (XS.goto X.here hx rfl rfl (hb hby hd) ho hp) q
theorem g_iinc (X : Stand p l e R s m args below meth c T locs cells slots) (hx : p.tables.exec = Jvm.exec) (hby : c.code = bytes) {k : Nat} {cst : Int} {x x' : Int32} {l' : Array Slot} (hd : decode bytes pc = .ok (.iinc k cst, 3)) (hl : Ls[k]? = some (.val (.int x))) (hx' : x + Int32.ofInt cst = x') (hl' : storeLocals Ls k (.int x') = some l') (q : Go p.tables e below (T.setTop (mkF m (pc + 3) l' S)) P) : Go p.tables e below (T.setTop (mkF m pc Ls S)) P := by subst hx'; exact Go.s (XS.iinc X.here hx rfl (hb hby hd) hl hl') q
theorem g_icmpYes (X : Stand p l e R s m args below meth c T locs cells slots) (hx : p.tables.exec = Jvm.exec) (hby : c.code = bytes) {cd : ClassFile.Cond} {x y : Int32} {o : Int} {pc0 pc' : Nat} (hd : decode bytes pc = .ok (.if_icmp cd o, 3)) (hc : if_icmp.holds cd x y = true) (hpc : pc = pc0) (ho : 0 ≤ (pc0 : Int) + o) (hp : ((pc0 : Int) + o).toNat = pc') (q : Go p.tables e below (T.setTop (mkF m pc' Ls S)) P) : Go p.tables e below (T.setTop (mkF m pc Ls (.int y :: .int x :: S))) P := by subst hpc; exact Go.s (XS.icmpYes X.here hx rfl rfl (hb hby hd) rfl hc ho hp) q
theorem g_icmpNo (X : Stand p l e R s m args below meth c T locs cells slots) (hx : p.tables.exec = Jvm.exec) (hby : c.code = bytes) {cd : ClassFile.Cond} {x y : Int32} {o : Int} (hd : decode bytes pc = .ok (.if_icmp cd o, 3)) (hc : if_icmp.holds cd x y = false) (q : Go p.tables e below (T.setTop (mkF m (pc + 3) Ls S)) P) : Go p.tables e below (T.setTop (mkF m pc Ls (.int y :: .int x :: S))) P := Go.s (XS.icmpNo X.here hx rfl (hb hby hd) rfl hc) q
theorem g_ifYes (X : Stand p l e R s m args below meth c T locs cells slots) (hx : p.tables.exec = Jvm.exec) (hby : c.code = bytes) {cd : ClassFile.Cond} {x : Int32} {o : Int} {pc0 pc' : Nat} (hd : decode bytes pc = .ok (.ifCond cd o, 3)) (hc : ifCond.holds cd x = true) (hpc : pc = pc0) (ho : 0 ≤ (pc0 : Int) + o) (hp : ((pc0 : Int) + o).toNat = pc') (q : Go p.tables e below (T.setTop (mkF m pc' Ls S)) P) : Go p.tables e below (T.setTop (mkF m pc Ls (.int x :: S))) P := by subst hpc; exact Go.s (XS.ifYes X.here hx rfl rfl (hb hby hd) rfl hc ho hp) q
theorem g_ifNo (X : Stand p l e R s m args below meth c T locs cells slots) (hx : p.tables.exec = Jvm.exec) (hby : c.code = bytes) {cd : ClassFile.Cond} {x : Int32} {o : Int} (hd : decode bytes pc = .ok (.ifCond cd o, 3)) (hc : ifCond.holds cd x = false) (q : Go p.tables e below (T.setTop (mkF m (pc + 3) Ls S)) P) : Go p.tables e below (T.setTop (mkF m pc Ls (.int x :: S))) P := Go.s (XS.ifNo X.here hx rfl (hb hby hd) rfl hc) q
end G
theorem own_nfB {s : State} {args : Array Value} {K : String} {y z z' : MethodName} (w : (Jvm.Cond.selects K z' z).before args s = true) (e : z.cls = y.cls) : NotFace s y := fun r0 h0 => by
 obtain ⟨c2, r2, m2, q1, q2, q3, q4, kP, hkP, hkPi⟩ := Cond.selects_spec w
 have h1 := findClass_of_methodNamed h0
 have h2 := findClass_of_methodNamed q3
 rw [e, h1] at h2
 exact ⟨kP, by rw [Option.some.inj h2]; exact hkP, hkPi⟩
theorem own_selB {Z : State} {a0 : Array Value} {K : String} {y : MethodName} (w : (Jvm.Cond.selects K y y).before a0 Z = true) (wp : (Jvm.Cond.privateMethod y).before a0 Z = true) (wm : (Jvm.Cond.instanceMethod y).before a0 Z = true) (hy : y.cls ≠ "java/lang/invoke/MethodHandle" ∧ y.cls ≠ "java/lang/invoke/VarHandle" := by decide) : (Jvm.Cond.selects y.cls y y).before a0 Z = true := by
 obtain ⟨c2, r2, m2, q1, q2, q3, q4, kP, hkP, hkPi⟩ := Cond.selects_spec w
 exact selects_self_of_private (findClass_of_methodNamed q3) hkP hkPi (Cond.privateMethod_at wp) wm hy
theorem own_sameB {Z : State} {a0 : Array Value} {K : String} {y z z' : MethodName} (wm : (Jvm.Cond.instanceMethod y).before a0 Z = true) (w : (Jvm.Cond.selects K z' z).before a0 Z = true) (e : z.cls = y.cls) (hy : y.cls ≠ "java/lang/invoke/MethodHandle" ∧ y.cls ≠ "java/lang/invoke/VarHandle" := by decide) : (Jvm.Cond.sameMethod y.cls y.cls y.name y.desc).before a0 Z = true := by
 obtain ⟨c2, r2, m2, q1, q2, q3, q4, kP, hkP, hkPi⟩ := Cond.selects_spec w
 obtain ⟨mk, methM, hnamed, hmethM, -, -⟩ := Cond.instanceMethod_spec wm
 have hf : Z.methodFound? y.cls y.name y.desc = some mk := State.methodFound?_of_named hnamed hy
 have h1 := findClass_of_methodNamed hnamed
 have h2 := findClass_of_methodNamed q3
 rw [e, h1] at h2
 have h3 : mk.cls = m2.cls := Option.some.inj h2
 have hn : Z.methodNamed? ⟨y.cls, y.name, y.desc⟩ = some mk := hnamed
 simp only [Cond.before, Cond.holds, Cond.value, h1, hf, hn, h3, hkP]
 simp; exact hkPi
theorem own_sh0 (n : Int32) : (n >>> ((0 : Int32) &&& 31)) = n := by
 apply Int32.toInt_inj.mp; have := c_ishr n 0 0 (by decide); rw [this]; simp
theorem own_shl0 (n : Int32) : (n <<< ((0 : Int32) &&& 31)) = n := by
 rw [show ((0 : Int32) &&& 31) = 0 from by decide]; apply Int32.toBitVec_inj.mp; simp
theorem own_gm (E : List Int32) (k : Nat) : (E.map Value.int).getD k (.int (0 : Int32)) = .int (E.getD k 0) := by
 rw [List.getD_eq_getElem?_getD, List.getElem?_map, List.getD_eq_getElem?_getD]
 cases E[k]? <;> rfl
theorem dc0_0 : Dk zb0 0 (.getstatic 38) 3 := by decide +kernel
theorem dc0_3 : Dk zb0 3 (.ifCond .eq 10) 3 := by decide +kernel
theorem dc0_6 : Dk zb0 6 (.aload_n 0) 1 := by decide +kernel
theorem dc0_7 : Dk zb0 7 (.getfield 15) 3 := by decide +kernel
theorem dc0_10 : Dk zb0 10 (.goto 4) 3 := by decide +kernel
theorem dc0_14 : Dk zb0 14 .ireturn 1 := by decide +kernel
theorem pn_0 : plainName "java/lang/String" = true := by first | (simp [plainName, overriddenIn]; done) | decide +kernel
theorem ef_rmCd (mi : MethodId) (o : Addr) : entryFrame mi #[(.ref o)] 1 = mkF mi 0 #[.val (.ref o)] [] := by first | (simp [entryFrame, mkF, argsToLocals, Value.category]; done) | rfl
theorem rmCd (l : Launch) (Z : State) (a0 : Array Value) (hw : Tb Z a0) (ws : List Jvm.Cond) (o : Addr) (cz : Int32) (h0 : Heap) (n0 : Nat) (Z0 : n0 ≤ h0.size) (SCo : Fld Z h0 o "java/lang/String" "coder" "B" (.int (0 : Int32))) (SC : Sta Z h0 "java/lang/String" "COMPACT_STRINGS" "Z" (.int cz)) (hcz : ¬ (cz = (0 : Int32))) :
  Mt l Z zy0 zb0 1 (some .byte) ws zR0 #[(.ref o)] h0 (QP (some (.int (0 : Int32))) h0 n0) := by
 refine MetFree.of_bodySF (plainFor_of_name pn_0) hisR ?_
 intro pg ev si mi args below meth ci s₁ Bd hml0 hP0 hK
 obtain ⟨rfl, hZ, hh⟩ := hP0
 have hx := Bd.exec
 have hby := Bd.bytes
 have hml : ci.maxLocals = 1 := hml0
 have hown : si.vm.findClass "java/lang/String" = some mi.cls := findClass_of_methodNamed Bd.named
 have hnm := (name_of_methodNamed Bd.named Bd.method).1
 have X0 : Stand pg l ev zR0 si mi #[(.ref o)] below meth ci s₁ [] 0 0 := Stand.of_body Bd
 have e0 : s₁.heap = h0 := by rw [← hh, Bd.state]; rfl
 have N0 := Fr.nil n0
 refine Go.start (fun P hP => ?_)
 refine Go.st (fun t_ k_ => castTop (ef_rmCd mi o) k_) (A := s₁.setTop (mkF mi 0 #[.val (.ref o)] [])) ?_
 obtain ⟨T1, X1, e1, st1⟩ := getS2 X0 hx hZ hown (host := "") (Or.inl (hw _ (own_m 21 rfl))) Via.refl e0 SC (g := (mkF mi 0 #[.val (.ref o)] [])) rfl (hb hby dc0_0)
 refine Go.st st1 ?_
 refine g_ifNo X1 hx hby dc0_3 ((if0 _ _).trans (feq hcz).1) ?_
 refine g_aloadN X1 hx hby dc0_6 rfl rfl ?_
 obtain ⟨T2, X2, e2, st2⟩ := getF X1 hx hZ hown (host := "") (Or.inl (hw _ (own_m 33 rfl))) Via.refl e1 SCo (g := (mkF mi 7 #[.val (.ref o)] [(.ref o)])) rfl rfl (hb hby dc0_7)
 refine Go.st st2 ?_
 refine g_goto X2 hx hby dc0_10 (pc0 := 10) (pc' := 14) rfl (by decide) (by decide) ?_
 obtain ⟨fs, hr, hrun, hended, hW, hsame⟩ := X2.leave (v := some (.int 0)) (fun h => by rw [Bd.returns] at h; cases h) (BodyLoose.notSynchronized Bd)
 refine ⟨_, _, ?_, hP _ _ ⟨hrun, hended, _, _, rfl, ?_, ⟨_, rfl⟩, hW, hsame.mono (by decide) (by decide)⟩⟩
 ·exact retN X2 hx (t := .byte) Bd.returns (by simp) (hb hby dc0_14) hr
 ·exact ⟨rfl, N0, e2⟩
theorem dc1_0 : Dk zb1 0 (.aload_n 0) 1 := by decide +kernel
theorem dc1_1 : Dk zb1 1 (.getfield 9) 3 := by decide +kernel
theorem dc1_4 : Dk zb1 4 .arraylength 1 := by decide +kernel
theorem dc1_5 : Dk zb1 5 (.aload_n 0) 1 := by decide +kernel
theorem dc1_6 : Dk zb1 6 (.invokevirtual 335) 3 := by decide +kernel
theorem pd_0 : parseMethodDescriptor "()B" = some ⟨[], some .byte⟩ := by decide +kernel
theorem dc1_9 : Dk zb1 9 .ishr 1 := by decide +kernel
theorem dc1_10 : Dk zb1 10 .ireturn 1 := by decide +kernel
theorem ef_rmLn (mi : MethodId) (o : Addr) : entryFrame mi #[(.ref o)] 1 = mkF mi 0 #[.val (.ref o)] [] := by first | (simp [entryFrame, mkF, argsToLocals, Value.category]; done) | rfl
theorem rmLn (l : Launch) (Z : State) (a0 : Array Value) (hw : Tb Z a0) (ws : List Jvm.Cond) (o : Addr) (b : Addr) (kb : ClassId) (n : Int32) (E : List Int32) (cz : Int32) (h0 : Heap) (n0 : Nat) (Z0 : n0 ≤ h0.size) (SE : Exa Z h0 o "java/lang/String") (SCo : Fld Z h0 o "java/lang/String" "coder" "B" (.int (0 : Int32))) (SVa : Fld Z h0 o "java/lang/String" "value" "[B" (.ref b)) (SAr : Arv Z h0 b kb .byte n (E.map Value.int) (.int (0 : Int32))) (SEb : Exa Z h0 b "[B") (SC : Sta Z h0 "java/lang/String" "COMPACT_STRINGS" "Z" (.int cz)) (hcz : ¬ (cz = (0 : Int32))) :
  Mt l Z zy1 zb1 1 (some .int) ws zR1 #[(.ref o)] h0 (QP (some (.int n)) h0 n0) := by
 refine MetFree.of_bodySF (plainFor_of_name pn_0) hisR ?_
 intro pg ev si mi args below meth ci s₁ Bd hml0 hP0 hK
 obtain ⟨rfl, hZ, hh⟩ := hP0
 have hx := Bd.exec
 have hby := Bd.bytes
 have hml : ci.maxLocals = 1 := hml0
 have hown : si.vm.findClass "java/lang/String" = some mi.cls := findClass_of_methodNamed Bd.named
 have hnm := (name_of_methodNamed Bd.named Bd.method).1
 have X0 : Stand pg l ev zR1 si mi #[(.ref o)] below meth ci s₁ [] 0 0 := Stand.of_body Bd
 have e0 : s₁.heap = h0 := by rw [← hh, Bd.state]; rfl
 have N0 := Fr.nil n0
 refine Go.start (fun P hP => ?_)
 refine Go.st (fun t_ k_ => castTop (ef_rmLn mi o) k_) (A := s₁.setTop (mkF mi 0 #[.val (.ref o)] [])) ?_
 refine g_aloadN X0 hx hby dc1_0 rfl rfl ?_
 obtain ⟨T1, X1, e1, st1⟩ := getF X0 hx hZ hown (host := "") (Or.inl (hw _ (own_m 35 rfl))) Via.refl e0 SVa (g := (mkF mi 1 #[.val (.ref o)] [(.ref o)])) rfl rfl (hb hby dc1_1)
 refine Go.st st1 ?_
 have ov2 := SAr
 obtain ⟨cl2, Ar2, q2, S2, M2, H2, G2⟩ := ov2
 refine Go.st (X1.arraylength hx (by rw [e1]; exact Ar2.1) (State.isArrayOf_alike hZ.alike Ar2.2.1) (g := (mkF mi 4 #[.val (.ref o)] [(.ref b)])) rfl rfl (hb hby dc1_4)) ?_
 rw [len_of S2 M2]
 refine g_aloadN X1 hx hby dc1_5 rfl rfl ?_
 obtain ⟨cq3, kq3, q3a, q3b, q3c⟩ := isOf hZ e1 SE
 obtain ⟨_, _, ⟨T3, L3, k3, n3⟩, -, X3, ⟨Lc3, hQ3, l3, y3, z3⟩, st3⟩ := X1.virtualBack hx (y := zy0) (z := zy0) hown (mvT hZ (hw _ (own_m 66 rfl))) (mvT hZ (hw _ (own_m 67 rfl))) (notFace_of_selects (args := #[]) (mvT hZ (hw _ (own_m 69 rfl)))) (mvT hZ (hw _ (own_m 69 rfl))) (mvT hZ (hw _ (own_m 68 rfl))) (by decide) (backOf (W := 1) (rmCd l Z a0 hw [] o cz h0 n0 Z0 SCo SC hcz) hZ (hw _ (own_m 70 rfl)) (hw _ (own_m 9 rfl)) (by decide) (by decide)) q3a q3c (g := (mkF mi 6 #[.val (.ref o)] [(.ref o), (.int n)])) rfl (by rw [hml]; rfl) (Steps.refl _) (argsL := []) (rest := [(.int n)]) (lenOf pd_0 rfl) rfl (by show 2 * 0 + _ ≤ _; exact Nat.le_of_eq rfl) (hb hby dc1_6) (fun _ _ => ⟨rfl, e1, (by decide : 0 + 0 ≤ _), (by decide : 0 + 0 ≤ _)⟩)
 dsimp only [Pt.U, Pt.locs, Pt.cells, Pt.slots] at X3 l3 y3 z3 st3 hQ3
 subst y3 z3
 have X3 := own_cs X3 (cells' := 0) (slots' := 0) rfl rfl
 obtain ⟨rfl, N3q, e3⟩ := hQ3
 have N3 := own_fr l3 (Fr.app N0 N3q)
 refine Go.tr st3 ?_
 refine Go.s (XS.ishr X3.here hx rfl (hb hby dc1_9) rfl) ?_
 show Go _ _ _ (T3.setTop (mkF mi 10 #[.val (.ref o)] [(.int (n >>> ((0 : Int32) &&& 31)))])) _
 rw [own_sh0]
 show Go _ _ _ (T3.setTop (mkF mi 10 #[.val (.ref o)] [(.int n)])) _
 obtain ⟨fs, hr, hrun, hended, hW, hsame⟩ := X3.leave (v := some (.int n)) (fun h => by rw [Bd.returns] at h; cases h) (BodyLoose.notSynchronized Bd)
 refine ⟨_, _, ?_, hP _ _ ⟨hrun, hended, _, _, rfl, ?_, ⟨_, rfl⟩, hW, hsame.mono (by decide) (by decide)⟩⟩
 ·exact retI X3 hx Bd.returns (hb hby dc1_10) hr
 ·exact ⟨rfl, N3, e3⟩
theorem dc2_0 : Dk zb2 0 (.getstatic 38) 3 := by decide +kernel
theorem dc2_3 : Dk zb2 3 (.ifCond .eq 14) 3 := by decide +kernel
theorem dc2_6 : Dk zb2 6 (.aload_n 0) 1 := by decide +kernel
theorem dc2_7 : Dk zb2 7 (.getfield 15) 3 := by decide +kernel
theorem dc2_10 : Dk zb2 10 (.ifCond .ne 7) 3 := by decide +kernel
theorem dc2_13 : Dk zb2 13 (.iconst 1) 1 := by decide +kernel
theorem dc2_14 : Dk zb2 14 (.goto 4) 3 := by decide +kernel
theorem dc2_18 : Dk zb2 18 .ireturn 1 := by decide +kernel
theorem ef_rmL1 (mi : MethodId) (o : Addr) : entryFrame mi #[(.ref o)] 1 = mkF mi 0 #[.val (.ref o)] [] := by first | (simp [entryFrame, mkF, argsToLocals, Value.category]; done) | rfl
theorem rmL1 (l : Launch) (Z : State) (a0 : Array Value) (hw : Tb Z a0) (ws : List Jvm.Cond) (o : Addr) (cz : Int32) (h0 : Heap) (n0 : Nat) (Z0 : n0 ≤ h0.size) (SCo : Fld Z h0 o "java/lang/String" "coder" "B" (.int (0 : Int32))) (SC : Sta Z h0 "java/lang/String" "COMPACT_STRINGS" "Z" (.int cz)) (hcz : ¬ (cz = (0 : Int32))) :
  Mt l Z zy2 zb2 1 (some .boolean) ws zR0 #[(.ref o)] h0 (QP (some (.int (1 : Int32))) h0 n0) := by
 refine MetFree.of_bodySF (plainFor_of_name pn_0) hisR ?_
 intro pg ev si mi args below meth ci s₁ Bd hml0 hP0 hK
 obtain ⟨rfl, hZ, hh⟩ := hP0
 have hx := Bd.exec
 have hby := Bd.bytes
 have hml : ci.maxLocals = 1 := hml0
 have hown : si.vm.findClass "java/lang/String" = some mi.cls := findClass_of_methodNamed Bd.named
 have hnm := (name_of_methodNamed Bd.named Bd.method).1
 have X0 : Stand pg l ev zR0 si mi #[(.ref o)] below meth ci s₁ [] 0 0 := Stand.of_body Bd
 have e0 : s₁.heap = h0 := by rw [← hh, Bd.state]; rfl
 have N0 := Fr.nil n0
 refine Go.start (fun P hP => ?_)
 refine Go.st (fun t_ k_ => castTop (ef_rmL1 mi o) k_) (A := s₁.setTop (mkF mi 0 #[.val (.ref o)] [])) ?_
 obtain ⟨T1, X1, e1, st1⟩ := getS2 X0 hx hZ hown (host := "") (Or.inl (hw _ (own_m 21 rfl))) Via.refl e0 SC (g := (mkF mi 0 #[.val (.ref o)] [])) rfl (hb hby dc2_0)
 refine Go.st st1 ?_
 refine g_ifNo X1 hx hby dc2_3 ((if0 _ _).trans (feq hcz).1) ?_
 refine g_aloadN X1 hx hby dc2_6 rfl rfl ?_
 obtain ⟨T2, X2, e2, st2⟩ := getF X1 hx hZ hown (host := "") (Or.inl (hw _ (own_m 33 rfl))) Via.refl e1 SCo (g := (mkF mi 7 #[.val (.ref o)] [(.ref o)])) rfl rfl (hb hby dc2_7)
 refine Go.st st2 ?_
 refine g_ifNo X2 hx hby dc2_10 ((if0 _ _).trans (teq rfl).2) ?_
 refine g_iconst X2 hx hby dc2_13 (v := 1) rfl ?_
 refine g_goto X2 hx hby dc2_14 (pc0 := 14) (pc' := 18) rfl (by decide) (by decide) ?_
 obtain ⟨fs, hr, hrun, hended, hW, hsame⟩ := X2.leave (v := some (.int 1)) (fun h => by rw [Bd.returns] at h; cases h) (BodyLoose.notSynchronized Bd)
 refine ⟨_, _, ?_, hP _ _ ⟨hrun, hended, _, _, rfl, ?_, ⟨_, rfl⟩, hW, hsame.mono (by decide) (by decide)⟩⟩
 ·exact retN X2 hx (t := .boolean) Bd.returns (by simp) (hb hby dc2_18) hr
 ·exact ⟨rfl, N0, e2⟩
theorem dc3_0 : Dk zb3 0 (.iload_n 0) 1 := by decide +kernel
theorem dc3_1 : Dk zb3 1 (.ifCond .lt 8) 3 := by decide +kernel
theorem dc3_4 : Dk zb3 4 (.iload_n 0) 1 := by decide +kernel
theorem dc3_5 : Dk zb3 5 (.iload_n 1) 1 := by decide +kernel
theorem dc3_6 : Dk zb3 6 (.if_icmp .lt 10) 3 := by decide +kernel
theorem dc3_16 : Dk zb3 16 (.iload_n 0) 1 := by decide +kernel
theorem dc3_17 : Dk zb3 17 .ireturn 1 := by decide +kernel
theorem pn_1 : plainName "jdk/internal/util/Preconditions" = true := by first | (simp [plainName, overriddenIn]; done) | decide +kernel
theorem ef_rmPC (mi : MethodId) (i : Int32) (n : Int32) (fm : Value) (hr_fm : fm.isRef = true) : entryFrame mi #[(.int i), (.int n), fm] 3 = mkF mi 0 #[.val (.int i), .val (.int n), .val fm] [] := by rcases ref_cases hr_fm with rfl | ⟨_, rfl⟩ <;> first | (simp [entryFrame, mkF, argsToLocals, Value.category]; done) | rfl
theorem rmPC (l : Launch) (Z : State) (a0 : Array Value) (hw : Tb Z a0) (ws : List Jvm.Cond) (i : Int32) (n : Int32) (fm : Value) (h0 : Heap) (n0 : Nat) (Z0 : n0 ≤ h0.size) (hfm : fm.isRef = true) (h1 : ¬ (i < (0 : Int32))) (h2 : i < n) :
  Mt l Z zy3 zb3 3 (some .int) ws zR0 #[(.int i), (.int n), fm] h0 (QP (some (.int i)) h0 n0) := by
 refine MetFree.of_bodySF (plainFor_of_name pn_1) hisR ?_
 intro pg ev si mi args below meth ci s₁ Bd hml0 hP0 hK
 obtain ⟨rfl, hZ, hh⟩ := hP0
 have hx := Bd.exec
 have hby := Bd.bytes
 have hml : ci.maxLocals = 3 := hml0
 have hown : si.vm.findClass "jdk/internal/util/Preconditions" = some mi.cls := findClass_of_methodNamed Bd.named
 have hnm := (name_of_methodNamed Bd.named Bd.method).1
 have X0 : Stand pg l ev zR0 si mi #[(.int i), (.int n), fm] below meth ci s₁ [] 0 0 := Stand.of_body Bd
 have e0 : s₁.heap = h0 := by rw [← hh, Bd.state]; rfl
 have N0 := Fr.nil n0
 refine Go.start (fun P hP => ?_)
 refine Go.st (fun t_ k_ => castTop (ef_rmPC mi i n fm hfm) k_) (A := s₁.setTop (mkF mi 0 #[.val (.int i), .val (.int n), .val fm] [])) ?_
 refine g_iloadN X0 hx hby dc3_0 rfl ?_
 refine g_ifNo X0 hx hby dc3_1 ((if0 _ _).trans (flt h1).1) ?_
 refine g_iloadN X0 hx hby dc3_4 rfl ?_
 refine g_iloadN X0 hx hby dc3_5 rfl ?_
 refine g_icmpYes X0 hx hby dc3_6 (tlt h2).1 (pc0 := 6) (pc' := 16) rfl (by decide) (by decide) ?_
 refine g_iloadN X0 hx hby dc3_16 rfl ?_
 obtain ⟨fs, hr, hrun, hended, hW, hsame⟩ := X0.leave (v := some (.int i)) (fun h => by rw [Bd.returns] at h; cases h) (BodyLoose.notSynchronized Bd)
 refine ⟨_, _, ?_, hP _ _ ⟨hrun, hended, _, _, rfl, ?_, ⟨_, rfl⟩, hW, hsame.mono (by decide) (by decide)⟩⟩
 ·exact retI X0 hx Bd.returns (hb hby dc3_17) hr
 ·exact ⟨rfl, N0, e0⟩
theorem dc4_0 : Dk zb4 0 (.iload_n 0) 1 := by decide +kernel
theorem dc4_1 : Dk zb4 1 (.iload_n 1) 1 := by decide +kernel
theorem dc4_2 : Dk zb4 2 (.getstatic 1053) 3 := by decide +kernel
theorem dc4_5 : Dk zb4 5 (.invokestatic 1059) 3 := by decide +kernel
theorem pd_1 : parseMethodDescriptor "(IILjava/util/function/BiFunction;)I" = some ⟨[.int, .int, (.object "java/util/function/BiFunction")], some .int⟩ := by decide +kernel
theorem dc4_8 : Dk zb4 8 .pop 1 := by decide +kernel
theorem dc4_9 : Dk zb4 9 .return_ 1 := by decide +kernel
theorem ef_rmCI (mi : MethodId) (i : Int32) (n : Int32) : entryFrame mi #[(.int i), (.int n)] 2 = mkF mi 0 #[.val (.int i), .val (.int n)] [] := by first | (simp [entryFrame, mkF, argsToLocals, Value.category]; done) | rfl
theorem rmCI (l : Launch) (Z : State) (a0 : Array Value) (hw : Tb Z a0) (ws : List Jvm.Cond) (i : Int32) (n : Int32) (fm : Value) (h0 : Heap) (n0 : Nat) (Z0 : n0 ≤ h0.size) (SF : Sta Z h0 "jdk/internal/util/Preconditions" "SIOOBE_FORMATTER" "Ljava/util/function/BiFunction;" fm) (hfm : fm.isRef = true) (h1 : ¬ (i < (0 : Int32))) (h2 : i < n) :
  Mt l Z zy4 zb4 2 none ws zR2 #[(.int i), (.int n)] h0 (QP (none) h0 n0) := by
 refine MetFree.of_bodySF (plainFor_of_name pn_0) hisR ?_
 intro pg ev si mi args below meth ci s₁ Bd hml0 hP0 hK
 obtain ⟨rfl, hZ, hh⟩ := hP0
 have hx := Bd.exec
 have hby := Bd.bytes
 have hml : ci.maxLocals = 2 := hml0
 have hown : si.vm.findClass "java/lang/String" = some mi.cls := findClass_of_methodNamed Bd.named
 have hnm := (name_of_methodNamed Bd.named Bd.method).1
 have X0 : Stand pg l ev zR2 si mi #[(.int i), (.int n)] below meth ci s₁ [] 0 0 := Stand.of_body Bd
 have e0 : s₁.heap = h0 := by rw [← hh, Bd.state]; rfl
 have N0 := Fr.nil n0
 refine Go.start (fun P hP => ?_)
 refine Go.st (fun t_ k_ => castTop (ef_rmCI mi i n) k_) (A := s₁.setTop (mkF mi 0 #[.val (.int i), .val (.int n)] [])) ?_
 refine g_iloadN X0 hx hby dc4_0 rfl ?_
 refine g_iloadN X0 hx hby dc4_1 rfl ?_
 obtain ⟨T1, X1, e1, st1⟩ := getS2 X0 hx hZ hown (host := "") (Or.inl (hw _ (own_m 116 rfl))) Via.refl e0 SF (g := (mkF mi 2 #[.val (.int i), .val (.int n)] [(.int n), (.int i)])) rfl (hb hby dc4_2)
 refine Go.st st1 ?_
 obtain ⟨_, _, ⟨T2, L2, k2, n2⟩, -, X2, ⟨Lc2, hQ2, l2, y2, z2⟩, st2⟩ := Jvm.LawKit.callS X1 hx (y := zy3) hown (mvT hZ (hw _ (own_m 118 rfl))) (mvT hZ (hw _ (own_m 119 rfl))) (mvT hZ (hw _ (own_m 117 rfl))) (mvT hZ (hw _ (own_m 120 rfl))) (by decide) (backOf (W := 0) (rmPC l Z a0 hw [] i n fm h0 n0 Z0 hfm h1 h2) hZ (hw _ (own_m 120 rfl)) (hw _ (own_m 117 rfl)) (by decide) (by decide)) (g := (mkF mi 5 #[.val (.int i), .val (.int n)] [fm, (.int n), (.int i)])) rfl (by rw [hml]; rfl) (argsL := [(.int i), (.int n), fm]) (rest := []) (lenOf pd_1 rfl) rfl (by show 2 * 0 + _ ≤ _; exact Nat.le_of_eq rfl) (hb hby dc4_5) (fun _ _ => ⟨rfl, e1, (by decide : 0 + 0 ≤ _), (by decide : 0 + 0 ≤ _)⟩)
 dsimp only [Pt.U, Pt.locs, Pt.cells, Pt.slots] at X2 l2 y2 z2 st2 hQ2
 subst y2 z2
 have X2 := own_cs X2 (cells' := 0) (slots' := 0) rfl rfl
 obtain ⟨rfl, N2q, e2⟩ := hQ2
 have N2 := own_fr l2 (Fr.app N0 N2q)
 refine Go.st st2 ?_
 refine Go.s (XS.pop X2.here hx rfl (hb hby dc4_8) rfl rfl) ?_
 obtain ⟨fs, hr, hrun, hended, hW, hsame⟩ := X2.leave (v := none) (fun _ => rfl) (BodyLoose.notSynchronized Bd)
 refine ⟨_, _, ?_, hP _ _ ⟨hrun, hended, _, _, rfl, ?_, ⟨_, rfl⟩, hW, hsame.mono (by decide) (by decide)⟩⟩
 ·exact X2.returnOut hx Bd.returns (hb hby dc4_9) hr
 ·exact ⟨rfl, N2, e2⟩
theorem dc5_0 : Dk zb5 0 (.iload_n 1) 1 := by decide +kernel
theorem dc5_1 : Dk zb5 1 (.aload_n 0) 1 := by decide +kernel
theorem dc5_2 : Dk zb5 2 .arraylength 1 := by decide +kernel
theorem dc5_3 : Dk zb5 3 (.invokestatic 9) 3 := by decide +kernel
theorem pd_2 : parseMethodDescriptor "(II)V" = some ⟨[.int, .int], none⟩ := by decide +kernel
theorem dc5_6 : Dk zb5 6 (.aload_n 0) 1 := by decide +kernel
theorem dc5_7 : Dk zb5 7 (.iload_n 1) 1 := by decide +kernel
theorem dc5_8 : Dk zb5 8 .baload 1 := by decide +kernel
theorem dc5_9 : Dk zb5 9 (.sipush 255) 3 := by decide +kernel
theorem dc5_12 : Dk zb5 12 .iand 1 := by decide +kernel
theorem dc5_13 : Dk zb5 13 .i2c 1 := by decide +kernel
theorem dc5_14 : Dk zb5 14 .ireturn 1 := by decide +kernel
theorem pn_2 : plainName "java/lang/StringLatin1" = true := by first | (simp [plainName, overriddenIn]; done) | decide +kernel
theorem ef_rmLC (mi : MethodId) (b : Addr) (i : Int32) : entryFrame mi #[(.ref b), (.int i)] 2 = mkF mi 0 #[.val (.ref b), .val (.int i)] [] := by first | (simp [entryFrame, mkF, argsToLocals, Value.category]; done) | rfl
theorem rmLC (l : Launch) (Z : State) (a0 : Array Value) (hw : Tb Z a0) (ws : List Jvm.Cond) (b : Addr) (i : Int32) (kb : ClassId) (n : Int32) (E : List Int32) (fm : Value) (h0 : Heap) (n0 : Nat) (Z0 : n0 ≤ h0.size) (SAr : Arv Z h0 b kb .byte n (E.map Value.int) (.int (0 : Int32))) (SF : Sta Z h0 "jdk/internal/util/Preconditions" "SIOOBE_FORMATTER" "Ljava/util/function/BiFunction;" fm) (hfm : fm.isRef = true) (h1 : ¬ (i < (0 : Int32))) (h2 : i < n) :
  Mt l Z zy5 zb5 2 (some .char) ws zR3 #[(.ref b), (.int i)] h0 (QP (some (.int ((E.getD i.toNatClampNeg 0) &&& (255 : Int32)))) h0 n0) := by
 refine MetFree.of_bodySF (plainFor_of_name pn_2) hisR ?_
 intro pg ev si mi args below meth ci s₁ Bd hml0 hP0 hK
 obtain ⟨rfl, hZ, hh⟩ := hP0
 have hx := Bd.exec
 have hby := Bd.bytes
 have hml : ci.maxLocals = 2 := hml0
 have hown : si.vm.findClass "java/lang/StringLatin1" = some mi.cls := findClass_of_methodNamed Bd.named
 have hnm := (name_of_methodNamed Bd.named Bd.method).1
 have X0 : Stand pg l ev zR3 si mi #[(.ref b), (.int i)] below meth ci s₁ [] 0 0 := Stand.of_body Bd
 have e0 : s₁.heap = h0 := by rw [← hh, Bd.state]; rfl
 have N0 := Fr.nil n0
 refine Go.start (fun P hP => ?_)
 refine Go.st (fun t_ k_ => castTop (ef_rmLC mi b i) k_) (A := s₁.setTop (mkF mi 0 #[.val (.ref b), .val (.int i)] [])) ?_
 refine g_iloadN X0 hx hby dc5_0 rfl ?_
 refine g_aloadN X0 hx hby dc5_1 rfl rfl ?_
 have ov1 := SAr
 obtain ⟨cl1, Ar1, q1, S1, M1, H1, G1⟩ := ov1
 refine Go.st (X0.arraylength hx (by rw [e0]; exact Ar1.1) (State.isArrayOf_alike hZ.alike Ar1.2.1) (g := (mkF mi 2 #[.val (.ref b), .val (.int i)] [(.ref b), (.int i)])) rfl rfl (hb hby dc5_2)) ?_
 rw [len_of S1 M1]
 obtain ⟨_, _, ⟨T2, L2, k2, n2⟩, -, X2, ⟨Lc2, hQ2, l2, y2, z2⟩, st2⟩ := Jvm.LawKit.callS X0 hx (y := zy4) hown (mvT hZ (hw _ (own_m 113 rfl))) (mvT hZ (hw _ (own_m 114 rfl))) (mvT hZ (hw _ (own_m 9 rfl))) (mvT hZ (hw _ (own_m 115 rfl))) (by decide) (backOf (W := 0) (rmCI l Z a0 hw [] i n fm h0 n0 Z0 SF hfm h1 h2) hZ (hw _ (own_m 115 rfl)) (hw _ (own_m 9 rfl)) (by decide) (by decide)) (g := (mkF mi 3 #[.val (.ref b), .val (.int i)] [(.int n), (.int i)])) rfl (by rw [hml]; rfl) (argsL := [(.int i), (.int n)]) (rest := []) (lenOf pd_2 rfl) rfl (by show 2 * 0 + _ ≤ _; exact Nat.le_of_eq rfl) (hb hby dc5_3) (fun _ _ => ⟨rfl, e0, (by decide : 0 + 0 ≤ _), (by decide : 0 + 0 ≤ _)⟩)
 dsimp only [Pt.U, Pt.locs, Pt.cells, Pt.slots] at X2 l2 y2 z2 st2 hQ2
 subst y2 z2
 have X2 := own_cs X2 (cells' := 0) (slots' := 0) rfl rfl
 obtain ⟨rfl, N2q, e2⟩ := hQ2
 have N2 := own_fr l2 (Fr.app N0 N2q)
 refine Go.st st2 ?_
 refine g_aloadN X2 hx hby dc5_6 rfl rfl ?_
 refine g_iloadN X2 hx hby dc5_7 rfl ?_
 have ov3 := SAr
 obtain ⟨cl3, Ar3, q3, S3, M3, H3, G3⟩ := ov3
 have hin3 : ¬ (i < 0 ∨ cl3.slots.size ≤ (i).toNatClampNeg) := inb_of S3 ⟨h1, h2⟩
 have hat3 : cl3.slots[(i).toNatClampNeg]? = some (.int (E.getD i.toNatClampNeg 0)) := Has.at H3 hin3 (own_gm E _)
 refine Go.st (X2.baloadBytes hx (j := i) (v := (.int (E.getD i.toNatClampNeg 0))) (by rw [e2]; exact Ar3.1) (State.isArrayOf_alike hZ.alike Ar3.2.1) Ar3.2.2 hin3 hat3 (g := (mkF mi 8 #[.val (.ref b), .val (.int i)] [(.int i), (.ref b)])) rfl rfl (hb hby dc5_8)) ?_
 refine g_sipush X2 hx hby dc5_9 (v := 255) rfl ?_
 refine g_iand X2 hx hby dc5_12 rfl ?_
 refine g_i2c X2 hx hby dc5_13 rfl ?_
 show Go _ _ _ (T2.setTop (mkF mi 14 #[.val (.ref b), .val (.int i)] [(.int (((E.getD i.toNatClampNeg 0) &&& (255 : Int32)).toUInt32.toUInt16.toUInt32.toInt32))])) _
 rw [i2c_mask]
 show Go _ _ _ (T2.setTop (mkF mi 14 #[.val (.ref b), .val (.int i)] [(.int ((E.getD i.toNatClampNeg 0) &&& (255 : Int32)))])) _
 obtain ⟨fs, hr, hrun, hended, hW, hsame⟩ := X2.leave (v := some (.int ((E.getD i.toNatClampNeg 0) &&& (255 : Int32)))) (fun h => by rw [Bd.returns] at h; cases h) (BodyLoose.notSynchronized Bd)
 refine ⟨_, _, ?_, hP _ _ ⟨hrun, hended, _, _, rfl, ?_, ⟨_, rfl⟩, hW, hsame.mono (by decide) (by decide)⟩⟩
 ·exact own_retN X2 hx (t := .char) Bd.returns (by simp) (i2c_mask _) (hb hby dc5_14) hr
 ·exact ⟨rfl, N2, e2⟩
theorem dc6_0 : Dk zb6 0 (.aload_n 0) 1 := by decide +kernel
theorem dc6_1 : Dk zb6 1 (.invokevirtual 492) 3 := by decide +kernel
theorem pd_3 : parseMethodDescriptor "()Z" = some ⟨[], some .boolean⟩ := by decide +kernel
theorem dc6_4 : Dk zb6 4 (.ifCond .eq 12) 3 := by decide +kernel
theorem dc6_7 : Dk zb6 7 (.aload_n 0) 1 := by decide +kernel
theorem dc6_8 : Dk zb6 8 (.getfield 9) 3 := by decide +kernel
theorem dc6_11 : Dk zb6 11 (.iload_n 1) 1 := by decide +kernel
theorem dc6_12 : Dk zb6 12 (.invokestatic 495) 3 := by decide +kernel
theorem pd_4 : parseMethodDescriptor "([BI)C" = some ⟨[(.array .byte), .int], some .char⟩ := by decide +kernel
theorem dc6_15 : Dk zb6 15 .ireturn 1 := by decide +kernel
theorem ef_rmCA (mi : MethodId) (o : Addr) (i : Int32) : entryFrame mi #[(.ref o), (.int i)] 2 = mkF mi 0 #[.val (.ref o), .val (.int i)] [] := by first | (simp [entryFrame, mkF, argsToLocals, Value.category]; done) | rfl
theorem rmCA (l : Launch) (Z : State) (a0 : Array Value) (hw : Tb Z a0) (ws : List Jvm.Cond) (o : Addr) (i : Int32) (b : Addr) (kb : ClassId) (n : Int32) (E : List Int32) (cz : Int32) (fm : Value) (h0 : Heap) (n0 : Nat) (Z0 : n0 ≤ h0.size) (SE : Exa Z h0 o "java/lang/String") (SCo : Fld Z h0 o "java/lang/String" "coder" "B" (.int (0 : Int32))) (SVa : Fld Z h0 o "java/lang/String" "value" "[B" (.ref b)) (SAr : Arv Z h0 b kb .byte n (E.map Value.int) (.int (0 : Int32))) (SEb : Exa Z h0 b "[B") (SC : Sta Z h0 "java/lang/String" "COMPACT_STRINGS" "Z" (.int cz)) (hcz : ¬ (cz = (0 : Int32))) (SF : Sta Z h0 "jdk/internal/util/Preconditions" "SIOOBE_FORMATTER" "Ljava/util/function/BiFunction;" fm) (hfm : fm.isRef = true) (h1 : ¬ (i < (0 : Int32))) (h2 : i < n) :
  Mt l Z zy6 zb6 2 (some .char) ws zR4 #[(.ref o), (.int i)] h0 (QP (some (.int ((E.getD i.toNatClampNeg 0) &&& (255 : Int32)))) h0 n0) := by
 refine MetFree.of_bodySF (plainFor_of_name pn_0) hisR ?_
 intro pg ev si mi args below meth ci s₁ Bd hml0 hP0 hK
 obtain ⟨rfl, hZ, hh⟩ := hP0
 have hx := Bd.exec
 have hby := Bd.bytes
 have hml : ci.maxLocals = 2 := hml0
 have hown : si.vm.findClass "java/lang/String" = some mi.cls := findClass_of_methodNamed Bd.named
 have hnm := (name_of_methodNamed Bd.named Bd.method).1
 have X0 : Stand pg l ev zR4 si mi #[(.ref o), (.int i)] below meth ci s₁ [] 0 0 := Stand.of_body Bd
 have e0 : s₁.heap = h0 := by rw [← hh, Bd.state]; rfl
 have N0 := Fr.nil n0
 refine Go.start (fun P hP => ?_)
 refine Go.st (fun t_ k_ => castTop (ef_rmCA mi o i) k_) (A := s₁.setTop (mkF mi 0 #[.val (.ref o), .val (.int i)] [])) ?_
 refine g_aloadN X0 hx hby dc6_0 rfl rfl ?_
 obtain ⟨cq1, kq1, q1a, q1b, q1c⟩ := isOf hZ e0 SE
 obtain ⟨_, _, ⟨T1, L1, k1, n1⟩, -, X1, ⟨Lc1, hQ1, l1, y1, z1⟩, st1⟩ := X0.virtualBack hx (y := zy2) (z := zy2) hown (mvT hZ (hw _ (own_m 56 rfl))) (mvT hZ (hw _ (own_m 57 rfl))) (notFace_of_selects (args := #[]) (mvT hZ (hw _ (own_m 59 rfl)))) (mvT hZ (hw _ (own_m 59 rfl))) (mvT hZ (hw _ (own_m 58 rfl))) (by decide) (backOf (W := 0) (rmL1 l Z a0 hw [] o cz h0 n0 Z0 SCo SC hcz) hZ (hw _ (own_m 60 rfl)) (hw _ (own_m 9 rfl)) (by decide) (by decide)) q1a q1c (g := (mkF mi 1 #[.val (.ref o), .val (.int i)] [(.ref o)])) rfl (by rw [hml]; rfl) (Steps.refl _) (argsL := []) (rest := []) (lenOf pd_3 rfl) rfl (by show 2 * 0 + _ ≤ _; exact Nat.le_of_eq rfl) (hb hby dc6_1) (fun _ _ => ⟨rfl, e0, (by decide : 0 + 0 ≤ _), (by decide : 0 + 0 ≤ _)⟩)
 dsimp only [Pt.U, Pt.locs, Pt.cells, Pt.slots] at X1 l1 y1 z1 st1 hQ1
 subst y1 z1
 have X1 := own_cs X1 (cells' := 0) (slots' := 0) rfl rfl
 obtain ⟨rfl, N1q, e1⟩ := hQ1
 have N1 := own_fr l1 (Fr.app N0 N1q)
 refine Go.tr st1 ?_
 refine g_ifNo X1 hx hby dc6_4 ((if0 _ _).trans (feq (by decide)).1) ?_
 refine g_aloadN X1 hx hby dc6_7 rfl rfl ?_
 obtain ⟨T2, X2, e2, st2⟩ := getF X1 hx hZ hown (host := "") (Or.inl (hw _ (own_m 35 rfl))) Via.refl e1 SVa (g := (mkF mi 8 #[.val (.ref o), .val (.int i)] [(.ref o)])) rfl rfl (hb hby dc6_8)
 refine Go.st st2 ?_
 refine g_iloadN X2 hx hby dc6_11 rfl ?_
 obtain ⟨_, _, ⟨T3, L3, k3, n3⟩, -, X3, ⟨Lc3, hQ3, l3, y3, z3⟩, st3⟩ := Jvm.LawKit.callS X2 hx (y := zy5) hown (mvT hZ (hw _ (own_m 110 rfl))) (mvT hZ (hw _ (own_m 111 rfl))) (mvT hZ (hw _ (own_m 73 rfl))) (mvT hZ (hw _ (own_m 112 rfl))) (by decide) (backOf (W := 0) (rmLC l Z a0 hw [] b i kb n E fm h0 n0 Z0 SAr SF hfm h1 h2) hZ (hw _ (own_m 112 rfl)) (hw _ (own_m 73 rfl)) (by decide) (by decide)) (g := (mkF mi 12 #[.val (.ref o), .val (.int i)] [(.int i), (.ref b)])) rfl (by rw [hml]; rfl) (argsL := [(.ref b), (.int i)]) (rest := []) (lenOf pd_4 rfl) rfl (by show 2 * 0 + _ ≤ _; exact Nat.le_of_eq rfl) (hb hby dc6_12) (fun _ _ => ⟨rfl, e2, (by decide : 0 + 0 ≤ _), (by decide : 0 + 0 ≤ _)⟩)
 dsimp only [Pt.U, Pt.locs, Pt.cells, Pt.slots] at X3 l3 y3 z3 st3 hQ3
 subst y3 z3
 have X3 := own_cs X3 (cells' := 0) (slots' := 0) rfl rfl
 obtain ⟨rfl, N3q, e3⟩ := hQ3
 have N3 := own_fr l3 (Fr.app N1 N3q)
 refine Go.st st3 ?_
 obtain ⟨fs, hr, hrun, hended, hW, hsame⟩ := X3.leave (v := some (.int ((E.getD i.toNatClampNeg 0) &&& (255 : Int32)))) (fun h => by rw [Bd.returns] at h; cases h) (BodyLoose.notSynchronized Bd)
 refine ⟨_, _, ?_, hP _ _ ⟨hrun, hended, _, _, rfl, ?_, ⟨_, rfl⟩, hW, hsame.mono (by decide) (by decide)⟩⟩
 ·exact own_retN X3 hx (t := .char) Bd.returns (by simp) (i2c_mask _) (hb hby dc6_15) hr
 ·exact ⟨rfl, N3, e3⟩
theorem dc7_0 : Dk zb7 0 (.iload_n 0) 1 := by decide +kernel
theorem dc7_1 : Dk zb7 1 (.iload_n 1) 1 := by decide +kernel
theorem dc7_2 : Dk zb7 2 (.if_icmp .lt 7) 3 := by decide +kernel
theorem dc7_9 : Dk zb7 9 (.iload_n 1) 1 := by decide +kernel
theorem dc7_10 : Dk zb7 10 .ireturn 1 := by decide +kernel
theorem dc7_5 : Dk zb7 5 (.iload_n 0) 1 := by decide +kernel
theorem dc7_6 : Dk zb7 6 (.goto 4) 3 := by decide +kernel
theorem ef_rmMax (mi : MethodId) (a : Int32) (b : Int32) : entryFrame mi #[(.int a), (.int b)] 2 = mkF mi 0 #[.val (.int a), .val (.int b)] [] := by first | (simp [entryFrame, mkF, argsToLocals, Value.category]; done) | rfl
def fMax (a : Int32) (b : Int32) : Int32 := (if a < b then b else a)
theorem rmMax (l : Launch) (Z : State) (a0 : Array Value) (hw : Tb Z a0) (ws : List Jvm.Cond) (a : Int32) (b : Int32) (h0 : Heap) (n0 : Nat) (Z0 : n0 ≤ h0.size) :
  Mt l Z zy7 zb7 2 (some .int) ws zR0 #[(.int a), (.int b)] h0 (QP (some (.int (fMax a b))) h0 n0) := by
 refine MetFree.of_bodySF (Jvm.Free.JP.mathPlain rfl (by decide +kernel)) hisR ?_
 intro pg ev si mi args below meth ci s₁ Bd hml0 hP0 hK
 obtain ⟨rfl, hZ, hh⟩ := hP0
 have hx := Bd.exec
 have hby := Bd.bytes
 have hml : ci.maxLocals = 2 := hml0
 have hown : si.vm.findClass "java/lang/Math" = some mi.cls := findClass_of_methodNamed Bd.named
 have hnm := (name_of_methodNamed Bd.named Bd.method).1
 have X0 : Stand pg l ev zR0 si mi #[(.int a), (.int b)] below meth ci s₁ [] 0 0 := Stand.of_body Bd
 have e0 : s₁.heap = h0 := by rw [← hh, Bd.state]; rfl
 have N0 := Fr.nil n0
 refine Go.start (fun P hP => ?_)
 refine Go.st (fun t_ k_ => castTop (ef_rmMax mi a b) k_) (A := s₁.setTop (mkF mi 0 #[.val (.int a), .val (.int b)] [])) ?_
 refine g_iloadN X0 hx hby dc7_0 rfl ?_
 refine g_iloadN X0 hx hby dc7_1 rfl ?_
 by_cases hc2_1 : a < b
 ·refine g_icmpYes X0 hx hby dc7_2 (tlt hc2_1).1 (pc0 := 2) (pc' := 9) rfl (by decide) (by decide) ?_
  refine g_iloadN X0 hx hby dc7_9 rfl ?_
  obtain ⟨fs, hr, hrun, hended, hW, hsame⟩ := X0.leave (v := some (.int b)) (fun h => by rw [Bd.returns] at h; cases h) (BodyLoose.notSynchronized Bd)
  refine ⟨_, _, ?_, hP _ _ ⟨hrun, hended, _, _, rfl, ?_, ⟨_, rfl⟩, hW, hsame.mono (by decide) (by decide)⟩⟩
  ·exact retI X0 hx Bd.returns (hb hby dc7_10) hr
  ·exact ⟨by rw [show fMax a b = b from ((if_pos hc2_1).trans rfl)], N0, e0⟩
 ·refine g_icmpNo X0 hx hby dc7_2 (flt hc2_1).1 ?_
  refine g_iloadN X0 hx hby dc7_5 rfl ?_
  refine g_goto X0 hx hby dc7_6 (pc0 := 6) (pc' := 10) rfl (by decide) (by decide) ?_
  obtain ⟨fs, hr, hrun, hended, hW, hsame⟩ := X0.leave (v := some (.int a)) (fun h => by rw [Bd.returns] at h; cases h) (BodyLoose.notSynchronized Bd)
  refine ⟨_, _, ?_, hP _ _ ⟨hrun, hended, _, _, rfl, ?_, ⟨_, rfl⟩, hW, hsame.mono (by decide) (by decide)⟩⟩
  ·exact retI X0 hx Bd.returns (hb hby dc7_10) hr
  ·exact ⟨by rw [show fMax a b = a from ((if_neg hc2_1).trans rfl)], N0, e0⟩
theorem dc8_0 : Dk zb8 0 (.iload_n 0) 1 := by decide +kernel
theorem dc8_1 : Dk zb8 1 (.iload_n 1) 1 := by decide +kernel
theorem dc8_2 : Dk zb8 2 (.if_icmp .gt 7) 3 := by decide +kernel
theorem dc8_9 : Dk zb8 9 (.iload_n 1) 1 := by decide +kernel
theorem dc8_10 : Dk zb8 10 .ireturn 1 := by decide +kernel
theorem dc8_5 : Dk zb8 5 (.iload_n 0) 1 := by decide +kernel
theorem dc8_6 : Dk zb8 6 (.goto 4) 3 := by decide +kernel
theorem ef_rmMin (mi : MethodId) (a : Int32) (b : Int32) : entryFrame mi #[(.int a), (.int b)] 2 = mkF mi 0 #[.val (.int a), .val (.int b)] [] := by first | (simp [entryFrame, mkF, argsToLocals, Value.category]; done) | rfl
def fMin (a : Int32) (b : Int32) : Int32 := (if b < a then b else a)
theorem rmMin (l : Launch) (Z : State) (a0 : Array Value) (hw : Tb Z a0) (ws : List Jvm.Cond) (a : Int32) (b : Int32) (h0 : Heap) (n0 : Nat) (Z0 : n0 ≤ h0.size) :
  Mt l Z zy8 zb8 2 (some .int) ws zR0 #[(.int a), (.int b)] h0 (QP (some (.int (fMin a b))) h0 n0) := by
 refine MetFree.of_bodySF (Jvm.Free.JP.mathPlain rfl (by decide +kernel)) hisR ?_
 intro pg ev si mi args below meth ci s₁ Bd hml0 hP0 hK
 obtain ⟨rfl, hZ, hh⟩ := hP0
 have hx := Bd.exec
 have hby := Bd.bytes
 have hml : ci.maxLocals = 2 := hml0
 have hown : si.vm.findClass "java/lang/Math" = some mi.cls := findClass_of_methodNamed Bd.named
 have hnm := (name_of_methodNamed Bd.named Bd.method).1
 have X0 : Stand pg l ev zR0 si mi #[(.int a), (.int b)] below meth ci s₁ [] 0 0 := Stand.of_body Bd
 have e0 : s₁.heap = h0 := by rw [← hh, Bd.state]; rfl
 have N0 := Fr.nil n0
 refine Go.start (fun P hP => ?_)
 refine Go.st (fun t_ k_ => castTop (ef_rmMin mi a b) k_) (A := s₁.setTop (mkF mi 0 #[.val (.int a), .val (.int b)] [])) ?_
 refine g_iloadN X0 hx hby dc8_0 rfl ?_
 refine g_iloadN X0 hx hby dc8_1 rfl ?_
 by_cases hc2_1 : b < a
 ·refine g_icmpYes X0 hx hby dc8_2 (tlt hc2_1).2.2.1 (pc0 := 2) (pc' := 9) rfl (by decide) (by decide) ?_
  refine g_iloadN X0 hx hby dc8_9 rfl ?_
  obtain ⟨fs, hr, hrun, hended, hW, hsame⟩ := X0.leave (v := some (.int b)) (fun h => by rw [Bd.returns] at h; cases h) (BodyLoose.notSynchronized Bd)
  refine ⟨_, _, ?_, hP _ _ ⟨hrun, hended, _, _, rfl, ?_, ⟨_, rfl⟩, hW, hsame.mono (by decide) (by decide)⟩⟩
  ·exact retI X0 hx Bd.returns (hb hby dc8_10) hr
  ·exact ⟨by rw [show fMin a b = b from ((if_pos hc2_1).trans rfl)], N0, e0⟩
 ·refine g_icmpNo X0 hx hby dc8_2 (flt hc2_1).2.2.1 ?_
  refine g_iloadN X0 hx hby dc8_5 rfl ?_
  refine g_goto X0 hx hby dc8_6 (pc0 := 6) (pc' := 10) rfl (by decide) (by decide) ?_
  obtain ⟨fs, hr, hrun, hended, hW, hsame⟩ := X0.leave (v := some (.int a)) (fun h => by rw [Bd.returns] at h; cases h) (BodyLoose.notSynchronized Bd)
  refine ⟨_, _, ?_, hP _ _ ⟨hrun, hended, _, _, rfl, ?_, ⟨_, rfl⟩, hW, hsame.mono (by decide) (by decide)⟩⟩
  ·exact retI X0 hx Bd.returns (hb hby dc8_10) hr
  ·exact ⟨by rw [show fMin a b = a from ((if_neg hc2_1).trans rfl)], N0, e0⟩
theorem dc9_0 : Dk zb9 0 (.iload_n 0) 1 := by decide +kernel
theorem dc9_1 : Dk zb9 1 (.ifCond .lt 14) 3 := by decide +kernel
theorem dc9_15 : Dk zb9 15 (.iconst 0) 1 := by decide +kernel
theorem dc9_16 : Dk zb9 16 .ireturn 1 := by decide +kernel
theorem dc9_4 : Dk zb9 4 (.iload_n 0) 1 := by decide +kernel
theorem dc9_5 : Dk zb9 5 (.sipush 255) 3 := by decide +kernel
theorem dc9_8 : Dk zb9 8 (.if_icmp .gt 7) 3 := by decide +kernel
theorem dc9_11 : Dk zb9 11 (.iconst 1) 1 := by decide +kernel
theorem dc9_12 : Dk zb9 12 (.goto 4) 3 := by decide +kernel
theorem ef_rmCan (mi : MethodId) (c : Int32) : entryFrame mi #[(.int c)] 1 = mkF mi 0 #[.val (.int c)] [] := by first | (simp [entryFrame, mkF, argsToLocals, Value.category]; done) | rfl
def fCan (c : Int32) : Int32 := (if c < (0 : Int32) then (0 : Int32) else (if (255 : Int32) < c then (0 : Int32) else (1 : Int32)))
theorem rmCan (l : Launch) (Z : State) (a0 : Array Value) (hw : Tb Z a0) (ws : List Jvm.Cond) (c : Int32) (h0 : Heap) (n0 : Nat) (Z0 : n0 ≤ h0.size) :
  Mt l Z zy9 zb9 1 (some .boolean) ws zR0 #[(.int c)] h0 (QP (some (.int (fCan c))) h0 n0) := by
 refine MetFree.of_bodySF (plainFor_of_name pn_2) hisR ?_
 intro pg ev si mi args below meth ci s₁ Bd hml0 hP0 hK
 obtain ⟨rfl, hZ, hh⟩ := hP0
 have hx := Bd.exec
 have hby := Bd.bytes
 have hml : ci.maxLocals = 1 := hml0
 have hown : si.vm.findClass "java/lang/StringLatin1" = some mi.cls := findClass_of_methodNamed Bd.named
 have hnm := (name_of_methodNamed Bd.named Bd.method).1
 have X0 : Stand pg l ev zR0 si mi #[(.int c)] below meth ci s₁ [] 0 0 := Stand.of_body Bd
 have e0 : s₁.heap = h0 := by rw [← hh, Bd.state]; rfl
 have N0 := Fr.nil n0
 refine Go.start (fun P hP => ?_)
 refine Go.st (fun t_ k_ => castTop (ef_rmCan mi c) k_) (A := s₁.setTop (mkF mi 0 #[.val (.int c)] [])) ?_
 refine g_iloadN X0 hx hby dc9_0 rfl ?_
 by_cases hc1_1 : c < (0 : Int32)
 ·refine g_ifYes X0 hx hby dc9_1 ((if0 _ _).trans (tlt hc1_1).1) (pc0 := 1) (pc' := 15) rfl (by decide) (by decide) ?_
  refine g_iconst X0 hx hby dc9_15 (v := 0) rfl ?_
  obtain ⟨fs, hr, hrun, hended, hW, hsame⟩ := X0.leave (v := some (.int 0)) (fun h => by rw [Bd.returns] at h; cases h) (BodyLoose.notSynchronized Bd)
  refine ⟨_, _, ?_, hP _ _ ⟨hrun, hended, _, _, rfl, ?_, ⟨_, rfl⟩, hW, hsame.mono (by decide) (by decide)⟩⟩
  ·exact retN X0 hx (t := .boolean) Bd.returns (by simp) (hb hby dc9_16) hr
  ·exact ⟨by rw [show fCan c = (0 : Int32) from ((if_pos hc1_1).trans rfl)], N0, e0⟩
 ·refine g_ifNo X0 hx hby dc9_1 ((if0 _ _).trans (flt hc1_1).1) ?_
  refine g_iloadN X0 hx hby dc9_4 rfl ?_
  refine g_sipush X0 hx hby dc9_5 (v := 255) rfl ?_
  have dm1 : ∀ t_, Steps pg.tables ev below (s₁.setTop (mkF mi 16 #[.val (.int c)] [(.int (if (255 : Int32) < c then (0 : Int32) else (1 : Int32)))])) t_ → Steps pg.tables ev below (s₁.setTop (mkF mi 8 #[.val (.int c)] [(.int 255), (.int c)])) t_ := by
   intro t_ k_
   by_cases hd : (255 : Int32) < c
   ·refine XS.icmpYes X0.here hx rfl (pc0 := 8) (pc' := 15) rfl (hb hby dc9_8) rfl (tlt hd).2.2.1 (by decide) (by decide) ?_
    refine XS.iconst X0.here hx rfl (hb hby dc9_15) ?_
    show Steps _ _ _ (s₁.setTop (mkF mi 16 #[.val (.int c)] [(.int 0)])) t_
    exact own_cst (if_pos hd) k_
   ·refine XS.icmpNo X0.here hx rfl (hb hby dc9_8) rfl (flt hd).2.2.1 ?_
    refine XS.iconst X0.here hx rfl (hb hby dc9_11) ?_
    refine XS.goto X0.here hx rfl (pc0 := 12) (pc' := 16) rfl (hb hby dc9_12) (by decide) (by decide) ?_
    show Steps _ _ _ (s₁.setTop (mkF mi 16 #[.val (.int c)] [(.int 1)])) t_
    exact own_cst (if_neg hd) k_
  refine Go.st dm1 ?_
  show Go _ _ _ (s₁.setTop (mkF mi 16 #[.val (.int c)] [(.int (if (255 : Int32) < c then (0 : Int32) else (1 : Int32)))])) _
  obtain ⟨fs, hr, hrun, hended, hW, hsame⟩ := X0.leave (v := some (.int (if (255 : Int32) < c then (0 : Int32) else (1 : Int32)))) (fun h => by rw [Bd.returns] at h; cases h) (BodyLoose.notSynchronized Bd)
  refine ⟨_, _, ?_, hP _ _ ⟨hrun, hended, _, _, rfl, ?_, ⟨_, rfl⟩, hW, hsame.mono (by decide) (by decide)⟩⟩
  ·exact own_retN X0 hx (t := .boolean) Bd.returns (by simp) (own_nb rfl rfl) (hb hby dc9_16) hr
  ·exact ⟨by rw [show fCan c = (if (255 : Int32) < c then (0 : Int32) else (1 : Int32)) from ((if_neg hc1_1).trans rfl)], N0, e0⟩
theorem dc10_0 : Dk zb10 0 (.iload_n 0) 1 := by decide +kernel
theorem dc10_1 : Dk zb10 1 (.bipush 7) 2 := by decide +kernel
theorem dc10_3 : Dk zb10 3 .iand 1 := by decide +kernel
theorem dc10_4 : Dk zb10 4 (.istore_n 1) 1 := by decide +kernel
theorem dc10_5 : Dk zb10 5 (.iload_n 1) 1 := by decide +kernel
theorem dc10_6 : Dk zb10 6 (.ifCond .ne 6) 3 := by decide +kernel
theorem dc10_9 : Dk zb10 9 (.bipush 47) 2 := by decide +kernel
theorem dc10_11 : Dk zb10 11 .ireturn 1 := by decide +kernel
theorem dc10_12 : Dk zb10 12 (.iload_n 1) 1 := by decide +kernel
theorem dc10_13 : Dk zb10 13 (.iconst 1) 1 := by decide +kernel
theorem dc10_14 : Dk zb10 14 (.if_icmp .ne 6) 3 := by decide +kernel
theorem dc10_17 : Dk zb10 17 (.bipush 43) 2 := by decide +kernel
theorem dc10_19 : Dk zb10 19 .ireturn 1 := by decide +kernel
theorem dc10_20 : Dk zb10 20 (.iload_n 1) 1 := by decide +kernel
theorem dc10_21 : Dk zb10 21 (.iconst 2) 1 := by decide +kernel
theorem dc10_22 : Dk zb10 22 (.if_icmp .ne 6) 3 := by decide +kernel
theorem dc10_25 : Dk zb10 25 (.bipush 35) 2 := by decide +kernel
theorem dc10_27 : Dk zb10 27 .ireturn 1 := by decide +kernel
theorem dc10_28 : Dk zb10 28 (.iload_n 1) 1 := by decide +kernel
theorem dc10_29 : Dk zb10 29 (.iconst 3) 1 := by decide +kernel
theorem dc10_30 : Dk zb10 30 (.if_icmp .ne 6) 3 := by decide +kernel
theorem dc10_33 : Dk zb10 33 (.bipush 97) 2 := by decide +kernel
theorem dc10_35 : Dk zb10 35 .ireturn 1 := by decide +kernel
theorem dc10_36 : Dk zb10 36 (.iload_n 0) 1 := by decide +kernel
theorem dc10_37 : Dk zb10 37 (.iconst 3) 1 := by decide +kernel
theorem dc10_38 : Dk zb10 38 .iushr 1 := by decide +kernel
theorem dc10_39 : Dk zb10 39 (.sipush 255) 3 := by decide +kernel
theorem dc10_42 : Dk zb10 42 .iand 1 := by decide +kernel
theorem dc10_43 : Dk zb10 43 .i2c 1 := by decide +kernel
theorem dc10_44 : Dk zb10 44 .ireturn 1 := by decide +kernel
theorem pn_3 : plainName "com/example/corduroy/corduroy/TopicsHasWildcardPinLaw" = true := by first | (simp [plainName, overriddenIn]; done) | decide +kernel
theorem ef_rmPk (mi : MethodId) (a : Int32) : entryFrame mi #[(.int a)] 2 = mkF mi 0 #[.val (.int a), .unset] [] := by first | (simp [entryFrame, mkF, argsToLocals, Value.category]; done) | rfl
def fPk (a : Int32) : Int32 := (if (a &&& (7 : Int32)) = (0 : Int32) then (47 : Int32) else (if (a &&& (7 : Int32)) = (1 : Int32) then (43 : Int32) else (if (a &&& (7 : Int32)) = (2 : Int32) then (35 : Int32) else (if (a &&& (7 : Int32)) = (3 : Int32) then (97 : Int32) else (((((a.toUInt32 >>> ((3 : Int32) &&& 31).toUInt32).toInt32) &&& (255 : Int32)).toUInt32.toUInt16.toUInt32.toInt32).toUInt32.toUInt16.toUInt32.toInt32)))))
theorem rmPk (l : Launch) (Z : State) (a0 : Array Value) (hw : Tb Z a0) (ws : List Jvm.Cond) (a : Int32) (h0 : Heap) (n0 : Nat) (Z0 : n0 ≤ h0.size) :
  Mt l Z zy10 zb10 2 (some .char) ws zR0 #[(.int a)] h0 (QP (some (.int (fPk a))) h0 n0) := by
 refine MetFree.of_bodySF (plainFor_of_name pn_3) hisR ?_
 intro pg ev si mi args below meth ci s₁ Bd hml0 hP0 hK
 obtain ⟨rfl, hZ, hh⟩ := hP0
 have hx := Bd.exec
 have hby := Bd.bytes
 have hml : ci.maxLocals = 2 := hml0
 have hown : si.vm.findClass "com/example/corduroy/corduroy/TopicsHasWildcardPinLaw" = some mi.cls := findClass_of_methodNamed Bd.named
 have hnm := (name_of_methodNamed Bd.named Bd.method).1
 have X0 : Stand pg l ev zR0 si mi #[(.int a)] below meth ci s₁ [] 0 0 := Stand.of_body Bd
 have e0 : s₁.heap = h0 := by rw [← hh, Bd.state]; rfl
 have N0 := Fr.nil n0
 refine Go.start (fun P hP => ?_)
 refine Go.st (fun t_ k_ => castTop (ef_rmPk mi a) k_) (A := s₁.setTop (mkF mi 0 #[.val (.int a), .unset] [])) ?_
 refine g_iloadN X0 hx hby dc10_0 rfl ?_
 refine g_bipush X0 hx hby dc10_1 (v := 7) rfl ?_
 refine g_iand X0 hx hby dc10_3 rfl ?_
 refine g_istoreN X0 hx hby dc10_4 (l' := #[.val (.int a), .val (.int (a &&& (7 : Int32)))]) rfl ?_
 refine g_iloadN X0 hx hby dc10_5 rfl ?_
 by_cases hc6_1 : (a &&& (7 : Int32)) = (0 : Int32)
 ·refine g_ifNo X0 hx hby dc10_6 ((if0 _ _).trans (teq hc6_1).2) ?_
  refine g_bipush X0 hx hby dc10_9 (v := 47) rfl ?_
  obtain ⟨fs, hr, hrun, hended, hW, hsame⟩ := X0.leave (v := some (.int 47)) (fun h => by rw [Bd.returns] at h; cases h) (BodyLoose.notSynchronized Bd)
  refine ⟨_, _, ?_, hP _ _ ⟨hrun, hended, _, _, rfl, ?_, ⟨_, rfl⟩, hW, hsame.mono (by decide) (by decide)⟩⟩
  ·exact retN X0 hx (t := .char) Bd.returns (by simp) (hb hby dc10_11) hr
  ·exact ⟨by rw [show fPk a = (47 : Int32) from ((if_pos hc6_1).trans rfl)], N0, e0⟩
 ·refine g_ifYes X0 hx hby dc10_6 ((if0 _ _).trans (feq hc6_1).2) (pc0 := 6) (pc' := 12) rfl (by decide) (by decide) ?_
  refine g_iloadN X0 hx hby dc10_12 rfl ?_
  refine g_iconst X0 hx hby dc10_13 (v := 1) rfl ?_
  by_cases hc14_2 : (a &&& (7 : Int32)) = (1 : Int32)
  ·refine g_icmpNo X0 hx hby dc10_14 (teq hc14_2).2 ?_
   refine g_bipush X0 hx hby dc10_17 (v := 43) rfl ?_
   obtain ⟨fs, hr, hrun, hended, hW, hsame⟩ := X0.leave (v := some (.int 43)) (fun h => by rw [Bd.returns] at h; cases h) (BodyLoose.notSynchronized Bd)
   refine ⟨_, _, ?_, hP _ _ ⟨hrun, hended, _, _, rfl, ?_, ⟨_, rfl⟩, hW, hsame.mono (by decide) (by decide)⟩⟩
   ·exact retN X0 hx (t := .char) Bd.returns (by simp) (hb hby dc10_19) hr
   ·exact ⟨by rw [show fPk a = (43 : Int32) from ((if_neg hc6_1).trans ((if_pos hc14_2).trans rfl))], N0, e0⟩
  ·refine g_icmpYes X0 hx hby dc10_14 (feq hc14_2).2 (pc0 := 14) (pc' := 20) rfl (by decide) (by decide) ?_
   refine g_iloadN X0 hx hby dc10_20 rfl ?_
   refine g_iconst X0 hx hby dc10_21 (v := 2) rfl ?_
   by_cases hc22_3 : (a &&& (7 : Int32)) = (2 : Int32)
   ·refine g_icmpNo X0 hx hby dc10_22 (teq hc22_3).2 ?_
    refine g_bipush X0 hx hby dc10_25 (v := 35) rfl ?_
    obtain ⟨fs, hr, hrun, hended, hW, hsame⟩ := X0.leave (v := some (.int 35)) (fun h => by rw [Bd.returns] at h; cases h) (BodyLoose.notSynchronized Bd)
    refine ⟨_, _, ?_, hP _ _ ⟨hrun, hended, _, _, rfl, ?_, ⟨_, rfl⟩, hW, hsame.mono (by decide) (by decide)⟩⟩
    ·exact retN X0 hx (t := .char) Bd.returns (by simp) (hb hby dc10_27) hr
    ·exact ⟨by rw [show fPk a = (35 : Int32) from ((if_neg hc6_1).trans ((if_neg hc14_2).trans ((if_pos hc22_3).trans rfl)))], N0, e0⟩
   ·refine g_icmpYes X0 hx hby dc10_22 (feq hc22_3).2 (pc0 := 22) (pc' := 28) rfl (by decide) (by decide) ?_
    refine g_iloadN X0 hx hby dc10_28 rfl ?_
    refine g_iconst X0 hx hby dc10_29 (v := 3) rfl ?_
    by_cases hc30_4 : (a &&& (7 : Int32)) = (3 : Int32)
    ·refine g_icmpNo X0 hx hby dc10_30 (teq hc30_4).2 ?_
     refine g_bipush X0 hx hby dc10_33 (v := 97) rfl ?_
     obtain ⟨fs, hr, hrun, hended, hW, hsame⟩ := X0.leave (v := some (.int 97)) (fun h => by rw [Bd.returns] at h; cases h) (BodyLoose.notSynchronized Bd)
     refine ⟨_, _, ?_, hP _ _ ⟨hrun, hended, _, _, rfl, ?_, ⟨_, rfl⟩, hW, hsame.mono (by decide) (by decide)⟩⟩
     ·exact retN X0 hx (t := .char) Bd.returns (by simp) (hb hby dc10_35) hr
     ·exact ⟨by rw [show fPk a = (97 : Int32) from ((if_neg hc6_1).trans ((if_neg hc14_2).trans ((if_neg hc22_3).trans ((if_pos hc30_4).trans rfl))))], N0, e0⟩
    ·refine g_icmpYes X0 hx hby dc10_30 (feq hc30_4).2 (pc0 := 30) (pc' := 36) rfl (by decide) (by decide) ?_
     refine g_iloadN X0 hx hby dc10_36 rfl ?_
     refine g_iconst X0 hx hby dc10_37 (v := 3) rfl ?_
     refine Go.s (XS.iushr X0.here hx rfl (hb hby dc10_38) rfl) ?_
     show Go _ _ _ (s₁.setTop (mkF mi 39 #[.val (.int a), .val (.int (a &&& (7 : Int32)))] [(.int ((a.toUInt32 >>> ((3 : Int32) &&& 31).toUInt32).toInt32))])) _
     refine g_sipush X0 hx hby dc10_39 (v := 255) rfl ?_
     refine g_iand X0 hx hby dc10_42 rfl ?_
     refine g_i2c X0 hx hby dc10_43 rfl ?_
     obtain ⟨fs, hr, hrun, hended, hW, hsame⟩ := X0.leave (v := some (.int (((((a.toUInt32 >>> ((3 : Int32) &&& 31).toUInt32).toInt32) &&& (255 : Int32)).toUInt32.toUInt16.toUInt32.toInt32).toUInt32.toUInt16.toUInt32.toInt32))) (fun h => by rw [Bd.returns] at h; cases h) (BodyLoose.notSynchronized Bd)
     refine ⟨_, _, ?_, hP _ _ ⟨hrun, hended, _, _, rfl, ?_, ⟨_, rfl⟩, hW, hsame.mono (by decide) (by decide)⟩⟩
     ·exact retN X0 hx (t := .char) Bd.returns (by simp) (hb hby dc10_44) hr
     ·exact ⟨by rw [show fPk a = (((((a.toUInt32 >>> ((3 : Int32) &&& 31).toUInt32).toInt32) &&& (255 : Int32)).toUInt32.toUInt16.toUInt32.toInt32).toUInt32.toUInt16.toUInt32.toInt32) from ((if_neg hc6_1).trans ((if_neg hc14_2).trans ((if_neg hc22_3).trans ((if_neg hc30_4).trans rfl))))], N0, e0⟩
theorem dc11_0 : Dk zb11 0 (.iload_n 1) 1 := by decide +kernel
theorem dc11_1 : Dk zb11 1 (.iload_n 0) 1 := by decide +kernel
theorem dc11_2 : Dk zb11 2 (.if_icmp .lt 5) 3 := by decide +kernel
theorem dc11_7 : Dk zb11 7 (.iload_n 3) 1 := by decide +kernel
theorem dc11_8 : Dk zb11 8 (.bipush 43) 2 := by decide +kernel
theorem dc11_10 : Dk zb11 10 (.if_icmp .eq 11) 3 := by decide +kernel
theorem dc11_21 : Dk zb11 21 (.iload_n 1) 1 := by decide +kernel
theorem dc11_22 : Dk zb11 22 (.ifCond .eq 9) 3 := by decide +kernel
theorem dc11_31 : Dk zb11 31 (.iconst 1) 1 := by decide +kernel
theorem dc11_32 : Dk zb11 32 (.goto 4) 3 := by decide +kernel
theorem dc11_36 : Dk zb11 36 (.istore 5) 2 := by decide +kernel
theorem dc11_38 : Dk zb11 38 (.iload_n 1) 1 := by decide +kernel
theorem dc11_39 : Dk zb11 39 (.iload_n 0) 1 := by decide +kernel
theorem dc11_40 : Dk zb11 40 (.iconst 1) 1 := by decide +kernel
theorem dc11_41 : Dk zb11 41 .isub 1 := by decide +kernel
theorem dc11_42 : Dk zb11 42 (.if_icmp .eq 10) 3 := by decide +kernel
theorem dc11_52 : Dk zb11 52 (.iconst 1) 1 := by decide +kernel
theorem dc11_53 : Dk zb11 53 (.goto 4) 3 := by decide +kernel
theorem dc11_57 : Dk zb11 57 (.istore 6) 2 := by decide +kernel
theorem dc11_59 : Dk zb11 59 (.iload 5) 2 := by decide +kernel
theorem dc11_61 : Dk zb11 61 (.ifCond .eq 12) 3 := by decide +kernel
theorem dc11_64 : Dk zb11 64 (.iload 6) 2 := by decide +kernel
theorem dc11_66 : Dk zb11 66 (.ifCond .eq 7) 3 := by decide +kernel
theorem dc11_69 : Dk zb11 69 (.iconst 1) 1 := by decide +kernel
theorem dc11_70 : Dk zb11 70 (.goto 4) 3 := by decide +kernel
theorem dc11_74 : Dk zb11 74 .ireturn 1 := by decide +kernel
theorem dc11_45 : Dk zb11 45 (.iload 4) 2 := by decide +kernel
theorem dc11_47 : Dk zb11 47 (.bipush 47) 2 := by decide +kernel
theorem dc11_49 : Dk zb11 49 (.if_icmp .ne 7) 3 := by decide +kernel
theorem dc11_56 : Dk zb11 56 (.iconst 0) 1 := by decide +kernel
theorem dc11_73 : Dk zb11 73 (.iconst 0) 1 := by decide +kernel
theorem dc11_25 : Dk zb11 25 (.iload_n 2) 1 := by decide +kernel
theorem dc11_26 : Dk zb11 26 (.bipush 47) 2 := by decide +kernel
theorem dc11_28 : Dk zb11 28 (.if_icmp .ne 7) 3 := by decide +kernel
theorem dc11_35 : Dk zb11 35 (.iconst 0) 1 := by decide +kernel
theorem dc11_13 : Dk zb11 13 (.iload_n 3) 1 := by decide +kernel
theorem dc11_14 : Dk zb11 14 (.bipush 35) 2 := by decide +kernel
theorem dc11_16 : Dk zb11 16 (.if_icmp .eq 5) 3 := by decide +kernel
theorem dc11_19 : Dk zb11 19 (.iconst 0) 1 := by decide +kernel
theorem dc11_20 : Dk zb11 20 .ireturn 1 := by decide +kernel
theorem dc11_5 : Dk zb11 5 (.iconst 0) 1 := by decide +kernel
theorem dc11_6 : Dk zb11 6 .ireturn 1 := by decide +kernel
theorem ef_rmWi (mi : MethodId) (n : Int32) (i : Int32) (x : Int32) (y : Int32) (z : Int32) : entryFrame mi #[(.int n), (.int i), (.int x), (.int y), (.int z)] 7 = mkF mi 0 #[.val (.int n), .val (.int i), .val (.int x), .val (.int y), .val (.int z), .unset, .unset] [] := by first | (simp [entryFrame, mkF, argsToLocals, Value.category]; done) | rfl
def fWi (n : Int32) (i : Int32) (x : Int32) (y : Int32) (z : Int32) : Int32 := (if i < n then (if y = (43 : Int32) then (if i = (0 : Int32) then (if i = (n - (1 : Int32)) then (1 : Int32) else (if z = (47 : Int32) then (1 : Int32) else (0 : Int32))) else (if i = (n - (1 : Int32)) then (if x = (47 : Int32) then (1 : Int32) else (0 : Int32)) else (if x = (47 : Int32) then (if z = (47 : Int32) then (1 : Int32) else (0 : Int32)) else (0 : Int32)))) else (if y = (35 : Int32) then (if i = (0 : Int32) then (if i = (n - (1 : Int32)) then (1 : Int32) else (if z = (47 : Int32) then (1 : Int32) else (0 : Int32))) else (if i = (n - (1 : Int32)) then (if x = (47 : Int32) then (1 : Int32) else (0 : Int32)) else (if x = (47 : Int32) then (if z = (47 : Int32) then (1 : Int32) else (0 : Int32)) else (0 : Int32)))) else (0 : Int32))) else (0 : Int32))
theorem rmWi (l : Launch) (Z : State) (a0 : Array Value) (hw : Tb Z a0) (ws : List Jvm.Cond) (n : Int32) (i : Int32) (x : Int32) (y : Int32) (z : Int32) (h0 : Heap) (n0 : Nat) (Z0 : n0 ≤ h0.size) :
  Mt l Z zy11 zb11 7 (some .boolean) ws zR0 #[(.int n), (.int i), (.int x), (.int y), (.int z)] h0 (QP (some (.int (fWi n i x y z))) h0 n0) := by
 refine MetFree.of_bodySF (plainFor_of_name pn_3) hisR ?_
 intro pg ev si mi args below meth ci s₁ Bd hml0 hP0 hK
 obtain ⟨rfl, hZ, hh⟩ := hP0
 have hx := Bd.exec
 have hby := Bd.bytes
 have hml : ci.maxLocals = 7 := hml0
 have hown : si.vm.findClass "com/example/corduroy/corduroy/TopicsHasWildcardPinLaw" = some mi.cls := findClass_of_methodNamed Bd.named
 have hnm := (name_of_methodNamed Bd.named Bd.method).1
 have X0 : Stand pg l ev zR0 si mi #[(.int n), (.int i), (.int x), (.int y), (.int z)] below meth ci s₁ [] 0 0 := Stand.of_body Bd
 have e0 : s₁.heap = h0 := by rw [← hh, Bd.state]; rfl
 have N0 := Fr.nil n0
 refine Go.start (fun P hP => ?_)
 refine Go.st (fun t_ k_ => castTop (ef_rmWi mi n i x y z) k_) (A := s₁.setTop (mkF mi 0 #[.val (.int n), .val (.int i), .val (.int x), .val (.int y), .val (.int z), .unset, .unset] [])) ?_
 refine g_iloadN X0 hx hby dc11_0 rfl ?_
 refine g_iloadN X0 hx hby dc11_1 rfl ?_
 by_cases hc2_1 : i < n
 ·refine g_icmpYes X0 hx hby dc11_2 (tlt hc2_1).1 (pc0 := 2) (pc' := 7) rfl (by decide) (by decide) ?_
  refine g_iloadN X0 hx hby dc11_7 rfl ?_
  refine g_bipush X0 hx hby dc11_8 (v := 43) rfl ?_
  by_cases hc10_2 : y = (43 : Int32)
  ·refine g_icmpYes X0 hx hby dc11_10 (teq hc10_2).1 (pc0 := 10) (pc' := 21) rfl (by decide) (by decide) ?_
   refine g_iloadN X0 hx hby dc11_21 rfl ?_
   by_cases hc22_3 : i = (0 : Int32)
   ·refine g_ifYes X0 hx hby dc11_22 ((if0 _ _).trans (teq hc22_3).1) (pc0 := 22) (pc' := 31) rfl (by decide) (by decide) ?_
    refine g_iconst X0 hx hby dc11_31 (v := 1) rfl ?_
    refine g_goto X0 hx hby dc11_32 (pc0 := 32) (pc' := 36) rfl (by decide) (by decide) ?_
    refine g_istore X0 hx hby dc11_36 (l' := #[.val (.int n), .val (.int i), .val (.int x), .val (.int y), .val (.int z), .val (.int 1), .unset]) rfl ?_
    refine g_iloadN X0 hx hby dc11_38 rfl ?_
    refine g_iloadN X0 hx hby dc11_39 rfl ?_
    refine g_iconst X0 hx hby dc11_40 (v := 1) rfl ?_
    refine g_isub X0 hx hby dc11_41 rfl ?_
    by_cases hc42_4 : i = (n - (1 : Int32))
    ·refine g_icmpYes X0 hx hby dc11_42 (teq hc42_4).1 (pc0 := 42) (pc' := 52) rfl (by decide) (by decide) ?_
     refine g_iconst X0 hx hby dc11_52 (v := 1) rfl ?_
     refine g_goto X0 hx hby dc11_53 (pc0 := 53) (pc' := 57) rfl (by decide) (by decide) ?_
     refine g_istore X0 hx hby dc11_57 (l' := #[.val (.int n), .val (.int i), .val (.int x), .val (.int y), .val (.int z), .val (.int 1), .val (.int 1)]) rfl ?_
     refine g_iload X0 hx hby dc11_59 rfl ?_
     refine g_ifNo X0 hx hby dc11_61 ((if0 _ _).trans (feq (by decide)).1) ?_
     refine g_iload X0 hx hby dc11_64 rfl ?_
     refine g_ifNo X0 hx hby dc11_66 ((if0 _ _).trans (feq (by decide)).1) ?_
     refine g_iconst X0 hx hby dc11_69 (v := 1) rfl ?_
     refine g_goto X0 hx hby dc11_70 (pc0 := 70) (pc' := 74) rfl (by decide) (by decide) ?_
     obtain ⟨fs, hr, hrun, hended, hW, hsame⟩ := X0.leave (v := some (.int 1)) (fun h => by rw [Bd.returns] at h; cases h) (BodyLoose.notSynchronized Bd)
     refine ⟨_, _, ?_, hP _ _ ⟨hrun, hended, _, _, rfl, ?_, ⟨_, rfl⟩, hW, hsame.mono (by decide) (by decide)⟩⟩
     ·exact retN X0 hx (t := .boolean) Bd.returns (by simp) (hb hby dc11_74) hr
     ·exact ⟨by rw [show fWi n i x y z = (1 : Int32) from ((if_pos hc2_1).trans ((if_pos hc10_2).trans ((if_pos hc22_3).trans ((if_pos hc42_4).trans rfl))))], N0, e0⟩
    ·refine g_icmpNo X0 hx hby dc11_42 (feq hc42_4).1 ?_
     refine g_iload X0 hx hby dc11_45 rfl ?_
     refine g_bipush X0 hx hby dc11_47 (v := 47) rfl ?_
     have dm1 : ∀ t_, Steps pg.tables ev below (s₁.setTop (mkF mi 57 #[.val (.int n), .val (.int i), .val (.int x), .val (.int y), .val (.int z), .val (.int 1), .unset] [(.int (if z = (47 : Int32) then (1 : Int32) else (0 : Int32)))])) t_ → Steps pg.tables ev below (s₁.setTop (mkF mi 49 #[.val (.int n), .val (.int i), .val (.int x), .val (.int y), .val (.int z), .val (.int 1), .unset] [(.int 47), (.int z)])) t_ := by
      intro t_ k_
      by_cases hd : z = (47 : Int32)
      ·refine XS.icmpNo X0.here hx rfl (hb hby dc11_49) rfl (teq hd).2 ?_
       refine XS.iconst X0.here hx rfl (hb hby dc11_52) ?_
       refine XS.goto X0.here hx rfl (pc0 := 53) (pc' := 57) rfl (hb hby dc11_53) (by decide) (by decide) ?_
       show Steps _ _ _ (s₁.setTop (mkF mi 57 #[.val (.int n), .val (.int i), .val (.int x), .val (.int y), .val (.int z), .val (.int 1), .unset] [(.int 1)])) t_
       exact own_cst (if_pos hd) k_
      ·refine XS.icmpYes X0.here hx rfl (pc0 := 49) (pc' := 56) rfl (hb hby dc11_49) rfl (feq hd).2 (by decide) (by decide) ?_
       refine XS.iconst X0.here hx rfl (hb hby dc11_56) ?_
       show Steps _ _ _ (s₁.setTop (mkF mi 57 #[.val (.int n), .val (.int i), .val (.int x), .val (.int y), .val (.int z), .val (.int 1), .unset] [(.int 0)])) t_
       exact own_cst (if_neg hd) k_
     refine Go.st dm1 ?_
     show Go _ _ _ (s₁.setTop (mkF mi 57 #[.val (.int n), .val (.int i), .val (.int x), .val (.int y), .val (.int z), .val (.int 1), .unset] [(.int (if z = (47 : Int32) then (1 : Int32) else (0 : Int32)))])) _
     refine g_istore X0 hx hby dc11_57 (l' := #[.val (.int n), .val (.int i), .val (.int x), .val (.int y), .val (.int z), .val (.int 1), .val (.int (if z = (47 : Int32) then (1 : Int32) else (0 : Int32)))]) rfl ?_
     refine g_iload X0 hx hby dc11_59 rfl ?_
     refine g_ifNo X0 hx hby dc11_61 ((if0 _ _).trans (feq (by decide)).1) ?_
     show Go _ _ _ (s₁.setTop (mkF mi 64 #[.val (.int n), .val (.int i), .val (.int x), .val (.int y), .val (.int z), .val (.int 1), .val (.int (if z = (47 : Int32) then (1 : Int32) else (0 : Int32)))] [])) _
     refine g_iload X0 hx hby dc11_64 rfl ?_
     have dm2 : ∀ t_, Steps pg.tables ev below (s₁.setTop (mkF mi 74 #[.val (.int n), .val (.int i), .val (.int x), .val (.int y), .val (.int z), .val (.int 1), .val (.int (if z = (47 : Int32) then (1 : Int32) else (0 : Int32)))] [(.int (if z = (47 : Int32) then (1 : Int32) else (0 : Int32)))])) t_ → Steps pg.tables ev below (s₁.setTop (mkF mi 66 #[.val (.int n), .val (.int i), .val (.int x), .val (.int y), .val (.int z), .val (.int 1), .val (.int (if z = (47 : Int32) then (1 : Int32) else (0 : Int32)))] [(.int (if z = (47 : Int32) then (1 : Int32) else (0 : Int32)))])) t_ := by
      intro t_ k_
      by_cases hd : z = (47 : Int32)
      ·refine XS.ifNo X0.here hx rfl (hb hby dc11_66) rfl ((if0 _ _).trans (feq (show ¬ ((if z = (47 : Int32) then (1 : Int32) else (0 : Int32)) = (0 : Int32)) from (by rw [if_pos hd] <;> decide))).1) ?_
       refine XS.iconst X0.here hx rfl (hb hby dc11_69) ?_
       refine XS.goto X0.here hx rfl (pc0 := 70) (pc' := 74) rfl (hb hby dc11_70) (by decide) (by decide) ?_
       show Steps _ _ _ (s₁.setTop (mkF mi 74 #[.val (.int n), .val (.int i), .val (.int x), .val (.int y), .val (.int z), .val (.int 1), .val (.int (if z = (47 : Int32) then (1 : Int32) else (0 : Int32)))] [(.int 1)])) t_
       exact own_cst (if_pos hd) k_
      ·refine XS.ifYes X0.here hx rfl (pc0 := 66) (pc' := 73) rfl (hb hby dc11_66) rfl ((if0 _ _).trans (teq (show (if z = (47 : Int32) then (1 : Int32) else (0 : Int32)) = (0 : Int32) from (by rw [if_neg hd] <;> decide))).1) (by decide) (by decide) ?_
       refine XS.iconst X0.here hx rfl (hb hby dc11_73) ?_
       show Steps _ _ _ (s₁.setTop (mkF mi 74 #[.val (.int n), .val (.int i), .val (.int x), .val (.int y), .val (.int z), .val (.int 1), .val (.int (if z = (47 : Int32) then (1 : Int32) else (0 : Int32)))] [(.int 0)])) t_
       exact own_cst (if_neg hd) k_
     refine Go.st dm2 ?_
     show Go _ _ _ (s₁.setTop (mkF mi 74 #[.val (.int n), .val (.int i), .val (.int x), .val (.int y), .val (.int z), .val (.int 1), .val (.int (if z = (47 : Int32) then (1 : Int32) else (0 : Int32)))] [(.int (if z = (47 : Int32) then (1 : Int32) else (0 : Int32)))])) _
     obtain ⟨fs, hr, hrun, hended, hW, hsame⟩ := X0.leave (v := some (.int (if z = (47 : Int32) then (1 : Int32) else (0 : Int32)))) (fun h => by rw [Bd.returns] at h; cases h) (BodyLoose.notSynchronized Bd)
     refine ⟨_, _, ?_, hP _ _ ⟨hrun, hended, _, _, rfl, ?_, ⟨_, rfl⟩, hW, hsame.mono (by decide) (by decide)⟩⟩
     ·exact own_retN X0 hx (t := .boolean) Bd.returns (by simp) (own_nb rfl rfl) (hb hby dc11_74) hr
     ·exact ⟨by rw [show fWi n i x y z = (if z = (47 : Int32) then (1 : Int32) else (0 : Int32)) from ((if_pos hc2_1).trans ((if_pos hc10_2).trans ((if_pos hc22_3).trans ((if_neg hc42_4).trans rfl))))], N0, e0⟩
   ·refine g_ifNo X0 hx hby dc11_22 ((if0 _ _).trans (feq hc22_3).1) ?_
    refine g_iloadN X0 hx hby dc11_25 rfl ?_
    refine g_bipush X0 hx hby dc11_26 (v := 47) rfl ?_
    have dm3 : ∀ t_, Steps pg.tables ev below (s₁.setTop (mkF mi 36 #[.val (.int n), .val (.int i), .val (.int x), .val (.int y), .val (.int z), .unset, .unset] [(.int (if x = (47 : Int32) then (1 : Int32) else (0 : Int32)))])) t_ → Steps pg.tables ev below (s₁.setTop (mkF mi 28 #[.val (.int n), .val (.int i), .val (.int x), .val (.int y), .val (.int z), .unset, .unset] [(.int 47), (.int x)])) t_ := by
     intro t_ k_
     by_cases hd : x = (47 : Int32)
     ·refine XS.icmpNo X0.here hx rfl (hb hby dc11_28) rfl (teq hd).2 ?_
      refine XS.iconst X0.here hx rfl (hb hby dc11_31) ?_
      refine XS.goto X0.here hx rfl (pc0 := 32) (pc' := 36) rfl (hb hby dc11_32) (by decide) (by decide) ?_
      show Steps _ _ _ (s₁.setTop (mkF mi 36 #[.val (.int n), .val (.int i), .val (.int x), .val (.int y), .val (.int z), .unset, .unset] [(.int 1)])) t_
      exact own_cst (if_pos hd) k_
     ·refine XS.icmpYes X0.here hx rfl (pc0 := 28) (pc' := 35) rfl (hb hby dc11_28) rfl (feq hd).2 (by decide) (by decide) ?_
      refine XS.iconst X0.here hx rfl (hb hby dc11_35) ?_
      show Steps _ _ _ (s₁.setTop (mkF mi 36 #[.val (.int n), .val (.int i), .val (.int x), .val (.int y), .val (.int z), .unset, .unset] [(.int 0)])) t_
      exact own_cst (if_neg hd) k_
    refine Go.st dm3 ?_
    show Go _ _ _ (s₁.setTop (mkF mi 36 #[.val (.int n), .val (.int i), .val (.int x), .val (.int y), .val (.int z), .unset, .unset] [(.int (if x = (47 : Int32) then (1 : Int32) else (0 : Int32)))])) _
    refine g_istore X0 hx hby dc11_36 (l' := #[.val (.int n), .val (.int i), .val (.int x), .val (.int y), .val (.int z), .val (.int (if x = (47 : Int32) then (1 : Int32) else (0 : Int32))), .unset]) rfl ?_
    refine g_iloadN X0 hx hby dc11_38 rfl ?_
    refine g_iloadN X0 hx hby dc11_39 rfl ?_
    refine g_iconst X0 hx hby dc11_40 (v := 1) rfl ?_
    refine g_isub X0 hx hby dc11_41 rfl ?_
    by_cases hc42_5 : i = (n - (1 : Int32))
    ·refine g_icmpYes X0 hx hby dc11_42 (teq hc42_5).1 (pc0 := 42) (pc' := 52) rfl (by decide) (by decide) ?_
     refine g_iconst X0 hx hby dc11_52 (v := 1) rfl ?_
     refine g_goto X0 hx hby dc11_53 (pc0 := 53) (pc' := 57) rfl (by decide) (by decide) ?_
     refine g_istore X0 hx hby dc11_57 (l' := #[.val (.int n), .val (.int i), .val (.int x), .val (.int y), .val (.int z), .val (.int (if x = (47 : Int32) then (1 : Int32) else (0 : Int32))), .val (.int 1)]) rfl ?_
     refine g_iload X0 hx hby dc11_59 rfl ?_
     by_cases hc61_6 : x = (47 : Int32)
     ·refine g_ifNo X0 hx hby dc11_61 ((if0 _ _).trans (feq (show ¬ ((if x = (47 : Int32) then (1 : Int32) else (0 : Int32)) = (0 : Int32)) from (by rw [if_pos hc61_6] <;> decide))).1) ?_
      refine g_iload X0 hx hby dc11_64 rfl ?_
      refine g_ifNo X0 hx hby dc11_66 ((if0 _ _).trans (feq (by decide)).1) ?_
      refine g_iconst X0 hx hby dc11_69 (v := 1) rfl ?_
      refine g_goto X0 hx hby dc11_70 (pc0 := 70) (pc' := 74) rfl (by decide) (by decide) ?_
      obtain ⟨fs, hr, hrun, hended, hW, hsame⟩ := X0.leave (v := some (.int 1)) (fun h => by rw [Bd.returns] at h; cases h) (BodyLoose.notSynchronized Bd)
      refine ⟨_, _, ?_, hP _ _ ⟨hrun, hended, _, _, rfl, ?_, ⟨_, rfl⟩, hW, hsame.mono (by decide) (by decide)⟩⟩
      ·exact retN X0 hx (t := .boolean) Bd.returns (by simp) (hb hby dc11_74) hr
      ·exact ⟨by rw [show fWi n i x y z = (1 : Int32) from ((if_pos hc2_1).trans ((if_pos hc10_2).trans ((if_neg hc22_3).trans ((if_pos hc42_5).trans ((if_pos hc61_6).trans rfl)))))], N0, e0⟩
     ·refine g_ifYes X0 hx hby dc11_61 ((if0 _ _).trans (teq (show (if x = (47 : Int32) then (1 : Int32) else (0 : Int32)) = (0 : Int32) from (by rw [if_neg hc61_6] <;> decide))).1) (pc0 := 61) (pc' := 73) rfl (by decide) (by decide) ?_
      refine g_iconst X0 hx hby dc11_73 (v := 0) rfl ?_
      obtain ⟨fs, hr, hrun, hended, hW, hsame⟩ := X0.leave (v := some (.int 0)) (fun h => by rw [Bd.returns] at h; cases h) (BodyLoose.notSynchronized Bd)
      refine ⟨_, _, ?_, hP _ _ ⟨hrun, hended, _, _, rfl, ?_, ⟨_, rfl⟩, hW, hsame.mono (by decide) (by decide)⟩⟩
      ·exact retN X0 hx (t := .boolean) Bd.returns (by simp) (hb hby dc11_74) hr
      ·exact ⟨by rw [show fWi n i x y z = (0 : Int32) from ((if_pos hc2_1).trans ((if_pos hc10_2).trans ((if_neg hc22_3).trans ((if_pos hc42_5).trans ((if_neg hc61_6).trans rfl)))))], N0, e0⟩
    ·refine g_icmpNo X0 hx hby dc11_42 (feq hc42_5).1 ?_
     refine g_iload X0 hx hby dc11_45 rfl ?_
     refine g_bipush X0 hx hby dc11_47 (v := 47) rfl ?_
     have dm4 : ∀ t_, Steps pg.tables ev below (s₁.setTop (mkF mi 57 #[.val (.int n), .val (.int i), .val (.int x), .val (.int y), .val (.int z), .val (.int (if x = (47 : Int32) then (1 : Int32) else (0 : Int32))), .unset] [(.int (if z = (47 : Int32) then (1 : Int32) else (0 : Int32)))])) t_ → Steps pg.tables ev below (s₁.setTop (mkF mi 49 #[.val (.int n), .val (.int i), .val (.int x), .val (.int y), .val (.int z), .val (.int (if x = (47 : Int32) then (1 : Int32) else (0 : Int32))), .unset] [(.int 47), (.int z)])) t_ := by
      intro t_ k_
      by_cases hd : z = (47 : Int32)
      ·refine XS.icmpNo X0.here hx rfl (hb hby dc11_49) rfl (teq hd).2 ?_
       refine XS.iconst X0.here hx rfl (hb hby dc11_52) ?_
       refine XS.goto X0.here hx rfl (pc0 := 53) (pc' := 57) rfl (hb hby dc11_53) (by decide) (by decide) ?_
       show Steps _ _ _ (s₁.setTop (mkF mi 57 #[.val (.int n), .val (.int i), .val (.int x), .val (.int y), .val (.int z), .val (.int (if x = (47 : Int32) then (1 : Int32) else (0 : Int32))), .unset] [(.int 1)])) t_
       exact own_cst (if_pos hd) k_
      ·refine XS.icmpYes X0.here hx rfl (pc0 := 49) (pc' := 56) rfl (hb hby dc11_49) rfl (feq hd).2 (by decide) (by decide) ?_
       refine XS.iconst X0.here hx rfl (hb hby dc11_56) ?_
       show Steps _ _ _ (s₁.setTop (mkF mi 57 #[.val (.int n), .val (.int i), .val (.int x), .val (.int y), .val (.int z), .val (.int (if x = (47 : Int32) then (1 : Int32) else (0 : Int32))), .unset] [(.int 0)])) t_
       exact own_cst (if_neg hd) k_
     refine Go.st dm4 ?_
     show Go _ _ _ (s₁.setTop (mkF mi 57 #[.val (.int n), .val (.int i), .val (.int x), .val (.int y), .val (.int z), .val (.int (if x = (47 : Int32) then (1 : Int32) else (0 : Int32))), .unset] [(.int (if z = (47 : Int32) then (1 : Int32) else (0 : Int32)))])) _
     refine g_istore X0 hx hby dc11_57 (l' := #[.val (.int n), .val (.int i), .val (.int x), .val (.int y), .val (.int z), .val (.int (if x = (47 : Int32) then (1 : Int32) else (0 : Int32))), .val (.int (if z = (47 : Int32) then (1 : Int32) else (0 : Int32)))]) rfl ?_
     refine g_iload X0 hx hby dc11_59 rfl ?_
     by_cases hc61_7 : x = (47 : Int32)
     ·refine g_ifNo X0 hx hby dc11_61 ((if0 _ _).trans (feq (show ¬ ((if x = (47 : Int32) then (1 : Int32) else (0 : Int32)) = (0 : Int32)) from (by rw [if_pos hc61_7] <;> decide))).1) ?_
      refine g_iload X0 hx hby dc11_64 rfl ?_
      have dm5 : ∀ t_, Steps pg.tables ev below (s₁.setTop (mkF mi 74 #[.val (.int n), .val (.int i), .val (.int x), .val (.int y), .val (.int z), .val (.int (if x = (47 : Int32) then (1 : Int32) else (0 : Int32))), .val (.int (if z = (47 : Int32) then (1 : Int32) else (0 : Int32)))] [(.int (if z = (47 : Int32) then (1 : Int32) else (0 : Int32)))])) t_ → Steps pg.tables ev below (s₁.setTop (mkF mi 66 #[.val (.int n), .val (.int i), .val (.int x), .val (.int y), .val (.int z), .val (.int (if x = (47 : Int32) then (1 : Int32) else (0 : Int32))), .val (.int (if z = (47 : Int32) then (1 : Int32) else (0 : Int32)))] [(.int (if z = (47 : Int32) then (1 : Int32) else (0 : Int32)))])) t_ := by
       intro t_ k_
       by_cases hd : z = (47 : Int32)
       ·refine XS.ifNo X0.here hx rfl (hb hby dc11_66) rfl ((if0 _ _).trans (feq (show ¬ ((if z = (47 : Int32) then (1 : Int32) else (0 : Int32)) = (0 : Int32)) from (by rw [if_pos hd] <;> decide))).1) ?_
        refine XS.iconst X0.here hx rfl (hb hby dc11_69) ?_
        refine XS.goto X0.here hx rfl (pc0 := 70) (pc' := 74) rfl (hb hby dc11_70) (by decide) (by decide) ?_
        show Steps _ _ _ (s₁.setTop (mkF mi 74 #[.val (.int n), .val (.int i), .val (.int x), .val (.int y), .val (.int z), .val (.int (if x = (47 : Int32) then (1 : Int32) else (0 : Int32))), .val (.int (if z = (47 : Int32) then (1 : Int32) else (0 : Int32)))] [(.int 1)])) t_
        exact own_cst (if_pos hd) k_
       ·refine XS.ifYes X0.here hx rfl (pc0 := 66) (pc' := 73) rfl (hb hby dc11_66) rfl ((if0 _ _).trans (teq (show (if z = (47 : Int32) then (1 : Int32) else (0 : Int32)) = (0 : Int32) from (by rw [if_neg hd] <;> decide))).1) (by decide) (by decide) ?_
        refine XS.iconst X0.here hx rfl (hb hby dc11_73) ?_
        show Steps _ _ _ (s₁.setTop (mkF mi 74 #[.val (.int n), .val (.int i), .val (.int x), .val (.int y), .val (.int z), .val (.int (if x = (47 : Int32) then (1 : Int32) else (0 : Int32))), .val (.int (if z = (47 : Int32) then (1 : Int32) else (0 : Int32)))] [(.int 0)])) t_
        exact own_cst (if_neg hd) k_
      refine Go.st dm5 ?_
      show Go _ _ _ (s₁.setTop (mkF mi 74 #[.val (.int n), .val (.int i), .val (.int x), .val (.int y), .val (.int z), .val (.int (if x = (47 : Int32) then (1 : Int32) else (0 : Int32))), .val (.int (if z = (47 : Int32) then (1 : Int32) else (0 : Int32)))] [(.int (if z = (47 : Int32) then (1 : Int32) else (0 : Int32)))])) _
      obtain ⟨fs, hr, hrun, hended, hW, hsame⟩ := X0.leave (v := some (.int (if z = (47 : Int32) then (1 : Int32) else (0 : Int32)))) (fun h => by rw [Bd.returns] at h; cases h) (BodyLoose.notSynchronized Bd)
      refine ⟨_, _, ?_, hP _ _ ⟨hrun, hended, _, _, rfl, ?_, ⟨_, rfl⟩, hW, hsame.mono (by decide) (by decide)⟩⟩
      ·exact own_retN X0 hx (t := .boolean) Bd.returns (by simp) (own_nb rfl rfl) (hb hby dc11_74) hr
      ·exact ⟨by rw [show fWi n i x y z = (if z = (47 : Int32) then (1 : Int32) else (0 : Int32)) from ((if_pos hc2_1).trans ((if_pos hc10_2).trans ((if_neg hc22_3).trans ((if_neg hc42_5).trans ((if_pos hc61_7).trans rfl)))))], N0, e0⟩
     ·refine g_ifYes X0 hx hby dc11_61 ((if0 _ _).trans (teq (show (if x = (47 : Int32) then (1 : Int32) else (0 : Int32)) = (0 : Int32) from (by rw [if_neg hc61_7] <;> decide))).1) (pc0 := 61) (pc' := 73) rfl (by decide) (by decide) ?_
      refine g_iconst X0 hx hby dc11_73 (v := 0) rfl ?_
      obtain ⟨fs, hr, hrun, hended, hW, hsame⟩ := X0.leave (v := some (.int 0)) (fun h => by rw [Bd.returns] at h; cases h) (BodyLoose.notSynchronized Bd)
      refine ⟨_, _, ?_, hP _ _ ⟨hrun, hended, _, _, rfl, ?_, ⟨_, rfl⟩, hW, hsame.mono (by decide) (by decide)⟩⟩
      ·exact retN X0 hx (t := .boolean) Bd.returns (by simp) (hb hby dc11_74) hr
      ·exact ⟨by rw [show fWi n i x y z = (0 : Int32) from ((if_pos hc2_1).trans ((if_pos hc10_2).trans ((if_neg hc22_3).trans ((if_neg hc42_5).trans ((if_neg hc61_7).trans rfl)))))], N0, e0⟩
  ·refine g_icmpNo X0 hx hby dc11_10 (feq hc10_2).1 ?_
   show Go _ _ _ (s₁.setTop (mkF mi 13 #[.val (.int n), .val (.int i), .val (.int x), .val (.int y), .val (.int z), .unset, .unset] [])) _
   refine g_iloadN X0 hx hby dc11_13 rfl ?_
   refine g_bipush X0 hx hby dc11_14 (v := 35) rfl ?_
   by_cases hc16_8 : y = (35 : Int32)
   ·refine g_icmpYes X0 hx hby dc11_16 (teq hc16_8).1 (pc0 := 16) (pc' := 21) rfl (by decide) (by decide) ?_
    refine g_iloadN X0 hx hby dc11_21 rfl ?_
    by_cases hc22_9 : i = (0 : Int32)
    ·refine g_ifYes X0 hx hby dc11_22 ((if0 _ _).trans (teq hc22_9).1) (pc0 := 22) (pc' := 31) rfl (by decide) (by decide) ?_
     refine g_iconst X0 hx hby dc11_31 (v := 1) rfl ?_
     refine g_goto X0 hx hby dc11_32 (pc0 := 32) (pc' := 36) rfl (by decide) (by decide) ?_
     refine g_istore X0 hx hby dc11_36 (l' := #[.val (.int n), .val (.int i), .val (.int x), .val (.int y), .val (.int z), .val (.int 1), .unset]) rfl ?_
     refine g_iloadN X0 hx hby dc11_38 rfl ?_
     refine g_iloadN X0 hx hby dc11_39 rfl ?_
     refine g_iconst X0 hx hby dc11_40 (v := 1) rfl ?_
     refine g_isub X0 hx hby dc11_41 rfl ?_
     by_cases hc42_10 : i = (n - (1 : Int32))
     ·refine g_icmpYes X0 hx hby dc11_42 (teq hc42_10).1 (pc0 := 42) (pc' := 52) rfl (by decide) (by decide) ?_
      refine g_iconst X0 hx hby dc11_52 (v := 1) rfl ?_
      refine g_goto X0 hx hby dc11_53 (pc0 := 53) (pc' := 57) rfl (by decide) (by decide) ?_
      refine g_istore X0 hx hby dc11_57 (l' := #[.val (.int n), .val (.int i), .val (.int x), .val (.int y), .val (.int z), .val (.int 1), .val (.int 1)]) rfl ?_
      refine g_iload X0 hx hby dc11_59 rfl ?_
      refine g_ifNo X0 hx hby dc11_61 ((if0 _ _).trans (feq (by decide)).1) ?_
      refine g_iload X0 hx hby dc11_64 rfl ?_
      refine g_ifNo X0 hx hby dc11_66 ((if0 _ _).trans (feq (by decide)).1) ?_
      refine g_iconst X0 hx hby dc11_69 (v := 1) rfl ?_
      refine g_goto X0 hx hby dc11_70 (pc0 := 70) (pc' := 74) rfl (by decide) (by decide) ?_
      obtain ⟨fs, hr, hrun, hended, hW, hsame⟩ := X0.leave (v := some (.int 1)) (fun h => by rw [Bd.returns] at h; cases h) (BodyLoose.notSynchronized Bd)
      refine ⟨_, _, ?_, hP _ _ ⟨hrun, hended, _, _, rfl, ?_, ⟨_, rfl⟩, hW, hsame.mono (by decide) (by decide)⟩⟩
      ·exact retN X0 hx (t := .boolean) Bd.returns (by simp) (hb hby dc11_74) hr
      ·exact ⟨by rw [show fWi n i x y z = (1 : Int32) from ((if_pos hc2_1).trans ((if_neg hc10_2).trans ((if_pos hc16_8).trans ((if_pos hc22_9).trans ((if_pos hc42_10).trans rfl)))))], N0, e0⟩
     ·refine g_icmpNo X0 hx hby dc11_42 (feq hc42_10).1 ?_
      refine g_iload X0 hx hby dc11_45 rfl ?_
      refine g_bipush X0 hx hby dc11_47 (v := 47) rfl ?_
      have dm6 : ∀ t_, Steps pg.tables ev below (s₁.setTop (mkF mi 57 #[.val (.int n), .val (.int i), .val (.int x), .val (.int y), .val (.int z), .val (.int 1), .unset] [(.int (if z = (47 : Int32) then (1 : Int32) else (0 : Int32)))])) t_ → Steps pg.tables ev below (s₁.setTop (mkF mi 49 #[.val (.int n), .val (.int i), .val (.int x), .val (.int y), .val (.int z), .val (.int 1), .unset] [(.int 47), (.int z)])) t_ := by
       intro t_ k_
       by_cases hd : z = (47 : Int32)
       ·refine XS.icmpNo X0.here hx rfl (hb hby dc11_49) rfl (teq hd).2 ?_
        refine XS.iconst X0.here hx rfl (hb hby dc11_52) ?_
        refine XS.goto X0.here hx rfl (pc0 := 53) (pc' := 57) rfl (hb hby dc11_53) (by decide) (by decide) ?_
        show Steps _ _ _ (s₁.setTop (mkF mi 57 #[.val (.int n), .val (.int i), .val (.int x), .val (.int y), .val (.int z), .val (.int 1), .unset] [(.int 1)])) t_
        exact own_cst (if_pos hd) k_
       ·refine XS.icmpYes X0.here hx rfl (pc0 := 49) (pc' := 56) rfl (hb hby dc11_49) rfl (feq hd).2 (by decide) (by decide) ?_
        refine XS.iconst X0.here hx rfl (hb hby dc11_56) ?_
        show Steps _ _ _ (s₁.setTop (mkF mi 57 #[.val (.int n), .val (.int i), .val (.int x), .val (.int y), .val (.int z), .val (.int 1), .unset] [(.int 0)])) t_
        exact own_cst (if_neg hd) k_
      refine Go.st dm6 ?_
      show Go _ _ _ (s₁.setTop (mkF mi 57 #[.val (.int n), .val (.int i), .val (.int x), .val (.int y), .val (.int z), .val (.int 1), .unset] [(.int (if z = (47 : Int32) then (1 : Int32) else (0 : Int32)))])) _
      refine g_istore X0 hx hby dc11_57 (l' := #[.val (.int n), .val (.int i), .val (.int x), .val (.int y), .val (.int z), .val (.int 1), .val (.int (if z = (47 : Int32) then (1 : Int32) else (0 : Int32)))]) rfl ?_
      refine g_iload X0 hx hby dc11_59 rfl ?_
      refine g_ifNo X0 hx hby dc11_61 ((if0 _ _).trans (feq (by decide)).1) ?_
      refine g_iload X0 hx hby dc11_64 rfl ?_
      have dm7 : ∀ t_, Steps pg.tables ev below (s₁.setTop (mkF mi 74 #[.val (.int n), .val (.int i), .val (.int x), .val (.int y), .val (.int z), .val (.int 1), .val (.int (if z = (47 : Int32) then (1 : Int32) else (0 : Int32)))] [(.int (if z = (47 : Int32) then (1 : Int32) else (0 : Int32)))])) t_ → Steps pg.tables ev below (s₁.setTop (mkF mi 66 #[.val (.int n), .val (.int i), .val (.int x), .val (.int y), .val (.int z), .val (.int 1), .val (.int (if z = (47 : Int32) then (1 : Int32) else (0 : Int32)))] [(.int (if z = (47 : Int32) then (1 : Int32) else (0 : Int32)))])) t_ := by
       intro t_ k_
       by_cases hd : z = (47 : Int32)
       ·refine XS.ifNo X0.here hx rfl (hb hby dc11_66) rfl ((if0 _ _).trans (feq (show ¬ ((if z = (47 : Int32) then (1 : Int32) else (0 : Int32)) = (0 : Int32)) from (by rw [if_pos hd] <;> decide))).1) ?_
        refine XS.iconst X0.here hx rfl (hb hby dc11_69) ?_
        refine XS.goto X0.here hx rfl (pc0 := 70) (pc' := 74) rfl (hb hby dc11_70) (by decide) (by decide) ?_
        show Steps _ _ _ (s₁.setTop (mkF mi 74 #[.val (.int n), .val (.int i), .val (.int x), .val (.int y), .val (.int z), .val (.int 1), .val (.int (if z = (47 : Int32) then (1 : Int32) else (0 : Int32)))] [(.int 1)])) t_
        exact own_cst (if_pos hd) k_
       ·refine XS.ifYes X0.here hx rfl (pc0 := 66) (pc' := 73) rfl (hb hby dc11_66) rfl ((if0 _ _).trans (teq (show (if z = (47 : Int32) then (1 : Int32) else (0 : Int32)) = (0 : Int32) from (by rw [if_neg hd] <;> decide))).1) (by decide) (by decide) ?_
        refine XS.iconst X0.here hx rfl (hb hby dc11_73) ?_
        show Steps _ _ _ (s₁.setTop (mkF mi 74 #[.val (.int n), .val (.int i), .val (.int x), .val (.int y), .val (.int z), .val (.int 1), .val (.int (if z = (47 : Int32) then (1 : Int32) else (0 : Int32)))] [(.int 0)])) t_
        exact own_cst (if_neg hd) k_
      refine Go.st dm7 ?_
      show Go _ _ _ (s₁.setTop (mkF mi 74 #[.val (.int n), .val (.int i), .val (.int x), .val (.int y), .val (.int z), .val (.int 1), .val (.int (if z = (47 : Int32) then (1 : Int32) else (0 : Int32)))] [(.int (if z = (47 : Int32) then (1 : Int32) else (0 : Int32)))])) _
      obtain ⟨fs, hr, hrun, hended, hW, hsame⟩ := X0.leave (v := some (.int (if z = (47 : Int32) then (1 : Int32) else (0 : Int32)))) (fun h => by rw [Bd.returns] at h; cases h) (BodyLoose.notSynchronized Bd)
      refine ⟨_, _, ?_, hP _ _ ⟨hrun, hended, _, _, rfl, ?_, ⟨_, rfl⟩, hW, hsame.mono (by decide) (by decide)⟩⟩
      ·exact own_retN X0 hx (t := .boolean) Bd.returns (by simp) (own_nb rfl rfl) (hb hby dc11_74) hr
      ·exact ⟨by rw [show fWi n i x y z = (if z = (47 : Int32) then (1 : Int32) else (0 : Int32)) from ((if_pos hc2_1).trans ((if_neg hc10_2).trans ((if_pos hc16_8).trans ((if_pos hc22_9).trans ((if_neg hc42_10).trans rfl)))))], N0, e0⟩
    ·refine g_ifNo X0 hx hby dc11_22 ((if0 _ _).trans (feq hc22_9).1) ?_
     refine g_iloadN X0 hx hby dc11_25 rfl ?_
     show Go _ _ _ (s₁.setTop (mkF mi 26 #[.val (.int n), .val (.int i), .val (.int x), .val (.int y), .val (.int z), .unset, .unset] [(.int x)])) _
     refine g_bipush X0 hx hby dc11_26 (v := 47) rfl ?_
     have dm8 : ∀ t_, Steps pg.tables ev below (s₁.setTop (mkF mi 36 #[.val (.int n), .val (.int i), .val (.int x), .val (.int y), .val (.int z), .unset, .unset] [(.int (if x = (47 : Int32) then (1 : Int32) else (0 : Int32)))])) t_ → Steps pg.tables ev below (s₁.setTop (mkF mi 28 #[.val (.int n), .val (.int i), .val (.int x), .val (.int y), .val (.int z), .unset, .unset] [(.int 47), (.int x)])) t_ := by
      intro t_ k_
      by_cases hd : x = (47 : Int32)
      ·refine XS.icmpNo X0.here hx rfl (hb hby dc11_28) rfl (teq hd).2 ?_
       refine XS.iconst X0.here hx rfl (hb hby dc11_31) ?_
       refine XS.goto X0.here hx rfl (pc0 := 32) (pc' := 36) rfl (hb hby dc11_32) (by decide) (by decide) ?_
       show Steps _ _ _ (s₁.setTop (mkF mi 36 #[.val (.int n), .val (.int i), .val (.int x), .val (.int y), .val (.int z), .unset, .unset] [(.int 1)])) t_
       exact own_cst (if_pos hd) k_
      ·refine XS.icmpYes X0.here hx rfl (pc0 := 28) (pc' := 35) rfl (hb hby dc11_28) rfl (feq hd).2 (by decide) (by decide) ?_
       refine XS.iconst X0.here hx rfl (hb hby dc11_35) ?_
       show Steps _ _ _ (s₁.setTop (mkF mi 36 #[.val (.int n), .val (.int i), .val (.int x), .val (.int y), .val (.int z), .unset, .unset] [(.int 0)])) t_
       exact own_cst (if_neg hd) k_
     refine Go.st dm8 ?_
     show Go _ _ _ (s₁.setTop (mkF mi 36 #[.val (.int n), .val (.int i), .val (.int x), .val (.int y), .val (.int z), .unset, .unset] [(.int (if x = (47 : Int32) then (1 : Int32) else (0 : Int32)))])) _
     refine g_istore X0 hx hby dc11_36 (l' := #[.val (.int n), .val (.int i), .val (.int x), .val (.int y), .val (.int z), .val (.int (if x = (47 : Int32) then (1 : Int32) else (0 : Int32))), .unset]) rfl ?_
     refine g_iloadN X0 hx hby dc11_38 rfl ?_
     refine g_iloadN X0 hx hby dc11_39 rfl ?_
     refine g_iconst X0 hx hby dc11_40 (v := 1) rfl ?_
     refine g_isub X0 hx hby dc11_41 rfl ?_
     by_cases hc42_11 : i = (n - (1 : Int32))
     ·refine g_icmpYes X0 hx hby dc11_42 (teq hc42_11).1 (pc0 := 42) (pc' := 52) rfl (by decide) (by decide) ?_
      refine g_iconst X0 hx hby dc11_52 (v := 1) rfl ?_
      refine g_goto X0 hx hby dc11_53 (pc0 := 53) (pc' := 57) rfl (by decide) (by decide) ?_
      refine g_istore X0 hx hby dc11_57 (l' := #[.val (.int n), .val (.int i), .val (.int x), .val (.int y), .val (.int z), .val (.int (if x = (47 : Int32) then (1 : Int32) else (0 : Int32))), .val (.int 1)]) rfl ?_
      refine g_iload X0 hx hby dc11_59 rfl ?_
      by_cases hc61_12 : x = (47 : Int32)
      ·refine g_ifNo X0 hx hby dc11_61 ((if0 _ _).trans (feq (show ¬ ((if x = (47 : Int32) then (1 : Int32) else (0 : Int32)) = (0 : Int32)) from (by rw [if_pos hc61_12] <;> decide))).1) ?_
       refine g_iload X0 hx hby dc11_64 rfl ?_
       refine g_ifNo X0 hx hby dc11_66 ((if0 _ _).trans (feq (by decide)).1) ?_
       refine g_iconst X0 hx hby dc11_69 (v := 1) rfl ?_
       refine g_goto X0 hx hby dc11_70 (pc0 := 70) (pc' := 74) rfl (by decide) (by decide) ?_
       obtain ⟨fs, hr, hrun, hended, hW, hsame⟩ := X0.leave (v := some (.int 1)) (fun h => by rw [Bd.returns] at h; cases h) (BodyLoose.notSynchronized Bd)
       refine ⟨_, _, ?_, hP _ _ ⟨hrun, hended, _, _, rfl, ?_, ⟨_, rfl⟩, hW, hsame.mono (by decide) (by decide)⟩⟩
       ·exact retN X0 hx (t := .boolean) Bd.returns (by simp) (hb hby dc11_74) hr
       ·exact ⟨by rw [show fWi n i x y z = (1 : Int32) from ((if_pos hc2_1).trans ((if_neg hc10_2).trans ((if_pos hc16_8).trans ((if_neg hc22_9).trans ((if_pos hc42_11).trans ((if_pos hc61_12).trans rfl))))))], N0, e0⟩
      ·refine g_ifYes X0 hx hby dc11_61 ((if0 _ _).trans (teq (show (if x = (47 : Int32) then (1 : Int32) else (0 : Int32)) = (0 : Int32) from (by rw [if_neg hc61_12] <;> decide))).1) (pc0 := 61) (pc' := 73) rfl (by decide) (by decide) ?_
       refine g_iconst X0 hx hby dc11_73 (v := 0) rfl ?_
       obtain ⟨fs, hr, hrun, hended, hW, hsame⟩ := X0.leave (v := some (.int 0)) (fun h => by rw [Bd.returns] at h; cases h) (BodyLoose.notSynchronized Bd)
       refine ⟨_, _, ?_, hP _ _ ⟨hrun, hended, _, _, rfl, ?_, ⟨_, rfl⟩, hW, hsame.mono (by decide) (by decide)⟩⟩
       ·exact retN X0 hx (t := .boolean) Bd.returns (by simp) (hb hby dc11_74) hr
       ·exact ⟨by rw [show fWi n i x y z = (0 : Int32) from ((if_pos hc2_1).trans ((if_neg hc10_2).trans ((if_pos hc16_8).trans ((if_neg hc22_9).trans ((if_pos hc42_11).trans ((if_neg hc61_12).trans rfl))))))], N0, e0⟩
     ·refine g_icmpNo X0 hx hby dc11_42 (feq hc42_11).1 ?_
      refine g_iload X0 hx hby dc11_45 rfl ?_
      refine g_bipush X0 hx hby dc11_47 (v := 47) rfl ?_
      have dm9 : ∀ t_, Steps pg.tables ev below (s₁.setTop (mkF mi 57 #[.val (.int n), .val (.int i), .val (.int x), .val (.int y), .val (.int z), .val (.int (if x = (47 : Int32) then (1 : Int32) else (0 : Int32))), .unset] [(.int (if z = (47 : Int32) then (1 : Int32) else (0 : Int32)))])) t_ → Steps pg.tables ev below (s₁.setTop (mkF mi 49 #[.val (.int n), .val (.int i), .val (.int x), .val (.int y), .val (.int z), .val (.int (if x = (47 : Int32) then (1 : Int32) else (0 : Int32))), .unset] [(.int 47), (.int z)])) t_ := by
       intro t_ k_
       by_cases hd : z = (47 : Int32)
       ·refine XS.icmpNo X0.here hx rfl (hb hby dc11_49) rfl (teq hd).2 ?_
        refine XS.iconst X0.here hx rfl (hb hby dc11_52) ?_
        refine XS.goto X0.here hx rfl (pc0 := 53) (pc' := 57) rfl (hb hby dc11_53) (by decide) (by decide) ?_
        show Steps _ _ _ (s₁.setTop (mkF mi 57 #[.val (.int n), .val (.int i), .val (.int x), .val (.int y), .val (.int z), .val (.int (if x = (47 : Int32) then (1 : Int32) else (0 : Int32))), .unset] [(.int 1)])) t_
        exact own_cst (if_pos hd) k_
       ·refine XS.icmpYes X0.here hx rfl (pc0 := 49) (pc' := 56) rfl (hb hby dc11_49) rfl (feq hd).2 (by decide) (by decide) ?_
        refine XS.iconst X0.here hx rfl (hb hby dc11_56) ?_
        show Steps _ _ _ (s₁.setTop (mkF mi 57 #[.val (.int n), .val (.int i), .val (.int x), .val (.int y), .val (.int z), .val (.int (if x = (47 : Int32) then (1 : Int32) else (0 : Int32))), .unset] [(.int 0)])) t_
        exact own_cst (if_neg hd) k_
      refine Go.st dm9 ?_
      show Go _ _ _ (s₁.setTop (mkF mi 57 #[.val (.int n), .val (.int i), .val (.int x), .val (.int y), .val (.int z), .val (.int (if x = (47 : Int32) then (1 : Int32) else (0 : Int32))), .unset] [(.int (if z = (47 : Int32) then (1 : Int32) else (0 : Int32)))])) _
      refine g_istore X0 hx hby dc11_57 (l' := #[.val (.int n), .val (.int i), .val (.int x), .val (.int y), .val (.int z), .val (.int (if x = (47 : Int32) then (1 : Int32) else (0 : Int32))), .val (.int (if z = (47 : Int32) then (1 : Int32) else (0 : Int32)))]) rfl ?_
      refine g_iload X0 hx hby dc11_59 rfl ?_
      by_cases hc61_13 : x = (47 : Int32)
      ·refine g_ifNo X0 hx hby dc11_61 ((if0 _ _).trans (feq (show ¬ ((if x = (47 : Int32) then (1 : Int32) else (0 : Int32)) = (0 : Int32)) from (by rw [if_pos hc61_13] <;> decide))).1) ?_
       refine g_iload X0 hx hby dc11_64 rfl ?_
       have dm10 : ∀ t_, Steps pg.tables ev below (s₁.setTop (mkF mi 74 #[.val (.int n), .val (.int i), .val (.int x), .val (.int y), .val (.int z), .val (.int (if x = (47 : Int32) then (1 : Int32) else (0 : Int32))), .val (.int (if z = (47 : Int32) then (1 : Int32) else (0 : Int32)))] [(.int (if z = (47 : Int32) then (1 : Int32) else (0 : Int32)))])) t_ → Steps pg.tables ev below (s₁.setTop (mkF mi 66 #[.val (.int n), .val (.int i), .val (.int x), .val (.int y), .val (.int z), .val (.int (if x = (47 : Int32) then (1 : Int32) else (0 : Int32))), .val (.int (if z = (47 : Int32) then (1 : Int32) else (0 : Int32)))] [(.int (if z = (47 : Int32) then (1 : Int32) else (0 : Int32)))])) t_ := by
        intro t_ k_
        by_cases hd : z = (47 : Int32)
        ·refine XS.ifNo X0.here hx rfl (hb hby dc11_66) rfl ((if0 _ _).trans (feq (show ¬ ((if z = (47 : Int32) then (1 : Int32) else (0 : Int32)) = (0 : Int32)) from (by rw [if_pos hd] <;> decide))).1) ?_
         refine XS.iconst X0.here hx rfl (hb hby dc11_69) ?_
         refine XS.goto X0.here hx rfl (pc0 := 70) (pc' := 74) rfl (hb hby dc11_70) (by decide) (by decide) ?_
         show Steps _ _ _ (s₁.setTop (mkF mi 74 #[.val (.int n), .val (.int i), .val (.int x), .val (.int y), .val (.int z), .val (.int (if x = (47 : Int32) then (1 : Int32) else (0 : Int32))), .val (.int (if z = (47 : Int32) then (1 : Int32) else (0 : Int32)))] [(.int 1)])) t_
         exact own_cst (if_pos hd) k_
        ·refine XS.ifYes X0.here hx rfl (pc0 := 66) (pc' := 73) rfl (hb hby dc11_66) rfl ((if0 _ _).trans (teq (show (if z = (47 : Int32) then (1 : Int32) else (0 : Int32)) = (0 : Int32) from (by rw [if_neg hd] <;> decide))).1) (by decide) (by decide) ?_
         refine XS.iconst X0.here hx rfl (hb hby dc11_73) ?_
         show Steps _ _ _ (s₁.setTop (mkF mi 74 #[.val (.int n), .val (.int i), .val (.int x), .val (.int y), .val (.int z), .val (.int (if x = (47 : Int32) then (1 : Int32) else (0 : Int32))), .val (.int (if z = (47 : Int32) then (1 : Int32) else (0 : Int32)))] [(.int 0)])) t_
         exact own_cst (if_neg hd) k_
       refine Go.st dm10 ?_
       show Go _ _ _ (s₁.setTop (mkF mi 74 #[.val (.int n), .val (.int i), .val (.int x), .val (.int y), .val (.int z), .val (.int (if x = (47 : Int32) then (1 : Int32) else (0 : Int32))), .val (.int (if z = (47 : Int32) then (1 : Int32) else (0 : Int32)))] [(.int (if z = (47 : Int32) then (1 : Int32) else (0 : Int32)))])) _
       obtain ⟨fs, hr, hrun, hended, hW, hsame⟩ := X0.leave (v := some (.int (if z = (47 : Int32) then (1 : Int32) else (0 : Int32)))) (fun h => by rw [Bd.returns] at h; cases h) (BodyLoose.notSynchronized Bd)
       refine ⟨_, _, ?_, hP _ _ ⟨hrun, hended, _, _, rfl, ?_, ⟨_, rfl⟩, hW, hsame.mono (by decide) (by decide)⟩⟩
       ·exact own_retN X0 hx (t := .boolean) Bd.returns (by simp) (own_nb rfl rfl) (hb hby dc11_74) hr
       ·exact ⟨by rw [show fWi n i x y z = (if z = (47 : Int32) then (1 : Int32) else (0 : Int32)) from ((if_pos hc2_1).trans ((if_neg hc10_2).trans ((if_pos hc16_8).trans ((if_neg hc22_9).trans ((if_neg hc42_11).trans ((if_pos hc61_13).trans rfl))))))], N0, e0⟩
      ·refine g_ifYes X0 hx hby dc11_61 ((if0 _ _).trans (teq (show (if x = (47 : Int32) then (1 : Int32) else (0 : Int32)) = (0 : Int32) from (by rw [if_neg hc61_13] <;> decide))).1) (pc0 := 61) (pc' := 73) rfl (by decide) (by decide) ?_
       refine g_iconst X0 hx hby dc11_73 (v := 0) rfl ?_
       obtain ⟨fs, hr, hrun, hended, hW, hsame⟩ := X0.leave (v := some (.int 0)) (fun h => by rw [Bd.returns] at h; cases h) (BodyLoose.notSynchronized Bd)
       refine ⟨_, _, ?_, hP _ _ ⟨hrun, hended, _, _, rfl, ?_, ⟨_, rfl⟩, hW, hsame.mono (by decide) (by decide)⟩⟩
       ·exact retN X0 hx (t := .boolean) Bd.returns (by simp) (hb hby dc11_74) hr
       ·exact ⟨by rw [show fWi n i x y z = (0 : Int32) from ((if_pos hc2_1).trans ((if_neg hc10_2).trans ((if_pos hc16_8).trans ((if_neg hc22_9).trans ((if_neg hc42_11).trans ((if_neg hc61_13).trans rfl))))))], N0, e0⟩
   ·refine g_icmpNo X0 hx hby dc11_16 (feq hc16_8).1 ?_
    refine g_iconst X0 hx hby dc11_19 (v := 0) rfl ?_
    obtain ⟨fs, hr, hrun, hended, hW, hsame⟩ := X0.leave (v := some (.int 0)) (fun h => by rw [Bd.returns] at h; cases h) (BodyLoose.notSynchronized Bd)
    refine ⟨_, _, ?_, hP _ _ ⟨hrun, hended, _, _, rfl, ?_, ⟨_, rfl⟩, hW, hsame.mono (by decide) (by decide)⟩⟩
    ·exact retN X0 hx (t := .boolean) Bd.returns (by simp) (hb hby dc11_20) hr
    ·exact ⟨by rw [show fWi n i x y z = (0 : Int32) from ((if_pos hc2_1).trans ((if_neg hc10_2).trans ((if_neg hc16_8).trans rfl)))], N0, e0⟩
 ·refine g_icmpNo X0 hx hby dc11_2 (flt hc2_1).1 ?_
  refine g_iconst X0 hx hby dc11_5 (v := 0) rfl ?_
  show Go _ _ _ (s₁.setTop (mkF mi 6 #[.val (.int n), .val (.int i), .val (.int x), .val (.int y), .val (.int z), .unset, .unset] [(.int 0)])) _
  obtain ⟨fs, hr, hrun, hended, hW, hsame⟩ := X0.leave (v := some (.int 0)) (fun h => by rw [Bd.returns] at h; cases h) (BodyLoose.notSynchronized Bd)
  refine ⟨_, _, ?_, hP _ _ ⟨hrun, hended, _, _, rfl, ?_, ⟨_, rfl⟩, hW, hsame.mono (by decide) (by decide)⟩⟩
  ·exact retN X0 hx (t := .boolean) Bd.returns (by simp) (hb hby dc11_6) hr
  ·exact ⟨by rw [show fWi n i x y z = (0 : Int32) from ((if_neg hc2_1).trans rfl)], N0, e0⟩
theorem own_z0 : (0 : Int32).toInt = 0 := rfl
theorem own_nn {i : Int32} (h : ¬ i < 0) : i.toInt = i.toNatClampNeg := by
 rw [Int32.lt_iff_toInt_lt, own_z0] at h
 simp only [Int32.toNatClampNeg]; omega
theorem own_ofN {n : Nat} (h : n ≤ 100) : (Int32.ofNat n).toInt = n := Int32.toInt_ofNat_small (by omega)
theorem own_ofN0 {n : Nat} (h : n ≤ 100) : ¬ (Int32.ofNat n) < 0 := by rw [Int32.lt_iff_toInt_lt, own_z0, own_ofN h]; omega
theorem own_ofNn {n : Nat} (h : n ≤ 100) : (Int32.ofNat n).toNatClampNeg = n := by simp only [Int32.toNatClampNeg, own_ofN h]; rfl
theorem own_ofS {n : Nat} : Int32.ofNat n + (1 : Int32) = Int32.ofNat (n + 1) := by rw [Int32.ofNat_add]; rfl
theorem own_ofeq {n m : Nat} (hn : n ≤ 100) (hm : m ≤ 100) : Int32.ofNat n = Int32.ofNat m ↔ n = m := ⟨fun q => by have := congrArg Int32.toInt q; rw [own_ofN hn, own_ofN hm] at this; omega, fun q => by rw [q]⟩
theorem own_oflt {n m : Nat} (hn : n ≤ 100) (hm : m ≤ 100) : Int32.ofNat n < Int32.ofNat m ↔ n < m := by rw [Int32.lt_iff_toInt_lt, own_ofN hn, own_ofN hm]; omega
theorem own_sub {n m : Nat} (hn : n ≤ 100) (h : m ≤ n) : Int32.ofNat n - Int32.ofNat m = Int32.ofNat (n - m) := by
 have e1 := own_ofN hn
 have e2 := own_ofN (n := m) (by omega)
 have e3 := own_ofN (n := n - m) (by omega)
 have e4 := c_isub (Int32.ofNat n) (Int32.ofNat m)
 have b1 := Int32.le_toInt (Int32.ofNat n - Int32.ofNat m)
 have b2 := Int32.toInt_lt (Int32.ofNat n - Int32.ofNat m)
 apply Int32.toInt_inj.mp; omega
theorem own_bb (x : Int32) : (x.toInt8.toInt32).toInt8.toInt32 = x.toInt8.toInt32 := by
 have e1 := c_i2b x
 have e2 := c_i2b x.toInt8.toInt32
 apply Int32.toInt_inj.mp; omega
theorem own_nc {x : Int32} (h1 : 0 ≤ x.toInt) (h2 : x.toInt ≤ 255) : x.toUInt32.toUInt16.toUInt32.toInt32 = x := by
 have e := c_i2c x
 apply Int32.toInt_inj.mp; omega
theorem own_255 {x : Int32} (h2 : x.toInt ≤ 255) : ¬ ((255 : Int32) < x) := by
 have l0 : (255 : Int32).toInt = 255 := rfl
 rw [Int32.lt_iff_toInt_lt]; omega
theorem own_max0 {n : Nat} (h : n ≤ 100) : fMax (Int32.ofNat n) (0 : Int32) = Int32.ofNat n := by
 unfold fMax; rw [if_neg (own_ofN0 h)]
theorem own_minn (n : Int32) : fMin n n = n := by unfold fMin; rw [if_neg Int32.lt_irrefl]
theorem own_can1 {c : Int32} (h0 : ¬ c < 0) (h1 : ¬ (255 : Int32) < c) : fCan c = (1 : Int32) := by unfold fCan; rw [if_neg h0, if_neg h1]
def ixF (E : List Int32) (b : Int32) : Nat → Nat → Int32
 | 0, _ => -1
 | r + 1, i => if E.getD i 0 = b then Int32.ofNat i else ixF E b r (i + 1)
def ix (E : List Int32) (b : Int32) (f : Nat) : Int32 := ixF E b (E.length - f) f
theorem ixF_sp (E : List Int32) (b : Int32) : ∀ (r i : Nat), (ixF E b r i = -1 ∧ ∀ j, i ≤ j → j < i + r → E.getD j 0 ≠ b) ∨ ∃ k, i ≤ k ∧ k < i + r ∧ ixF E b r i = Int32.ofNat k ∧ E.getD k 0 = b ∧ ∀ j, i ≤ j → j < k → E.getD j 0 ≠ b
 | 0, i => Or.inl ⟨rfl, fun j h1 h2 => absurd h2 (by omega)⟩
 | r + 1, i => by
  by_cases h : E.getD i 0 = b
  ·exact Or.inr ⟨i, Nat.le_refl _, by omega, if_pos h, h, fun j h1 h2 => absurd h2 (by omega)⟩
  ·have e : ixF E b (r + 1) i = ixF E b r (i + 1) := if_neg h
   rw [e]
   rcases ixF_sp E b r (i + 1) with ⟨h1, h2⟩ | ⟨k, h1, h2, h3, h4, h5⟩
   ·refine Or.inl ⟨h1, fun j q1 q2 => ?_⟩
    by_cases q : j = i
    ·rw [q]; exact h
    ·exact h2 j (by omega) (by omega)
   ·refine Or.inr ⟨k, by omega, by omega, h3, h4, fun j q1 q2 => ?_⟩
    by_cases q : j = i
    ·rw [q]; exact h
    ·exact h5 j (by omega) q2
theorem ix_sp (E : List Int32) (b : Int32) (f : Nat) (hf : f ≤ E.length) : (ix E b f = -1 ∧ ∀ j, f ≤ j → j < E.length → E.getD j 0 ≠ b) ∨ ∃ k, f ≤ k ∧ k < E.length ∧ ix E b f = Int32.ofNat k ∧ E.getD k 0 = b ∧ ∀ j, f ≤ j → j < k → E.getD j 0 ≠ b := by
 have := ixF_sp E b (E.length - f) f
 rw [show f + (E.length - f) = E.length from by omega] at this
 exact this
theorem ix_end {E : List Int32} {b : Int32} {f : Nat} (h : ¬ f < E.length) : ix E b f = -1 := by unfold ix; rw [show E.length - f = 0 from by omega]; rfl
theorem ix_neg {E : List Int32} {b : Int32} (hl : E.length ≤ 100) : ix E b 0 < (0 : Int32) ↔ ∀ j, j < E.length → E.getD j 0 ≠ b := by
 rcases ix_sp E b 0 (by omega) with ⟨h1, h2⟩ | ⟨k, h1, h2, h3, h4, h5⟩
 ·rw [h1]; exact ⟨fun _ j hj => h2 j (by omega) hj, fun _ => by decide⟩
 ·rw [h3]; exact ⟨fun q => absurd q (own_ofN0 (by omega)), fun q => absurd h4 (q k h2)⟩
theorem dc12_0 : Dk zb12 0 (.aload_n 0) 1 := by decide +kernel
theorem dc12_1 : Dk zb12 1 (.invokespecial 1) 3 := by decide +kernel
theorem dc12_4 : Dk zb12 4 (.aload_n 0) 1 := by decide +kernel
theorem dc12_5 : Dk zb12 5 (.aload_n 1) 1 := by decide +kernel
theorem dc12_6 : Dk zb12 6 (.putfield 9) 3 := by decide +kernel
theorem dc12_9 : Dk zb12 9 (.aload_n 0) 1 := by decide +kernel
theorem dc12_10 : Dk zb12 10 (.iload_n 2) 1 := by decide +kernel
theorem dc12_11 : Dk zb12 11 (.putfield 15) 3 := by decide +kernel
theorem dc12_14 : Dk zb12 14 .return_ 1 := by decide +kernel
theorem ef_rmSB (mi : MethodId) (o : Addr) (b : Addr) : entryFrame mi #[(.ref o), (.ref b), (.int 0)] 3 = mkF mi 0 #[.val (.ref o), .val (.ref b), .val (.int 0)] [] := by first | (simp [entryFrame, mkF, argsToLocals, Value.category]; done) | rfl
abbrev Q_rmSB (Z : State) (o : Addr) (b : Addr) (h0 : Heap) (n0 : Nat) (vv_ : Option Value) (hh_ : Heap) (LL_ : List Loc) : Prop := vv_ = none ∧ Fr n0 LL_ ∧ Keep h0 hh_ [o] ∧ Exa Z hh_ o "java/lang/String" ∧ Fld Z hh_ o "java/lang/String" "coder" "B" (.int (0 : Int32)) ∧ Fld Z hh_ o "java/lang/String" "value" "[B" (.ref b)
theorem rmSB (l : Launch) (Z : State) (a0 : Array Value) (hw : Tb Z a0) (ws : List Jvm.Cond) (o : Addr) (b : Addr) (h0 : Heap) (n0 : Nat) (Z0 : n0 ≤ h0.size) (E0 : Exa Z h0 o "java/lang/String") (FS1 : Fld Z h0 o "java/lang/String" "coder" "B" (.int (0 : Int32))) (FS2 : Fld Z h0 o "java/lang/String" "value" "[B" .null) (g_o : n0 ≤ o) :
  Mt l Z zy12 zb12 3 none ws zR5 #[(.ref o), (.ref b), (.int 0)] h0 (Q_rmSB Z o b h0 n0) := by
 refine MetFree.of_bodySF (plainFor_of_name pn_0) hisR ?_
 intro pg ev si mi args below meth ci s₁ Bd hml0 hP0 hK
 obtain ⟨rfl, hZ, hh⟩ := hP0
 have hx := Bd.exec
 have hby := Bd.bytes
 have hml : ci.maxLocals = 3 := hml0
 have hown : si.vm.findClass "java/lang/String" = some mi.cls := findClass_of_methodNamed Bd.named
 have hnm := (name_of_methodNamed Bd.named Bd.method).1
 have X0 : Stand pg l ev zR5 si mi #[(.ref o), (.ref b), (.int 0)] below meth ci s₁ [] 0 0 := Stand.of_body Bd
 have e0 : s₁.heap = h0 := by rw [← hh, Bd.state]; rfl
 have N0 := Fr.nil n0
 refine Go.start (fun P hP => ?_)
 refine Go.st (fun t_ k_ => castTop (ef_rmSB mi o b) k_) (A := s₁.setTop (mkF mi 0 #[.val (.ref o), .val (.ref b), .val (.int 0)] [])) ?_
 refine g_aloadN X0 hx hby dc12_0 rfl rfl ?_
 obtain ⟨T1, X1, e1, st1⟩ := initO X0 hx hZ hown (hw _ (own_m 18 rfl)) (hw _ (own_m 19 rfl)) (hw _ (own_m 20 rfl)) e0 (g := (mkF mi 1 #[.val (.ref o), .val (.ref b), .val (.int 0)] [(.ref o)])) rfl (by rw [hml]; rfl) rfl (hb hby dc12_1) (by decide) (W := 0) (by show 2 * 0 + _ ≤ _; exact Nat.le_of_eq rfl) (by decide)
 refine Go.st st1 ?_
 refine g_aloadN X1 hx hby dc12_4 rfl rfl ?_
 refine g_aloadN X1 hx hby dc12_5 rfl rfl ?_
 obtain ⟨T2, h2, X2, e2, W2, st2⟩ := putF X1 hx hZ hown (host := "") (Or.inl (hw _ (own_m 35 rfl))) Via.refl e1 FS2 E0 (Or.inr ⟨(hw _ (own_m 36 rfl)), rfl, hnm⟩) (hw _ (own_m 8 rfl)) (ty := (.array .byte)) (by decide) rfl rfl (g := (mkF mi 6 #[.val (.ref o), .val (.ref b), .val (.int 0)] [(.ref b), (.ref o)])) rfl rfl (hb hby dc12_6)
 have Zs3 : n0 ≤ h2.size := Nat.le_trans Z0 (Keep.of_wr W2).1
 have KC3 : Keep h0 h2 [o] := (Keep.refl h0 [o]).wr W2 (Or.inl (List.mem_of_getElem? (i := 0) rfl))
 have N3 := Fr.snoc X2 N0 g_o
 have F2 : Fld Z h2 o "java/lang/String" "value" "[B" (.ref b) := FS2.same W2
 refine Go.st st2 ?_
 refine g_aloadN X2 hx hby dc12_9 rfl rfl ?_
 refine g_iloadN X2 hx hby dc12_10 rfl ?_
 have f4 := (FS1.other W2 (Or.inr (slot_ne (Or.inr (hw _ (own_m 34 rfl))) (Or.inr (hw _ (own_m 36 rfl))) (by decide) (t := .byte) (t' := (.array .byte)) (by decide) (by decide))))
 have f5 := (E0.wr W2)
 obtain ⟨T6, h6, X6, e6, W6, st6⟩ := putFN X2 hx hZ hown (hw _ (own_m 33 rfl)) Via.refl e2 f4 f5 (Or.inr ⟨(hw _ (own_m 34 rfl)), rfl, hnm⟩) (hw _ (own_m 8 rfl)) (ty := .byte) (v' := (.int 0)) (by decide) rfl (by decide) (g := (mkF mi 11 #[.val (.ref o), .val (.ref b), .val (.int 0)] [(.int 0), (.ref o)])) rfl rfl (hb hby dc12_11)
 have Zs7 : n0 ≤ h6.size := Nat.le_trans Zs3 (Keep.of_wr W6).1
 have KC7 : Keep h0 h6 [o] := KC3.wr W6 (Or.inl (List.mem_of_getElem? (i := 0) rfl))
 have N7 := Fr.snoc X6 N3 g_o
 have F6 : Fld Z h6 o "java/lang/String" "coder" "B" (.int 0) := f4.same W6
 refine Go.st st6 ?_
 obtain ⟨fs, hr, hrun, hended, hW, hsame⟩ := X6.leave (v := none) (fun _ => rfl) (BodyLoose.notSynchronized Bd)
 have f8 := (f5.wr W6)
 have f9 := (F2.other W6 (Or.inr (slot_ne (Or.inr (hw _ (own_m 36 rfl))) (Or.inr (hw _ (own_m 34 rfl))) (by decide) (t := (.array .byte)) (t' := .byte) (by decide) (by decide))))
 refine ⟨_, _, ?_, hP _ _ ⟨hrun, hended, _, _, rfl, ?_, ⟨_, rfl⟩, hW, hsame.mono (by decide) (by decide)⟩⟩
 ·exact X6.returnOut hx Bd.returns (hb hby dc12_14) hr
 ·show Q_rmSB _ _ _ _ _ _ T6.heap _
  rw [e6]
  exact ⟨rfl, N7, KC7, f8, F6, f9⟩
theorem dc13_0 : Dk zb13 0 (.iconst 0) 1 := by decide +kernel
theorem dc13_1 : Dk zb13 1 (.istore 5) 2 := by decide +kernel
theorem dc13_3 : Dk zb13 3 (.iload 5) 2 := by decide +kernel
theorem dc13_5 : Dk zb13 5 (.iload 4) 2 := by decide +kernel
theorem dc13_7 : Dk zb13 7 (.if_icmp .ge 37) 3 := by decide +kernel
theorem dc13_10 : Dk zb13 10 (.aload_n 0) 1 := by decide +kernel
theorem dc13_11 : Dk zb13 11 (.iload_n 1) 1 := by decide +kernel
theorem dc13_12 : Dk zb13 12 .caload 1 := by decide +kernel
theorem dc13_13 : Dk zb13 13 (.istore 6) 2 := by decide +kernel
theorem dc13_15 : Dk zb13 15 (.iload 6) 2 := by decide +kernel
theorem dc13_17 : Dk zb13 17 (.sipush 255) 3 := by decide +kernel
theorem dc13_20 : Dk zb13 20 (.if_icmp .le 6) 3 := by decide +kernel
theorem dc13_26 : Dk zb13 26 (.aload_n 2) 1 := by decide +kernel
theorem dc13_27 : Dk zb13 27 (.iload_n 3) 1 := by decide +kernel
theorem dc13_28 : Dk zb13 28 (.iload 6) 2 := by decide +kernel
theorem dc13_30 : Dk zb13 30 .i2b 1 := by decide +kernel
theorem dc13_31 : Dk zb13 31 .bastore 1 := by decide +kernel
theorem dc13_32 : Dk zb13 32 (.iinc 1 1) 3 := by decide +kernel
theorem dc13_35 : Dk zb13 35 (.iinc 3 1) 3 := by decide +kernel
theorem dc13_38 : Dk zb13 38 (.iinc 5 1) 3 := by decide +kernel
theorem dc13_41 : Dk zb13 41 (.goto (-38)) 3 := by decide +kernel
theorem dc13_44 : Dk zb13 44 (.iload 4) 2 := by decide +kernel
theorem dc13_46 : Dk zb13 46 .ireturn 1 := by decide +kernel
theorem pn_4 : plainName "java/lang/StringUTF16" = true := by first | (simp [plainName, overriddenIn]; done) | decide +kernel
theorem ef_rmCo4 (mi : MethodId) (ca : Addr) (bb : Addr) : entryFrame mi #[(.ref ca), (.int 0), (.ref bb), (.int 0), (.int 4)] 7 = mkF mi 0 #[.val (.ref ca), .val (.int 0), .val (.ref bb), .val (.int 0), .val (.int 4), .unset, .unset] [] := by first | (simp [entryFrame, mkF, argsToLocals, Value.category]; done) | rfl
abbrev Q_rmCo4 (Z : State) (ca : Addr) (bb : Addr) (kc : ClassId) (x : Int32) (y : Int32) (z : Int32) (u : Int32) (kb : ClassId) (h0 : Heap) (n0 : Nat) (vv_ : Option Value) (hh_ : Heap) (LL_ : List Loc) : Prop := vv_ = some (.int (4 : Int32)) ∧ Fr n0 LL_ ∧ Keep h0 hh_ [bb] ∧ Arv Z hh_ bb kb .byte (4 : Int32) [(.int (x.toInt8.toInt32)), (.int (y.toInt8.toInt32)), (.int (z.toInt8.toInt32)), (.int (u.toInt8.toInt32))] (.int (0 : Int32))
theorem rmCo4 (l : Launch) (Z : State) (a0 : Array Value) (hw : Tb Z a0) (ws : List Jvm.Cond) (ca : Addr) (bb : Addr) (kc : ClassId) (x : Int32) (y : Int32) (z : Int32) (u : Int32) (kb : ClassId) (h0 : Heap) (n0 : Nat) (Z0 : n0 ≤ h0.size) (CA0 : Arv Z h0 ca kc .char (4 : Int32) [(.int x), (.int y), (.int z), (.int u)] (.int (0 : Int32))) (CB0 : Arv Z h0 bb kb .byte (4 : Int32) [(.int (0 : Int32)), (.int (0 : Int32)), (.int (0 : Int32)), (.int (0 : Int32))] (.int (0 : Int32))) (g_b : n0 ≤ bb) (ne_b : ca ≠ bb) (hx1 : 0 ≤ x.toInt) (hx2 : x.toInt ≤ 255) (hy1 : 0 ≤ y.toInt) (hy2 : y.toInt ≤ 255) (hz1 : 0 ≤ z.toInt) (hz2 : z.toInt ≤ 255) (hu1 : 0 ≤ u.toInt) (hu2 : u.toInt ≤ 255) :
  Mt l Z zy13 zb13 7 (some .int) ws zR0 #[(.ref ca), (.int 0), (.ref bb), (.int 0), (.int 4)] h0 (Q_rmCo4 Z ca bb kc x y z u kb h0 n0) := by
 refine MetFree.of_bodySF (plainFor_of_name pn_4) hisR ?_
 intro pg ev si mi args below meth ci s₁ Bd hml0 hP0 hK
 obtain ⟨rfl, hZ, hh⟩ := hP0
 have hx := Bd.exec
 have hby := Bd.bytes
 have hml : ci.maxLocals = 7 := hml0
 have hown : si.vm.findClass "java/lang/StringUTF16" = some mi.cls := findClass_of_methodNamed Bd.named
 have hnm := (name_of_methodNamed Bd.named Bd.method).1
 have X0 : Stand pg l ev zR0 si mi #[(.ref ca), (.int 0), (.ref bb), (.int 0), (.int 4)] below meth ci s₁ [] 0 0 := Stand.of_body Bd
 have e0 : s₁.heap = h0 := by rw [← hh, Bd.state]; rfl
 have N0 := Fr.nil n0
 refine Go.start (fun P hP => ?_)
 refine Go.st (fun t_ k_ => castTop (ef_rmCo4 mi ca bb) k_) (A := s₁.setTop (mkF mi 0 #[.val (.ref ca), .val (.int 0), .val (.ref bb), .val (.int 0), .val (.int 4), .unset, .unset] [])) ?_
 refine g_iconst X0 hx hby dc13_0 (v := 0) rfl ?_
 refine g_istore X0 hx hby dc13_1 (l' := #[.val (.ref ca), .val (.int 0), .val (.ref bb), .val (.int 0), .val (.int 4), .val (.int 0), .unset]) rfl ?_
 refine g_iload X0 hx hby dc13_3 rfl ?_
 refine g_iload X0 hx hby dc13_5 rfl ?_
 refine g_icmpNo X0 hx hby dc13_7 (tlt (by decide)).2.1 ?_
 refine g_aloadN X0 hx hby dc13_10 rfl rfl ?_
 refine g_iloadN X0 hx hby dc13_11 rfl ?_
 have ov1 := CA0
 obtain ⟨cl1, Ar1, q1, S1, M1, H1, G1⟩ := ov1
 have hin1 : ¬ ((0 : Int32) < 0 ∨ cl1.slots.size ≤ ((0 : Int32)).toNatClampNeg) := inb_of S1 ⟨by decide, by decide⟩
 have hat1 : cl1.slots[((0 : Int32)).toNatClampNeg]? = some (.int x) := Has.at H1 hin1 rfl
 refine Go.st (X0.caload hx (j := (0 : Int32)) (v := (.int x)) (by rw [e0]; exact Ar1.1) (State.isArrayOf_alike hZ.alike Ar1.2.1) Ar1.2.2 hin1 hat1 (g := (mkF mi 12 #[.val (.ref ca), .val (.int 0), .val (.ref bb), .val (.int 0), .val (.int 4), .val (.int 0), .unset] [(.int 0), (.ref ca)])) rfl rfl (hb hby dc13_12)) ?_
 refine g_istore X0 hx hby dc13_13 (l' := #[.val (.ref ca), .val (.int 0), .val (.ref bb), .val (.int 0), .val (.int 4), .val (.int 0), .val (.int x)]) rfl ?_
 refine g_iload X0 hx hby dc13_15 rfl ?_
 refine g_sipush X0 hx hby dc13_17 (v := 255) rfl ?_
 refine g_icmpYes X0 hx hby dc13_20 (flt (own_255 hx2)).2.2.2 (pc0 := 20) (pc' := 26) rfl (by decide) (by decide) ?_
 refine g_aloadN X0 hx hby dc13_26 rfl rfl ?_
 refine g_iloadN X0 hx hby dc13_27 rfl ?_
 refine g_iload X0 hx hby dc13_28 rfl ?_
 refine g_i2b X0 hx hby dc13_30 rfl ?_
 have ov2 := CB0
 obtain ⟨cl2, Ar2, q2, S2, M2, H2, G2⟩ := ov2
 have hin2 : ¬ ((0 : Int32) < 0 ∨ cl2.slots.size ≤ ((0 : Int32)).toNatClampNeg) := inb_of S2 ⟨by decide, by decide⟩
 obtain ⟨T3, h3, X3, e3, W3, st3⟩ := stB X0 hx hZ e0 Ar2 (j := (0 : Int32)) hin2 (g := (mkF mi 31 #[.val (.ref ca), .val (.int 0), .val (.ref bb), .val (.int 0), .val (.int 4), .val (.int 0), .val (.int x)] [(.int (x.toInt8.toInt32)), (.int 0), (.ref bb)])) rfl rfl (hb hby dc13_31)
 have Zs4 : n0 ≤ h3.size := Nat.le_trans Z0 (Keep.of_wr W3).1
 have KC4 : Keep h0 h3 [bb] := (Keep.refl h0 [bb]).wr W3 (Or.inl (List.mem_of_getElem? (i := 0) rfl))
 have N4 := Fr.snoc X3 N0 g_b
 have V3 : Arv Z h3 bb kb .byte (4 : Int32) [(.int ((x.toInt8.toInt32).toInt8.toInt32)), (.int 0), (.int 0), (.int 0)] (.int (0 : Int32)) := Arv.set Ar2 q2 S2 M2 H2 G2 (fits_nar_byte _) W3 0 rfl (Nat.le_of_ble_eq_true rfl)
 rw [own_bb] at V3
 refine Go.st st3 ?_
 refine g_iinc X3 hx hby dc13_32 rfl (x' := 1) rfl (l' := #[.val (.ref ca), .val (.int 1), .val (.ref bb), .val (.int 0), .val (.int 4), .val (.int 0), .val (.int x)]) rfl ?_
 refine g_iinc X3 hx hby dc13_35 rfl (x' := 1) rfl (l' := #[.val (.ref ca), .val (.int 1), .val (.ref bb), .val (.int 1), .val (.int 4), .val (.int 0), .val (.int x)]) rfl ?_
 refine g_iinc X3 hx hby dc13_38 rfl (x' := 1) rfl (l' := #[.val (.ref ca), .val (.int 1), .val (.ref bb), .val (.int 1), .val (.int 4), .val (.int 1), .val (.int x)]) rfl ?_
 refine g_goto X3 hx hby dc13_41 (pc0 := 41) (pc' := 3) rfl (by decide) (by decide) ?_
 refine g_iload X3 hx hby dc13_3 rfl ?_
 refine g_iload X3 hx hby dc13_5 rfl ?_
 refine g_icmpNo X3 hx hby dc13_7 (tlt (by decide)).2.1 ?_
 refine g_aloadN X3 hx hby dc13_10 rfl rfl ?_
 refine g_iloadN X3 hx hby dc13_11 rfl ?_
 have f5 := (CA0.other W3 ne_b)
 have ov6 := f5
 obtain ⟨cl6, Ar6, q6, S6, M6, H6, G6⟩ := ov6
 have hin6 : ¬ ((1 : Int32) < 0 ∨ cl6.slots.size ≤ ((1 : Int32)).toNatClampNeg) := inb_of S6 ⟨by decide, by decide⟩
 have hat6 : cl6.slots[((1 : Int32)).toNatClampNeg]? = some (.int y) := Has.at H6 hin6 rfl
 refine Go.st (X3.caload hx (j := (1 : Int32)) (v := (.int y)) (by rw [e3]; exact Ar6.1) (State.isArrayOf_alike hZ.alike Ar6.2.1) Ar6.2.2 hin6 hat6 (g := (mkF mi 12 #[.val (.ref ca), .val (.int 1), .val (.ref bb), .val (.int 1), .val (.int 4), .val (.int 1), .val (.int x)] [(.int 1), (.ref ca)])) rfl rfl (hb hby dc13_12)) ?_
 refine g_istore X3 hx hby dc13_13 (l' := #[.val (.ref ca), .val (.int 1), .val (.ref bb), .val (.int 1), .val (.int 4), .val (.int 1), .val (.int y)]) rfl ?_
 refine g_iload X3 hx hby dc13_15 rfl ?_
 refine g_sipush X3 hx hby dc13_17 (v := 255) rfl ?_
 refine g_icmpYes X3 hx hby dc13_20 (flt (own_255 hy2)).2.2.2 (pc0 := 20) (pc' := 26) rfl (by decide) (by decide) ?_
 show Go _ _ _ (T3.setTop (mkF mi 26 #[.val (.ref ca), .val (.int 1), .val (.ref bb), .val (.int 1), .val (.int 4), .val (.int 1), .val (.int y)] [])) _
 refine g_aloadN X3 hx hby dc13_26 rfl rfl ?_
 refine g_iloadN X3 hx hby dc13_27 rfl ?_
 refine g_iload X3 hx hby dc13_28 rfl ?_
 refine g_i2b X3 hx hby dc13_30 rfl ?_
 have ov7 := V3
 obtain ⟨cl7, Ar7, q7, S7, M7, H7, G7⟩ := ov7
 have hin7 : ¬ ((1 : Int32) < 0 ∨ cl7.slots.size ≤ ((1 : Int32)).toNatClampNeg) := inb_of S7 ⟨by decide, by decide⟩
 obtain ⟨T8, h8, X8, e8, W8, st8⟩ := stB X3 hx hZ e3 Ar7 (j := (1 : Int32)) hin7 (g := (mkF mi 31 #[.val (.ref ca), .val (.int 1), .val (.ref bb), .val (.int 1), .val (.int 4), .val (.int 1), .val (.int y)] [(.int (y.toInt8.toInt32)), (.int 1), (.ref bb)])) rfl rfl (hb hby dc13_31)
 have Zs9 : n0 ≤ h8.size := Nat.le_trans Zs4 (Keep.of_wr W8).1
 have KC9 : Keep h0 h8 [bb] := KC4.wr W8 (Or.inl (List.mem_of_getElem? (i := 0) rfl))
 have N9 := Fr.snoc X8 N4 g_b
 have V8 : Arv Z h8 bb kb .byte (4 : Int32) [(.int (x.toInt8.toInt32)), (.int ((y.toInt8.toInt32).toInt8.toInt32)), (.int 0), (.int 0)] (.int (0 : Int32)) := Arv.set Ar7 q7 S7 M7 H7 G7 (fits_nar_byte _) W8 1 rfl (Nat.le_of_ble_eq_true rfl)
 rw [own_bb] at V8
 refine Go.st st8 ?_
 refine g_iinc X8 hx hby dc13_32 rfl (x' := 2) rfl (l' := #[.val (.ref ca), .val (.int 2), .val (.ref bb), .val (.int 1), .val (.int 4), .val (.int 1), .val (.int y)]) rfl ?_
 refine g_iinc X8 hx hby dc13_35 rfl (x' := 2) rfl (l' := #[.val (.ref ca), .val (.int 2), .val (.ref bb), .val (.int 2), .val (.int 4), .val (.int 1), .val (.int y)]) rfl ?_
 refine g_iinc X8 hx hby dc13_38 rfl (x' := 2) rfl (l' := #[.val (.ref ca), .val (.int 2), .val (.ref bb), .val (.int 2), .val (.int 4), .val (.int 2), .val (.int y)]) rfl ?_
 refine g_goto X8 hx hby dc13_41 (pc0 := 41) (pc' := 3) rfl (by decide) (by decide) ?_
 refine g_iload X8 hx hby dc13_3 rfl ?_
 refine g_iload X8 hx hby dc13_5 rfl ?_
 refine g_icmpNo X8 hx hby dc13_7 (tlt (by decide)).2.1 ?_
 refine g_aloadN X8 hx hby dc13_10 rfl rfl ?_
 refine g_iloadN X8 hx hby dc13_11 rfl ?_
 have f10 := (f5.other W8 ne_b)
 have ov11 := f10
 obtain ⟨cl11, Ar11, q11, S11, M11, H11, G11⟩ := ov11
 have hin11 : ¬ ((2 : Int32) < 0 ∨ cl11.slots.size ≤ ((2 : Int32)).toNatClampNeg) := inb_of S11 ⟨by decide, by decide⟩
 have hat11 : cl11.slots[((2 : Int32)).toNatClampNeg]? = some (.int z) := Has.at H11 hin11 rfl
 refine Go.st (X8.caload hx (j := (2 : Int32)) (v := (.int z)) (by rw [e8]; exact Ar11.1) (State.isArrayOf_alike hZ.alike Ar11.2.1) Ar11.2.2 hin11 hat11 (g := (mkF mi 12 #[.val (.ref ca), .val (.int 2), .val (.ref bb), .val (.int 2), .val (.int 4), .val (.int 2), .val (.int y)] [(.int 2), (.ref ca)])) rfl rfl (hb hby dc13_12)) ?_
 refine g_istore X8 hx hby dc13_13 (l' := #[.val (.ref ca), .val (.int 2), .val (.ref bb), .val (.int 2), .val (.int 4), .val (.int 2), .val (.int z)]) rfl ?_
 refine g_iload X8 hx hby dc13_15 rfl ?_
 refine g_sipush X8 hx hby dc13_17 (v := 255) rfl ?_
 refine g_icmpYes X8 hx hby dc13_20 (flt (own_255 hz2)).2.2.2 (pc0 := 20) (pc' := 26) rfl (by decide) (by decide) ?_
 refine g_aloadN X8 hx hby dc13_26 rfl rfl ?_
 refine g_iloadN X8 hx hby dc13_27 rfl ?_
 refine g_iload X8 hx hby dc13_28 rfl ?_
 refine g_i2b X8 hx hby dc13_30 rfl ?_
 have ov12 := V8
 obtain ⟨cl12, Ar12, q12, S12, M12, H12, G12⟩ := ov12
 have hin12 : ¬ ((2 : Int32) < 0 ∨ cl12.slots.size ≤ ((2 : Int32)).toNatClampNeg) := inb_of S12 ⟨by decide, by decide⟩
 obtain ⟨T13, h13, X13, e13, W13, st13⟩ := stB X8 hx hZ e8 Ar12 (j := (2 : Int32)) hin12 (g := (mkF mi 31 #[.val (.ref ca), .val (.int 2), .val (.ref bb), .val (.int 2), .val (.int 4), .val (.int 2), .val (.int z)] [(.int (z.toInt8.toInt32)), (.int 2), (.ref bb)])) rfl rfl (hb hby dc13_31)
 have Zs14 : n0 ≤ h13.size := Nat.le_trans Zs9 (Keep.of_wr W13).1
 have KC14 : Keep h0 h13 [bb] := KC9.wr W13 (Or.inl (List.mem_of_getElem? (i := 0) rfl))
 have N14 := Fr.snoc X13 N9 g_b
 have V13 : Arv Z h13 bb kb .byte (4 : Int32) [(.int (x.toInt8.toInt32)), (.int (y.toInt8.toInt32)), (.int ((z.toInt8.toInt32).toInt8.toInt32)), (.int 0)] (.int (0 : Int32)) := Arv.set Ar12 q12 S12 M12 H12 G12 (fits_nar_byte _) W13 2 rfl (Nat.le_of_ble_eq_true rfl)
 rw [own_bb] at V13
 refine Go.st st13 ?_
 refine g_iinc X13 hx hby dc13_32 rfl (x' := 3) rfl (l' := #[.val (.ref ca), .val (.int 3), .val (.ref bb), .val (.int 2), .val (.int 4), .val (.int 2), .val (.int z)]) rfl ?_
 refine g_iinc X13 hx hby dc13_35 rfl (x' := 3) rfl (l' := #[.val (.ref ca), .val (.int 3), .val (.ref bb), .val (.int 3), .val (.int 4), .val (.int 2), .val (.int z)]) rfl ?_
 refine g_iinc X13 hx hby dc13_38 rfl (x' := 3) rfl (l' := #[.val (.ref ca), .val (.int 3), .val (.ref bb), .val (.int 3), .val (.int 4), .val (.int 3), .val (.int z)]) rfl ?_
 refine g_goto X13 hx hby dc13_41 (pc0 := 41) (pc' := 3) rfl (by decide) (by decide) ?_
 refine g_iload X13 hx hby dc13_3 rfl ?_
 refine g_iload X13 hx hby dc13_5 rfl ?_
 refine g_icmpNo X13 hx hby dc13_7 (tlt (by decide)).2.1 ?_
 show Go _ _ _ (T13.setTop (mkF mi 10 #[.val (.ref ca), .val (.int 3), .val (.ref bb), .val (.int 3), .val (.int 4), .val (.int 3), .val (.int z)] [])) _
 refine g_aloadN X13 hx hby dc13_10 rfl rfl ?_
 refine g_iloadN X13 hx hby dc13_11 rfl ?_
 have f15 := (f10.other W13 ne_b)
 have ov16 := f15
 obtain ⟨cl16, Ar16, q16, S16, M16, H16, G16⟩ := ov16
 have hin16 : ¬ ((3 : Int32) < 0 ∨ cl16.slots.size ≤ ((3 : Int32)).toNatClampNeg) := inb_of S16 ⟨by decide, by decide⟩
 have hat16 : cl16.slots[((3 : Int32)).toNatClampNeg]? = some (.int u) := Has.at H16 hin16 rfl
 refine Go.st (X13.caload hx (j := (3 : Int32)) (v := (.int u)) (by rw [e13]; exact Ar16.1) (State.isArrayOf_alike hZ.alike Ar16.2.1) Ar16.2.2 hin16 hat16 (g := (mkF mi 12 #[.val (.ref ca), .val (.int 3), .val (.ref bb), .val (.int 3), .val (.int 4), .val (.int 3), .val (.int z)] [(.int 3), (.ref ca)])) rfl rfl (hb hby dc13_12)) ?_
 refine g_istore X13 hx hby dc13_13 (l' := #[.val (.ref ca), .val (.int 3), .val (.ref bb), .val (.int 3), .val (.int 4), .val (.int 3), .val (.int u)]) rfl ?_
 refine g_iload X13 hx hby dc13_15 rfl ?_
 refine g_sipush X13 hx hby dc13_17 (v := 255) rfl ?_
 refine g_icmpYes X13 hx hby dc13_20 (flt (own_255 hu2)).2.2.2 (pc0 := 20) (pc' := 26) rfl (by decide) (by decide) ?_
 refine g_aloadN X13 hx hby dc13_26 rfl rfl ?_
 refine g_iloadN X13 hx hby dc13_27 rfl ?_
 refine g_iload X13 hx hby dc13_28 rfl ?_
 refine g_i2b X13 hx hby dc13_30 rfl ?_
 have ov17 := V13
 obtain ⟨cl17, Ar17, q17, S17, M17, H17, G17⟩ := ov17
 have hin17 : ¬ ((3 : Int32) < 0 ∨ cl17.slots.size ≤ ((3 : Int32)).toNatClampNeg) := inb_of S17 ⟨by decide, by decide⟩
 obtain ⟨T18, h18, X18, e18, W18, st18⟩ := stB X13 hx hZ e13 Ar17 (j := (3 : Int32)) hin17 (g := (mkF mi 31 #[.val (.ref ca), .val (.int 3), .val (.ref bb), .val (.int 3), .val (.int 4), .val (.int 3), .val (.int u)] [(.int (u.toInt8.toInt32)), (.int 3), (.ref bb)])) rfl rfl (hb hby dc13_31)
 have Zs19 : n0 ≤ h18.size := Nat.le_trans Zs14 (Keep.of_wr W18).1
 have KC19 : Keep h0 h18 [bb] := KC14.wr W18 (Or.inl (List.mem_of_getElem? (i := 0) rfl))
 have N19 := Fr.snoc X18 N14 g_b
 have V18 : Arv Z h18 bb kb .byte (4 : Int32) [(.int (x.toInt8.toInt32)), (.int (y.toInt8.toInt32)), (.int (z.toInt8.toInt32)), (.int ((u.toInt8.toInt32).toInt8.toInt32))] (.int (0 : Int32)) := Arv.set Ar17 q17 S17 M17 H17 G17 (fits_nar_byte _) W18 3 rfl (Nat.le_of_ble_eq_true rfl)
 rw [own_bb] at V18
 refine Go.st st18 ?_
 refine g_iinc X18 hx hby dc13_32 rfl (x' := 4) rfl (l' := #[.val (.ref ca), .val (.int 4), .val (.ref bb), .val (.int 3), .val (.int 4), .val (.int 3), .val (.int u)]) rfl ?_
 refine g_iinc X18 hx hby dc13_35 rfl (x' := 4) rfl (l' := #[.val (.ref ca), .val (.int 4), .val (.ref bb), .val (.int 4), .val (.int 4), .val (.int 3), .val (.int u)]) rfl ?_
 refine g_iinc X18 hx hby dc13_38 rfl (x' := 4) rfl (l' := #[.val (.ref ca), .val (.int 4), .val (.ref bb), .val (.int 4), .val (.int 4), .val (.int 4), .val (.int u)]) rfl ?_
 refine g_goto X18 hx hby dc13_41 (pc0 := 41) (pc' := 3) rfl (by decide) (by decide) ?_
 refine g_iload X18 hx hby dc13_3 rfl ?_
 refine g_iload X18 hx hby dc13_5 rfl ?_
 refine g_icmpYes X18 hx hby dc13_7 (flt (by decide)).2.1 (pc0 := 7) (pc' := 44) rfl (by decide) (by decide) ?_
 refine g_iload X18 hx hby dc13_44 rfl ?_
 obtain ⟨fs, hr, hrun, hended, hW, hsame⟩ := X18.leave (v := some (.int 4)) (fun h => by rw [Bd.returns] at h; cases h) (BodyLoose.notSynchronized Bd)
 refine ⟨_, _, ?_, hP _ _ ⟨hrun, hended, _, _, rfl, ?_, ⟨_, rfl⟩, hW, hsame.mono (by decide) (by decide)⟩⟩
 ·exact retI X18 hx Bd.returns (hb hby dc13_46) hr
 ·show Q_rmCo4 _ _ _ _ _ _ _ _ _ _ _ _ T18.heap _
  rw [e18]
  exact ⟨rfl, N19, KC19, V18⟩
theorem dc14_0 : Dk zb14 0 (.iload_n 2) 1 := by decide +kernel
theorem dc14_1 : Dk zb14 1 (.newarray .byte) 2 := by decide +kernel
theorem dc14_3 : Dk zb14 3 (.astore_n 3) 1 := by decide +kernel
theorem dc14_4 : Dk zb14 4 (.aload_n 0) 1 := by decide +kernel
theorem dc14_5 : Dk zb14 5 (.iload_n 1) 1 := by decide +kernel
theorem dc14_6 : Dk zb14 6 (.aload_n 3) 1 := by decide +kernel
theorem dc14_7 : Dk zb14 7 (.iconst 0) 1 := by decide +kernel
theorem dc14_8 : Dk zb14 8 (.iload_n 2) 1 := by decide +kernel
theorem dc14_9 : Dk zb14 9 (.invokestatic 115) 3 := by decide +kernel
theorem pd_5 : parseMethodDescriptor "([CI[BII)I" = some ⟨[(.array .char), .int, (.array .byte), .int, .int], some .int⟩ := by decide +kernel
theorem dc14_12 : Dk zb14 12 (.istore 4) 2 := by decide +kernel
theorem dc14_14 : Dk zb14 14 (.iload 4) 2 := by decide +kernel
theorem dc14_16 : Dk zb14 16 (.iload_n 2) 1 := by decide +kernel
theorem dc14_17 : Dk zb14 17 (.if_icmp .eq 40) 3 := by decide +kernel
theorem dc14_57 : Dk zb14 57 (.aload_n 3) 1 := by decide +kernel
theorem dc14_58 : Dk zb14 58 .areturn 1 := by decide +kernel
theorem ef_rmCp4 (mi : MethodId) (ca : Addr) : entryFrame mi #[(.ref ca), (.int 0), (.int 4)] 6 = mkF mi 0 #[.val (.ref ca), .val (.int 0), .val (.int 4), .unset, .unset, .unset] [] := by first | (simp [entryFrame, mkF, argsToLocals, Value.category]; done) | rfl
abbrev Q_rmCp4 (Z : State) (ca : Addr) (kc : ClassId) (x : Int32) (y : Int32) (z : Int32) (u : Int32) (h0 : Heap) (n0 : Nat) (vv_ : Option Value) (hh_ : Heap) (LL_ : List Loc) : Prop := ∃ (r : Addr) (kr : ClassId), vv_ = some (.ref r) ∧ Fr n0 LL_ ∧ Keep h0 hh_ [] ∧ h0.size ≤ r ∧ n0 ≤ r ∧ Arv Z hh_ r kr .byte (4 : Int32) [(.int (x.toInt8.toInt32)), (.int (y.toInt8.toInt32)), (.int (z.toInt8.toInt32)), (.int (u.toInt8.toInt32))] (.int (0 : Int32)) ∧ Exa Z hh_ r "[B"
theorem rmCp4 (l : Launch) (Z : State) (a0 : Array Value) (hw : Tb Z a0) (ws : List Jvm.Cond) (ca : Addr) (kc : ClassId) (x : Int32) (y : Int32) (z : Int32) (u : Int32) (h0 : Heap) (n0 : Nat) (Z0 : n0 ≤ h0.size) (CA0 : Arv Z h0 ca kc .char (4 : Int32) [(.int x), (.int y), (.int z), (.int u)] (.int (0 : Int32))) (hx1 : 0 ≤ x.toInt) (hx2 : x.toInt ≤ 255) (hy1 : 0 ≤ y.toInt) (hy2 : y.toInt ≤ 255) (hz1 : 0 ≤ z.toInt) (hz2 : z.toInt ≤ 255) (hu1 : 0 ≤ u.toInt) (hu2 : u.toInt ≤ 255) :
  Mt l Z zy14 zb14 6 (some (.array .byte)) ws zR6 #[(.ref ca), (.int 0), (.int 4)] h0 (Q_rmCp4 Z ca kc x y z u h0 n0) := by
 refine MetFree.of_bodySF (plainFor_of_name pn_4) hisR ?_
 intro pg ev si mi args below meth ci s₁ Bd hml0 hP0 hK
 obtain ⟨rfl, hZ, hh⟩ := hP0
 have hx := Bd.exec
 have hby := Bd.bytes
 have hml : ci.maxLocals = 6 := hml0
 have hown : si.vm.findClass "java/lang/StringUTF16" = some mi.cls := findClass_of_methodNamed Bd.named
 have hnm := (name_of_methodNamed Bd.named Bd.method).1
 have X0 : Stand pg l ev zR6 si mi #[(.ref ca), (.int 0), (.int 4)] below meth ci s₁ [] 0 0 := Stand.of_body Bd
 have e0 : s₁.heap = h0 := by rw [← hh, Bd.state]; rfl
 have N0 := Fr.nil n0
 refine Go.start (fun P hP => ?_)
 refine Go.st (fun t_ k_ => castTop (ef_rmCp4 mi ca) k_) (A := s₁.setTop (mkF mi 0 #[.val (.ref ca), .val (.int 0), .val (.int 4), .unset, .unset, .unset] [])) ?_
 refine g_iloadN X0 hx hby dc14_0 rfl ?_
 obtain ⟨T1, h1, k1, X1, e1, E1, A1, EX1, st1⟩ := newPE X0 hx hZ (hw _ (own_m 26 rfl)) e0 (g := (mkF mi 1 #[.val (.ref ca), .val (.int 0), .val (.int 4), .unset, .unset, .unset] [(.int 4)])) rfl (hb hby dc14_1) rfl (by decide) (cap := 4) (by decide) (by decide) (by decide) (by decide) (ad := "[B") (by decide)
 obtain ⟨ob1, g1⟩ : ∃ z, z = h0.size := ⟨_, rfl⟩
 rw [← g1] at A1 EX1 st1
 have Zs2 : n0 ≤ h1.size := Nat.le_trans Z0 E1.1
 have KC2 : Keep h0 h1 [] := (Keep.refl h0 []).ext E1
 have g_ob1 : n0 ≤ ob1 := Nat.le_trans Z0 (Nat.le_of_eq g1.symm)
 have sz_ob1 : h0.size ≤ ob1 := Nat.le_trans (Keep.refl h0 []).1 (Nat.le_of_eq g1.symm)
 have V1 : Arv Z h1 ob1 k1 .byte (4 : Int32) [(.int (0 : Int32)), (.int (0 : Int32)), (.int (0 : Int32)), (.int (0 : Int32))] (.int (0 : Int32)) := (Arv.new A1 (by decide)).pad (pad_rep [] (.int (0 : Int32)) 4)
 refine Go.st st1 ?_
 refine g_astoreN X1 hx hby dc14_3 rfl (l' := #[.val (.ref ca), .val (.int 0), .val (.int 4), .val (.ref ob1), .unset, .unset]) rfl ?_
 refine g_aloadN X1 hx hby dc14_4 rfl rfl ?_
 refine g_iloadN X1 hx hby dc14_5 rfl ?_
 refine g_aloadN X1 hx hby dc14_6 rfl rfl ?_
 refine g_iconst X1 hx hby dc14_7 (v := 0) rfl ?_
 refine g_iloadN X1 hx hby dc14_8 rfl ?_
 have f4 := (CA0.ext E1)
 have ne_ca_ob1 : ca ≠ ob1 := Nat.ne_of_lt (Nat.lt_of_lt_of_le CA0.lt (Nat.le_of_eq g1.symm))
 obtain ⟨_, _, ⟨T3, L3, k3, n3⟩, -, X3, ⟨Lc3, hQ3, l3, y3, z3⟩, st3⟩ := Jvm.LawKit.callS X1 hx (y := zy13) hown (mvT hZ (hw _ (own_m 27 rfl))) (mvT hZ (hw _ (own_m 28 rfl))) (mvT hZ (hw _ (own_m 24 rfl))) (mvT hZ (hw _ (own_m 29 rfl))) (by decide) (backOf (W := 0) (rmCo4 l Z a0 hw [] ca ob1 kc x y z u k1 h1 n0 Zs2 f4 V1 g_ob1 ne_ca_ob1 hx1 hx2 hy1 hy2 hz1 hz2 hu1 hu2) hZ (hw _ (own_m 29 rfl)) (hw _ (own_m 24 rfl)) (by decide) (by decide)) (g := (mkF mi 9 #[.val (.ref ca), .val (.int 0), .val (.int 4), .val (.ref ob1), .unset, .unset] [(.int 4), (.int 0), (.ref ob1), (.int 0), (.ref ca)])) rfl (by rw [hml]; rfl) (argsL := [(.ref ca), (.int 0), (.ref ob1), (.int 0), (.int 4)]) (rest := []) (lenOf pd_5 rfl) rfl (by show 2 * 0 + _ ≤ _; exact Nat.le_of_eq rfl) (hb hby dc14_9) (fun _ _ => ⟨rfl, e1, (by decide : 1 + 0 ≤ _), (by decide : 4 + 0 ≤ _)⟩)
 dsimp only [Pt.U, Pt.locs, Pt.cells, Pt.slots] at X3 l3 y3 z3 st3 hQ3
 subst y3 z3
 have X3 := own_cs X3 (cells' := 1) (slots' := 4) rfl rfl
 obtain ⟨h3, e3⟩ : ∃ z, T3.heap = z := ⟨_, rfl⟩
 rw [e3] at hQ3
 obtain ⟨rfl, N3q, K3, VV_3⟩ := hQ3
 have N3 := own_fr l3 (Fr.app N0 N3q)
 have Zs5 : n0 ≤ h3.size := Nat.le_trans Zs2 K3.1
 have KC5 : Keep h0 h3 [] := KC2.trans K3 (allS (P := fun x => x ∈ [] ∨ h0.size ≤ x) (Or.inr sz_ob1) all0)
 refine Go.st st3 ?_
 refine g_istore X3 hx hby dc14_12 (l' := #[.val (.ref ca), .val (.int 0), .val (.int 4), .val (.ref ob1), .val (.int 4), .unset]) rfl ?_
 refine g_iload X3 hx hby dc14_14 rfl ?_
 refine g_iloadN X3 hx hby dc14_16 rfl ?_
 refine g_icmpYes X3 hx hby dc14_17 (teq rfl).1 (pc0 := 17) (pc' := 57) rfl (by decide) (by decide) ?_
 refine g_aloadN X3 hx hby dc14_57 rfl rfl ?_
 obtain ⟨fs, hr, hrun, hended, hW, hsame⟩ := X3.leave (v := some (.ref ob1)) (fun h => by rw [Bd.returns] at h; cases h) (BodyLoose.notSynchronized Bd)
 have f6 := (EX1.keep K3)
 refine ⟨_, _, ?_, hP _ _ ⟨hrun, hended, _, _, rfl, ?_, ⟨_, rfl⟩, hW, hsame.mono (by decide) (by decide)⟩⟩
 ·exact retOut X3 hx Bd.returns rfl (Or.inr (Or.inr (Or.inr (Or.inr ⟨rfl, rfl, rfl⟩)))) (hb hby dc14_58) hr
 ·show Q_rmCp4 _ _ _ _ _ _ _ _ _ _ T3.heap _
  rw [e3]
  exact ⟨ob1, k1, rfl, N3, KC5, sz_ob1, g_ob1, VV_3, f6⟩
theorem dc15_0 : Dk zb15 0 (.iload_n 1) 1 := by decide +kernel
theorem dc15_1 : Dk zb15 1 (.aload_n 0) 1 := by decide +kernel
theorem dc15_2 : Dk zb15 2 .arraylength 1 := by decide +kernel
theorem dc15_3 : Dk zb15 3 .isub 1 := by decide +kernel
theorem dc15_4 : Dk zb15 4 (.bipush 31) 2 := by decide +kernel
theorem dc15_6 : Dk zb15 6 .iushr 1 := by decide +kernel
theorem dc15_7 : Dk zb15 7 .i2b 1 := by decide +kernel
theorem dc15_8 : Dk zb15 8 .ireturn 1 := by decide +kernel
theorem ef_rmCL4 (mi : MethodId) (bb : Addr) : entryFrame mi #[(.ref bb), (.int 4)] 2 = mkF mi 0 #[.val (.ref bb), .val (.int 4)] [] := by first | (simp [entryFrame, mkF, argsToLocals, Value.category]; done) | rfl
theorem rmCL4 (l : Launch) (Z : State) (a0 : Array Value) (hw : Tb Z a0) (ws : List Jvm.Cond) (bb : Addr) (kb : ClassId) (vs : List Value) (h0 : Heap) (n0 : Nat) (Z0 : n0 ≤ h0.size) (CB0 : Arv Z h0 bb kb .byte (4 : Int32) vs (.int (0 : Int32))) :
  Mt l Z zy15 zb15 2 (some .byte) ws zR0 #[(.ref bb), (.int 4)] h0 (QP (some (.int (0 : Int32))) h0 n0) := by
 refine MetFree.of_bodySF (plainFor_of_name pn_4) hisR ?_
 intro pg ev si mi args below meth ci s₁ Bd hml0 hP0 hK
 obtain ⟨rfl, hZ, hh⟩ := hP0
 have hx := Bd.exec
 have hby := Bd.bytes
 have hml : ci.maxLocals = 2 := hml0
 have hown : si.vm.findClass "java/lang/StringUTF16" = some mi.cls := findClass_of_methodNamed Bd.named
 have hnm := (name_of_methodNamed Bd.named Bd.method).1
 have X0 : Stand pg l ev zR0 si mi #[(.ref bb), (.int 4)] below meth ci s₁ [] 0 0 := Stand.of_body Bd
 have e0 : s₁.heap = h0 := by rw [← hh, Bd.state]; rfl
 have N0 := Fr.nil n0
 refine Go.start (fun P hP => ?_)
 refine Go.st (fun t_ k_ => castTop (ef_rmCL4 mi bb) k_) (A := s₁.setTop (mkF mi 0 #[.val (.ref bb), .val (.int 4)] [])) ?_
 refine g_iloadN X0 hx hby dc15_0 rfl ?_
 refine g_aloadN X0 hx hby dc15_1 rfl rfl ?_
 have ov1 := CB0
 obtain ⟨cl1, Ar1, q1, S1, M1, H1, G1⟩ := ov1
 refine Go.st (X0.arraylength hx (by rw [e0]; exact Ar1.1) (State.isArrayOf_alike hZ.alike Ar1.2.1) (g := (mkF mi 2 #[.val (.ref bb), .val (.int 4)] [(.ref bb), (.int 4)])) rfl rfl (hb hby dc15_2)) ?_
 rw [len_of S1 M1]
 refine g_isub X0 hx hby dc15_3 (z := 0) rfl ?_
 refine g_bipush X0 hx hby dc15_4 (v := 31) rfl ?_
 refine Go.s (XS.iushr X0.here hx rfl (hb hby dc15_6) rfl) ?_
 refine g_i2b X0 hx hby dc15_7 (z := 0) rfl ?_
 obtain ⟨fs, hr, hrun, hended, hW, hsame⟩ := X0.leave (v := some (.int 0)) (fun h => by rw [Bd.returns] at h; cases h) (BodyLoose.notSynchronized Bd)
 refine ⟨_, _, ?_, hP _ _ ⟨hrun, hended, _, _, rfl, ?_, ⟨_, rfl⟩, hW, hsame.mono (by decide) (by decide)⟩⟩
 ·exact retN X0 hx (t := .byte) Bd.returns (by simp) (hb hby dc15_8) hr
 ·exact ⟨rfl, N0, e0⟩
theorem dc16_0 : Dk zb16 0 (.aload_n 0) 1 := by decide +kernel
theorem dc16_1 : Dk zb16 1 (.invokespecial 1) 3 := by decide +kernel
theorem dc16_4 : Dk zb16 4 (.iload_n 3) 1 := by decide +kernel
theorem dc16_5 : Dk zb16 5 (.ifCond .ne 22) 3 := by decide +kernel
theorem dc16_27 : Dk zb16 27 (.getstatic 38) 3 := by decide +kernel
theorem dc16_30 : Dk zb16 30 (.ifCond .eq 28) 3 := by decide +kernel
theorem dc16_33 : Dk zb16 33 (.aload_n 1) 1 := by decide +kernel
theorem dc16_34 : Dk zb16 34 (.iload_n 2) 1 := by decide +kernel
theorem dc16_35 : Dk zb16 35 (.iload_n 3) 1 := by decide +kernel
theorem dc16_36 : Dk zb16 36 (.invokestatic 177) 3 := by decide +kernel
theorem pd_6 : parseMethodDescriptor "([CII)[B" = some ⟨[(.array .char), .int, .int], some (.array .byte)⟩ := by decide +kernel
theorem dc16_39 : Dk zb16 39 (.astore 5) 2 := by decide +kernel
theorem dc16_41 : Dk zb16 41 (.aload_n 0) 1 := by decide +kernel
theorem dc16_42 : Dk zb16 42 (.aload 5) 2 := by decide +kernel
theorem dc16_44 : Dk zb16 44 (.iload_n 3) 1 := by decide +kernel
theorem dc16_45 : Dk zb16 45 (.invokestatic 47) 3 := by decide +kernel
theorem pd_7 : parseMethodDescriptor "([BI)B" = some ⟨[(.array .byte), .int], some .byte⟩ := by decide +kernel
theorem dc16_48 : Dk zb16 48 (.putfield 15) 3 := by decide +kernel
theorem dc16_51 : Dk zb16 51 (.aload_n 0) 1 := by decide +kernel
theorem dc16_52 : Dk zb16 52 (.aload 5) 2 := by decide +kernel
theorem dc16_54 : Dk zb16 54 (.putfield 9) 3 := by decide +kernel
theorem dc16_57 : Dk zb16 57 .return_ 1 := by decide +kernel
theorem ef_rmSV4 (mi : MethodId) (o : Addr) (ca : Addr) : entryFrame mi #[(.ref o), (.ref ca), (.int 0), (.int 4), .null] 6 = mkF mi 0 #[.val (.ref o), .val (.ref ca), .val (.int 0), .val (.int 4), .val .null, .unset] [] := by first | (simp [entryFrame, mkF, argsToLocals, Value.category]; done) | rfl
abbrev Q_rmSV4 (Z : State) (o : Addr) (ca : Addr) (kc : ClassId) (x : Int32) (y : Int32) (z : Int32) (u : Int32) (cz : Int32) (h0 : Heap) (n0 : Nat) (vv_ : Option Value) (hh_ : Heap) (LL_ : List Loc) : Prop := vv_ = none ∧ Fr n0 LL_ ∧ Keep h0 hh_ [o] ∧ ∃ (b : Addr) (kb : ClassId), Exa Z hh_ o "java/lang/String" ∧ Fld Z hh_ o "java/lang/String" "coder" "B" (.int (0 : Int32)) ∧ Fld Z hh_ o "java/lang/String" "value" "[B" (.ref b) ∧ Arv Z hh_ b kb .byte (4 : Int32) ([(x.toInt8.toInt32), (y.toInt8.toInt32), (z.toInt8.toInt32), (u.toInt8.toInt32)].map Value.int) (.int (0 : Int32)) ∧ Exa Z hh_ b "[B"
theorem rmSV4 (l : Launch) (Z : State) (a0 : Array Value) (hw : Tb Z a0) (ws : List Jvm.Cond) (o : Addr) (ca : Addr) (kc : ClassId) (x : Int32) (y : Int32) (z : Int32) (u : Int32) (cz : Int32) (h0 : Heap) (n0 : Nat) (Z0 : n0 ≤ h0.size) (E0 : Exa Z h0 o "java/lang/String") (FS1 : Fld Z h0 o "java/lang/String" "coder" "B" (.int (0 : Int32))) (FS2 : Fld Z h0 o "java/lang/String" "value" "[B" .null) (g_o : n0 ≤ o) (CA0 : Arv Z h0 ca kc .char (4 : Int32) [(.int x), (.int y), (.int z), (.int u)] (.int (0 : Int32))) (ne_o : ca ≠ o) (SC : Sta Z h0 "java/lang/String" "COMPACT_STRINGS" "Z" (.int cz)) (hcz : ¬ (cz = (0 : Int32))) (hx1 : 0 ≤ x.toInt) (hx2 : x.toInt ≤ 255) (hy1 : 0 ≤ y.toInt) (hy2 : y.toInt ≤ 255) (hz1 : 0 ≤ z.toInt) (hz2 : z.toInt ≤ 255) (hu1 : 0 ≤ u.toInt) (hu2 : u.toInt ≤ 255) :
  Mt l Z zy16 zb16 6 none ws zR7 #[(.ref o), (.ref ca), (.int 0), (.int 4), .null] h0 (Q_rmSV4 Z o ca kc x y z u cz h0 n0) := by
 refine MetFree.of_bodySF (plainFor_of_name pn_0) hisR ?_
 intro pg ev si mi args below meth ci s₁ Bd hml0 hP0 hK
 obtain ⟨rfl, hZ, hh⟩ := hP0
 have hx := Bd.exec
 have hby := Bd.bytes
 have hml : ci.maxLocals = 6 := hml0
 have hown : si.vm.findClass "java/lang/String" = some mi.cls := findClass_of_methodNamed Bd.named
 have hnm := (name_of_methodNamed Bd.named Bd.method).1
 have X0 : Stand pg l ev zR7 si mi #[(.ref o), (.ref ca), (.int 0), (.int 4), .null] below meth ci s₁ [] 0 0 := Stand.of_body Bd
 have e0 : s₁.heap = h0 := by rw [← hh, Bd.state]; rfl
 have N0 := Fr.nil n0
 refine Go.start (fun P hP => ?_)
 refine Go.st (fun t_ k_ => castTop (ef_rmSV4 mi o ca) k_) (A := s₁.setTop (mkF mi 0 #[.val (.ref o), .val (.ref ca), .val (.int 0), .val (.int 4), .val .null, .unset] [])) ?_
 refine g_aloadN X0 hx hby dc16_0 rfl rfl ?_
 obtain ⟨T1, X1, e1, st1⟩ := initO X0 hx hZ hown (hw _ (own_m 18 rfl)) (hw _ (own_m 19 rfl)) (hw _ (own_m 20 rfl)) e0 (g := (mkF mi 1 #[.val (.ref o), .val (.ref ca), .val (.int 0), .val (.int 4), .val .null, .unset] [(.ref o)])) rfl (by rw [hml]; rfl) rfl (hb hby dc16_1) (by decide) (W := 0) (by show 2 * 0 + _ ≤ _; exact Nat.le_of_eq rfl) (by decide)
 refine Go.st st1 ?_
 refine g_iloadN X1 hx hby dc16_4 rfl ?_
 refine g_ifYes X1 hx hby dc16_5 ((if0 _ _).trans (feq (by decide)).2) (pc0 := 5) (pc' := 27) rfl (by decide) (by decide) ?_
 obtain ⟨T2, X2, e2, st2⟩ := getS2 X1 hx hZ hown (host := "") (Or.inl (hw _ (own_m 21 rfl))) Via.refl e1 SC (g := (mkF mi 27 #[.val (.ref o), .val (.ref ca), .val (.int 0), .val (.int 4), .val .null, .unset] [])) rfl (hb hby dc16_27)
 refine Go.st st2 ?_
 refine g_ifNo X2 hx hby dc16_30 ((if0 _ _).trans (feq hcz).1) ?_
 refine g_aloadN X2 hx hby dc16_33 rfl rfl ?_
 refine g_iloadN X2 hx hby dc16_34 rfl ?_
 refine g_iloadN X2 hx hby dc16_35 rfl ?_
 obtain ⟨_, _, ⟨T3, L3, k3, n3⟩, -, X3, ⟨Lc3, hQ3, l3, y3, z3⟩, st3⟩ := Jvm.LawKit.callS X2 hx (y := zy14) hown (mvT hZ (hw _ (own_m 22 rfl))) (mvT hZ (hw _ (own_m 23 rfl))) (mvT hZ (hw _ (own_m 24 rfl))) (mvT hZ (hw _ (own_m 25 rfl))) (by decide) (backOf (W := 0) (rmCp4 l Z a0 hw [] ca kc x y z u h0 n0 Z0 CA0 hx1 hx2 hy1 hy2 hz1 hz2 hu1 hu2) hZ (hw _ (own_m 25 rfl)) (hw _ (own_m 24 rfl)) (by decide) (by decide)) (g := (mkF mi 36 #[.val (.ref o), .val (.ref ca), .val (.int 0), .val (.int 4), .val .null, .unset] [(.int 4), (.int 0), (.ref ca)])) rfl (by rw [hml]; rfl) (argsL := [(.ref ca), (.int 0), (.int 4)]) (rest := []) (lenOf pd_6 rfl) rfl (by show 2 * 0 + _ ≤ _; exact Nat.le_of_eq rfl) (hb hby dc16_36) (fun _ _ => ⟨rfl, e2, (by decide : 0 + 1 ≤ _), (by decide : 0 + 4 ≤ _)⟩)
 dsimp only [Pt.U, Pt.locs, Pt.cells, Pt.slots] at X3 l3 y3 z3 st3 hQ3
 subst y3 z3
 have X3 := own_cs X3 (cells' := 1) (slots' := 4) rfl rfl
 obtain ⟨h3, e3⟩ : ∃ z, T3.heap = z := ⟨_, rfl⟩
 rw [e3] at hQ3
 obtain ⟨r3, kr3, rfl, N3q, K3, z_r3, g_r3, V_r3, E_r3⟩ := hQ3
 have N3 := own_fr l3 (Fr.app N0 N3q)
 have Zs4 : n0 ≤ h3.size := Nat.le_trans Z0 K3.1
 have KC4 : Keep h0 h3 [o] := (Keep.refl h0 [o]).trans K3 all0
 have sz_r3 : h0.size ≤ r3 := Nat.le_trans (Keep.refl h0 [o]).1 z_r3
 refine Go.st st3 ?_
 refine g_astore X3 hx hby dc16_39 rfl (l' := #[.val (.ref o), .val (.ref ca), .val (.int 0), .val (.int 4), .val .null, .val (.ref r3)]) rfl ?_
 refine g_aloadN X3 hx hby dc16_41 rfl rfl ?_
 refine g_aload X3 hx hby dc16_42 rfl rfl ?_
 refine g_iloadN X3 hx hby dc16_44 rfl ?_
 obtain ⟨_, _, ⟨T5, L5, k5, n5⟩, -, X5, ⟨Lc5, hQ5, l5, y5, z5⟩, st5⟩ := Jvm.LawKit.callS X3 hx (y := zy15) hown (mvT hZ (hw _ (own_m 30 rfl))) (mvT hZ (hw _ (own_m 31 rfl))) (mvT hZ (hw _ (own_m 24 rfl))) (mvT hZ (hw _ (own_m 32 rfl))) (by decide) (backOf (W := 1) (rmCL4 l Z a0 hw [] r3 kr3 [(.int (x.toInt8.toInt32)), (.int (y.toInt8.toInt32)), (.int (z.toInt8.toInt32)), (.int (u.toInt8.toInt32))] h3 n0 Zs4 V_r3) hZ (hw _ (own_m 32 rfl)) (hw _ (own_m 24 rfl)) (by decide) (by decide)) (g := (mkF mi 45 #[.val (.ref o), .val (.ref ca), .val (.int 0), .val (.int 4), .val .null, .val (.ref r3)] [(.int 4), (.ref r3), (.ref o)])) rfl (by rw [hml]; rfl) (argsL := [(.ref r3), (.int 4)]) (rest := [(.ref o)]) (lenOf pd_7 rfl) rfl (by show 2 * 0 + _ ≤ _; exact Nat.le_of_eq rfl) (hb hby dc16_45) (fun _ _ => ⟨rfl, e3, (by decide : 1 + 0 ≤ _), (by decide : 4 + 0 ≤ _)⟩)
 dsimp only [Pt.U, Pt.locs, Pt.cells, Pt.slots] at X5 l5 y5 z5 st5 hQ5
 subst y5 z5
 have X5 := own_cs X5 (cells' := 1) (slots' := 4) rfl rfl
 obtain ⟨rfl, N5q, e5⟩ := hQ5
 have N5 := own_fr l5 (Fr.app N3 N5q)
 refine Go.st st5 ?_
 have f6 := (FS1.keep K3 nin0)
 have f7 := (E0.keep K3)
 obtain ⟨T8, h8, X8, e8, W8, st8⟩ := putFN X5 hx hZ hown (hw _ (own_m 33 rfl)) Via.refl e5 f6 f7 (Or.inr ⟨(hw _ (own_m 34 rfl)), rfl, hnm⟩) (hw _ (own_m 8 rfl)) (ty := .byte) (v' := (.int 0)) (by decide) rfl (by decide) (g := (mkF mi 48 #[.val (.ref o), .val (.ref ca), .val (.int 0), .val (.int 4), .val .null, .val (.ref r3)] [(.int 0), (.ref o)])) rfl rfl (hb hby dc16_48)
 have Zs9 : n0 ≤ h8.size := Nat.le_trans Zs4 (Keep.of_wr W8).1
 have KC9 : Keep h0 h8 [o] := KC4.wr W8 (Or.inl (List.mem_of_getElem? (i := 0) rfl))
 have N9 := Fr.snoc X8 N5 g_o
 have F8 : Fld Z h8 o "java/lang/String" "coder" "B" (.int 0) := f6.same W8
 refine Go.st st8 ?_
 refine g_aloadN X8 hx hby dc16_51 rfl rfl ?_
 refine g_aload X8 hx hby dc16_52 rfl rfl ?_
 have f10 := ((FS2.keep K3 nin0).other W8 (Or.inr (slot_ne (Or.inr (hw _ (own_m 36 rfl))) (Or.inr (hw _ (own_m 34 rfl))) (by decide) (t := (.array .byte)) (t' := .byte) (by decide) (by decide))))
 have f11 := (f7.wr W8)
 obtain ⟨T12, h12, X12, e12, W12, st12⟩ := putF X8 hx hZ hown (host := "") (Or.inl (hw _ (own_m 35 rfl))) Via.refl e8 f10 f11 (Or.inr ⟨(hw _ (own_m 36 rfl)), rfl, hnm⟩) (hw _ (own_m 8 rfl)) (ty := (.array .byte)) (by decide) rfl rfl (g := (mkF mi 54 #[.val (.ref o), .val (.ref ca), .val (.int 0), .val (.int 4), .val .null, .val (.ref r3)] [(.ref r3), (.ref o)])) rfl rfl (hb hby dc16_54)
 have Zs13 : n0 ≤ h12.size := Nat.le_trans Zs9 (Keep.of_wr W12).1
 have KC13 : Keep h0 h12 [o] := KC9.wr W12 (Or.inl (List.mem_of_getElem? (i := 0) rfl))
 have N13 := Fr.snoc X12 N9 g_o
 have F12 : Fld Z h12 o "java/lang/String" "value" "[B" (.ref r3) := f10.same W12
 refine Go.st st12 ?_
 obtain ⟨fs, hr, hrun, hended, hW, hsame⟩ := X12.leave (v := none) (fun _ => rfl) (BodyLoose.notSynchronized Bd)
 have f14 := (f11.wr W12)
 have f15 := (F8.other W12 (Or.inr (slot_ne (Or.inr (hw _ (own_m 34 rfl))) (Or.inr (hw _ (own_m 36 rfl))) (by decide) (t := .byte) (t' := (.array .byte)) (by decide) (by decide))))
 have ne_o_r3 : o ≠ r3 := Nat.ne_of_lt (Nat.lt_of_lt_of_le E0.lt z_r3)
 have f16 := ((V_r3.other W8 (Ne.symm ne_o_r3)).other W12 (Ne.symm ne_o_r3))
 have f17 := ((E_r3.wr W8).wr W12)
 refine ⟨_, _, ?_, hP _ _ ⟨hrun, hended, _, _, rfl, ?_, ⟨_, rfl⟩, hW, hsame.mono (by decide) (by decide)⟩⟩
 ·exact X12.returnOut hx Bd.returns (hb hby dc16_57) hr
 ·show Q_rmSV4 _ _ _ _ _ _ _ _ _ _ _ _ T12.heap _
  rw [e12]
  exact ⟨rfl, N13, KC13, r3, kr3, f14, f15, F12, f16, f17⟩
theorem dc17_0 : Dk zb17 0 (.aload_n 0) 1 := by decide +kernel
theorem dc17_1 : Dk zb17 1 (.aload_n 1) 1 := by decide +kernel
theorem dc17_2 : Dk zb17 2 (.iconst 0) 1 := by decide +kernel
theorem dc17_3 : Dk zb17 3 (.aload_n 1) 1 := by decide +kernel
theorem dc17_4 : Dk zb17 4 .arraylength 1 := by decide +kernel
theorem dc17_5 : Dk zb17 5 .aconst_null 1 := by decide +kernel
theorem dc17_6 : Dk zb17 6 (.invokespecial 27) 3 := by decide +kernel
theorem pd_8 : parseMethodDescriptor "([CIILjava/lang/Void;)V" = some ⟨[(.array .char), .int, .int, (.object "java/lang/Void")], none⟩ := by decide +kernel
theorem dc17_9 : Dk zb17 9 .return_ 1 := by decide +kernel
theorem ef_rmSC4 (mi : MethodId) (o : Addr) (ca : Addr) : entryFrame mi #[(.ref o), (.ref ca)] 2 = mkF mi 0 #[.val (.ref o), .val (.ref ca)] [] := by first | (simp [entryFrame, mkF, argsToLocals, Value.category]; done) | rfl
abbrev Q_rmSC4 (Z : State) (o : Addr) (ca : Addr) (kc : ClassId) (x : Int32) (y : Int32) (z : Int32) (u : Int32) (cz : Int32) (h0 : Heap) (n0 : Nat) (vv_ : Option Value) (hh_ : Heap) (LL_ : List Loc) : Prop := vv_ = none ∧ Fr n0 LL_ ∧ Keep h0 hh_ [o] ∧ ∃ (b : Addr) (kb : ClassId), Exa Z hh_ o "java/lang/String" ∧ Fld Z hh_ o "java/lang/String" "coder" "B" (.int (0 : Int32)) ∧ Fld Z hh_ o "java/lang/String" "value" "[B" (.ref b) ∧ Arv Z hh_ b kb .byte (4 : Int32) ([(x.toInt8.toInt32), (y.toInt8.toInt32), (z.toInt8.toInt32), (u.toInt8.toInt32)].map Value.int) (.int (0 : Int32)) ∧ Exa Z hh_ b "[B"
theorem rmSC4 (l : Launch) (Z : State) (a0 : Array Value) (hw : Tb Z a0) (ws : List Jvm.Cond) (o : Addr) (ca : Addr) (kc : ClassId) (x : Int32) (y : Int32) (z : Int32) (u : Int32) (cz : Int32) (h0 : Heap) (n0 : Nat) (Z0 : n0 ≤ h0.size) (E0 : Exa Z h0 o "java/lang/String") (FS1 : Fld Z h0 o "java/lang/String" "coder" "B" (.int (0 : Int32))) (FS2 : Fld Z h0 o "java/lang/String" "value" "[B" .null) (g_o : n0 ≤ o) (CA0 : Arv Z h0 ca kc .char (4 : Int32) [(.int x), (.int y), (.int z), (.int u)] (.int (0 : Int32))) (ne_o : ca ≠ o) (SC : Sta Z h0 "java/lang/String" "COMPACT_STRINGS" "Z" (.int cz)) (hcz : ¬ (cz = (0 : Int32))) (hx1 : 0 ≤ x.toInt) (hx2 : x.toInt ≤ 255) (hy1 : 0 ≤ y.toInt) (hy2 : y.toInt ≤ 255) (hz1 : 0 ≤ z.toInt) (hz2 : z.toInt ≤ 255) (hu1 : 0 ≤ u.toInt) (hu2 : u.toInt ≤ 255) :
  Mt l Z zy17 zb17 2 none ws zR8 #[(.ref o), (.ref ca)] h0 (Q_rmSC4 Z o ca kc x y z u cz h0 n0) := by
 refine MetFree.of_bodySF (plainFor_of_name pn_0) hisR ?_
 intro pg ev si mi args below meth ci s₁ Bd hml0 hP0 hK
 obtain ⟨rfl, hZ, hh⟩ := hP0
 have hx := Bd.exec
 have hby := Bd.bytes
 have hml : ci.maxLocals = 2 := hml0
 have hown : si.vm.findClass "java/lang/String" = some mi.cls := findClass_of_methodNamed Bd.named
 have hnm := (name_of_methodNamed Bd.named Bd.method).1
 have X0 : Stand pg l ev zR8 si mi #[(.ref o), (.ref ca)] below meth ci s₁ [] 0 0 := Stand.of_body Bd
 have e0 : s₁.heap = h0 := by rw [← hh, Bd.state]; rfl
 have N0 := Fr.nil n0
 refine Go.start (fun P hP => ?_)
 refine Go.st (fun t_ k_ => castTop (ef_rmSC4 mi o ca) k_) (A := s₁.setTop (mkF mi 0 #[.val (.ref o), .val (.ref ca)] [])) ?_
 refine g_aloadN X0 hx hby dc17_0 rfl rfl ?_
 refine g_aloadN X0 hx hby dc17_1 rfl rfl ?_
 refine g_iconst X0 hx hby dc17_2 (v := 0) rfl ?_
 refine g_aloadN X0 hx hby dc17_3 rfl rfl ?_
 have ov1 := CA0
 obtain ⟨cl1, Ar1, q1, S1, M1, H1, G1⟩ := ov1
 refine Go.st (X0.arraylength hx (by rw [e0]; exact Ar1.1) (State.isArrayOf_alike hZ.alike Ar1.2.1) (g := (mkF mi 4 #[.val (.ref o), .val (.ref ca)] [(.ref ca), (.int 0), (.ref ca), (.ref o)])) rfl rfl (hb hby dc17_4)) ?_
 rw [len_of S1 M1]
 refine Go.s (XS.aconstNull X0.here hx rfl (hb hby dc17_5)) ?_
 obtain ⟨_, _, ⟨T2, L2, k2, n2⟩, -, X2, ⟨Lc2, hQ2, l2, y2, z2⟩, st2⟩ := X0.specialBack hx (y := zy16) rfl hown (mvT hZ (hw _ (own_m 14 rfl))) (mvT hZ (hw _ (own_m 15 rfl))) (mvT hZ (hw _ (own_m 17 rfl))) (by decide) (backOf (W := 0) (rmSV4 l Z a0 hw [] o ca kc x y z u cz h0 n0 Z0 E0 FS1 FS2 g_o CA0 ne_o SC hcz hx1 hx2 hy1 hy2 hz1 hz2 hu1 hu2) hZ (hw _ (own_m 17 rfl)) (hw _ (own_m 9 rfl)) (by decide) (by decide)) (g := (mkF mi 6 #[.val (.ref o), .val (.ref ca)] [.null, (.int 4), (.int 0), (.ref ca), (.ref o)])) rfl (by rw [hml]; rfl) (Steps.refl _) (a := o) (argsL := [(.ref ca), (.int 0), (.int 4), .null]) (rest := []) (lenOf pd_8 rfl) rfl (by show 2 * 0 + _ ≤ _; exact Nat.le_of_eq rfl) (hb hby dc17_6) (fun _ _ => ⟨rfl, e0, (by decide : 0 + 1 ≤ _), (by decide : 0 + 4 ≤ _)⟩)
 dsimp only [Pt.U, Pt.locs, Pt.cells, Pt.slots] at X2 l2 y2 z2 st2 hQ2
 subst y2 z2
 have X2 := own_cs X2 (cells' := 1) (slots' := 4) rfl rfl
 obtain ⟨h2, e2⟩ : ∃ z, T2.heap = z := ⟨_, rfl⟩
 rw [e2] at hQ2
 obtain ⟨rfl, N2q, K2, sb2, sk2, SE2, SCo2, SVa2, SAr2, SEb2⟩ := hQ2
 have N2 := own_fr l2 (Fr.app N0 N2q)
 have Zs3 : n0 ≤ h2.size := Nat.le_trans Z0 K2.1
 have KC3 : Keep h0 h2 [o] := (Keep.refl h0 [o]).trans K2 (allS (P := fun x => x ∈ [o] ∨ h0.size ≤ x) (Or.inl (List.mem_of_getElem? (i := 0) rfl)) all0)
 refine Go.tr st2 ?_
 obtain ⟨fs, hr, hrun, hended, hW, hsame⟩ := X2.leave (v := none) (fun _ => rfl) (BodyLoose.notSynchronized Bd)
 refine ⟨_, _, ?_, hP _ _ ⟨hrun, hended, _, _, rfl, ?_, ⟨_, rfl⟩, hW, hsame.mono (by decide) (by decide)⟩⟩
 ·exact X2.returnOut hx Bd.returns (hb hby dc17_9) hr
 ·show Q_rmSC4 _ _ _ _ _ _ _ _ _ _ _ _ T2.heap _
  rw [e2]
  exact ⟨rfl, N2, KC3, sb2, sk2, SE2, SCo2, SVa2, SAr2, SEb2⟩
theorem ef_rmCo3 (mi : MethodId) (ca : Addr) (bb : Addr) : entryFrame mi #[(.ref ca), (.int 0), (.ref bb), (.int 0), (.int 3)] 7 = mkF mi 0 #[.val (.ref ca), .val (.int 0), .val (.ref bb), .val (.int 0), .val (.int 3), .unset, .unset] [] := by first | (simp [entryFrame, mkF, argsToLocals, Value.category]; done) | rfl
abbrev Q_rmCo3 (Z : State) (ca : Addr) (bb : Addr) (kc : ClassId) (x : Int32) (y : Int32) (z : Int32) (kb : ClassId) (h0 : Heap) (n0 : Nat) (vv_ : Option Value) (hh_ : Heap) (LL_ : List Loc) : Prop := vv_ = some (.int (3 : Int32)) ∧ Fr n0 LL_ ∧ Keep h0 hh_ [bb] ∧ Arv Z hh_ bb kb .byte (3 : Int32) [(.int (x.toInt8.toInt32)), (.int (y.toInt8.toInt32)), (.int (z.toInt8.toInt32))] (.int (0 : Int32))
theorem rmCo3 (l : Launch) (Z : State) (a0 : Array Value) (hw : Tb Z a0) (ws : List Jvm.Cond) (ca : Addr) (bb : Addr) (kc : ClassId) (x : Int32) (y : Int32) (z : Int32) (kb : ClassId) (h0 : Heap) (n0 : Nat) (Z0 : n0 ≤ h0.size) (CA0 : Arv Z h0 ca kc .char (3 : Int32) [(.int x), (.int y), (.int z)] (.int (0 : Int32))) (CB0 : Arv Z h0 bb kb .byte (3 : Int32) [(.int (0 : Int32)), (.int (0 : Int32)), (.int (0 : Int32))] (.int (0 : Int32))) (g_b : n0 ≤ bb) (ne_b : ca ≠ bb) (hx1 : 0 ≤ x.toInt) (hx2 : x.toInt ≤ 255) (hy1 : 0 ≤ y.toInt) (hy2 : y.toInt ≤ 255) (hz1 : 0 ≤ z.toInt) (hz2 : z.toInt ≤ 255) :
  Mt l Z zy13 zb13 7 (some .int) ws zR0 #[(.ref ca), (.int 0), (.ref bb), (.int 0), (.int 3)] h0 (Q_rmCo3 Z ca bb kc x y z kb h0 n0) := by
 refine MetFree.of_bodySF (plainFor_of_name pn_4) hisR ?_
 intro pg ev si mi args below meth ci s₁ Bd hml0 hP0 hK
 obtain ⟨rfl, hZ, hh⟩ := hP0
 have hx := Bd.exec
 have hby := Bd.bytes
 have hml : ci.maxLocals = 7 := hml0
 have hown : si.vm.findClass "java/lang/StringUTF16" = some mi.cls := findClass_of_methodNamed Bd.named
 have hnm := (name_of_methodNamed Bd.named Bd.method).1
 have X0 : Stand pg l ev zR0 si mi #[(.ref ca), (.int 0), (.ref bb), (.int 0), (.int 3)] below meth ci s₁ [] 0 0 := Stand.of_body Bd
 have e0 : s₁.heap = h0 := by rw [← hh, Bd.state]; rfl
 have N0 := Fr.nil n0
 refine Go.start (fun P hP => ?_)
 refine Go.st (fun t_ k_ => castTop (ef_rmCo3 mi ca bb) k_) (A := s₁.setTop (mkF mi 0 #[.val (.ref ca), .val (.int 0), .val (.ref bb), .val (.int 0), .val (.int 3), .unset, .unset] [])) ?_
 refine g_iconst X0 hx hby dc13_0 (v := 0) rfl ?_
 refine g_istore X0 hx hby dc13_1 (l' := #[.val (.ref ca), .val (.int 0), .val (.ref bb), .val (.int 0), .val (.int 3), .val (.int 0), .unset]) rfl ?_
 refine g_iload X0 hx hby dc13_3 rfl ?_
 refine g_iload X0 hx hby dc13_5 rfl ?_
 refine g_icmpNo X0 hx hby dc13_7 (tlt (by decide)).2.1 ?_
 refine g_aloadN X0 hx hby dc13_10 rfl rfl ?_
 refine g_iloadN X0 hx hby dc13_11 rfl ?_
 have ov1 := CA0
 obtain ⟨cl1, Ar1, q1, S1, M1, H1, G1⟩ := ov1
 have hin1 : ¬ ((0 : Int32) < 0 ∨ cl1.slots.size ≤ ((0 : Int32)).toNatClampNeg) := inb_of S1 ⟨by decide, by decide⟩
 have hat1 : cl1.slots[((0 : Int32)).toNatClampNeg]? = some (.int x) := Has.at H1 hin1 rfl
 refine Go.st (X0.caload hx (j := (0 : Int32)) (v := (.int x)) (by rw [e0]; exact Ar1.1) (State.isArrayOf_alike hZ.alike Ar1.2.1) Ar1.2.2 hin1 hat1 (g := (mkF mi 12 #[.val (.ref ca), .val (.int 0), .val (.ref bb), .val (.int 0), .val (.int 3), .val (.int 0), .unset] [(.int 0), (.ref ca)])) rfl rfl (hb hby dc13_12)) ?_
 refine g_istore X0 hx hby dc13_13 (l' := #[.val (.ref ca), .val (.int 0), .val (.ref bb), .val (.int 0), .val (.int 3), .val (.int 0), .val (.int x)]) rfl ?_
 refine g_iload X0 hx hby dc13_15 rfl ?_
 refine g_sipush X0 hx hby dc13_17 (v := 255) rfl ?_
 refine g_icmpYes X0 hx hby dc13_20 (flt (own_255 hx2)).2.2.2 (pc0 := 20) (pc' := 26) rfl (by decide) (by decide) ?_
 refine g_aloadN X0 hx hby dc13_26 rfl rfl ?_
 refine g_iloadN X0 hx hby dc13_27 rfl ?_
 refine g_iload X0 hx hby dc13_28 rfl ?_
 refine g_i2b X0 hx hby dc13_30 rfl ?_
 have ov2 := CB0
 obtain ⟨cl2, Ar2, q2, S2, M2, H2, G2⟩ := ov2
 have hin2 : ¬ ((0 : Int32) < 0 ∨ cl2.slots.size ≤ ((0 : Int32)).toNatClampNeg) := inb_of S2 ⟨by decide, by decide⟩
 obtain ⟨T3, h3, X3, e3, W3, st3⟩ := stB X0 hx hZ e0 Ar2 (j := (0 : Int32)) hin2 (g := (mkF mi 31 #[.val (.ref ca), .val (.int 0), .val (.ref bb), .val (.int 0), .val (.int 3), .val (.int 0), .val (.int x)] [(.int (x.toInt8.toInt32)), (.int 0), (.ref bb)])) rfl rfl (hb hby dc13_31)
 have Zs4 : n0 ≤ h3.size := Nat.le_trans Z0 (Keep.of_wr W3).1
 have KC4 : Keep h0 h3 [bb] := (Keep.refl h0 [bb]).wr W3 (Or.inl (List.mem_of_getElem? (i := 0) rfl))
 have N4 := Fr.snoc X3 N0 g_b
 have V3 : Arv Z h3 bb kb .byte (3 : Int32) [(.int ((x.toInt8.toInt32).toInt8.toInt32)), (.int 0), (.int 0)] (.int (0 : Int32)) := Arv.set Ar2 q2 S2 M2 H2 G2 (fits_nar_byte _) W3 0 rfl (Nat.le_of_ble_eq_true rfl)
 rw [own_bb] at V3
 refine Go.st st3 ?_
 refine g_iinc X3 hx hby dc13_32 rfl (x' := 1) rfl (l' := #[.val (.ref ca), .val (.int 1), .val (.ref bb), .val (.int 0), .val (.int 3), .val (.int 0), .val (.int x)]) rfl ?_
 refine g_iinc X3 hx hby dc13_35 rfl (x' := 1) rfl (l' := #[.val (.ref ca), .val (.int 1), .val (.ref bb), .val (.int 1), .val (.int 3), .val (.int 0), .val (.int x)]) rfl ?_
 refine g_iinc X3 hx hby dc13_38 rfl (x' := 1) rfl (l' := #[.val (.ref ca), .val (.int 1), .val (.ref bb), .val (.int 1), .val (.int 3), .val (.int 1), .val (.int x)]) rfl ?_
 refine g_goto X3 hx hby dc13_41 (pc0 := 41) (pc' := 3) rfl (by decide) (by decide) ?_
 refine g_iload X3 hx hby dc13_3 rfl ?_
 refine g_iload X3 hx hby dc13_5 rfl ?_
 refine g_icmpNo X3 hx hby dc13_7 (tlt (by decide)).2.1 ?_
 refine g_aloadN X3 hx hby dc13_10 rfl rfl ?_
 refine g_iloadN X3 hx hby dc13_11 rfl ?_
 have f5 := (CA0.other W3 ne_b)
 have ov6 := f5
 obtain ⟨cl6, Ar6, q6, S6, M6, H6, G6⟩ := ov6
 have hin6 : ¬ ((1 : Int32) < 0 ∨ cl6.slots.size ≤ ((1 : Int32)).toNatClampNeg) := inb_of S6 ⟨by decide, by decide⟩
 have hat6 : cl6.slots[((1 : Int32)).toNatClampNeg]? = some (.int y) := Has.at H6 hin6 rfl
 refine Go.st (X3.caload hx (j := (1 : Int32)) (v := (.int y)) (by rw [e3]; exact Ar6.1) (State.isArrayOf_alike hZ.alike Ar6.2.1) Ar6.2.2 hin6 hat6 (g := (mkF mi 12 #[.val (.ref ca), .val (.int 1), .val (.ref bb), .val (.int 1), .val (.int 3), .val (.int 1), .val (.int x)] [(.int 1), (.ref ca)])) rfl rfl (hb hby dc13_12)) ?_
 refine g_istore X3 hx hby dc13_13 (l' := #[.val (.ref ca), .val (.int 1), .val (.ref bb), .val (.int 1), .val (.int 3), .val (.int 1), .val (.int y)]) rfl ?_
 refine g_iload X3 hx hby dc13_15 rfl ?_
 refine g_sipush X3 hx hby dc13_17 (v := 255) rfl ?_
 refine g_icmpYes X3 hx hby dc13_20 (flt (own_255 hy2)).2.2.2 (pc0 := 20) (pc' := 26) rfl (by decide) (by decide) ?_
 show Go _ _ _ (T3.setTop (mkF mi 26 #[.val (.ref ca), .val (.int 1), .val (.ref bb), .val (.int 1), .val (.int 3), .val (.int 1), .val (.int y)] [])) _
 refine g_aloadN X3 hx hby dc13_26 rfl rfl ?_
 refine g_iloadN X3 hx hby dc13_27 rfl ?_
 refine g_iload X3 hx hby dc13_28 rfl ?_
 refine g_i2b X3 hx hby dc13_30 rfl ?_
 have ov7 := V3
 obtain ⟨cl7, Ar7, q7, S7, M7, H7, G7⟩ := ov7
 have hin7 : ¬ ((1 : Int32) < 0 ∨ cl7.slots.size ≤ ((1 : Int32)).toNatClampNeg) := inb_of S7 ⟨by decide, by decide⟩
 obtain ⟨T8, h8, X8, e8, W8, st8⟩ := stB X3 hx hZ e3 Ar7 (j := (1 : Int32)) hin7 (g := (mkF mi 31 #[.val (.ref ca), .val (.int 1), .val (.ref bb), .val (.int 1), .val (.int 3), .val (.int 1), .val (.int y)] [(.int (y.toInt8.toInt32)), (.int 1), (.ref bb)])) rfl rfl (hb hby dc13_31)
 have Zs9 : n0 ≤ h8.size := Nat.le_trans Zs4 (Keep.of_wr W8).1
 have KC9 : Keep h0 h8 [bb] := KC4.wr W8 (Or.inl (List.mem_of_getElem? (i := 0) rfl))
 have N9 := Fr.snoc X8 N4 g_b
 have V8 : Arv Z h8 bb kb .byte (3 : Int32) [(.int (x.toInt8.toInt32)), (.int ((y.toInt8.toInt32).toInt8.toInt32)), (.int 0)] (.int (0 : Int32)) := Arv.set Ar7 q7 S7 M7 H7 G7 (fits_nar_byte _) W8 1 rfl (Nat.le_of_ble_eq_true rfl)
 rw [own_bb] at V8
 refine Go.st st8 ?_
 refine g_iinc X8 hx hby dc13_32 rfl (x' := 2) rfl (l' := #[.val (.ref ca), .val (.int 2), .val (.ref bb), .val (.int 1), .val (.int 3), .val (.int 1), .val (.int y)]) rfl ?_
 refine g_iinc X8 hx hby dc13_35 rfl (x' := 2) rfl (l' := #[.val (.ref ca), .val (.int 2), .val (.ref bb), .val (.int 2), .val (.int 3), .val (.int 1), .val (.int y)]) rfl ?_
 refine g_iinc X8 hx hby dc13_38 rfl (x' := 2) rfl (l' := #[.val (.ref ca), .val (.int 2), .val (.ref bb), .val (.int 2), .val (.int 3), .val (.int 2), .val (.int y)]) rfl ?_
 refine g_goto X8 hx hby dc13_41 (pc0 := 41) (pc' := 3) rfl (by decide) (by decide) ?_
 refine g_iload X8 hx hby dc13_3 rfl ?_
 refine g_iload X8 hx hby dc13_5 rfl ?_
 refine g_icmpNo X8 hx hby dc13_7 (tlt (by decide)).2.1 ?_
 refine g_aloadN X8 hx hby dc13_10 rfl rfl ?_
 refine g_iloadN X8 hx hby dc13_11 rfl ?_
 have f10 := (f5.other W8 ne_b)
 have ov11 := f10
 obtain ⟨cl11, Ar11, q11, S11, M11, H11, G11⟩ := ov11
 have hin11 : ¬ ((2 : Int32) < 0 ∨ cl11.slots.size ≤ ((2 : Int32)).toNatClampNeg) := inb_of S11 ⟨by decide, by decide⟩
 have hat11 : cl11.slots[((2 : Int32)).toNatClampNeg]? = some (.int z) := Has.at H11 hin11 rfl
 refine Go.st (X8.caload hx (j := (2 : Int32)) (v := (.int z)) (by rw [e8]; exact Ar11.1) (State.isArrayOf_alike hZ.alike Ar11.2.1) Ar11.2.2 hin11 hat11 (g := (mkF mi 12 #[.val (.ref ca), .val (.int 2), .val (.ref bb), .val (.int 2), .val (.int 3), .val (.int 2), .val (.int y)] [(.int 2), (.ref ca)])) rfl rfl (hb hby dc13_12)) ?_
 refine g_istore X8 hx hby dc13_13 (l' := #[.val (.ref ca), .val (.int 2), .val (.ref bb), .val (.int 2), .val (.int 3), .val (.int 2), .val (.int z)]) rfl ?_
 refine g_iload X8 hx hby dc13_15 rfl ?_
 refine g_sipush X8 hx hby dc13_17 (v := 255) rfl ?_
 refine g_icmpYes X8 hx hby dc13_20 (flt (own_255 hz2)).2.2.2 (pc0 := 20) (pc' := 26) rfl (by decide) (by decide) ?_
 refine g_aloadN X8 hx hby dc13_26 rfl rfl ?_
 refine g_iloadN X8 hx hby dc13_27 rfl ?_
 refine g_iload X8 hx hby dc13_28 rfl ?_
 refine g_i2b X8 hx hby dc13_30 rfl ?_
 have ov12 := V8
 obtain ⟨cl12, Ar12, q12, S12, M12, H12, G12⟩ := ov12
 have hin12 : ¬ ((2 : Int32) < 0 ∨ cl12.slots.size ≤ ((2 : Int32)).toNatClampNeg) := inb_of S12 ⟨by decide, by decide⟩
 obtain ⟨T13, h13, X13, e13, W13, st13⟩ := stB X8 hx hZ e8 Ar12 (j := (2 : Int32)) hin12 (g := (mkF mi 31 #[.val (.ref ca), .val (.int 2), .val (.ref bb), .val (.int 2), .val (.int 3), .val (.int 2), .val (.int z)] [(.int (z.toInt8.toInt32)), (.int 2), (.ref bb)])) rfl rfl (hb hby dc13_31)
 have Zs14 : n0 ≤ h13.size := Nat.le_trans Zs9 (Keep.of_wr W13).1
 have KC14 : Keep h0 h13 [bb] := KC9.wr W13 (Or.inl (List.mem_of_getElem? (i := 0) rfl))
 have N14 := Fr.snoc X13 N9 g_b
 have V13 : Arv Z h13 bb kb .byte (3 : Int32) [(.int (x.toInt8.toInt32)), (.int (y.toInt8.toInt32)), (.int ((z.toInt8.toInt32).toInt8.toInt32))] (.int (0 : Int32)) := Arv.set Ar12 q12 S12 M12 H12 G12 (fits_nar_byte _) W13 2 rfl (Nat.le_of_ble_eq_true rfl)
 rw [own_bb] at V13
 refine Go.st st13 ?_
 refine g_iinc X13 hx hby dc13_32 rfl (x' := 3) rfl (l' := #[.val (.ref ca), .val (.int 3), .val (.ref bb), .val (.int 2), .val (.int 3), .val (.int 2), .val (.int z)]) rfl ?_
 refine g_iinc X13 hx hby dc13_35 rfl (x' := 3) rfl (l' := #[.val (.ref ca), .val (.int 3), .val (.ref bb), .val (.int 3), .val (.int 3), .val (.int 2), .val (.int z)]) rfl ?_
 refine g_iinc X13 hx hby dc13_38 rfl (x' := 3) rfl (l' := #[.val (.ref ca), .val (.int 3), .val (.ref bb), .val (.int 3), .val (.int 3), .val (.int 3), .val (.int z)]) rfl ?_
 refine g_goto X13 hx hby dc13_41 (pc0 := 41) (pc' := 3) rfl (by decide) (by decide) ?_
 refine g_iload X13 hx hby dc13_3 rfl ?_
 refine g_iload X13 hx hby dc13_5 rfl ?_
 refine g_icmpYes X13 hx hby dc13_7 (flt (by decide)).2.1 (pc0 := 7) (pc' := 44) rfl (by decide) (by decide) ?_
 show Go _ _ _ (T13.setTop (mkF mi 44 #[.val (.ref ca), .val (.int 3), .val (.ref bb), .val (.int 3), .val (.int 3), .val (.int 3), .val (.int z)] [])) _
 refine g_iload X13 hx hby dc13_44 rfl ?_
 obtain ⟨fs, hr, hrun, hended, hW, hsame⟩ := X13.leave (v := some (.int 3)) (fun h => by rw [Bd.returns] at h; cases h) (BodyLoose.notSynchronized Bd)
 refine ⟨_, _, ?_, hP _ _ ⟨hrun, hended, _, _, rfl, ?_, ⟨_, rfl⟩, hW, hsame.mono (by decide) (by decide)⟩⟩
 ·exact retI X13 hx Bd.returns (hb hby dc13_46) hr
 ·show Q_rmCo3 _ _ _ _ _ _ _ _ _ _ _ T13.heap _
  rw [e13]
  exact ⟨rfl, N14, KC14, V13⟩
theorem ef_rmCp3 (mi : MethodId) (ca : Addr) : entryFrame mi #[(.ref ca), (.int 0), (.int 3)] 6 = mkF mi 0 #[.val (.ref ca), .val (.int 0), .val (.int 3), .unset, .unset, .unset] [] := by first | (simp [entryFrame, mkF, argsToLocals, Value.category]; done) | rfl
abbrev Q_rmCp3 (Z : State) (ca : Addr) (kc : ClassId) (x : Int32) (y : Int32) (z : Int32) (h0 : Heap) (n0 : Nat) (vv_ : Option Value) (hh_ : Heap) (LL_ : List Loc) : Prop := ∃ (r : Addr) (kr : ClassId), vv_ = some (.ref r) ∧ Fr n0 LL_ ∧ Keep h0 hh_ [] ∧ h0.size ≤ r ∧ n0 ≤ r ∧ Arv Z hh_ r kr .byte (3 : Int32) [(.int (x.toInt8.toInt32)), (.int (y.toInt8.toInt32)), (.int (z.toInt8.toInt32))] (.int (0 : Int32)) ∧ Exa Z hh_ r "[B"
theorem rmCp3 (l : Launch) (Z : State) (a0 : Array Value) (hw : Tb Z a0) (ws : List Jvm.Cond) (ca : Addr) (kc : ClassId) (x : Int32) (y : Int32) (z : Int32) (h0 : Heap) (n0 : Nat) (Z0 : n0 ≤ h0.size) (CA0 : Arv Z h0 ca kc .char (3 : Int32) [(.int x), (.int y), (.int z)] (.int (0 : Int32))) (hx1 : 0 ≤ x.toInt) (hx2 : x.toInt ≤ 255) (hy1 : 0 ≤ y.toInt) (hy2 : y.toInt ≤ 255) (hz1 : 0 ≤ z.toInt) (hz2 : z.toInt ≤ 255) :
  Mt l Z zy14 zb14 6 (some (.array .byte)) ws zR9 #[(.ref ca), (.int 0), (.int 3)] h0 (Q_rmCp3 Z ca kc x y z h0 n0) := by
 refine MetFree.of_bodySF (plainFor_of_name pn_4) hisR ?_
 intro pg ev si mi args below meth ci s₁ Bd hml0 hP0 hK
 obtain ⟨rfl, hZ, hh⟩ := hP0
 have hx := Bd.exec
 have hby := Bd.bytes
 have hml : ci.maxLocals = 6 := hml0
 have hown : si.vm.findClass "java/lang/StringUTF16" = some mi.cls := findClass_of_methodNamed Bd.named
 have hnm := (name_of_methodNamed Bd.named Bd.method).1
 have X0 : Stand pg l ev zR9 si mi #[(.ref ca), (.int 0), (.int 3)] below meth ci s₁ [] 0 0 := Stand.of_body Bd
 have e0 : s₁.heap = h0 := by rw [← hh, Bd.state]; rfl
 have N0 := Fr.nil n0
 refine Go.start (fun P hP => ?_)
 refine Go.st (fun t_ k_ => castTop (ef_rmCp3 mi ca) k_) (A := s₁.setTop (mkF mi 0 #[.val (.ref ca), .val (.int 0), .val (.int 3), .unset, .unset, .unset] [])) ?_
 refine g_iloadN X0 hx hby dc14_0 rfl ?_
 obtain ⟨T1, h1, k1, X1, e1, E1, A1, EX1, st1⟩ := newPE X0 hx hZ (hw _ (own_m 26 rfl)) e0 (g := (mkF mi 1 #[.val (.ref ca), .val (.int 0), .val (.int 3), .unset, .unset, .unset] [(.int 3)])) rfl (hb hby dc14_1) rfl (by decide) (cap := 3) (by decide) (by decide) (by decide) (by decide) (ad := "[B") (by decide)
 obtain ⟨ob1, g1⟩ : ∃ z, z = h0.size := ⟨_, rfl⟩
 rw [← g1] at A1 EX1 st1
 have Zs2 : n0 ≤ h1.size := Nat.le_trans Z0 E1.1
 have KC2 : Keep h0 h1 [] := (Keep.refl h0 []).ext E1
 have g_ob1 : n0 ≤ ob1 := Nat.le_trans Z0 (Nat.le_of_eq g1.symm)
 have sz_ob1 : h0.size ≤ ob1 := Nat.le_trans (Keep.refl h0 []).1 (Nat.le_of_eq g1.symm)
 have V1 : Arv Z h1 ob1 k1 .byte (3 : Int32) [(.int (0 : Int32)), (.int (0 : Int32)), (.int (0 : Int32))] (.int (0 : Int32)) := (Arv.new A1 (by decide)).pad (pad_rep [] (.int (0 : Int32)) 3)
 refine Go.st st1 ?_
 refine g_astoreN X1 hx hby dc14_3 rfl (l' := #[.val (.ref ca), .val (.int 0), .val (.int 3), .val (.ref ob1), .unset, .unset]) rfl ?_
 refine g_aloadN X1 hx hby dc14_4 rfl rfl ?_
 refine g_iloadN X1 hx hby dc14_5 rfl ?_
 refine g_aloadN X1 hx hby dc14_6 rfl rfl ?_
 refine g_iconst X1 hx hby dc14_7 (v := 0) rfl ?_
 refine g_iloadN X1 hx hby dc14_8 rfl ?_
 have f4 := (CA0.ext E1)
 have ne_ca_ob1 : ca ≠ ob1 := Nat.ne_of_lt (Nat.lt_of_lt_of_le CA0.lt (Nat.le_of_eq g1.symm))
 obtain ⟨_, _, ⟨T3, L3, k3, n3⟩, -, X3, ⟨Lc3, hQ3, l3, y3, z3⟩, st3⟩ := Jvm.LawKit.callS X1 hx (y := zy13) hown (mvT hZ (hw _ (own_m 27 rfl))) (mvT hZ (hw _ (own_m 28 rfl))) (mvT hZ (hw _ (own_m 24 rfl))) (mvT hZ (hw _ (own_m 29 rfl))) (by decide) (backOf (W := 0) (rmCo3 l Z a0 hw [] ca ob1 kc x y z k1 h1 n0 Zs2 f4 V1 g_ob1 ne_ca_ob1 hx1 hx2 hy1 hy2 hz1 hz2) hZ (hw _ (own_m 29 rfl)) (hw _ (own_m 24 rfl)) (by decide) (by decide)) (g := (mkF mi 9 #[.val (.ref ca), .val (.int 0), .val (.int 3), .val (.ref ob1), .unset, .unset] [(.int 3), (.int 0), (.ref ob1), (.int 0), (.ref ca)])) rfl (by rw [hml]; rfl) (argsL := [(.ref ca), (.int 0), (.ref ob1), (.int 0), (.int 3)]) (rest := []) (lenOf pd_5 rfl) rfl (by show 2 * 0 + _ ≤ _; exact Nat.le_of_eq rfl) (hb hby dc14_9) (fun _ _ => ⟨rfl, e1, (by decide : 1 + 0 ≤ _), (by decide : 3 + 0 ≤ _)⟩)
 dsimp only [Pt.U, Pt.locs, Pt.cells, Pt.slots] at X3 l3 y3 z3 st3 hQ3
 subst y3 z3
 have X3 := own_cs X3 (cells' := 1) (slots' := 3) rfl rfl
 obtain ⟨h3, e3⟩ : ∃ z, T3.heap = z := ⟨_, rfl⟩
 rw [e3] at hQ3
 obtain ⟨rfl, N3q, K3, VV_3⟩ := hQ3
 have N3 := own_fr l3 (Fr.app N0 N3q)
 have Zs5 : n0 ≤ h3.size := Nat.le_trans Zs2 K3.1
 have KC5 : Keep h0 h3 [] := KC2.trans K3 (allS (P := fun x => x ∈ [] ∨ h0.size ≤ x) (Or.inr sz_ob1) all0)
 refine Go.st st3 ?_
 refine g_istore X3 hx hby dc14_12 (l' := #[.val (.ref ca), .val (.int 0), .val (.int 3), .val (.ref ob1), .val (.int 3), .unset]) rfl ?_
 refine g_iload X3 hx hby dc14_14 rfl ?_
 refine g_iloadN X3 hx hby dc14_16 rfl ?_
 refine g_icmpYes X3 hx hby dc14_17 (teq rfl).1 (pc0 := 17) (pc' := 57) rfl (by decide) (by decide) ?_
 refine g_aloadN X3 hx hby dc14_57 rfl rfl ?_
 obtain ⟨fs, hr, hrun, hended, hW, hsame⟩ := X3.leave (v := some (.ref ob1)) (fun h => by rw [Bd.returns] at h; cases h) (BodyLoose.notSynchronized Bd)
 have f6 := (EX1.keep K3)
 refine ⟨_, _, ?_, hP _ _ ⟨hrun, hended, _, _, rfl, ?_, ⟨_, rfl⟩, hW, hsame.mono (by decide) (by decide)⟩⟩
 ·exact retOut X3 hx Bd.returns rfl (Or.inr (Or.inr (Or.inr (Or.inr ⟨rfl, rfl, rfl⟩)))) (hb hby dc14_58) hr
 ·show Q_rmCp3 _ _ _ _ _ _ _ _ _ T3.heap _
  rw [e3]
  exact ⟨ob1, k1, rfl, N3, KC5, sz_ob1, g_ob1, VV_3, f6⟩
theorem ef_rmCL3 (mi : MethodId) (bb : Addr) : entryFrame mi #[(.ref bb), (.int 3)] 2 = mkF mi 0 #[.val (.ref bb), .val (.int 3)] [] := by first | (simp [entryFrame, mkF, argsToLocals, Value.category]; done) | rfl
theorem rmCL3 (l : Launch) (Z : State) (a0 : Array Value) (hw : Tb Z a0) (ws : List Jvm.Cond) (bb : Addr) (kb : ClassId) (vs : List Value) (h0 : Heap) (n0 : Nat) (Z0 : n0 ≤ h0.size) (CB0 : Arv Z h0 bb kb .byte (3 : Int32) vs (.int (0 : Int32))) :
  Mt l Z zy15 zb15 2 (some .byte) ws zR0 #[(.ref bb), (.int 3)] h0 (QP (some (.int (0 : Int32))) h0 n0) := by
 refine MetFree.of_bodySF (plainFor_of_name pn_4) hisR ?_
 intro pg ev si mi args below meth ci s₁ Bd hml0 hP0 hK
 obtain ⟨rfl, hZ, hh⟩ := hP0
 have hx := Bd.exec
 have hby := Bd.bytes
 have hml : ci.maxLocals = 2 := hml0
 have hown : si.vm.findClass "java/lang/StringUTF16" = some mi.cls := findClass_of_methodNamed Bd.named
 have hnm := (name_of_methodNamed Bd.named Bd.method).1
 have X0 : Stand pg l ev zR0 si mi #[(.ref bb), (.int 3)] below meth ci s₁ [] 0 0 := Stand.of_body Bd
 have e0 : s₁.heap = h0 := by rw [← hh, Bd.state]; rfl
 have N0 := Fr.nil n0
 refine Go.start (fun P hP => ?_)
 refine Go.st (fun t_ k_ => castTop (ef_rmCL3 mi bb) k_) (A := s₁.setTop (mkF mi 0 #[.val (.ref bb), .val (.int 3)] [])) ?_
 refine g_iloadN X0 hx hby dc15_0 rfl ?_
 refine g_aloadN X0 hx hby dc15_1 rfl rfl ?_
 have ov1 := CB0
 obtain ⟨cl1, Ar1, q1, S1, M1, H1, G1⟩ := ov1
 refine Go.st (X0.arraylength hx (by rw [e0]; exact Ar1.1) (State.isArrayOf_alike hZ.alike Ar1.2.1) (g := (mkF mi 2 #[.val (.ref bb), .val (.int 3)] [(.ref bb), (.int 3)])) rfl rfl (hb hby dc15_2)) ?_
 rw [len_of S1 M1]
 refine g_isub X0 hx hby dc15_3 (z := 0) rfl ?_
 refine g_bipush X0 hx hby dc15_4 (v := 31) rfl ?_
 refine Go.s (XS.iushr X0.here hx rfl (hb hby dc15_6) rfl) ?_
 refine g_i2b X0 hx hby dc15_7 (z := 0) rfl ?_
 obtain ⟨fs, hr, hrun, hended, hW, hsame⟩ := X0.leave (v := some (.int 0)) (fun h => by rw [Bd.returns] at h; cases h) (BodyLoose.notSynchronized Bd)
 refine ⟨_, _, ?_, hP _ _ ⟨hrun, hended, _, _, rfl, ?_, ⟨_, rfl⟩, hW, hsame.mono (by decide) (by decide)⟩⟩
 ·exact retN X0 hx (t := .byte) Bd.returns (by simp) (hb hby dc15_8) hr
 ·exact ⟨rfl, N0, e0⟩
theorem ef_rmSV3 (mi : MethodId) (o : Addr) (ca : Addr) : entryFrame mi #[(.ref o), (.ref ca), (.int 0), (.int 3), .null] 6 = mkF mi 0 #[.val (.ref o), .val (.ref ca), .val (.int 0), .val (.int 3), .val .null, .unset] [] := by first | (simp [entryFrame, mkF, argsToLocals, Value.category]; done) | rfl
abbrev Q_rmSV3 (Z : State) (o : Addr) (ca : Addr) (kc : ClassId) (x : Int32) (y : Int32) (z : Int32) (cz : Int32) (h0 : Heap) (n0 : Nat) (vv_ : Option Value) (hh_ : Heap) (LL_ : List Loc) : Prop := vv_ = none ∧ Fr n0 LL_ ∧ Keep h0 hh_ [o] ∧ ∃ (b : Addr) (kb : ClassId), Exa Z hh_ o "java/lang/String" ∧ Fld Z hh_ o "java/lang/String" "coder" "B" (.int (0 : Int32)) ∧ Fld Z hh_ o "java/lang/String" "value" "[B" (.ref b) ∧ Arv Z hh_ b kb .byte (3 : Int32) ([(x.toInt8.toInt32), (y.toInt8.toInt32), (z.toInt8.toInt32)].map Value.int) (.int (0 : Int32)) ∧ Exa Z hh_ b "[B"
theorem rmSV3 (l : Launch) (Z : State) (a0 : Array Value) (hw : Tb Z a0) (ws : List Jvm.Cond) (o : Addr) (ca : Addr) (kc : ClassId) (x : Int32) (y : Int32) (z : Int32) (cz : Int32) (h0 : Heap) (n0 : Nat) (Z0 : n0 ≤ h0.size) (E0 : Exa Z h0 o "java/lang/String") (FS1 : Fld Z h0 o "java/lang/String" "coder" "B" (.int (0 : Int32))) (FS2 : Fld Z h0 o "java/lang/String" "value" "[B" .null) (g_o : n0 ≤ o) (CA0 : Arv Z h0 ca kc .char (3 : Int32) [(.int x), (.int y), (.int z)] (.int (0 : Int32))) (ne_o : ca ≠ o) (SC : Sta Z h0 "java/lang/String" "COMPACT_STRINGS" "Z" (.int cz)) (hcz : ¬ (cz = (0 : Int32))) (hx1 : 0 ≤ x.toInt) (hx2 : x.toInt ≤ 255) (hy1 : 0 ≤ y.toInt) (hy2 : y.toInt ≤ 255) (hz1 : 0 ≤ z.toInt) (hz2 : z.toInt ≤ 255) :
  Mt l Z zy16 zb16 6 none ws zR10 #[(.ref o), (.ref ca), (.int 0), (.int 3), .null] h0 (Q_rmSV3 Z o ca kc x y z cz h0 n0) := by
 refine MetFree.of_bodySF (plainFor_of_name pn_0) hisR ?_
 intro pg ev si mi args below meth ci s₁ Bd hml0 hP0 hK
 obtain ⟨rfl, hZ, hh⟩ := hP0
 have hx := Bd.exec
 have hby := Bd.bytes
 have hml : ci.maxLocals = 6 := hml0
 have hown : si.vm.findClass "java/lang/String" = some mi.cls := findClass_of_methodNamed Bd.named
 have hnm := (name_of_methodNamed Bd.named Bd.method).1
 have X0 : Stand pg l ev zR10 si mi #[(.ref o), (.ref ca), (.int 0), (.int 3), .null] below meth ci s₁ [] 0 0 := Stand.of_body Bd
 have e0 : s₁.heap = h0 := by rw [← hh, Bd.state]; rfl
 have N0 := Fr.nil n0
 refine Go.start (fun P hP => ?_)
 refine Go.st (fun t_ k_ => castTop (ef_rmSV3 mi o ca) k_) (A := s₁.setTop (mkF mi 0 #[.val (.ref o), .val (.ref ca), .val (.int 0), .val (.int 3), .val .null, .unset] [])) ?_
 refine g_aloadN X0 hx hby dc16_0 rfl rfl ?_
 obtain ⟨T1, X1, e1, st1⟩ := initO X0 hx hZ hown (hw _ (own_m 18 rfl)) (hw _ (own_m 19 rfl)) (hw _ (own_m 20 rfl)) e0 (g := (mkF mi 1 #[.val (.ref o), .val (.ref ca), .val (.int 0), .val (.int 3), .val .null, .unset] [(.ref o)])) rfl (by rw [hml]; rfl) rfl (hb hby dc16_1) (by decide) (W := 0) (by show 2 * 0 + _ ≤ _; exact Nat.le_of_eq rfl) (by decide)
 refine Go.st st1 ?_
 refine g_iloadN X1 hx hby dc16_4 rfl ?_
 refine g_ifYes X1 hx hby dc16_5 ((if0 _ _).trans (feq (by decide)).2) (pc0 := 5) (pc' := 27) rfl (by decide) (by decide) ?_
 obtain ⟨T2, X2, e2, st2⟩ := getS2 X1 hx hZ hown (host := "") (Or.inl (hw _ (own_m 21 rfl))) Via.refl e1 SC (g := (mkF mi 27 #[.val (.ref o), .val (.ref ca), .val (.int 0), .val (.int 3), .val .null, .unset] [])) rfl (hb hby dc16_27)
 refine Go.st st2 ?_
 refine g_ifNo X2 hx hby dc16_30 ((if0 _ _).trans (feq hcz).1) ?_
 refine g_aloadN X2 hx hby dc16_33 rfl rfl ?_
 refine g_iloadN X2 hx hby dc16_34 rfl ?_
 refine g_iloadN X2 hx hby dc16_35 rfl ?_
 obtain ⟨_, _, ⟨T3, L3, k3, n3⟩, -, X3, ⟨Lc3, hQ3, l3, y3, z3⟩, st3⟩ := Jvm.LawKit.callS X2 hx (y := zy14) hown (mvT hZ (hw _ (own_m 22 rfl))) (mvT hZ (hw _ (own_m 23 rfl))) (mvT hZ (hw _ (own_m 24 rfl))) (mvT hZ (hw _ (own_m 25 rfl))) (by decide) (backOf (W := 0) (rmCp3 l Z a0 hw [] ca kc x y z h0 n0 Z0 CA0 hx1 hx2 hy1 hy2 hz1 hz2) hZ (hw _ (own_m 25 rfl)) (hw _ (own_m 24 rfl)) (by decide) (by decide)) (g := (mkF mi 36 #[.val (.ref o), .val (.ref ca), .val (.int 0), .val (.int 3), .val .null, .unset] [(.int 3), (.int 0), (.ref ca)])) rfl (by rw [hml]; rfl) (argsL := [(.ref ca), (.int 0), (.int 3)]) (rest := []) (lenOf pd_6 rfl) rfl (by show 2 * 0 + _ ≤ _; exact Nat.le_of_eq rfl) (hb hby dc16_36) (fun _ _ => ⟨rfl, e2, (by decide : 0 + 1 ≤ _), (by decide : 0 + 3 ≤ _)⟩)
 dsimp only [Pt.U, Pt.locs, Pt.cells, Pt.slots] at X3 l3 y3 z3 st3 hQ3
 subst y3 z3
 have X3 := own_cs X3 (cells' := 1) (slots' := 3) rfl rfl
 obtain ⟨h3, e3⟩ : ∃ z, T3.heap = z := ⟨_, rfl⟩
 rw [e3] at hQ3
 obtain ⟨r3, kr3, rfl, N3q, K3, z_r3, g_r3, V_r3, E_r3⟩ := hQ3
 have N3 := own_fr l3 (Fr.app N0 N3q)
 have Zs4 : n0 ≤ h3.size := Nat.le_trans Z0 K3.1
 have KC4 : Keep h0 h3 [o] := (Keep.refl h0 [o]).trans K3 all0
 have sz_r3 : h0.size ≤ r3 := Nat.le_trans (Keep.refl h0 [o]).1 z_r3
 refine Go.st st3 ?_
 refine g_astore X3 hx hby dc16_39 rfl (l' := #[.val (.ref o), .val (.ref ca), .val (.int 0), .val (.int 3), .val .null, .val (.ref r3)]) rfl ?_
 refine g_aloadN X3 hx hby dc16_41 rfl rfl ?_
 refine g_aload X3 hx hby dc16_42 rfl rfl ?_
 refine g_iloadN X3 hx hby dc16_44 rfl ?_
 obtain ⟨_, _, ⟨T5, L5, k5, n5⟩, -, X5, ⟨Lc5, hQ5, l5, y5, z5⟩, st5⟩ := Jvm.LawKit.callS X3 hx (y := zy15) hown (mvT hZ (hw _ (own_m 30 rfl))) (mvT hZ (hw _ (own_m 31 rfl))) (mvT hZ (hw _ (own_m 24 rfl))) (mvT hZ (hw _ (own_m 32 rfl))) (by decide) (backOf (W := 1) (rmCL3 l Z a0 hw [] r3 kr3 [(.int (x.toInt8.toInt32)), (.int (y.toInt8.toInt32)), (.int (z.toInt8.toInt32))] h3 n0 Zs4 V_r3) hZ (hw _ (own_m 32 rfl)) (hw _ (own_m 24 rfl)) (by decide) (by decide)) (g := (mkF mi 45 #[.val (.ref o), .val (.ref ca), .val (.int 0), .val (.int 3), .val .null, .val (.ref r3)] [(.int 3), (.ref r3), (.ref o)])) rfl (by rw [hml]; rfl) (argsL := [(.ref r3), (.int 3)]) (rest := [(.ref o)]) (lenOf pd_7 rfl) rfl (by show 2 * 0 + _ ≤ _; exact Nat.le_of_eq rfl) (hb hby dc16_45) (fun _ _ => ⟨rfl, e3, (by decide : 1 + 0 ≤ _), (by decide : 3 + 0 ≤ _)⟩)
 dsimp only [Pt.U, Pt.locs, Pt.cells, Pt.slots] at X5 l5 y5 z5 st5 hQ5
 subst y5 z5
 have X5 := own_cs X5 (cells' := 1) (slots' := 3) rfl rfl
 obtain ⟨rfl, N5q, e5⟩ := hQ5
 have N5 := own_fr l5 (Fr.app N3 N5q)
 refine Go.st st5 ?_
 have f6 := (FS1.keep K3 nin0)
 have f7 := (E0.keep K3)
 obtain ⟨T8, h8, X8, e8, W8, st8⟩ := putFN X5 hx hZ hown (hw _ (own_m 33 rfl)) Via.refl e5 f6 f7 (Or.inr ⟨(hw _ (own_m 34 rfl)), rfl, hnm⟩) (hw _ (own_m 8 rfl)) (ty := .byte) (v' := (.int 0)) (by decide) rfl (by decide) (g := (mkF mi 48 #[.val (.ref o), .val (.ref ca), .val (.int 0), .val (.int 3), .val .null, .val (.ref r3)] [(.int 0), (.ref o)])) rfl rfl (hb hby dc16_48)
 have Zs9 : n0 ≤ h8.size := Nat.le_trans Zs4 (Keep.of_wr W8).1
 have KC9 : Keep h0 h8 [o] := KC4.wr W8 (Or.inl (List.mem_of_getElem? (i := 0) rfl))
 have N9 := Fr.snoc X8 N5 g_o
 have F8 : Fld Z h8 o "java/lang/String" "coder" "B" (.int 0) := f6.same W8
 refine Go.st st8 ?_
 refine g_aloadN X8 hx hby dc16_51 rfl rfl ?_
 refine g_aload X8 hx hby dc16_52 rfl rfl ?_
 have f10 := ((FS2.keep K3 nin0).other W8 (Or.inr (slot_ne (Or.inr (hw _ (own_m 36 rfl))) (Or.inr (hw _ (own_m 34 rfl))) (by decide) (t := (.array .byte)) (t' := .byte) (by decide) (by decide))))
 have f11 := (f7.wr W8)
 obtain ⟨T12, h12, X12, e12, W12, st12⟩ := putF X8 hx hZ hown (host := "") (Or.inl (hw _ (own_m 35 rfl))) Via.refl e8 f10 f11 (Or.inr ⟨(hw _ (own_m 36 rfl)), rfl, hnm⟩) (hw _ (own_m 8 rfl)) (ty := (.array .byte)) (by decide) rfl rfl (g := (mkF mi 54 #[.val (.ref o), .val (.ref ca), .val (.int 0), .val (.int 3), .val .null, .val (.ref r3)] [(.ref r3), (.ref o)])) rfl rfl (hb hby dc16_54)
 have Zs13 : n0 ≤ h12.size := Nat.le_trans Zs9 (Keep.of_wr W12).1
 have KC13 : Keep h0 h12 [o] := KC9.wr W12 (Or.inl (List.mem_of_getElem? (i := 0) rfl))
 have N13 := Fr.snoc X12 N9 g_o
 have F12 : Fld Z h12 o "java/lang/String" "value" "[B" (.ref r3) := f10.same W12
 refine Go.st st12 ?_
 obtain ⟨fs, hr, hrun, hended, hW, hsame⟩ := X12.leave (v := none) (fun _ => rfl) (BodyLoose.notSynchronized Bd)
 have f14 := (f11.wr W12)
 have f15 := (F8.other W12 (Or.inr (slot_ne (Or.inr (hw _ (own_m 34 rfl))) (Or.inr (hw _ (own_m 36 rfl))) (by decide) (t := .byte) (t' := (.array .byte)) (by decide) (by decide))))
 have ne_o_r3 : o ≠ r3 := Nat.ne_of_lt (Nat.lt_of_lt_of_le E0.lt z_r3)
 have f16 := ((V_r3.other W8 (Ne.symm ne_o_r3)).other W12 (Ne.symm ne_o_r3))
 have f17 := ((E_r3.wr W8).wr W12)
 refine ⟨_, _, ?_, hP _ _ ⟨hrun, hended, _, _, rfl, ?_, ⟨_, rfl⟩, hW, hsame.mono (by decide) (by decide)⟩⟩
 ·exact X12.returnOut hx Bd.returns (hb hby dc16_57) hr
 ·show Q_rmSV3 _ _ _ _ _ _ _ _ _ _ _ T12.heap _
  rw [e12]
  exact ⟨rfl, N13, KC13, r3, kr3, f14, f15, F12, f16, f17⟩
theorem ef_rmSC3 (mi : MethodId) (o : Addr) (ca : Addr) : entryFrame mi #[(.ref o), (.ref ca)] 2 = mkF mi 0 #[.val (.ref o), .val (.ref ca)] [] := by first | (simp [entryFrame, mkF, argsToLocals, Value.category]; done) | rfl
abbrev Q_rmSC3 (Z : State) (o : Addr) (ca : Addr) (kc : ClassId) (x : Int32) (y : Int32) (z : Int32) (cz : Int32) (h0 : Heap) (n0 : Nat) (vv_ : Option Value) (hh_ : Heap) (LL_ : List Loc) : Prop := vv_ = none ∧ Fr n0 LL_ ∧ Keep h0 hh_ [o] ∧ ∃ (b : Addr) (kb : ClassId), Exa Z hh_ o "java/lang/String" ∧ Fld Z hh_ o "java/lang/String" "coder" "B" (.int (0 : Int32)) ∧ Fld Z hh_ o "java/lang/String" "value" "[B" (.ref b) ∧ Arv Z hh_ b kb .byte (3 : Int32) ([(x.toInt8.toInt32), (y.toInt8.toInt32), (z.toInt8.toInt32)].map Value.int) (.int (0 : Int32)) ∧ Exa Z hh_ b "[B"
theorem rmSC3 (l : Launch) (Z : State) (a0 : Array Value) (hw : Tb Z a0) (ws : List Jvm.Cond) (o : Addr) (ca : Addr) (kc : ClassId) (x : Int32) (y : Int32) (z : Int32) (cz : Int32) (h0 : Heap) (n0 : Nat) (Z0 : n0 ≤ h0.size) (E0 : Exa Z h0 o "java/lang/String") (FS1 : Fld Z h0 o "java/lang/String" "coder" "B" (.int (0 : Int32))) (FS2 : Fld Z h0 o "java/lang/String" "value" "[B" .null) (g_o : n0 ≤ o) (CA0 : Arv Z h0 ca kc .char (3 : Int32) [(.int x), (.int y), (.int z)] (.int (0 : Int32))) (ne_o : ca ≠ o) (SC : Sta Z h0 "java/lang/String" "COMPACT_STRINGS" "Z" (.int cz)) (hcz : ¬ (cz = (0 : Int32))) (hx1 : 0 ≤ x.toInt) (hx2 : x.toInt ≤ 255) (hy1 : 0 ≤ y.toInt) (hy2 : y.toInt ≤ 255) (hz1 : 0 ≤ z.toInt) (hz2 : z.toInt ≤ 255) :
  Mt l Z zy17 zb17 2 none ws zR8 #[(.ref o), (.ref ca)] h0 (Q_rmSC3 Z o ca kc x y z cz h0 n0) := by
 refine MetFree.of_bodySF (plainFor_of_name pn_0) hisR ?_
 intro pg ev si mi args below meth ci s₁ Bd hml0 hP0 hK
 obtain ⟨rfl, hZ, hh⟩ := hP0
 have hx := Bd.exec
 have hby := Bd.bytes
 have hml : ci.maxLocals = 2 := hml0
 have hown : si.vm.findClass "java/lang/String" = some mi.cls := findClass_of_methodNamed Bd.named
 have hnm := (name_of_methodNamed Bd.named Bd.method).1
 have X0 : Stand pg l ev zR8 si mi #[(.ref o), (.ref ca)] below meth ci s₁ [] 0 0 := Stand.of_body Bd
 have e0 : s₁.heap = h0 := by rw [← hh, Bd.state]; rfl
 have N0 := Fr.nil n0
 refine Go.start (fun P hP => ?_)
 refine Go.st (fun t_ k_ => castTop (ef_rmSC3 mi o ca) k_) (A := s₁.setTop (mkF mi 0 #[.val (.ref o), .val (.ref ca)] [])) ?_
 refine g_aloadN X0 hx hby dc17_0 rfl rfl ?_
 refine g_aloadN X0 hx hby dc17_1 rfl rfl ?_
 refine g_iconst X0 hx hby dc17_2 (v := 0) rfl ?_
 refine g_aloadN X0 hx hby dc17_3 rfl rfl ?_
 have ov1 := CA0
 obtain ⟨cl1, Ar1, q1, S1, M1, H1, G1⟩ := ov1
 refine Go.st (X0.arraylength hx (by rw [e0]; exact Ar1.1) (State.isArrayOf_alike hZ.alike Ar1.2.1) (g := (mkF mi 4 #[.val (.ref o), .val (.ref ca)] [(.ref ca), (.int 0), (.ref ca), (.ref o)])) rfl rfl (hb hby dc17_4)) ?_
 rw [len_of S1 M1]
 refine Go.s (XS.aconstNull X0.here hx rfl (hb hby dc17_5)) ?_
 obtain ⟨_, _, ⟨T2, L2, k2, n2⟩, -, X2, ⟨Lc2, hQ2, l2, y2, z2⟩, st2⟩ := X0.specialBack hx (y := zy16) rfl hown (mvT hZ (hw _ (own_m 14 rfl))) (mvT hZ (hw _ (own_m 15 rfl))) (mvT hZ (hw _ (own_m 17 rfl))) (by decide) (backOf (W := 0) (rmSV3 l Z a0 hw [] o ca kc x y z cz h0 n0 Z0 E0 FS1 FS2 g_o CA0 ne_o SC hcz hx1 hx2 hy1 hy2 hz1 hz2) hZ (hw _ (own_m 17 rfl)) (hw _ (own_m 9 rfl)) (by decide) (by decide)) (g := (mkF mi 6 #[.val (.ref o), .val (.ref ca)] [.null, (.int 3), (.int 0), (.ref ca), (.ref o)])) rfl (by rw [hml]; rfl) (Steps.refl _) (a := o) (argsL := [(.ref ca), (.int 0), (.int 3), .null]) (rest := []) (lenOf pd_8 rfl) rfl (by show 2 * 0 + _ ≤ _; exact Nat.le_of_eq rfl) (hb hby dc17_6) (fun _ _ => ⟨rfl, e0, (by decide : 0 + 1 ≤ _), (by decide : 0 + 3 ≤ _)⟩)
 dsimp only [Pt.U, Pt.locs, Pt.cells, Pt.slots] at X2 l2 y2 z2 st2 hQ2
 subst y2 z2
 have X2 := own_cs X2 (cells' := 1) (slots' := 3) rfl rfl
 obtain ⟨h2, e2⟩ : ∃ z, T2.heap = z := ⟨_, rfl⟩
 rw [e2] at hQ2
 obtain ⟨rfl, N2q, K2, sb2, sk2, SE2, SCo2, SVa2, SAr2, SEb2⟩ := hQ2
 have N2 := own_fr l2 (Fr.app N0 N2q)
 have Zs3 : n0 ≤ h2.size := Nat.le_trans Z0 K2.1
 have KC3 : Keep h0 h2 [o] := (Keep.refl h0 [o]).trans K2 (allS (P := fun x => x ∈ [o] ∨ h0.size ≤ x) (Or.inl (List.mem_of_getElem? (i := 0) rfl)) all0)
 refine Go.tr st2 ?_
 obtain ⟨fs, hr, hrun, hended, hW, hsame⟩ := X2.leave (v := none) (fun _ => rfl) (BodyLoose.notSynchronized Bd)
 refine ⟨_, _, ?_, hP _ _ ⟨hrun, hended, _, _, rfl, ?_, ⟨_, rfl⟩, hW, hsame.mono (by decide) (by decide)⟩⟩
 ·exact X2.returnOut hx Bd.returns (hb hby dc17_9) hr
 ·show Q_rmSC3 _ _ _ _ _ _ _ _ _ _ _ T2.heap _
  rw [e2]
  exact ⟨rfl, N2, KC3, sb2, sk2, SE2, SCo2, SVa2, SAr2, SEb2⟩
theorem ef_rmCo2 (mi : MethodId) (ca : Addr) (bb : Addr) : entryFrame mi #[(.ref ca), (.int 0), (.ref bb), (.int 0), (.int 2)] 7 = mkF mi 0 #[.val (.ref ca), .val (.int 0), .val (.ref bb), .val (.int 0), .val (.int 2), .unset, .unset] [] := by first | (simp [entryFrame, mkF, argsToLocals, Value.category]; done) | rfl
abbrev Q_rmCo2 (Z : State) (ca : Addr) (bb : Addr) (kc : ClassId) (x : Int32) (y : Int32) (kb : ClassId) (h0 : Heap) (n0 : Nat) (vv_ : Option Value) (hh_ : Heap) (LL_ : List Loc) : Prop := vv_ = some (.int (2 : Int32)) ∧ Fr n0 LL_ ∧ Keep h0 hh_ [bb] ∧ Arv Z hh_ bb kb .byte (2 : Int32) [(.int (x.toInt8.toInt32)), (.int (y.toInt8.toInt32))] (.int (0 : Int32))
theorem rmCo2 (l : Launch) (Z : State) (a0 : Array Value) (hw : Tb Z a0) (ws : List Jvm.Cond) (ca : Addr) (bb : Addr) (kc : ClassId) (x : Int32) (y : Int32) (kb : ClassId) (h0 : Heap) (n0 : Nat) (Z0 : n0 ≤ h0.size) (CA0 : Arv Z h0 ca kc .char (2 : Int32) [(.int x), (.int y)] (.int (0 : Int32))) (CB0 : Arv Z h0 bb kb .byte (2 : Int32) [(.int (0 : Int32)), (.int (0 : Int32))] (.int (0 : Int32))) (g_b : n0 ≤ bb) (ne_b : ca ≠ bb) (hx1 : 0 ≤ x.toInt) (hx2 : x.toInt ≤ 255) (hy1 : 0 ≤ y.toInt) (hy2 : y.toInt ≤ 255) :
  Mt l Z zy13 zb13 7 (some .int) ws zR0 #[(.ref ca), (.int 0), (.ref bb), (.int 0), (.int 2)] h0 (Q_rmCo2 Z ca bb kc x y kb h0 n0) := by
 refine MetFree.of_bodySF (plainFor_of_name pn_4) hisR ?_
 intro pg ev si mi args below meth ci s₁ Bd hml0 hP0 hK
 obtain ⟨rfl, hZ, hh⟩ := hP0
 have hx := Bd.exec
 have hby := Bd.bytes
 have hml : ci.maxLocals = 7 := hml0
 have hown : si.vm.findClass "java/lang/StringUTF16" = some mi.cls := findClass_of_methodNamed Bd.named
 have hnm := (name_of_methodNamed Bd.named Bd.method).1
 have X0 : Stand pg l ev zR0 si mi #[(.ref ca), (.int 0), (.ref bb), (.int 0), (.int 2)] below meth ci s₁ [] 0 0 := Stand.of_body Bd
 have e0 : s₁.heap = h0 := by rw [← hh, Bd.state]; rfl
 have N0 := Fr.nil n0
 refine Go.start (fun P hP => ?_)
 refine Go.st (fun t_ k_ => castTop (ef_rmCo2 mi ca bb) k_) (A := s₁.setTop (mkF mi 0 #[.val (.ref ca), .val (.int 0), .val (.ref bb), .val (.int 0), .val (.int 2), .unset, .unset] [])) ?_
 refine g_iconst X0 hx hby dc13_0 (v := 0) rfl ?_
 refine g_istore X0 hx hby dc13_1 (l' := #[.val (.ref ca), .val (.int 0), .val (.ref bb), .val (.int 0), .val (.int 2), .val (.int 0), .unset]) rfl ?_
 refine g_iload X0 hx hby dc13_3 rfl ?_
 refine g_iload X0 hx hby dc13_5 rfl ?_
 refine g_icmpNo X0 hx hby dc13_7 (tlt (by decide)).2.1 ?_
 refine g_aloadN X0 hx hby dc13_10 rfl rfl ?_
 refine g_iloadN X0 hx hby dc13_11 rfl ?_
 have ov1 := CA0
 obtain ⟨cl1, Ar1, q1, S1, M1, H1, G1⟩ := ov1
 have hin1 : ¬ ((0 : Int32) < 0 ∨ cl1.slots.size ≤ ((0 : Int32)).toNatClampNeg) := inb_of S1 ⟨by decide, by decide⟩
 have hat1 : cl1.slots[((0 : Int32)).toNatClampNeg]? = some (.int x) := Has.at H1 hin1 rfl
 refine Go.st (X0.caload hx (j := (0 : Int32)) (v := (.int x)) (by rw [e0]; exact Ar1.1) (State.isArrayOf_alike hZ.alike Ar1.2.1) Ar1.2.2 hin1 hat1 (g := (mkF mi 12 #[.val (.ref ca), .val (.int 0), .val (.ref bb), .val (.int 0), .val (.int 2), .val (.int 0), .unset] [(.int 0), (.ref ca)])) rfl rfl (hb hby dc13_12)) ?_
 refine g_istore X0 hx hby dc13_13 (l' := #[.val (.ref ca), .val (.int 0), .val (.ref bb), .val (.int 0), .val (.int 2), .val (.int 0), .val (.int x)]) rfl ?_
 refine g_iload X0 hx hby dc13_15 rfl ?_
 refine g_sipush X0 hx hby dc13_17 (v := 255) rfl ?_
 refine g_icmpYes X0 hx hby dc13_20 (flt (own_255 hx2)).2.2.2 (pc0 := 20) (pc' := 26) rfl (by decide) (by decide) ?_
 refine g_aloadN X0 hx hby dc13_26 rfl rfl ?_
 refine g_iloadN X0 hx hby dc13_27 rfl ?_
 refine g_iload X0 hx hby dc13_28 rfl ?_
 refine g_i2b X0 hx hby dc13_30 rfl ?_
 have ov2 := CB0
 obtain ⟨cl2, Ar2, q2, S2, M2, H2, G2⟩ := ov2
 have hin2 : ¬ ((0 : Int32) < 0 ∨ cl2.slots.size ≤ ((0 : Int32)).toNatClampNeg) := inb_of S2 ⟨by decide, by decide⟩
 obtain ⟨T3, h3, X3, e3, W3, st3⟩ := stB X0 hx hZ e0 Ar2 (j := (0 : Int32)) hin2 (g := (mkF mi 31 #[.val (.ref ca), .val (.int 0), .val (.ref bb), .val (.int 0), .val (.int 2), .val (.int 0), .val (.int x)] [(.int (x.toInt8.toInt32)), (.int 0), (.ref bb)])) rfl rfl (hb hby dc13_31)
 have Zs4 : n0 ≤ h3.size := Nat.le_trans Z0 (Keep.of_wr W3).1
 have KC4 : Keep h0 h3 [bb] := (Keep.refl h0 [bb]).wr W3 (Or.inl (List.mem_of_getElem? (i := 0) rfl))
 have N4 := Fr.snoc X3 N0 g_b
 have V3 : Arv Z h3 bb kb .byte (2 : Int32) [(.int ((x.toInt8.toInt32).toInt8.toInt32)), (.int 0)] (.int (0 : Int32)) := Arv.set Ar2 q2 S2 M2 H2 G2 (fits_nar_byte _) W3 0 rfl (Nat.le_of_ble_eq_true rfl)
 rw [own_bb] at V3
 refine Go.st st3 ?_
 refine g_iinc X3 hx hby dc13_32 rfl (x' := 1) rfl (l' := #[.val (.ref ca), .val (.int 1), .val (.ref bb), .val (.int 0), .val (.int 2), .val (.int 0), .val (.int x)]) rfl ?_
 refine g_iinc X3 hx hby dc13_35 rfl (x' := 1) rfl (l' := #[.val (.ref ca), .val (.int 1), .val (.ref bb), .val (.int 1), .val (.int 2), .val (.int 0), .val (.int x)]) rfl ?_
 refine g_iinc X3 hx hby dc13_38 rfl (x' := 1) rfl (l' := #[.val (.ref ca), .val (.int 1), .val (.ref bb), .val (.int 1), .val (.int 2), .val (.int 1), .val (.int x)]) rfl ?_
 refine g_goto X3 hx hby dc13_41 (pc0 := 41) (pc' := 3) rfl (by decide) (by decide) ?_
 refine g_iload X3 hx hby dc13_3 rfl ?_
 refine g_iload X3 hx hby dc13_5 rfl ?_
 refine g_icmpNo X3 hx hby dc13_7 (tlt (by decide)).2.1 ?_
 refine g_aloadN X3 hx hby dc13_10 rfl rfl ?_
 refine g_iloadN X3 hx hby dc13_11 rfl ?_
 have f5 := (CA0.other W3 ne_b)
 have ov6 := f5
 obtain ⟨cl6, Ar6, q6, S6, M6, H6, G6⟩ := ov6
 have hin6 : ¬ ((1 : Int32) < 0 ∨ cl6.slots.size ≤ ((1 : Int32)).toNatClampNeg) := inb_of S6 ⟨by decide, by decide⟩
 have hat6 : cl6.slots[((1 : Int32)).toNatClampNeg]? = some (.int y) := Has.at H6 hin6 rfl
 refine Go.st (X3.caload hx (j := (1 : Int32)) (v := (.int y)) (by rw [e3]; exact Ar6.1) (State.isArrayOf_alike hZ.alike Ar6.2.1) Ar6.2.2 hin6 hat6 (g := (mkF mi 12 #[.val (.ref ca), .val (.int 1), .val (.ref bb), .val (.int 1), .val (.int 2), .val (.int 1), .val (.int x)] [(.int 1), (.ref ca)])) rfl rfl (hb hby dc13_12)) ?_
 refine g_istore X3 hx hby dc13_13 (l' := #[.val (.ref ca), .val (.int 1), .val (.ref bb), .val (.int 1), .val (.int 2), .val (.int 1), .val (.int y)]) rfl ?_
 refine g_iload X3 hx hby dc13_15 rfl ?_
 refine g_sipush X3 hx hby dc13_17 (v := 255) rfl ?_
 refine g_icmpYes X3 hx hby dc13_20 (flt (own_255 hy2)).2.2.2 (pc0 := 20) (pc' := 26) rfl (by decide) (by decide) ?_
 show Go _ _ _ (T3.setTop (mkF mi 26 #[.val (.ref ca), .val (.int 1), .val (.ref bb), .val (.int 1), .val (.int 2), .val (.int 1), .val (.int y)] [])) _
 refine g_aloadN X3 hx hby dc13_26 rfl rfl ?_
 refine g_iloadN X3 hx hby dc13_27 rfl ?_
 refine g_iload X3 hx hby dc13_28 rfl ?_
 refine g_i2b X3 hx hby dc13_30 rfl ?_
 have ov7 := V3
 obtain ⟨cl7, Ar7, q7, S7, M7, H7, G7⟩ := ov7
 have hin7 : ¬ ((1 : Int32) < 0 ∨ cl7.slots.size ≤ ((1 : Int32)).toNatClampNeg) := inb_of S7 ⟨by decide, by decide⟩
 obtain ⟨T8, h8, X8, e8, W8, st8⟩ := stB X3 hx hZ e3 Ar7 (j := (1 : Int32)) hin7 (g := (mkF mi 31 #[.val (.ref ca), .val (.int 1), .val (.ref bb), .val (.int 1), .val (.int 2), .val (.int 1), .val (.int y)] [(.int (y.toInt8.toInt32)), (.int 1), (.ref bb)])) rfl rfl (hb hby dc13_31)
 have Zs9 : n0 ≤ h8.size := Nat.le_trans Zs4 (Keep.of_wr W8).1
 have KC9 : Keep h0 h8 [bb] := KC4.wr W8 (Or.inl (List.mem_of_getElem? (i := 0) rfl))
 have N9 := Fr.snoc X8 N4 g_b
 have V8 : Arv Z h8 bb kb .byte (2 : Int32) [(.int (x.toInt8.toInt32)), (.int ((y.toInt8.toInt32).toInt8.toInt32))] (.int (0 : Int32)) := Arv.set Ar7 q7 S7 M7 H7 G7 (fits_nar_byte _) W8 1 rfl (Nat.le_of_ble_eq_true rfl)
 rw [own_bb] at V8
 refine Go.st st8 ?_
 refine g_iinc X8 hx hby dc13_32 rfl (x' := 2) rfl (l' := #[.val (.ref ca), .val (.int 2), .val (.ref bb), .val (.int 1), .val (.int 2), .val (.int 1), .val (.int y)]) rfl ?_
 refine g_iinc X8 hx hby dc13_35 rfl (x' := 2) rfl (l' := #[.val (.ref ca), .val (.int 2), .val (.ref bb), .val (.int 2), .val (.int 2), .val (.int 1), .val (.int y)]) rfl ?_
 refine g_iinc X8 hx hby dc13_38 rfl (x' := 2) rfl (l' := #[.val (.ref ca), .val (.int 2), .val (.ref bb), .val (.int 2), .val (.int 2), .val (.int 2), .val (.int y)]) rfl ?_
 refine g_goto X8 hx hby dc13_41 (pc0 := 41) (pc' := 3) rfl (by decide) (by decide) ?_
 refine g_iload X8 hx hby dc13_3 rfl ?_
 refine g_iload X8 hx hby dc13_5 rfl ?_
 refine g_icmpYes X8 hx hby dc13_7 (flt (by decide)).2.1 (pc0 := 7) (pc' := 44) rfl (by decide) (by decide) ?_
 refine g_iload X8 hx hby dc13_44 rfl ?_
 obtain ⟨fs, hr, hrun, hended, hW, hsame⟩ := X8.leave (v := some (.int 2)) (fun h => by rw [Bd.returns] at h; cases h) (BodyLoose.notSynchronized Bd)
 refine ⟨_, _, ?_, hP _ _ ⟨hrun, hended, _, _, rfl, ?_, ⟨_, rfl⟩, hW, hsame.mono (by decide) (by decide)⟩⟩
 ·exact retI X8 hx Bd.returns (hb hby dc13_46) hr
 ·show Q_rmCo2 _ _ _ _ _ _ _ _ _ _ T8.heap _
  rw [e8]
  exact ⟨rfl, N9, KC9, V8⟩
theorem ef_rmCp2 (mi : MethodId) (ca : Addr) : entryFrame mi #[(.ref ca), (.int 0), (.int 2)] 6 = mkF mi 0 #[.val (.ref ca), .val (.int 0), .val (.int 2), .unset, .unset, .unset] [] := by first | (simp [entryFrame, mkF, argsToLocals, Value.category]; done) | rfl
abbrev Q_rmCp2 (Z : State) (ca : Addr) (kc : ClassId) (x : Int32) (y : Int32) (h0 : Heap) (n0 : Nat) (vv_ : Option Value) (hh_ : Heap) (LL_ : List Loc) : Prop := ∃ (r : Addr) (kr : ClassId), vv_ = some (.ref r) ∧ Fr n0 LL_ ∧ Keep h0 hh_ [] ∧ h0.size ≤ r ∧ n0 ≤ r ∧ Arv Z hh_ r kr .byte (2 : Int32) [(.int (x.toInt8.toInt32)), (.int (y.toInt8.toInt32))] (.int (0 : Int32)) ∧ Exa Z hh_ r "[B"
theorem rmCp2 (l : Launch) (Z : State) (a0 : Array Value) (hw : Tb Z a0) (ws : List Jvm.Cond) (ca : Addr) (kc : ClassId) (x : Int32) (y : Int32) (h0 : Heap) (n0 : Nat) (Z0 : n0 ≤ h0.size) (CA0 : Arv Z h0 ca kc .char (2 : Int32) [(.int x), (.int y)] (.int (0 : Int32))) (hx1 : 0 ≤ x.toInt) (hx2 : x.toInt ≤ 255) (hy1 : 0 ≤ y.toInt) (hy2 : y.toInt ≤ 255) :
  Mt l Z zy14 zb14 6 (some (.array .byte)) ws zR11 #[(.ref ca), (.int 0), (.int 2)] h0 (Q_rmCp2 Z ca kc x y h0 n0) := by
 refine MetFree.of_bodySF (plainFor_of_name pn_4) hisR ?_
 intro pg ev si mi args below meth ci s₁ Bd hml0 hP0 hK
 obtain ⟨rfl, hZ, hh⟩ := hP0
 have hx := Bd.exec
 have hby := Bd.bytes
 have hml : ci.maxLocals = 6 := hml0
 have hown : si.vm.findClass "java/lang/StringUTF16" = some mi.cls := findClass_of_methodNamed Bd.named
 have hnm := (name_of_methodNamed Bd.named Bd.method).1
 have X0 : Stand pg l ev zR11 si mi #[(.ref ca), (.int 0), (.int 2)] below meth ci s₁ [] 0 0 := Stand.of_body Bd
 have e0 : s₁.heap = h0 := by rw [← hh, Bd.state]; rfl
 have N0 := Fr.nil n0
 refine Go.start (fun P hP => ?_)
 refine Go.st (fun t_ k_ => castTop (ef_rmCp2 mi ca) k_) (A := s₁.setTop (mkF mi 0 #[.val (.ref ca), .val (.int 0), .val (.int 2), .unset, .unset, .unset] [])) ?_
 refine g_iloadN X0 hx hby dc14_0 rfl ?_
 obtain ⟨T1, h1, k1, X1, e1, E1, A1, EX1, st1⟩ := newPE X0 hx hZ (hw _ (own_m 26 rfl)) e0 (g := (mkF mi 1 #[.val (.ref ca), .val (.int 0), .val (.int 2), .unset, .unset, .unset] [(.int 2)])) rfl (hb hby dc14_1) rfl (by decide) (cap := 2) (by decide) (by decide) (by decide) (by decide) (ad := "[B") (by decide)
 obtain ⟨ob1, g1⟩ : ∃ z, z = h0.size := ⟨_, rfl⟩
 rw [← g1] at A1 EX1 st1
 have Zs2 : n0 ≤ h1.size := Nat.le_trans Z0 E1.1
 have KC2 : Keep h0 h1 [] := (Keep.refl h0 []).ext E1
 have g_ob1 : n0 ≤ ob1 := Nat.le_trans Z0 (Nat.le_of_eq g1.symm)
 have sz_ob1 : h0.size ≤ ob1 := Nat.le_trans (Keep.refl h0 []).1 (Nat.le_of_eq g1.symm)
 have V1 : Arv Z h1 ob1 k1 .byte (2 : Int32) [(.int (0 : Int32)), (.int (0 : Int32))] (.int (0 : Int32)) := (Arv.new A1 (by decide)).pad (pad_rep [] (.int (0 : Int32)) 2)
 refine Go.st st1 ?_
 refine g_astoreN X1 hx hby dc14_3 rfl (l' := #[.val (.ref ca), .val (.int 0), .val (.int 2), .val (.ref ob1), .unset, .unset]) rfl ?_
 refine g_aloadN X1 hx hby dc14_4 rfl rfl ?_
 refine g_iloadN X1 hx hby dc14_5 rfl ?_
 refine g_aloadN X1 hx hby dc14_6 rfl rfl ?_
 refine g_iconst X1 hx hby dc14_7 (v := 0) rfl ?_
 refine g_iloadN X1 hx hby dc14_8 rfl ?_
 have f4 := (CA0.ext E1)
 have ne_ca_ob1 : ca ≠ ob1 := Nat.ne_of_lt (Nat.lt_of_lt_of_le CA0.lt (Nat.le_of_eq g1.symm))
 obtain ⟨_, _, ⟨T3, L3, k3, n3⟩, -, X3, ⟨Lc3, hQ3, l3, y3, z3⟩, st3⟩ := Jvm.LawKit.callS X1 hx (y := zy13) hown (mvT hZ (hw _ (own_m 27 rfl))) (mvT hZ (hw _ (own_m 28 rfl))) (mvT hZ (hw _ (own_m 24 rfl))) (mvT hZ (hw _ (own_m 29 rfl))) (by decide) (backOf (W := 0) (rmCo2 l Z a0 hw [] ca ob1 kc x y k1 h1 n0 Zs2 f4 V1 g_ob1 ne_ca_ob1 hx1 hx2 hy1 hy2) hZ (hw _ (own_m 29 rfl)) (hw _ (own_m 24 rfl)) (by decide) (by decide)) (g := (mkF mi 9 #[.val (.ref ca), .val (.int 0), .val (.int 2), .val (.ref ob1), .unset, .unset] [(.int 2), (.int 0), (.ref ob1), (.int 0), (.ref ca)])) rfl (by rw [hml]; rfl) (argsL := [(.ref ca), (.int 0), (.ref ob1), (.int 0), (.int 2)]) (rest := []) (lenOf pd_5 rfl) rfl (by show 2 * 0 + _ ≤ _; exact Nat.le_of_eq rfl) (hb hby dc14_9) (fun _ _ => ⟨rfl, e1, (by decide : 1 + 0 ≤ _), (by decide : 2 + 0 ≤ _)⟩)
 dsimp only [Pt.U, Pt.locs, Pt.cells, Pt.slots] at X3 l3 y3 z3 st3 hQ3
 subst y3 z3
 have X3 := own_cs X3 (cells' := 1) (slots' := 2) rfl rfl
 obtain ⟨h3, e3⟩ : ∃ z, T3.heap = z := ⟨_, rfl⟩
 rw [e3] at hQ3
 obtain ⟨rfl, N3q, K3, VV_3⟩ := hQ3
 have N3 := own_fr l3 (Fr.app N0 N3q)
 have Zs5 : n0 ≤ h3.size := Nat.le_trans Zs2 K3.1
 have KC5 : Keep h0 h3 [] := KC2.trans K3 (allS (P := fun x => x ∈ [] ∨ h0.size ≤ x) (Or.inr sz_ob1) all0)
 refine Go.st st3 ?_
 refine g_istore X3 hx hby dc14_12 (l' := #[.val (.ref ca), .val (.int 0), .val (.int 2), .val (.ref ob1), .val (.int 2), .unset]) rfl ?_
 refine g_iload X3 hx hby dc14_14 rfl ?_
 refine g_iloadN X3 hx hby dc14_16 rfl ?_
 refine g_icmpYes X3 hx hby dc14_17 (teq rfl).1 (pc0 := 17) (pc' := 57) rfl (by decide) (by decide) ?_
 refine g_aloadN X3 hx hby dc14_57 rfl rfl ?_
 obtain ⟨fs, hr, hrun, hended, hW, hsame⟩ := X3.leave (v := some (.ref ob1)) (fun h => by rw [Bd.returns] at h; cases h) (BodyLoose.notSynchronized Bd)
 have f6 := (EX1.keep K3)
 refine ⟨_, _, ?_, hP _ _ ⟨hrun, hended, _, _, rfl, ?_, ⟨_, rfl⟩, hW, hsame.mono (by decide) (by decide)⟩⟩
 ·exact retOut X3 hx Bd.returns rfl (Or.inr (Or.inr (Or.inr (Or.inr ⟨rfl, rfl, rfl⟩)))) (hb hby dc14_58) hr
 ·show Q_rmCp2 _ _ _ _ _ _ _ _ T3.heap _
  rw [e3]
  exact ⟨ob1, k1, rfl, N3, KC5, sz_ob1, g_ob1, VV_3, f6⟩
theorem ef_rmCL2 (mi : MethodId) (bb : Addr) : entryFrame mi #[(.ref bb), (.int 2)] 2 = mkF mi 0 #[.val (.ref bb), .val (.int 2)] [] := by first | (simp [entryFrame, mkF, argsToLocals, Value.category]; done) | rfl
theorem rmCL2 (l : Launch) (Z : State) (a0 : Array Value) (hw : Tb Z a0) (ws : List Jvm.Cond) (bb : Addr) (kb : ClassId) (vs : List Value) (h0 : Heap) (n0 : Nat) (Z0 : n0 ≤ h0.size) (CB0 : Arv Z h0 bb kb .byte (2 : Int32) vs (.int (0 : Int32))) :
  Mt l Z zy15 zb15 2 (some .byte) ws zR0 #[(.ref bb), (.int 2)] h0 (QP (some (.int (0 : Int32))) h0 n0) := by
 refine MetFree.of_bodySF (plainFor_of_name pn_4) hisR ?_
 intro pg ev si mi args below meth ci s₁ Bd hml0 hP0 hK
 obtain ⟨rfl, hZ, hh⟩ := hP0
 have hx := Bd.exec
 have hby := Bd.bytes
 have hml : ci.maxLocals = 2 := hml0
 have hown : si.vm.findClass "java/lang/StringUTF16" = some mi.cls := findClass_of_methodNamed Bd.named
 have hnm := (name_of_methodNamed Bd.named Bd.method).1
 have X0 : Stand pg l ev zR0 si mi #[(.ref bb), (.int 2)] below meth ci s₁ [] 0 0 := Stand.of_body Bd
 have e0 : s₁.heap = h0 := by rw [← hh, Bd.state]; rfl
 have N0 := Fr.nil n0
 refine Go.start (fun P hP => ?_)
 refine Go.st (fun t_ k_ => castTop (ef_rmCL2 mi bb) k_) (A := s₁.setTop (mkF mi 0 #[.val (.ref bb), .val (.int 2)] [])) ?_
 refine g_iloadN X0 hx hby dc15_0 rfl ?_
 refine g_aloadN X0 hx hby dc15_1 rfl rfl ?_
 have ov1 := CB0
 obtain ⟨cl1, Ar1, q1, S1, M1, H1, G1⟩ := ov1
 refine Go.st (X0.arraylength hx (by rw [e0]; exact Ar1.1) (State.isArrayOf_alike hZ.alike Ar1.2.1) (g := (mkF mi 2 #[.val (.ref bb), .val (.int 2)] [(.ref bb), (.int 2)])) rfl rfl (hb hby dc15_2)) ?_
 rw [len_of S1 M1]
 refine g_isub X0 hx hby dc15_3 (z := 0) rfl ?_
 refine g_bipush X0 hx hby dc15_4 (v := 31) rfl ?_
 refine Go.s (XS.iushr X0.here hx rfl (hb hby dc15_6) rfl) ?_
 refine g_i2b X0 hx hby dc15_7 (z := 0) rfl ?_
 obtain ⟨fs, hr, hrun, hended, hW, hsame⟩ := X0.leave (v := some (.int 0)) (fun h => by rw [Bd.returns] at h; cases h) (BodyLoose.notSynchronized Bd)
 refine ⟨_, _, ?_, hP _ _ ⟨hrun, hended, _, _, rfl, ?_, ⟨_, rfl⟩, hW, hsame.mono (by decide) (by decide)⟩⟩
 ·exact retN X0 hx (t := .byte) Bd.returns (by simp) (hb hby dc15_8) hr
 ·exact ⟨rfl, N0, e0⟩
theorem ef_rmSV2 (mi : MethodId) (o : Addr) (ca : Addr) : entryFrame mi #[(.ref o), (.ref ca), (.int 0), (.int 2), .null] 6 = mkF mi 0 #[.val (.ref o), .val (.ref ca), .val (.int 0), .val (.int 2), .val .null, .unset] [] := by first | (simp [entryFrame, mkF, argsToLocals, Value.category]; done) | rfl
abbrev Q_rmSV2 (Z : State) (o : Addr) (ca : Addr) (kc : ClassId) (x : Int32) (y : Int32) (cz : Int32) (h0 : Heap) (n0 : Nat) (vv_ : Option Value) (hh_ : Heap) (LL_ : List Loc) : Prop := vv_ = none ∧ Fr n0 LL_ ∧ Keep h0 hh_ [o] ∧ ∃ (b : Addr) (kb : ClassId), Exa Z hh_ o "java/lang/String" ∧ Fld Z hh_ o "java/lang/String" "coder" "B" (.int (0 : Int32)) ∧ Fld Z hh_ o "java/lang/String" "value" "[B" (.ref b) ∧ Arv Z hh_ b kb .byte (2 : Int32) ([(x.toInt8.toInt32), (y.toInt8.toInt32)].map Value.int) (.int (0 : Int32)) ∧ Exa Z hh_ b "[B"
theorem rmSV2 (l : Launch) (Z : State) (a0 : Array Value) (hw : Tb Z a0) (ws : List Jvm.Cond) (o : Addr) (ca : Addr) (kc : ClassId) (x : Int32) (y : Int32) (cz : Int32) (h0 : Heap) (n0 : Nat) (Z0 : n0 ≤ h0.size) (E0 : Exa Z h0 o "java/lang/String") (FS1 : Fld Z h0 o "java/lang/String" "coder" "B" (.int (0 : Int32))) (FS2 : Fld Z h0 o "java/lang/String" "value" "[B" .null) (g_o : n0 ≤ o) (CA0 : Arv Z h0 ca kc .char (2 : Int32) [(.int x), (.int y)] (.int (0 : Int32))) (ne_o : ca ≠ o) (SC : Sta Z h0 "java/lang/String" "COMPACT_STRINGS" "Z" (.int cz)) (hcz : ¬ (cz = (0 : Int32))) (hx1 : 0 ≤ x.toInt) (hx2 : x.toInt ≤ 255) (hy1 : 0 ≤ y.toInt) (hy2 : y.toInt ≤ 255) :
  Mt l Z zy16 zb16 6 none ws zR12 #[(.ref o), (.ref ca), (.int 0), (.int 2), .null] h0 (Q_rmSV2 Z o ca kc x y cz h0 n0) := by
 refine MetFree.of_bodySF (plainFor_of_name pn_0) hisR ?_
 intro pg ev si mi args below meth ci s₁ Bd hml0 hP0 hK
 obtain ⟨rfl, hZ, hh⟩ := hP0
 have hx := Bd.exec
 have hby := Bd.bytes
 have hml : ci.maxLocals = 6 := hml0
 have hown : si.vm.findClass "java/lang/String" = some mi.cls := findClass_of_methodNamed Bd.named
 have hnm := (name_of_methodNamed Bd.named Bd.method).1
 have X0 : Stand pg l ev zR12 si mi #[(.ref o), (.ref ca), (.int 0), (.int 2), .null] below meth ci s₁ [] 0 0 := Stand.of_body Bd
 have e0 : s₁.heap = h0 := by rw [← hh, Bd.state]; rfl
 have N0 := Fr.nil n0
 refine Go.start (fun P hP => ?_)
 refine Go.st (fun t_ k_ => castTop (ef_rmSV2 mi o ca) k_) (A := s₁.setTop (mkF mi 0 #[.val (.ref o), .val (.ref ca), .val (.int 0), .val (.int 2), .val .null, .unset] [])) ?_
 refine g_aloadN X0 hx hby dc16_0 rfl rfl ?_
 obtain ⟨T1, X1, e1, st1⟩ := initO X0 hx hZ hown (hw _ (own_m 18 rfl)) (hw _ (own_m 19 rfl)) (hw _ (own_m 20 rfl)) e0 (g := (mkF mi 1 #[.val (.ref o), .val (.ref ca), .val (.int 0), .val (.int 2), .val .null, .unset] [(.ref o)])) rfl (by rw [hml]; rfl) rfl (hb hby dc16_1) (by decide) (W := 0) (by show 2 * 0 + _ ≤ _; exact Nat.le_of_eq rfl) (by decide)
 refine Go.st st1 ?_
 refine g_iloadN X1 hx hby dc16_4 rfl ?_
 refine g_ifYes X1 hx hby dc16_5 ((if0 _ _).trans (feq (by decide)).2) (pc0 := 5) (pc' := 27) rfl (by decide) (by decide) ?_
 obtain ⟨T2, X2, e2, st2⟩ := getS2 X1 hx hZ hown (host := "") (Or.inl (hw _ (own_m 21 rfl))) Via.refl e1 SC (g := (mkF mi 27 #[.val (.ref o), .val (.ref ca), .val (.int 0), .val (.int 2), .val .null, .unset] [])) rfl (hb hby dc16_27)
 refine Go.st st2 ?_
 refine g_ifNo X2 hx hby dc16_30 ((if0 _ _).trans (feq hcz).1) ?_
 refine g_aloadN X2 hx hby dc16_33 rfl rfl ?_
 refine g_iloadN X2 hx hby dc16_34 rfl ?_
 refine g_iloadN X2 hx hby dc16_35 rfl ?_
 obtain ⟨_, _, ⟨T3, L3, k3, n3⟩, -, X3, ⟨Lc3, hQ3, l3, y3, z3⟩, st3⟩ := Jvm.LawKit.callS X2 hx (y := zy14) hown (mvT hZ (hw _ (own_m 22 rfl))) (mvT hZ (hw _ (own_m 23 rfl))) (mvT hZ (hw _ (own_m 24 rfl))) (mvT hZ (hw _ (own_m 25 rfl))) (by decide) (backOf (W := 0) (rmCp2 l Z a0 hw [] ca kc x y h0 n0 Z0 CA0 hx1 hx2 hy1 hy2) hZ (hw _ (own_m 25 rfl)) (hw _ (own_m 24 rfl)) (by decide) (by decide)) (g := (mkF mi 36 #[.val (.ref o), .val (.ref ca), .val (.int 0), .val (.int 2), .val .null, .unset] [(.int 2), (.int 0), (.ref ca)])) rfl (by rw [hml]; rfl) (argsL := [(.ref ca), (.int 0), (.int 2)]) (rest := []) (lenOf pd_6 rfl) rfl (by show 2 * 0 + _ ≤ _; exact Nat.le_of_eq rfl) (hb hby dc16_36) (fun _ _ => ⟨rfl, e2, (by decide : 0 + 1 ≤ _), (by decide : 0 + 2 ≤ _)⟩)
 dsimp only [Pt.U, Pt.locs, Pt.cells, Pt.slots] at X3 l3 y3 z3 st3 hQ3
 subst y3 z3
 have X3 := own_cs X3 (cells' := 1) (slots' := 2) rfl rfl
 obtain ⟨h3, e3⟩ : ∃ z, T3.heap = z := ⟨_, rfl⟩
 rw [e3] at hQ3
 obtain ⟨r3, kr3, rfl, N3q, K3, z_r3, g_r3, V_r3, E_r3⟩ := hQ3
 have N3 := own_fr l3 (Fr.app N0 N3q)
 have Zs4 : n0 ≤ h3.size := Nat.le_trans Z0 K3.1
 have KC4 : Keep h0 h3 [o] := (Keep.refl h0 [o]).trans K3 all0
 have sz_r3 : h0.size ≤ r3 := Nat.le_trans (Keep.refl h0 [o]).1 z_r3
 refine Go.st st3 ?_
 refine g_astore X3 hx hby dc16_39 rfl (l' := #[.val (.ref o), .val (.ref ca), .val (.int 0), .val (.int 2), .val .null, .val (.ref r3)]) rfl ?_
 refine g_aloadN X3 hx hby dc16_41 rfl rfl ?_
 refine g_aload X3 hx hby dc16_42 rfl rfl ?_
 refine g_iloadN X3 hx hby dc16_44 rfl ?_
 obtain ⟨_, _, ⟨T5, L5, k5, n5⟩, -, X5, ⟨Lc5, hQ5, l5, y5, z5⟩, st5⟩ := Jvm.LawKit.callS X3 hx (y := zy15) hown (mvT hZ (hw _ (own_m 30 rfl))) (mvT hZ (hw _ (own_m 31 rfl))) (mvT hZ (hw _ (own_m 24 rfl))) (mvT hZ (hw _ (own_m 32 rfl))) (by decide) (backOf (W := 1) (rmCL2 l Z a0 hw [] r3 kr3 [(.int (x.toInt8.toInt32)), (.int (y.toInt8.toInt32))] h3 n0 Zs4 V_r3) hZ (hw _ (own_m 32 rfl)) (hw _ (own_m 24 rfl)) (by decide) (by decide)) (g := (mkF mi 45 #[.val (.ref o), .val (.ref ca), .val (.int 0), .val (.int 2), .val .null, .val (.ref r3)] [(.int 2), (.ref r3), (.ref o)])) rfl (by rw [hml]; rfl) (argsL := [(.ref r3), (.int 2)]) (rest := [(.ref o)]) (lenOf pd_7 rfl) rfl (by show 2 * 0 + _ ≤ _; exact Nat.le_of_eq rfl) (hb hby dc16_45) (fun _ _ => ⟨rfl, e3, (by decide : 1 + 0 ≤ _), (by decide : 2 + 0 ≤ _)⟩)
 dsimp only [Pt.U, Pt.locs, Pt.cells, Pt.slots] at X5 l5 y5 z5 st5 hQ5
 subst y5 z5
 have X5 := own_cs X5 (cells' := 1) (slots' := 2) rfl rfl
 obtain ⟨rfl, N5q, e5⟩ := hQ5
 have N5 := own_fr l5 (Fr.app N3 N5q)
 refine Go.st st5 ?_
 have f6 := (FS1.keep K3 nin0)
 have f7 := (E0.keep K3)
 obtain ⟨T8, h8, X8, e8, W8, st8⟩ := putFN X5 hx hZ hown (hw _ (own_m 33 rfl)) Via.refl e5 f6 f7 (Or.inr ⟨(hw _ (own_m 34 rfl)), rfl, hnm⟩) (hw _ (own_m 8 rfl)) (ty := .byte) (v' := (.int 0)) (by decide) rfl (by decide) (g := (mkF mi 48 #[.val (.ref o), .val (.ref ca), .val (.int 0), .val (.int 2), .val .null, .val (.ref r3)] [(.int 0), (.ref o)])) rfl rfl (hb hby dc16_48)
 have Zs9 : n0 ≤ h8.size := Nat.le_trans Zs4 (Keep.of_wr W8).1
 have KC9 : Keep h0 h8 [o] := KC4.wr W8 (Or.inl (List.mem_of_getElem? (i := 0) rfl))
 have N9 := Fr.snoc X8 N5 g_o
 have F8 : Fld Z h8 o "java/lang/String" "coder" "B" (.int 0) := f6.same W8
 refine Go.st st8 ?_
 refine g_aloadN X8 hx hby dc16_51 rfl rfl ?_
 refine g_aload X8 hx hby dc16_52 rfl rfl ?_
 have f10 := ((FS2.keep K3 nin0).other W8 (Or.inr (slot_ne (Or.inr (hw _ (own_m 36 rfl))) (Or.inr (hw _ (own_m 34 rfl))) (by decide) (t := (.array .byte)) (t' := .byte) (by decide) (by decide))))
 have f11 := (f7.wr W8)
 obtain ⟨T12, h12, X12, e12, W12, st12⟩ := putF X8 hx hZ hown (host := "") (Or.inl (hw _ (own_m 35 rfl))) Via.refl e8 f10 f11 (Or.inr ⟨(hw _ (own_m 36 rfl)), rfl, hnm⟩) (hw _ (own_m 8 rfl)) (ty := (.array .byte)) (by decide) rfl rfl (g := (mkF mi 54 #[.val (.ref o), .val (.ref ca), .val (.int 0), .val (.int 2), .val .null, .val (.ref r3)] [(.ref r3), (.ref o)])) rfl rfl (hb hby dc16_54)
 have Zs13 : n0 ≤ h12.size := Nat.le_trans Zs9 (Keep.of_wr W12).1
 have KC13 : Keep h0 h12 [o] := KC9.wr W12 (Or.inl (List.mem_of_getElem? (i := 0) rfl))
 have N13 := Fr.snoc X12 N9 g_o
 have F12 : Fld Z h12 o "java/lang/String" "value" "[B" (.ref r3) := f10.same W12
 refine Go.st st12 ?_
 obtain ⟨fs, hr, hrun, hended, hW, hsame⟩ := X12.leave (v := none) (fun _ => rfl) (BodyLoose.notSynchronized Bd)
 have f14 := (f11.wr W12)
 have f15 := (F8.other W12 (Or.inr (slot_ne (Or.inr (hw _ (own_m 34 rfl))) (Or.inr (hw _ (own_m 36 rfl))) (by decide) (t := .byte) (t' := (.array .byte)) (by decide) (by decide))))
 have ne_o_r3 : o ≠ r3 := Nat.ne_of_lt (Nat.lt_of_lt_of_le E0.lt z_r3)
 have f16 := ((V_r3.other W8 (Ne.symm ne_o_r3)).other W12 (Ne.symm ne_o_r3))
 have f17 := ((E_r3.wr W8).wr W12)
 refine ⟨_, _, ?_, hP _ _ ⟨hrun, hended, _, _, rfl, ?_, ⟨_, rfl⟩, hW, hsame.mono (by decide) (by decide)⟩⟩
 ·exact X12.returnOut hx Bd.returns (hb hby dc16_57) hr
 ·show Q_rmSV2 _ _ _ _ _ _ _ _ _ _ T12.heap _
  rw [e12]
  exact ⟨rfl, N13, KC13, r3, kr3, f14, f15, F12, f16, f17⟩
theorem ef_rmSC2 (mi : MethodId) (o : Addr) (ca : Addr) : entryFrame mi #[(.ref o), (.ref ca)] 2 = mkF mi 0 #[.val (.ref o), .val (.ref ca)] [] := by first | (simp [entryFrame, mkF, argsToLocals, Value.category]; done) | rfl
abbrev Q_rmSC2 (Z : State) (o : Addr) (ca : Addr) (kc : ClassId) (x : Int32) (y : Int32) (cz : Int32) (h0 : Heap) (n0 : Nat) (vv_ : Option Value) (hh_ : Heap) (LL_ : List Loc) : Prop := vv_ = none ∧ Fr n0 LL_ ∧ Keep h0 hh_ [o] ∧ ∃ (b : Addr) (kb : ClassId), Exa Z hh_ o "java/lang/String" ∧ Fld Z hh_ o "java/lang/String" "coder" "B" (.int (0 : Int32)) ∧ Fld Z hh_ o "java/lang/String" "value" "[B" (.ref b) ∧ Arv Z hh_ b kb .byte (2 : Int32) ([(x.toInt8.toInt32), (y.toInt8.toInt32)].map Value.int) (.int (0 : Int32)) ∧ Exa Z hh_ b "[B"
theorem rmSC2 (l : Launch) (Z : State) (a0 : Array Value) (hw : Tb Z a0) (ws : List Jvm.Cond) (o : Addr) (ca : Addr) (kc : ClassId) (x : Int32) (y : Int32) (cz : Int32) (h0 : Heap) (n0 : Nat) (Z0 : n0 ≤ h0.size) (E0 : Exa Z h0 o "java/lang/String") (FS1 : Fld Z h0 o "java/lang/String" "coder" "B" (.int (0 : Int32))) (FS2 : Fld Z h0 o "java/lang/String" "value" "[B" .null) (g_o : n0 ≤ o) (CA0 : Arv Z h0 ca kc .char (2 : Int32) [(.int x), (.int y)] (.int (0 : Int32))) (ne_o : ca ≠ o) (SC : Sta Z h0 "java/lang/String" "COMPACT_STRINGS" "Z" (.int cz)) (hcz : ¬ (cz = (0 : Int32))) (hx1 : 0 ≤ x.toInt) (hx2 : x.toInt ≤ 255) (hy1 : 0 ≤ y.toInt) (hy2 : y.toInt ≤ 255) :
  Mt l Z zy17 zb17 2 none ws zR8 #[(.ref o), (.ref ca)] h0 (Q_rmSC2 Z o ca kc x y cz h0 n0) := by
 refine MetFree.of_bodySF (plainFor_of_name pn_0) hisR ?_
 intro pg ev si mi args below meth ci s₁ Bd hml0 hP0 hK
 obtain ⟨rfl, hZ, hh⟩ := hP0
 have hx := Bd.exec
 have hby := Bd.bytes
 have hml : ci.maxLocals = 2 := hml0
 have hown : si.vm.findClass "java/lang/String" = some mi.cls := findClass_of_methodNamed Bd.named
 have hnm := (name_of_methodNamed Bd.named Bd.method).1
 have X0 : Stand pg l ev zR8 si mi #[(.ref o), (.ref ca)] below meth ci s₁ [] 0 0 := Stand.of_body Bd
 have e0 : s₁.heap = h0 := by rw [← hh, Bd.state]; rfl
 have N0 := Fr.nil n0
 refine Go.start (fun P hP => ?_)
 refine Go.st (fun t_ k_ => castTop (ef_rmSC2 mi o ca) k_) (A := s₁.setTop (mkF mi 0 #[.val (.ref o), .val (.ref ca)] [])) ?_
 refine g_aloadN X0 hx hby dc17_0 rfl rfl ?_
 refine g_aloadN X0 hx hby dc17_1 rfl rfl ?_
 refine g_iconst X0 hx hby dc17_2 (v := 0) rfl ?_
 refine g_aloadN X0 hx hby dc17_3 rfl rfl ?_
 have ov1 := CA0
 obtain ⟨cl1, Ar1, q1, S1, M1, H1, G1⟩ := ov1
 refine Go.st (X0.arraylength hx (by rw [e0]; exact Ar1.1) (State.isArrayOf_alike hZ.alike Ar1.2.1) (g := (mkF mi 4 #[.val (.ref o), .val (.ref ca)] [(.ref ca), (.int 0), (.ref ca), (.ref o)])) rfl rfl (hb hby dc17_4)) ?_
 rw [len_of S1 M1]
 refine Go.s (XS.aconstNull X0.here hx rfl (hb hby dc17_5)) ?_
 obtain ⟨_, _, ⟨T2, L2, k2, n2⟩, -, X2, ⟨Lc2, hQ2, l2, y2, z2⟩, st2⟩ := X0.specialBack hx (y := zy16) rfl hown (mvT hZ (hw _ (own_m 14 rfl))) (mvT hZ (hw _ (own_m 15 rfl))) (mvT hZ (hw _ (own_m 17 rfl))) (by decide) (backOf (W := 0) (rmSV2 l Z a0 hw [] o ca kc x y cz h0 n0 Z0 E0 FS1 FS2 g_o CA0 ne_o SC hcz hx1 hx2 hy1 hy2) hZ (hw _ (own_m 17 rfl)) (hw _ (own_m 9 rfl)) (by decide) (by decide)) (g := (mkF mi 6 #[.val (.ref o), .val (.ref ca)] [.null, (.int 2), (.int 0), (.ref ca), (.ref o)])) rfl (by rw [hml]; rfl) (Steps.refl _) (a := o) (argsL := [(.ref ca), (.int 0), (.int 2), .null]) (rest := []) (lenOf pd_8 rfl) rfl (by show 2 * 0 + _ ≤ _; exact Nat.le_of_eq rfl) (hb hby dc17_6) (fun _ _ => ⟨rfl, e0, (by decide : 0 + 1 ≤ _), (by decide : 0 + 2 ≤ _)⟩)
 dsimp only [Pt.U, Pt.locs, Pt.cells, Pt.slots] at X2 l2 y2 z2 st2 hQ2
 subst y2 z2
 have X2 := own_cs X2 (cells' := 1) (slots' := 2) rfl rfl
 obtain ⟨h2, e2⟩ : ∃ z, T2.heap = z := ⟨_, rfl⟩
 rw [e2] at hQ2
 obtain ⟨rfl, N2q, K2, sb2, sk2, SE2, SCo2, SVa2, SAr2, SEb2⟩ := hQ2
 have N2 := own_fr l2 (Fr.app N0 N2q)
 have Zs3 : n0 ≤ h2.size := Nat.le_trans Z0 K2.1
 have KC3 : Keep h0 h2 [o] := (Keep.refl h0 [o]).trans K2 (allS (P := fun x => x ∈ [o] ∨ h0.size ≤ x) (Or.inl (List.mem_of_getElem? (i := 0) rfl)) all0)
 refine Go.tr st2 ?_
 obtain ⟨fs, hr, hrun, hended, hW, hsame⟩ := X2.leave (v := none) (fun _ => rfl) (BodyLoose.notSynchronized Bd)
 refine ⟨_, _, ?_, hP _ _ ⟨hrun, hended, _, _, rfl, ?_, ⟨_, rfl⟩, hW, hsame.mono (by decide) (by decide)⟩⟩
 ·exact X2.returnOut hx Bd.returns (hb hby dc17_9) hr
 ·show Q_rmSC2 _ _ _ _ _ _ _ _ _ _ T2.heap _
  rw [e2]
  exact ⟨rfl, N2, KC3, sb2, sk2, SE2, SCo2, SVa2, SAr2, SEb2⟩
theorem ef_rmCo1 (mi : MethodId) (ca : Addr) (bb : Addr) : entryFrame mi #[(.ref ca), (.int 0), (.ref bb), (.int 0), (.int 1)] 7 = mkF mi 0 #[.val (.ref ca), .val (.int 0), .val (.ref bb), .val (.int 0), .val (.int 1), .unset, .unset] [] := by first | (simp [entryFrame, mkF, argsToLocals, Value.category]; done) | rfl
abbrev Q_rmCo1 (Z : State) (ca : Addr) (bb : Addr) (kc : ClassId) (x : Int32) (kb : ClassId) (h0 : Heap) (n0 : Nat) (vv_ : Option Value) (hh_ : Heap) (LL_ : List Loc) : Prop := vv_ = some (.int (1 : Int32)) ∧ Fr n0 LL_ ∧ Keep h0 hh_ [bb] ∧ Arv Z hh_ bb kb .byte (1 : Int32) [(.int (x.toInt8.toInt32))] (.int (0 : Int32))
theorem rmCo1 (l : Launch) (Z : State) (a0 : Array Value) (hw : Tb Z a0) (ws : List Jvm.Cond) (ca : Addr) (bb : Addr) (kc : ClassId) (x : Int32) (kb : ClassId) (h0 : Heap) (n0 : Nat) (Z0 : n0 ≤ h0.size) (CA0 : Arv Z h0 ca kc .char (1 : Int32) [(.int x)] (.int (0 : Int32))) (CB0 : Arv Z h0 bb kb .byte (1 : Int32) [(.int (0 : Int32))] (.int (0 : Int32))) (g_b : n0 ≤ bb) (ne_b : ca ≠ bb) (hx1 : 0 ≤ x.toInt) (hx2 : x.toInt ≤ 255) :
  Mt l Z zy13 zb13 7 (some .int) ws zR0 #[(.ref ca), (.int 0), (.ref bb), (.int 0), (.int 1)] h0 (Q_rmCo1 Z ca bb kc x kb h0 n0) := by
 refine MetFree.of_bodySF (plainFor_of_name pn_4) hisR ?_
 intro pg ev si mi args below meth ci s₁ Bd hml0 hP0 hK
 obtain ⟨rfl, hZ, hh⟩ := hP0
 have hx := Bd.exec
 have hby := Bd.bytes
 have hml : ci.maxLocals = 7 := hml0
 have hown : si.vm.findClass "java/lang/StringUTF16" = some mi.cls := findClass_of_methodNamed Bd.named
 have hnm := (name_of_methodNamed Bd.named Bd.method).1
 have X0 : Stand pg l ev zR0 si mi #[(.ref ca), (.int 0), (.ref bb), (.int 0), (.int 1)] below meth ci s₁ [] 0 0 := Stand.of_body Bd
 have e0 : s₁.heap = h0 := by rw [← hh, Bd.state]; rfl
 have N0 := Fr.nil n0
 refine Go.start (fun P hP => ?_)
 refine Go.st (fun t_ k_ => castTop (ef_rmCo1 mi ca bb) k_) (A := s₁.setTop (mkF mi 0 #[.val (.ref ca), .val (.int 0), .val (.ref bb), .val (.int 0), .val (.int 1), .unset, .unset] [])) ?_
 refine g_iconst X0 hx hby dc13_0 (v := 0) rfl ?_
 refine g_istore X0 hx hby dc13_1 (l' := #[.val (.ref ca), .val (.int 0), .val (.ref bb), .val (.int 0), .val (.int 1), .val (.int 0), .unset]) rfl ?_
 refine g_iload X0 hx hby dc13_3 rfl ?_
 refine g_iload X0 hx hby dc13_5 rfl ?_
 refine g_icmpNo X0 hx hby dc13_7 (tlt (by decide)).2.1 ?_
 refine g_aloadN X0 hx hby dc13_10 rfl rfl ?_
 refine g_iloadN X0 hx hby dc13_11 rfl ?_
 have ov1 := CA0
 obtain ⟨cl1, Ar1, q1, S1, M1, H1, G1⟩ := ov1
 have hin1 : ¬ ((0 : Int32) < 0 ∨ cl1.slots.size ≤ ((0 : Int32)).toNatClampNeg) := inb_of S1 ⟨by decide, by decide⟩
 have hat1 : cl1.slots[((0 : Int32)).toNatClampNeg]? = some (.int x) := Has.at H1 hin1 rfl
 refine Go.st (X0.caload hx (j := (0 : Int32)) (v := (.int x)) (by rw [e0]; exact Ar1.1) (State.isArrayOf_alike hZ.alike Ar1.2.1) Ar1.2.2 hin1 hat1 (g := (mkF mi 12 #[.val (.ref ca), .val (.int 0), .val (.ref bb), .val (.int 0), .val (.int 1), .val (.int 0), .unset] [(.int 0), (.ref ca)])) rfl rfl (hb hby dc13_12)) ?_
 refine g_istore X0 hx hby dc13_13 (l' := #[.val (.ref ca), .val (.int 0), .val (.ref bb), .val (.int 0), .val (.int 1), .val (.int 0), .val (.int x)]) rfl ?_
 refine g_iload X0 hx hby dc13_15 rfl ?_
 refine g_sipush X0 hx hby dc13_17 (v := 255) rfl ?_
 refine g_icmpYes X0 hx hby dc13_20 (flt (own_255 hx2)).2.2.2 (pc0 := 20) (pc' := 26) rfl (by decide) (by decide) ?_
 refine g_aloadN X0 hx hby dc13_26 rfl rfl ?_
 refine g_iloadN X0 hx hby dc13_27 rfl ?_
 refine g_iload X0 hx hby dc13_28 rfl ?_
 refine g_i2b X0 hx hby dc13_30 rfl ?_
 have ov2 := CB0
 obtain ⟨cl2, Ar2, q2, S2, M2, H2, G2⟩ := ov2
 have hin2 : ¬ ((0 : Int32) < 0 ∨ cl2.slots.size ≤ ((0 : Int32)).toNatClampNeg) := inb_of S2 ⟨by decide, by decide⟩
 obtain ⟨T3, h3, X3, e3, W3, st3⟩ := stB X0 hx hZ e0 Ar2 (j := (0 : Int32)) hin2 (g := (mkF mi 31 #[.val (.ref ca), .val (.int 0), .val (.ref bb), .val (.int 0), .val (.int 1), .val (.int 0), .val (.int x)] [(.int (x.toInt8.toInt32)), (.int 0), (.ref bb)])) rfl rfl (hb hby dc13_31)
 have Zs4 : n0 ≤ h3.size := Nat.le_trans Z0 (Keep.of_wr W3).1
 have KC4 : Keep h0 h3 [bb] := (Keep.refl h0 [bb]).wr W3 (Or.inl (List.mem_of_getElem? (i := 0) rfl))
 have N4 := Fr.snoc X3 N0 g_b
 have V3 : Arv Z h3 bb kb .byte (1 : Int32) [(.int ((x.toInt8.toInt32).toInt8.toInt32))] (.int (0 : Int32)) := Arv.set Ar2 q2 S2 M2 H2 G2 (fits_nar_byte _) W3 0 rfl (Nat.le_of_ble_eq_true rfl)
 rw [own_bb] at V3
 refine Go.st st3 ?_
 refine g_iinc X3 hx hby dc13_32 rfl (x' := 1) rfl (l' := #[.val (.ref ca), .val (.int 1), .val (.ref bb), .val (.int 0), .val (.int 1), .val (.int 0), .val (.int x)]) rfl ?_
 refine g_iinc X3 hx hby dc13_35 rfl (x' := 1) rfl (l' := #[.val (.ref ca), .val (.int 1), .val (.ref bb), .val (.int 1), .val (.int 1), .val (.int 0), .val (.int x)]) rfl ?_
 refine g_iinc X3 hx hby dc13_38 rfl (x' := 1) rfl (l' := #[.val (.ref ca), .val (.int 1), .val (.ref bb), .val (.int 1), .val (.int 1), .val (.int 1), .val (.int x)]) rfl ?_
 refine g_goto X3 hx hby dc13_41 (pc0 := 41) (pc' := 3) rfl (by decide) (by decide) ?_
 refine g_iload X3 hx hby dc13_3 rfl ?_
 refine g_iload X3 hx hby dc13_5 rfl ?_
 refine g_icmpYes X3 hx hby dc13_7 (flt (by decide)).2.1 (pc0 := 7) (pc' := 44) rfl (by decide) (by decide) ?_
 refine g_iload X3 hx hby dc13_44 rfl ?_
 obtain ⟨fs, hr, hrun, hended, hW, hsame⟩ := X3.leave (v := some (.int 1)) (fun h => by rw [Bd.returns] at h; cases h) (BodyLoose.notSynchronized Bd)
 refine ⟨_, _, ?_, hP _ _ ⟨hrun, hended, _, _, rfl, ?_, ⟨_, rfl⟩, hW, hsame.mono (by decide) (by decide)⟩⟩
 ·exact retI X3 hx Bd.returns (hb hby dc13_46) hr
 ·show Q_rmCo1 _ _ _ _ _ _ _ _ _ T3.heap _
  rw [e3]
  exact ⟨rfl, N4, KC4, V3⟩
theorem ef_rmCp1 (mi : MethodId) (ca : Addr) : entryFrame mi #[(.ref ca), (.int 0), (.int 1)] 6 = mkF mi 0 #[.val (.ref ca), .val (.int 0), .val (.int 1), .unset, .unset, .unset] [] := by first | (simp [entryFrame, mkF, argsToLocals, Value.category]; done) | rfl
abbrev Q_rmCp1 (Z : State) (ca : Addr) (kc : ClassId) (x : Int32) (h0 : Heap) (n0 : Nat) (vv_ : Option Value) (hh_ : Heap) (LL_ : List Loc) : Prop := ∃ (r : Addr) (kr : ClassId), vv_ = some (.ref r) ∧ Fr n0 LL_ ∧ Keep h0 hh_ [] ∧ h0.size ≤ r ∧ n0 ≤ r ∧ Arv Z hh_ r kr .byte (1 : Int32) [(.int (x.toInt8.toInt32))] (.int (0 : Int32)) ∧ Exa Z hh_ r "[B"
theorem rmCp1 (l : Launch) (Z : State) (a0 : Array Value) (hw : Tb Z a0) (ws : List Jvm.Cond) (ca : Addr) (kc : ClassId) (x : Int32) (h0 : Heap) (n0 : Nat) (Z0 : n0 ≤ h0.size) (CA0 : Arv Z h0 ca kc .char (1 : Int32) [(.int x)] (.int (0 : Int32))) (hx1 : 0 ≤ x.toInt) (hx2 : x.toInt ≤ 255) :
  Mt l Z zy14 zb14 6 (some (.array .byte)) ws zR13 #[(.ref ca), (.int 0), (.int 1)] h0 (Q_rmCp1 Z ca kc x h0 n0) := by
 refine MetFree.of_bodySF (plainFor_of_name pn_4) hisR ?_
 intro pg ev si mi args below meth ci s₁ Bd hml0 hP0 hK
 obtain ⟨rfl, hZ, hh⟩ := hP0
 have hx := Bd.exec
 have hby := Bd.bytes
 have hml : ci.maxLocals = 6 := hml0
 have hown : si.vm.findClass "java/lang/StringUTF16" = some mi.cls := findClass_of_methodNamed Bd.named
 have hnm := (name_of_methodNamed Bd.named Bd.method).1
 have X0 : Stand pg l ev zR13 si mi #[(.ref ca), (.int 0), (.int 1)] below meth ci s₁ [] 0 0 := Stand.of_body Bd
 have e0 : s₁.heap = h0 := by rw [← hh, Bd.state]; rfl
 have N0 := Fr.nil n0
 refine Go.start (fun P hP => ?_)
 refine Go.st (fun t_ k_ => castTop (ef_rmCp1 mi ca) k_) (A := s₁.setTop (mkF mi 0 #[.val (.ref ca), .val (.int 0), .val (.int 1), .unset, .unset, .unset] [])) ?_
 refine g_iloadN X0 hx hby dc14_0 rfl ?_
 obtain ⟨T1, h1, k1, X1, e1, E1, A1, EX1, st1⟩ := newPE X0 hx hZ (hw _ (own_m 26 rfl)) e0 (g := (mkF mi 1 #[.val (.ref ca), .val (.int 0), .val (.int 1), .unset, .unset, .unset] [(.int 1)])) rfl (hb hby dc14_1) rfl (by decide) (cap := 1) (by decide) (by decide) (by decide) (by decide) (ad := "[B") (by decide)
 obtain ⟨ob1, g1⟩ : ∃ z, z = h0.size := ⟨_, rfl⟩
 rw [← g1] at A1 EX1 st1
 have Zs2 : n0 ≤ h1.size := Nat.le_trans Z0 E1.1
 have KC2 : Keep h0 h1 [] := (Keep.refl h0 []).ext E1
 have g_ob1 : n0 ≤ ob1 := Nat.le_trans Z0 (Nat.le_of_eq g1.symm)
 have sz_ob1 : h0.size ≤ ob1 := Nat.le_trans (Keep.refl h0 []).1 (Nat.le_of_eq g1.symm)
 have V1 : Arv Z h1 ob1 k1 .byte (1 : Int32) [(.int (0 : Int32))] (.int (0 : Int32)) := (Arv.new A1 (by decide)).pad (pad_rep [] (.int (0 : Int32)) 1)
 refine Go.st st1 ?_
 refine g_astoreN X1 hx hby dc14_3 rfl (l' := #[.val (.ref ca), .val (.int 0), .val (.int 1), .val (.ref ob1), .unset, .unset]) rfl ?_
 refine g_aloadN X1 hx hby dc14_4 rfl rfl ?_
 refine g_iloadN X1 hx hby dc14_5 rfl ?_
 refine g_aloadN X1 hx hby dc14_6 rfl rfl ?_
 refine g_iconst X1 hx hby dc14_7 (v := 0) rfl ?_
 refine g_iloadN X1 hx hby dc14_8 rfl ?_
 have f4 := (CA0.ext E1)
 have ne_ca_ob1 : ca ≠ ob1 := Nat.ne_of_lt (Nat.lt_of_lt_of_le CA0.lt (Nat.le_of_eq g1.symm))
 obtain ⟨_, _, ⟨T3, L3, k3, n3⟩, -, X3, ⟨Lc3, hQ3, l3, y3, z3⟩, st3⟩ := Jvm.LawKit.callS X1 hx (y := zy13) hown (mvT hZ (hw _ (own_m 27 rfl))) (mvT hZ (hw _ (own_m 28 rfl))) (mvT hZ (hw _ (own_m 24 rfl))) (mvT hZ (hw _ (own_m 29 rfl))) (by decide) (backOf (W := 0) (rmCo1 l Z a0 hw [] ca ob1 kc x k1 h1 n0 Zs2 f4 V1 g_ob1 ne_ca_ob1 hx1 hx2) hZ (hw _ (own_m 29 rfl)) (hw _ (own_m 24 rfl)) (by decide) (by decide)) (g := (mkF mi 9 #[.val (.ref ca), .val (.int 0), .val (.int 1), .val (.ref ob1), .unset, .unset] [(.int 1), (.int 0), (.ref ob1), (.int 0), (.ref ca)])) rfl (by rw [hml]; rfl) (argsL := [(.ref ca), (.int 0), (.ref ob1), (.int 0), (.int 1)]) (rest := []) (lenOf pd_5 rfl) rfl (by show 2 * 0 + _ ≤ _; exact Nat.le_of_eq rfl) (hb hby dc14_9) (fun _ _ => ⟨rfl, e1, (by decide : 1 + 0 ≤ _), (by decide : 1 + 0 ≤ _)⟩)
 dsimp only [Pt.U, Pt.locs, Pt.cells, Pt.slots] at X3 l3 y3 z3 st3 hQ3
 subst y3 z3
 have X3 := own_cs X3 (cells' := 1) (slots' := 1) rfl rfl
 obtain ⟨h3, e3⟩ : ∃ z, T3.heap = z := ⟨_, rfl⟩
 rw [e3] at hQ3
 obtain ⟨rfl, N3q, K3, VV_3⟩ := hQ3
 have N3 := own_fr l3 (Fr.app N0 N3q)
 have Zs5 : n0 ≤ h3.size := Nat.le_trans Zs2 K3.1
 have KC5 : Keep h0 h3 [] := KC2.trans K3 (allS (P := fun x => x ∈ [] ∨ h0.size ≤ x) (Or.inr sz_ob1) all0)
 refine Go.st st3 ?_
 refine g_istore X3 hx hby dc14_12 (l' := #[.val (.ref ca), .val (.int 0), .val (.int 1), .val (.ref ob1), .val (.int 1), .unset]) rfl ?_
 refine g_iload X3 hx hby dc14_14 rfl ?_
 refine g_iloadN X3 hx hby dc14_16 rfl ?_
 refine g_icmpYes X3 hx hby dc14_17 (teq rfl).1 (pc0 := 17) (pc' := 57) rfl (by decide) (by decide) ?_
 refine g_aloadN X3 hx hby dc14_57 rfl rfl ?_
 obtain ⟨fs, hr, hrun, hended, hW, hsame⟩ := X3.leave (v := some (.ref ob1)) (fun h => by rw [Bd.returns] at h; cases h) (BodyLoose.notSynchronized Bd)
 have f6 := (EX1.keep K3)
 refine ⟨_, _, ?_, hP _ _ ⟨hrun, hended, _, _, rfl, ?_, ⟨_, rfl⟩, hW, hsame.mono (by decide) (by decide)⟩⟩
 ·exact retOut X3 hx Bd.returns rfl (Or.inr (Or.inr (Or.inr (Or.inr ⟨rfl, rfl, rfl⟩)))) (hb hby dc14_58) hr
 ·show Q_rmCp1 _ _ _ _ _ _ _ T3.heap _
  rw [e3]
  exact ⟨ob1, k1, rfl, N3, KC5, sz_ob1, g_ob1, VV_3, f6⟩
theorem ef_rmCL1 (mi : MethodId) (bb : Addr) : entryFrame mi #[(.ref bb), (.int 1)] 2 = mkF mi 0 #[.val (.ref bb), .val (.int 1)] [] := by first | (simp [entryFrame, mkF, argsToLocals, Value.category]; done) | rfl
theorem rmCL1 (l : Launch) (Z : State) (a0 : Array Value) (hw : Tb Z a0) (ws : List Jvm.Cond) (bb : Addr) (kb : ClassId) (vs : List Value) (h0 : Heap) (n0 : Nat) (Z0 : n0 ≤ h0.size) (CB0 : Arv Z h0 bb kb .byte (1 : Int32) vs (.int (0 : Int32))) :
  Mt l Z zy15 zb15 2 (some .byte) ws zR0 #[(.ref bb), (.int 1)] h0 (QP (some (.int (0 : Int32))) h0 n0) := by
 refine MetFree.of_bodySF (plainFor_of_name pn_4) hisR ?_
 intro pg ev si mi args below meth ci s₁ Bd hml0 hP0 hK
 obtain ⟨rfl, hZ, hh⟩ := hP0
 have hx := Bd.exec
 have hby := Bd.bytes
 have hml : ci.maxLocals = 2 := hml0
 have hown : si.vm.findClass "java/lang/StringUTF16" = some mi.cls := findClass_of_methodNamed Bd.named
 have hnm := (name_of_methodNamed Bd.named Bd.method).1
 have X0 : Stand pg l ev zR0 si mi #[(.ref bb), (.int 1)] below meth ci s₁ [] 0 0 := Stand.of_body Bd
 have e0 : s₁.heap = h0 := by rw [← hh, Bd.state]; rfl
 have N0 := Fr.nil n0
 refine Go.start (fun P hP => ?_)
 refine Go.st (fun t_ k_ => castTop (ef_rmCL1 mi bb) k_) (A := s₁.setTop (mkF mi 0 #[.val (.ref bb), .val (.int 1)] [])) ?_
 refine g_iloadN X0 hx hby dc15_0 rfl ?_
 refine g_aloadN X0 hx hby dc15_1 rfl rfl ?_
 have ov1 := CB0
 obtain ⟨cl1, Ar1, q1, S1, M1, H1, G1⟩ := ov1
 refine Go.st (X0.arraylength hx (by rw [e0]; exact Ar1.1) (State.isArrayOf_alike hZ.alike Ar1.2.1) (g := (mkF mi 2 #[.val (.ref bb), .val (.int 1)] [(.ref bb), (.int 1)])) rfl rfl (hb hby dc15_2)) ?_
 rw [len_of S1 M1]
 refine g_isub X0 hx hby dc15_3 (z := 0) rfl ?_
 refine g_bipush X0 hx hby dc15_4 (v := 31) rfl ?_
 refine Go.s (XS.iushr X0.here hx rfl (hb hby dc15_6) rfl) ?_
 refine g_i2b X0 hx hby dc15_7 (z := 0) rfl ?_
 obtain ⟨fs, hr, hrun, hended, hW, hsame⟩ := X0.leave (v := some (.int 0)) (fun h => by rw [Bd.returns] at h; cases h) (BodyLoose.notSynchronized Bd)
 refine ⟨_, _, ?_, hP _ _ ⟨hrun, hended, _, _, rfl, ?_, ⟨_, rfl⟩, hW, hsame.mono (by decide) (by decide)⟩⟩
 ·exact retN X0 hx (t := .byte) Bd.returns (by simp) (hb hby dc15_8) hr
 ·exact ⟨rfl, N0, e0⟩
theorem ef_rmSV1 (mi : MethodId) (o : Addr) (ca : Addr) : entryFrame mi #[(.ref o), (.ref ca), (.int 0), (.int 1), .null] 6 = mkF mi 0 #[.val (.ref o), .val (.ref ca), .val (.int 0), .val (.int 1), .val .null, .unset] [] := by first | (simp [entryFrame, mkF, argsToLocals, Value.category]; done) | rfl
abbrev Q_rmSV1 (Z : State) (o : Addr) (ca : Addr) (kc : ClassId) (x : Int32) (cz : Int32) (h0 : Heap) (n0 : Nat) (vv_ : Option Value) (hh_ : Heap) (LL_ : List Loc) : Prop := vv_ = none ∧ Fr n0 LL_ ∧ Keep h0 hh_ [o] ∧ ∃ (b : Addr) (kb : ClassId), Exa Z hh_ o "java/lang/String" ∧ Fld Z hh_ o "java/lang/String" "coder" "B" (.int (0 : Int32)) ∧ Fld Z hh_ o "java/lang/String" "value" "[B" (.ref b) ∧ Arv Z hh_ b kb .byte (1 : Int32) ([(x.toInt8.toInt32)].map Value.int) (.int (0 : Int32)) ∧ Exa Z hh_ b "[B"
theorem rmSV1 (l : Launch) (Z : State) (a0 : Array Value) (hw : Tb Z a0) (ws : List Jvm.Cond) (o : Addr) (ca : Addr) (kc : ClassId) (x : Int32) (cz : Int32) (h0 : Heap) (n0 : Nat) (Z0 : n0 ≤ h0.size) (E0 : Exa Z h0 o "java/lang/String") (FS1 : Fld Z h0 o "java/lang/String" "coder" "B" (.int (0 : Int32))) (FS2 : Fld Z h0 o "java/lang/String" "value" "[B" .null) (g_o : n0 ≤ o) (CA0 : Arv Z h0 ca kc .char (1 : Int32) [(.int x)] (.int (0 : Int32))) (ne_o : ca ≠ o) (SC : Sta Z h0 "java/lang/String" "COMPACT_STRINGS" "Z" (.int cz)) (hcz : ¬ (cz = (0 : Int32))) (hx1 : 0 ≤ x.toInt) (hx2 : x.toInt ≤ 255) :
  Mt l Z zy16 zb16 6 none ws zR14 #[(.ref o), (.ref ca), (.int 0), (.int 1), .null] h0 (Q_rmSV1 Z o ca kc x cz h0 n0) := by
 refine MetFree.of_bodySF (plainFor_of_name pn_0) hisR ?_
 intro pg ev si mi args below meth ci s₁ Bd hml0 hP0 hK
 obtain ⟨rfl, hZ, hh⟩ := hP0
 have hx := Bd.exec
 have hby := Bd.bytes
 have hml : ci.maxLocals = 6 := hml0
 have hown : si.vm.findClass "java/lang/String" = some mi.cls := findClass_of_methodNamed Bd.named
 have hnm := (name_of_methodNamed Bd.named Bd.method).1
 have X0 : Stand pg l ev zR14 si mi #[(.ref o), (.ref ca), (.int 0), (.int 1), .null] below meth ci s₁ [] 0 0 := Stand.of_body Bd
 have e0 : s₁.heap = h0 := by rw [← hh, Bd.state]; rfl
 have N0 := Fr.nil n0
 refine Go.start (fun P hP => ?_)
 refine Go.st (fun t_ k_ => castTop (ef_rmSV1 mi o ca) k_) (A := s₁.setTop (mkF mi 0 #[.val (.ref o), .val (.ref ca), .val (.int 0), .val (.int 1), .val .null, .unset] [])) ?_
 refine g_aloadN X0 hx hby dc16_0 rfl rfl ?_
 obtain ⟨T1, X1, e1, st1⟩ := initO X0 hx hZ hown (hw _ (own_m 18 rfl)) (hw _ (own_m 19 rfl)) (hw _ (own_m 20 rfl)) e0 (g := (mkF mi 1 #[.val (.ref o), .val (.ref ca), .val (.int 0), .val (.int 1), .val .null, .unset] [(.ref o)])) rfl (by rw [hml]; rfl) rfl (hb hby dc16_1) (by decide) (W := 0) (by show 2 * 0 + _ ≤ _; exact Nat.le_of_eq rfl) (by decide)
 refine Go.st st1 ?_
 refine g_iloadN X1 hx hby dc16_4 rfl ?_
 refine g_ifYes X1 hx hby dc16_5 ((if0 _ _).trans (feq (by decide)).2) (pc0 := 5) (pc' := 27) rfl (by decide) (by decide) ?_
 obtain ⟨T2, X2, e2, st2⟩ := getS2 X1 hx hZ hown (host := "") (Or.inl (hw _ (own_m 21 rfl))) Via.refl e1 SC (g := (mkF mi 27 #[.val (.ref o), .val (.ref ca), .val (.int 0), .val (.int 1), .val .null, .unset] [])) rfl (hb hby dc16_27)
 refine Go.st st2 ?_
 refine g_ifNo X2 hx hby dc16_30 ((if0 _ _).trans (feq hcz).1) ?_
 refine g_aloadN X2 hx hby dc16_33 rfl rfl ?_
 refine g_iloadN X2 hx hby dc16_34 rfl ?_
 refine g_iloadN X2 hx hby dc16_35 rfl ?_
 obtain ⟨_, _, ⟨T3, L3, k3, n3⟩, -, X3, ⟨Lc3, hQ3, l3, y3, z3⟩, st3⟩ := Jvm.LawKit.callS X2 hx (y := zy14) hown (mvT hZ (hw _ (own_m 22 rfl))) (mvT hZ (hw _ (own_m 23 rfl))) (mvT hZ (hw _ (own_m 24 rfl))) (mvT hZ (hw _ (own_m 25 rfl))) (by decide) (backOf (W := 0) (rmCp1 l Z a0 hw [] ca kc x h0 n0 Z0 CA0 hx1 hx2) hZ (hw _ (own_m 25 rfl)) (hw _ (own_m 24 rfl)) (by decide) (by decide)) (g := (mkF mi 36 #[.val (.ref o), .val (.ref ca), .val (.int 0), .val (.int 1), .val .null, .unset] [(.int 1), (.int 0), (.ref ca)])) rfl (by rw [hml]; rfl) (argsL := [(.ref ca), (.int 0), (.int 1)]) (rest := []) (lenOf pd_6 rfl) rfl (by show 2 * 0 + _ ≤ _; exact Nat.le_of_eq rfl) (hb hby dc16_36) (fun _ _ => ⟨rfl, e2, (by decide : 0 + 1 ≤ _), (by decide : 0 + 1 ≤ _)⟩)
 dsimp only [Pt.U, Pt.locs, Pt.cells, Pt.slots] at X3 l3 y3 z3 st3 hQ3
 subst y3 z3
 have X3 := own_cs X3 (cells' := 1) (slots' := 1) rfl rfl
 obtain ⟨h3, e3⟩ : ∃ z, T3.heap = z := ⟨_, rfl⟩
 rw [e3] at hQ3
 obtain ⟨r3, kr3, rfl, N3q, K3, z_r3, g_r3, V_r3, E_r3⟩ := hQ3
 have N3 := own_fr l3 (Fr.app N0 N3q)
 have Zs4 : n0 ≤ h3.size := Nat.le_trans Z0 K3.1
 have KC4 : Keep h0 h3 [o] := (Keep.refl h0 [o]).trans K3 all0
 have sz_r3 : h0.size ≤ r3 := Nat.le_trans (Keep.refl h0 [o]).1 z_r3
 refine Go.st st3 ?_
 refine g_astore X3 hx hby dc16_39 rfl (l' := #[.val (.ref o), .val (.ref ca), .val (.int 0), .val (.int 1), .val .null, .val (.ref r3)]) rfl ?_
 refine g_aloadN X3 hx hby dc16_41 rfl rfl ?_
 refine g_aload X3 hx hby dc16_42 rfl rfl ?_
 refine g_iloadN X3 hx hby dc16_44 rfl ?_
 obtain ⟨_, _, ⟨T5, L5, k5, n5⟩, -, X5, ⟨Lc5, hQ5, l5, y5, z5⟩, st5⟩ := Jvm.LawKit.callS X3 hx (y := zy15) hown (mvT hZ (hw _ (own_m 30 rfl))) (mvT hZ (hw _ (own_m 31 rfl))) (mvT hZ (hw _ (own_m 24 rfl))) (mvT hZ (hw _ (own_m 32 rfl))) (by decide) (backOf (W := 1) (rmCL1 l Z a0 hw [] r3 kr3 [(.int (x.toInt8.toInt32))] h3 n0 Zs4 V_r3) hZ (hw _ (own_m 32 rfl)) (hw _ (own_m 24 rfl)) (by decide) (by decide)) (g := (mkF mi 45 #[.val (.ref o), .val (.ref ca), .val (.int 0), .val (.int 1), .val .null, .val (.ref r3)] [(.int 1), (.ref r3), (.ref o)])) rfl (by rw [hml]; rfl) (argsL := [(.ref r3), (.int 1)]) (rest := [(.ref o)]) (lenOf pd_7 rfl) rfl (by show 2 * 0 + _ ≤ _; exact Nat.le_of_eq rfl) (hb hby dc16_45) (fun _ _ => ⟨rfl, e3, (by decide : 1 + 0 ≤ _), (by decide : 1 + 0 ≤ _)⟩)
 dsimp only [Pt.U, Pt.locs, Pt.cells, Pt.slots] at X5 l5 y5 z5 st5 hQ5
 subst y5 z5
 have X5 := own_cs X5 (cells' := 1) (slots' := 1) rfl rfl
 obtain ⟨rfl, N5q, e5⟩ := hQ5
 have N5 := own_fr l5 (Fr.app N3 N5q)
 refine Go.st st5 ?_
 have f6 := (FS1.keep K3 nin0)
 have f7 := (E0.keep K3)
 obtain ⟨T8, h8, X8, e8, W8, st8⟩ := putFN X5 hx hZ hown (hw _ (own_m 33 rfl)) Via.refl e5 f6 f7 (Or.inr ⟨(hw _ (own_m 34 rfl)), rfl, hnm⟩) (hw _ (own_m 8 rfl)) (ty := .byte) (v' := (.int 0)) (by decide) rfl (by decide) (g := (mkF mi 48 #[.val (.ref o), .val (.ref ca), .val (.int 0), .val (.int 1), .val .null, .val (.ref r3)] [(.int 0), (.ref o)])) rfl rfl (hb hby dc16_48)
 have Zs9 : n0 ≤ h8.size := Nat.le_trans Zs4 (Keep.of_wr W8).1
 have KC9 : Keep h0 h8 [o] := KC4.wr W8 (Or.inl (List.mem_of_getElem? (i := 0) rfl))
 have N9 := Fr.snoc X8 N5 g_o
 have F8 : Fld Z h8 o "java/lang/String" "coder" "B" (.int 0) := f6.same W8
 refine Go.st st8 ?_
 refine g_aloadN X8 hx hby dc16_51 rfl rfl ?_
 refine g_aload X8 hx hby dc16_52 rfl rfl ?_
 have f10 := ((FS2.keep K3 nin0).other W8 (Or.inr (slot_ne (Or.inr (hw _ (own_m 36 rfl))) (Or.inr (hw _ (own_m 34 rfl))) (by decide) (t := (.array .byte)) (t' := .byte) (by decide) (by decide))))
 have f11 := (f7.wr W8)
 obtain ⟨T12, h12, X12, e12, W12, st12⟩ := putF X8 hx hZ hown (host := "") (Or.inl (hw _ (own_m 35 rfl))) Via.refl e8 f10 f11 (Or.inr ⟨(hw _ (own_m 36 rfl)), rfl, hnm⟩) (hw _ (own_m 8 rfl)) (ty := (.array .byte)) (by decide) rfl rfl (g := (mkF mi 54 #[.val (.ref o), .val (.ref ca), .val (.int 0), .val (.int 1), .val .null, .val (.ref r3)] [(.ref r3), (.ref o)])) rfl rfl (hb hby dc16_54)
 have Zs13 : n0 ≤ h12.size := Nat.le_trans Zs9 (Keep.of_wr W12).1
 have KC13 : Keep h0 h12 [o] := KC9.wr W12 (Or.inl (List.mem_of_getElem? (i := 0) rfl))
 have N13 := Fr.snoc X12 N9 g_o
 have F12 : Fld Z h12 o "java/lang/String" "value" "[B" (.ref r3) := f10.same W12
 refine Go.st st12 ?_
 obtain ⟨fs, hr, hrun, hended, hW, hsame⟩ := X12.leave (v := none) (fun _ => rfl) (BodyLoose.notSynchronized Bd)
 have f14 := (f11.wr W12)
 have f15 := (F8.other W12 (Or.inr (slot_ne (Or.inr (hw _ (own_m 34 rfl))) (Or.inr (hw _ (own_m 36 rfl))) (by decide) (t := .byte) (t' := (.array .byte)) (by decide) (by decide))))
 have ne_o_r3 : o ≠ r3 := Nat.ne_of_lt (Nat.lt_of_lt_of_le E0.lt z_r3)
 have f16 := ((V_r3.other W8 (Ne.symm ne_o_r3)).other W12 (Ne.symm ne_o_r3))
 have f17 := ((E_r3.wr W8).wr W12)
 refine ⟨_, _, ?_, hP _ _ ⟨hrun, hended, _, _, rfl, ?_, ⟨_, rfl⟩, hW, hsame.mono (by decide) (by decide)⟩⟩
 ·exact X12.returnOut hx Bd.returns (hb hby dc16_57) hr
 ·show Q_rmSV1 _ _ _ _ _ _ _ _ _ T12.heap _
  rw [e12]
  exact ⟨rfl, N13, KC13, r3, kr3, f14, f15, F12, f16, f17⟩
theorem ef_rmSC1 (mi : MethodId) (o : Addr) (ca : Addr) : entryFrame mi #[(.ref o), (.ref ca)] 2 = mkF mi 0 #[.val (.ref o), .val (.ref ca)] [] := by first | (simp [entryFrame, mkF, argsToLocals, Value.category]; done) | rfl
abbrev Q_rmSC1 (Z : State) (o : Addr) (ca : Addr) (kc : ClassId) (x : Int32) (cz : Int32) (h0 : Heap) (n0 : Nat) (vv_ : Option Value) (hh_ : Heap) (LL_ : List Loc) : Prop := vv_ = none ∧ Fr n0 LL_ ∧ Keep h0 hh_ [o] ∧ ∃ (b : Addr) (kb : ClassId), Exa Z hh_ o "java/lang/String" ∧ Fld Z hh_ o "java/lang/String" "coder" "B" (.int (0 : Int32)) ∧ Fld Z hh_ o "java/lang/String" "value" "[B" (.ref b) ∧ Arv Z hh_ b kb .byte (1 : Int32) ([(x.toInt8.toInt32)].map Value.int) (.int (0 : Int32)) ∧ Exa Z hh_ b "[B"
theorem rmSC1 (l : Launch) (Z : State) (a0 : Array Value) (hw : Tb Z a0) (ws : List Jvm.Cond) (o : Addr) (ca : Addr) (kc : ClassId) (x : Int32) (cz : Int32) (h0 : Heap) (n0 : Nat) (Z0 : n0 ≤ h0.size) (E0 : Exa Z h0 o "java/lang/String") (FS1 : Fld Z h0 o "java/lang/String" "coder" "B" (.int (0 : Int32))) (FS2 : Fld Z h0 o "java/lang/String" "value" "[B" .null) (g_o : n0 ≤ o) (CA0 : Arv Z h0 ca kc .char (1 : Int32) [(.int x)] (.int (0 : Int32))) (ne_o : ca ≠ o) (SC : Sta Z h0 "java/lang/String" "COMPACT_STRINGS" "Z" (.int cz)) (hcz : ¬ (cz = (0 : Int32))) (hx1 : 0 ≤ x.toInt) (hx2 : x.toInt ≤ 255) :
  Mt l Z zy17 zb17 2 none ws zR8 #[(.ref o), (.ref ca)] h0 (Q_rmSC1 Z o ca kc x cz h0 n0) := by
 refine MetFree.of_bodySF (plainFor_of_name pn_0) hisR ?_
 intro pg ev si mi args below meth ci s₁ Bd hml0 hP0 hK
 obtain ⟨rfl, hZ, hh⟩ := hP0
 have hx := Bd.exec
 have hby := Bd.bytes
 have hml : ci.maxLocals = 2 := hml0
 have hown : si.vm.findClass "java/lang/String" = some mi.cls := findClass_of_methodNamed Bd.named
 have hnm := (name_of_methodNamed Bd.named Bd.method).1
 have X0 : Stand pg l ev zR8 si mi #[(.ref o), (.ref ca)] below meth ci s₁ [] 0 0 := Stand.of_body Bd
 have e0 : s₁.heap = h0 := by rw [← hh, Bd.state]; rfl
 have N0 := Fr.nil n0
 refine Go.start (fun P hP => ?_)
 refine Go.st (fun t_ k_ => castTop (ef_rmSC1 mi o ca) k_) (A := s₁.setTop (mkF mi 0 #[.val (.ref o), .val (.ref ca)] [])) ?_
 refine g_aloadN X0 hx hby dc17_0 rfl rfl ?_
 refine g_aloadN X0 hx hby dc17_1 rfl rfl ?_
 refine g_iconst X0 hx hby dc17_2 (v := 0) rfl ?_
 refine g_aloadN X0 hx hby dc17_3 rfl rfl ?_
 have ov1 := CA0
 obtain ⟨cl1, Ar1, q1, S1, M1, H1, G1⟩ := ov1
 refine Go.st (X0.arraylength hx (by rw [e0]; exact Ar1.1) (State.isArrayOf_alike hZ.alike Ar1.2.1) (g := (mkF mi 4 #[.val (.ref o), .val (.ref ca)] [(.ref ca), (.int 0), (.ref ca), (.ref o)])) rfl rfl (hb hby dc17_4)) ?_
 rw [len_of S1 M1]
 refine Go.s (XS.aconstNull X0.here hx rfl (hb hby dc17_5)) ?_
 obtain ⟨_, _, ⟨T2, L2, k2, n2⟩, -, X2, ⟨Lc2, hQ2, l2, y2, z2⟩, st2⟩ := X0.specialBack hx (y := zy16) rfl hown (mvT hZ (hw _ (own_m 14 rfl))) (mvT hZ (hw _ (own_m 15 rfl))) (mvT hZ (hw _ (own_m 17 rfl))) (by decide) (backOf (W := 0) (rmSV1 l Z a0 hw [] o ca kc x cz h0 n0 Z0 E0 FS1 FS2 g_o CA0 ne_o SC hcz hx1 hx2) hZ (hw _ (own_m 17 rfl)) (hw _ (own_m 9 rfl)) (by decide) (by decide)) (g := (mkF mi 6 #[.val (.ref o), .val (.ref ca)] [.null, (.int 1), (.int 0), (.ref ca), (.ref o)])) rfl (by rw [hml]; rfl) (Steps.refl _) (a := o) (argsL := [(.ref ca), (.int 0), (.int 1), .null]) (rest := []) (lenOf pd_8 rfl) rfl (by show 2 * 0 + _ ≤ _; exact Nat.le_of_eq rfl) (hb hby dc17_6) (fun _ _ => ⟨rfl, e0, (by decide : 0 + 1 ≤ _), (by decide : 0 + 1 ≤ _)⟩)
 dsimp only [Pt.U, Pt.locs, Pt.cells, Pt.slots] at X2 l2 y2 z2 st2 hQ2
 subst y2 z2
 have X2 := own_cs X2 (cells' := 1) (slots' := 1) rfl rfl
 obtain ⟨h2, e2⟩ : ∃ z, T2.heap = z := ⟨_, rfl⟩
 rw [e2] at hQ2
 obtain ⟨rfl, N2q, K2, sb2, sk2, SE2, SCo2, SVa2, SAr2, SEb2⟩ := hQ2
 have N2 := own_fr l2 (Fr.app N0 N2q)
 have Zs3 : n0 ≤ h2.size := Nat.le_trans Z0 K2.1
 have KC3 : Keep h0 h2 [o] := (Keep.refl h0 [o]).trans K2 (allS (P := fun x => x ∈ [o] ∨ h0.size ≤ x) (Or.inl (List.mem_of_getElem? (i := 0) rfl)) all0)
 refine Go.tr st2 ?_
 obtain ⟨fs, hr, hrun, hended, hW, hsame⟩ := X2.leave (v := none) (fun _ => rfl) (BodyLoose.notSynchronized Bd)
 refine ⟨_, _, ?_, hP _ _ ⟨hrun, hended, _, _, rfl, ?_, ⟨_, rfl⟩, hW, hsame.mono (by decide) (by decide)⟩⟩
 ·exact X2.returnOut hx Bd.returns (hb hby dc17_9) hr
 ·show Q_rmSC1 _ _ _ _ _ _ _ _ _ T2.heap _
  rw [e2]
  exact ⟨rfl, N2, KC3, sb2, sk2, SE2, SCo2, SVa2, SAr2, SEb2⟩
theorem own_tk1 (a b c d : Int32) : List.take (1 : Int32).toNatClampNeg [a, b, c, d] = [a] := by rw [show (1 : Int32).toNatClampNeg = 1 from by decide +kernel]; rfl
theorem own_tk2 (a b c d : Int32) : List.take (2 : Int32).toNatClampNeg [a, b, c, d] = [a, b] := by rw [show (2 : Int32).toNatClampNeg = 2 from by decide +kernel]; rfl
theorem own_tk3 (a b c d : Int32) : List.take (3 : Int32).toNatClampNeg [a, b, c, d] = [a, b, c] := by rw [show (3 : Int32).toNatClampNeg = 3 from by decide +kernel]; rfl
theorem own_tk4 (a b c d : Int32) : List.take (4 : Int32).toNatClampNeg [a, b, c, d] = [a, b, c, d] := by rw [show (4 : Int32).toNatClampNeg = 4 from by decide +kernel]; rfl
theorem dc18_0 : Dk zb18 0 (.iload_n 0) 1 := by decide +kernel
theorem dc18_1 : Dk zb18 1 (.iconst 1) 1 := by decide +kernel
theorem dc18_2 : Dk zb18 2 (.if_icmp .ne 18) 3 := by decide +kernel
theorem dc18_5 : Dk zb18 5 (.new 30) 3 := by decide +kernel
theorem dc18_8 : Dk zb18 8 .dup 1 := by decide +kernel
theorem dc18_9 : Dk zb18 9 (.iconst 1) 1 := by decide +kernel
theorem dc18_10 : Dk zb18 10 (.newarray .char) 2 := by decide +kernel
theorem dc18_12 : Dk zb18 12 .dup 1 := by decide +kernel
theorem dc18_13 : Dk zb18 13 (.iconst 0) 1 := by decide +kernel
theorem dc18_14 : Dk zb18 14 (.iload_n 1) 1 := by decide +kernel
theorem dc18_15 : Dk zb18 15 .castore 1 := by decide +kernel
theorem dc18_16 : Dk zb18 16 (.invokespecial 32) 3 := by decide +kernel
theorem pd_9 : parseMethodDescriptor "([C)V" = some ⟨[(.array .char)], none⟩ := by decide +kernel
theorem dc18_19 : Dk zb18 19 .areturn 1 := by decide +kernel
theorem dc18_20 : Dk zb18 20 (.iload_n 0) 1 := by decide +kernel
theorem dc18_21 : Dk zb18 21 (.iconst 2) 1 := by decide +kernel
theorem dc18_22 : Dk zb18 22 (.if_icmp .ne 22) 3 := by decide +kernel
theorem dc18_25 : Dk zb18 25 (.new 30) 3 := by decide +kernel
theorem dc18_28 : Dk zb18 28 .dup 1 := by decide +kernel
theorem dc18_29 : Dk zb18 29 (.iconst 2) 1 := by decide +kernel
theorem dc18_30 : Dk zb18 30 (.newarray .char) 2 := by decide +kernel
theorem dc18_32 : Dk zb18 32 .dup 1 := by decide +kernel
theorem dc18_33 : Dk zb18 33 (.iconst 0) 1 := by decide +kernel
theorem dc18_34 : Dk zb18 34 (.iload_n 1) 1 := by decide +kernel
theorem dc18_35 : Dk zb18 35 .castore 1 := by decide +kernel
theorem dc18_36 : Dk zb18 36 .dup 1 := by decide +kernel
theorem dc18_37 : Dk zb18 37 (.iconst 1) 1 := by decide +kernel
theorem dc18_38 : Dk zb18 38 (.iload_n 2) 1 := by decide +kernel
theorem dc18_39 : Dk zb18 39 .castore 1 := by decide +kernel
theorem dc18_40 : Dk zb18 40 (.invokespecial 32) 3 := by decide +kernel
theorem dc18_43 : Dk zb18 43 .areturn 1 := by decide +kernel
theorem dc18_44 : Dk zb18 44 (.iload_n 0) 1 := by decide +kernel
theorem dc18_45 : Dk zb18 45 (.iconst 3) 1 := by decide +kernel
theorem dc18_46 : Dk zb18 46 (.if_icmp .ne 26) 3 := by decide +kernel
theorem dc18_49 : Dk zb18 49 (.new 30) 3 := by decide +kernel
theorem dc18_52 : Dk zb18 52 .dup 1 := by decide +kernel
theorem dc18_53 : Dk zb18 53 (.iconst 3) 1 := by decide +kernel
theorem dc18_54 : Dk zb18 54 (.newarray .char) 2 := by decide +kernel
theorem dc18_56 : Dk zb18 56 .dup 1 := by decide +kernel
theorem dc18_57 : Dk zb18 57 (.iconst 0) 1 := by decide +kernel
theorem dc18_58 : Dk zb18 58 (.iload_n 1) 1 := by decide +kernel
theorem dc18_59 : Dk zb18 59 .castore 1 := by decide +kernel
theorem dc18_60 : Dk zb18 60 .dup 1 := by decide +kernel
theorem dc18_61 : Dk zb18 61 (.iconst 1) 1 := by decide +kernel
theorem dc18_62 : Dk zb18 62 (.iload_n 2) 1 := by decide +kernel
theorem dc18_63 : Dk zb18 63 .castore 1 := by decide +kernel
theorem dc18_64 : Dk zb18 64 .dup 1 := by decide +kernel
theorem dc18_65 : Dk zb18 65 (.iconst 2) 1 := by decide +kernel
theorem dc18_66 : Dk zb18 66 (.iload_n 3) 1 := by decide +kernel
theorem dc18_67 : Dk zb18 67 .castore 1 := by decide +kernel
theorem dc18_68 : Dk zb18 68 (.invokespecial 32) 3 := by decide +kernel
theorem dc18_71 : Dk zb18 71 .areturn 1 := by decide +kernel
theorem dc18_72 : Dk zb18 72 (.new 30) 3 := by decide +kernel
theorem dc18_75 : Dk zb18 75 .dup 1 := by decide +kernel
theorem dc18_76 : Dk zb18 76 (.iconst 4) 1 := by decide +kernel
theorem dc18_77 : Dk zb18 77 (.newarray .char) 2 := by decide +kernel
theorem dc18_79 : Dk zb18 79 .dup 1 := by decide +kernel
theorem dc18_80 : Dk zb18 80 (.iconst 0) 1 := by decide +kernel
theorem dc18_81 : Dk zb18 81 (.iload_n 1) 1 := by decide +kernel
theorem dc18_82 : Dk zb18 82 .castore 1 := by decide +kernel
theorem dc18_83 : Dk zb18 83 .dup 1 := by decide +kernel
theorem dc18_84 : Dk zb18 84 (.iconst 1) 1 := by decide +kernel
theorem dc18_85 : Dk zb18 85 (.iload_n 2) 1 := by decide +kernel
theorem dc18_86 : Dk zb18 86 .castore 1 := by decide +kernel
theorem dc18_87 : Dk zb18 87 .dup 1 := by decide +kernel
theorem dc18_88 : Dk zb18 88 (.iconst 2) 1 := by decide +kernel
theorem dc18_89 : Dk zb18 89 (.iload_n 3) 1 := by decide +kernel
theorem dc18_90 : Dk zb18 90 .castore 1 := by decide +kernel
theorem dc18_91 : Dk zb18 91 .dup 1 := by decide +kernel
theorem dc18_92 : Dk zb18 92 (.iconst 3) 1 := by decide +kernel
theorem dc18_93 : Dk zb18 93 (.iload 4) 2 := by decide +kernel
theorem dc18_95 : Dk zb18 95 .castore 1 := by decide +kernel
theorem dc18_96 : Dk zb18 96 (.invokespecial 32) 3 := by decide +kernel
theorem dc18_99 : Dk zb18 99 .areturn 1 := by decide +kernel
theorem ef_rmMk (mi : MethodId) (ln : Int32) (x : Int32) (y : Int32) (z : Int32) (u : Int32) : entryFrame mi #[(.int ln), (.int x), (.int y), (.int z), (.int u)] 5 = mkF mi 0 #[.val (.int ln), .val (.int x), .val (.int y), .val (.int z), .val (.int u)] [] := by first | (simp [entryFrame, mkF, argsToLocals, Value.category]; done) | rfl
abbrev Q_rmMk (Z : State) (ln : Int32) (x : Int32) (y : Int32) (z : Int32) (u : Int32) (cz : Int32) (h0 : Heap) (n0 : Nat) (vv_ : Option Value) (hh_ : Heap) (LL_ : List Loc) : Prop := ∃ (s b : Addr) (kb : ClassId), vv_ = some (.ref s) ∧ Fr n0 LL_ ∧ Keep h0 hh_ [] ∧ Exa Z hh_ s "java/lang/String" ∧ Fld Z hh_ s "java/lang/String" "coder" "B" (.int (0 : Int32)) ∧ Fld Z hh_ s "java/lang/String" "value" "[B" (.ref b) ∧ Arv Z hh_ b kb .byte ln ((List.take ln.toNatClampNeg [(x.toInt8.toInt32), (y.toInt8.toInt32), (z.toInt8.toInt32), (u.toInt8.toInt32)]).map Value.int) (.int (0 : Int32)) ∧ Exa Z hh_ b "[B"
theorem rmMk (l : Launch) (Z : State) (a0 : Array Value) (hw : Tb Z a0) (ws : List Jvm.Cond) (ln : Int32) (x : Int32) (y : Int32) (z : Int32) (u : Int32) (cz : Int32) (h0 : Heap) (n0 : Nat) (Z0 : n0 ≤ h0.size) (hl : ln = 1 ∨ ln = 2 ∨ ln = 3 ∨ ln = 4) (SC : Sta Z h0 "java/lang/String" "COMPACT_STRINGS" "Z" (.int cz)) (hcz : ¬ (cz = (0 : Int32))) (hx1 : 0 ≤ x.toInt) (hx2 : x.toInt ≤ 255) (hy1 : 0 ≤ y.toInt) (hy2 : y.toInt ≤ 255) (hz1 : 0 ≤ z.toInt) (hz2 : z.toInt ≤ 255) (hu1 : 0 ≤ u.toInt) (hu2 : u.toInt ≤ 255) :
  Mt l Z zy18 zb18 5 (some (.object "java/lang/String")) ws zR15 #[(.int ln), (.int x), (.int y), (.int z), (.int u)] h0 (Q_rmMk Z ln x y z u cz h0 n0) := by
 refine MetFree.of_bodySF (plainFor_of_name pn_3) hisR ?_
 intro pg ev si mi args below meth ci s₁ Bd hml0 hP0 hK
 obtain ⟨rfl, hZ, hh⟩ := hP0
 have hx := Bd.exec
 have hby := Bd.bytes
 have hml : ci.maxLocals = 5 := hml0
 have hown : si.vm.findClass "com/example/corduroy/corduroy/TopicsHasWildcardPinLaw" = some mi.cls := findClass_of_methodNamed Bd.named
 have hnm := (name_of_methodNamed Bd.named Bd.method).1
 have X0 : Stand pg l ev zR15 si mi #[(.int ln), (.int x), (.int y), (.int z), (.int u)] below meth ci s₁ [] 0 0 := Stand.of_body Bd
 have e0 : s₁.heap = h0 := by rw [← hh, Bd.state]; rfl
 have N0 := Fr.nil n0
 refine Go.start (fun P hP => ?_)
 refine Go.st (fun t_ k_ => castTop (ef_rmMk mi ln x y z u) k_) (A := s₁.setTop (mkF mi 0 #[.val (.int ln), .val (.int x), .val (.int y), .val (.int z), .val (.int u)] [])) ?_
 rcases hl with hN | hN | hN | hN
 ·rw [hN]
  show Go _ _ _ (s₁.setTop (mkF mi 0 #[.val (.int 1), .val (.int x), .val (.int y), .val (.int z), .val (.int u)] [])) _
  refine g_iloadN X0 hx hby dc18_0 rfl ?_
  refine g_iconst X0 hx hby dc18_1 (v := 1) rfl ?_
  refine g_icmpNo X0 hx hby dc18_2 (teq rfl).2 ?_
  obtain ⟨T1, h1, X1, e1, E1, A1, D1, -, st1⟩ := newO X0 hx hZ hown (hw _ (own_m 7 rfl)) (hw _ (own_m 8 rfl)) (hw _ (own_m 9 rfl)) e0 (g := (mkF mi 5 #[.val (.int 1), .val (.int x), .val (.int y), .val (.int z), .val (.int u)] [])) rfl (hb hby dc18_5) (by decide) (by decide)
  obtain ⟨ob1, g1⟩ : ∃ z, z = h0.size := ⟨_, rfl⟩
  rw [← g1] at A1 D1 st1
  have Zs2 : n0 ≤ h1.size := Nat.le_trans Z0 E1.1
  have KC2 : Keep h0 h1 [] := (Keep.refl h0 []).ext E1
  have g_ob1 : n0 ≤ ob1 := Nat.le_trans Z0 (Nat.le_of_eq g1.symm)
  have sz_ob1 : h0.size ≤ ob1 := Nat.le_trans (Keep.refl h0 []).1 (Nat.le_of_eq g1.symm)
  have F1_34 : Fld Z h1 ob1 "java/lang/String" "coder" "B" (.int 0) := D1 (Or.inr (hw _ (own_m 34 rfl))) (ty := .byte) (by decide)
  have F1_36 : Fld Z h1 ob1 "java/lang/String" "value" "[B" .null := D1 (Or.inr (hw _ (own_m 36 rfl))) (ty := (.array .byte)) (by decide)
  refine Go.st st1 ?_
  refine g_dup X1 hx hby dc18_8 rfl ?_
  refine g_iconst X1 hx hby dc18_9 (v := 1) rfl ?_
  obtain ⟨T3, h3, k3, X3, e3, E3, A3, EX3, st3⟩ := newPE X1 hx hZ (hw _ (own_m 10 rfl)) e1 (g := (mkF mi 10 #[.val (.int 1), .val (.int x), .val (.int y), .val (.int z), .val (.int u)] [(.int 1), (.ref ob1), (.ref ob1)])) rfl (hb hby dc18_10) rfl (by decide) (cap := 1) (by decide) (by decide) (by decide) (by decide) (ad := "[C") (by decide)
  obtain ⟨ob3, g3⟩ : ∃ z, z = h1.size := ⟨_, rfl⟩
  rw [← g3] at A3 EX3 st3
  have Zs4 : n0 ≤ h3.size := Nat.le_trans Zs2 E3.1
  have KC4 : Keep h0 h3 [] := KC2.ext E3
  have g_ob3 : n0 ≤ ob3 := Nat.le_trans Zs2 (Nat.le_of_eq g3.symm)
  have sz_ob3 : h0.size ≤ ob3 := Nat.le_trans KC2.1 (Nat.le_of_eq g3.symm)
  have V3 : Arv Z h3 ob3 k3 .char (1 : Int32) [(.int (0 : Int32))] (.int (0 : Int32)) := (Arv.new A3 (by decide)).pad (pad_rep [] (.int (0 : Int32)) 1)
  refine Go.st st3 ?_
  refine g_dup X3 hx hby dc18_12 rfl ?_
  refine g_iconst X3 hx hby dc18_13 (v := 0) rfl ?_
  refine g_iloadN X3 hx hby dc18_14 rfl ?_
  have ov5 := V3
  obtain ⟨cl5, Ar5, q5, S5, M5, H5, G5⟩ := ov5
  have hin5 : ¬ ((0 : Int32) < 0 ∨ cl5.slots.size ≤ ((0 : Int32)).toNatClampNeg) := inb_of S5 ⟨by decide, by decide⟩
  obtain ⟨T6, h6, X6, e6, W6, st6⟩ := stC X3 hx hZ e3 Ar5 (j := (0 : Int32)) hin5 (g := (mkF mi 15 #[.val (.int 1), .val (.int x), .val (.int y), .val (.int z), .val (.int u)] [(.int x), (.int 0), (.ref ob3), (.ref ob3), (.ref ob1), (.ref ob1)])) rfl rfl (hb hby dc18_15)
  have Zs7 : n0 ≤ h6.size := Nat.le_trans Zs4 (Keep.of_wr W6).1
  have KC7 : Keep h0 h6 [] := KC4.wr W6 (Or.inr sz_ob3)
  have N7 := Fr.snoc X6 N0 g_ob3
  have V6 : Arv Z h6 ob3 k3 .char (1 : Int32) [(.int (x.toUInt32.toUInt16.toUInt32.toInt32))] (.int (0 : Int32)) := Arv.set Ar5 q5 S5 M5 H5 G5 (fits_nar_char _) W6 0 rfl (Nat.le_of_ble_eq_true rfl)
  rw [own_nc hx1 hx2] at V6
  refine Go.st st6 ?_
  have f9 := ((A1.ext E3).wr W6)
  have ne_ob1_ob3 : ob1 ≠ ob3 := Nat.ne_of_lt (Nat.lt_of_lt_of_le A1.lt (Nat.le_of_eq g3.symm))
  have f10 := ((F1_34.ext E3).other W6 (Or.inl ne_ob1_ob3))
  have f11 := ((F1_36.ext E3).other W6 (Or.inl ne_ob1_ob3))
  have f12 := (((SC.ext E1).ext E3).wr W6)
  obtain ⟨_, _, ⟨T8, L8, k8, n8⟩, -, X8, ⟨Lc8, hQ8, l8, y8, z8⟩, st8⟩ := X6.specialBack hx (y := zy17) rfl hown (mvT hZ (hw _ (own_m 11 rfl))) (mvT hZ (hw _ (own_m 12 rfl))) (mvT hZ (hw _ (own_m 13 rfl))) (by decide) (backOf (W := 1) (rmSC1 l Z a0 hw [] ob1 ob3 k3 x cz h6 n0 Zs7 f9 f10 f11 g_ob1 V6 (Ne.symm ne_ob1_ob3) f12 hcz hx1 hx2) hZ (hw _ (own_m 13 rfl)) (hw _ (own_m 9 rfl)) (by decide) (by decide)) (g := (mkF mi 16 #[.val (.int 1), .val (.int x), .val (.int y), .val (.int z), .val (.int u)] [(.ref ob3), (.ref ob1), (.ref ob1)])) rfl (by rw [hml]; rfl) (Steps.refl _) (a := ob1) (argsL := [(.ref ob3)]) (rest := [(.ref ob1)]) (lenOf pd_9 rfl) rfl (by show 2 * 0 + _ ≤ _; exact Nat.le_of_eq rfl) (hb hby dc18_16) (fun _ _ => ⟨rfl, e6, (by decide : 2 + 1 ≤ _), (by decide : 5 + 4 ≤ _)⟩)
  dsimp only [Pt.U, Pt.locs, Pt.cells, Pt.slots] at X8 l8 y8 z8 st8 hQ8
  subst y8 z8
  have X8 := own_cs X8 (cells' := 3) (slots' := 9) rfl rfl
  obtain ⟨h8, e8⟩ : ∃ z, T8.heap = z := ⟨_, rfl⟩
  rw [e8] at hQ8
  obtain ⟨rfl, N8q, K8, sb8, sk8, SE8, SCo8, SVa8, SAr8, SEb8⟩ := hQ8
  have N8 := own_fr l8 (Fr.app N7 N8q)
  have Zs13 : n0 ≤ h8.size := Nat.le_trans Zs7 K8.1
  have KC13 : Keep h0 h8 [] := KC7.trans K8 (allS (P := fun x => x ∈ [] ∨ h0.size ≤ x) (Or.inr sz_ob1) all0)
  refine Go.tr st8 ?_
  obtain ⟨fs, hr, hrun, hended, hW, hsame⟩ := X8.leave (v := some (.ref ob1)) (fun h => by rw [Bd.returns] at h; cases h) (BodyLoose.notSynchronized Bd)
  refine ⟨_, _, ?_, hP _ _ ⟨hrun, hended, _, _, rfl, ?_, ⟨_, rfl⟩, hW, hsame.mono (by decide) (by decide)⟩⟩
  ·exact retOut X8 hx Bd.returns rfl (Or.inr (Or.inr (Or.inr (Or.inr ⟨rfl, rfl, rfl⟩)))) (hb hby dc18_19) hr
  ·show Q_rmMk _ _ _ _ _ _ _ _ _ _ T8.heap _
   rw [e8]
   exact ⟨ob1, sb8, sk8, rfl, N8, KC13, SE8, SCo8, SVa8, (by rw [hN, own_tk1]; exact SAr8), SEb8⟩
 ·rw [hN]
  show Go _ _ _ (s₁.setTop (mkF mi 0 #[.val (.int 2), .val (.int x), .val (.int y), .val (.int z), .val (.int u)] [])) _
  refine g_iloadN X0 hx hby dc18_0 rfl ?_
  refine g_iconst X0 hx hby dc18_1 (v := 1) rfl ?_
  refine g_icmpYes X0 hx hby dc18_2 (feq (by decide)).2 (pc0 := 2) (pc' := 20) rfl (by decide) (by decide) ?_
  refine g_iloadN X0 hx hby dc18_20 rfl ?_
  refine g_iconst X0 hx hby dc18_21 (v := 2) rfl ?_
  refine g_icmpNo X0 hx hby dc18_22 (teq rfl).2 ?_
  obtain ⟨T14, h14, X14, e14, E14, A14, D14, -, st14⟩ := newO X0 hx hZ hown (hw _ (own_m 7 rfl)) (hw _ (own_m 8 rfl)) (hw _ (own_m 9 rfl)) e0 (g := (mkF mi 25 #[.val (.int 2), .val (.int x), .val (.int y), .val (.int z), .val (.int u)] [])) rfl (hb hby dc18_25) (by decide) (by decide)
  obtain ⟨ob14, g14⟩ : ∃ z, z = h0.size := ⟨_, rfl⟩
  rw [← g14] at A14 D14 st14
  have Zs15 : n0 ≤ h14.size := Nat.le_trans Z0 E14.1
  have KC15 : Keep h0 h14 [] := (Keep.refl h0 []).ext E14
  have g_ob14 : n0 ≤ ob14 := Nat.le_trans Z0 (Nat.le_of_eq g14.symm)
  have sz_ob14 : h0.size ≤ ob14 := Nat.le_trans (Keep.refl h0 []).1 (Nat.le_of_eq g14.symm)
  have F14_34 : Fld Z h14 ob14 "java/lang/String" "coder" "B" (.int 0) := D14 (Or.inr (hw _ (own_m 34 rfl))) (ty := .byte) (by decide)
  have F14_36 : Fld Z h14 ob14 "java/lang/String" "value" "[B" .null := D14 (Or.inr (hw _ (own_m 36 rfl))) (ty := (.array .byte)) (by decide)
  refine Go.st st14 ?_
  refine g_dup X14 hx hby dc18_28 rfl ?_
  refine g_iconst X14 hx hby dc18_29 (v := 2) rfl ?_
  obtain ⟨T16, h16, k16, X16, e16, E16, A16, EX16, st16⟩ := newPE X14 hx hZ (hw _ (own_m 10 rfl)) e14 (g := (mkF mi 30 #[.val (.int 2), .val (.int x), .val (.int y), .val (.int z), .val (.int u)] [(.int 2), (.ref ob14), (.ref ob14)])) rfl (hb hby dc18_30) rfl (by decide) (cap := 2) (by decide) (by decide) (by decide) (by decide) (ad := "[C") (by decide)
  obtain ⟨ob16, g16⟩ : ∃ z, z = h14.size := ⟨_, rfl⟩
  rw [← g16] at A16 EX16 st16
  have Zs17 : n0 ≤ h16.size := Nat.le_trans Zs15 E16.1
  have KC17 : Keep h0 h16 [] := KC15.ext E16
  have g_ob16 : n0 ≤ ob16 := Nat.le_trans Zs15 (Nat.le_of_eq g16.symm)
  have sz_ob16 : h0.size ≤ ob16 := Nat.le_trans KC15.1 (Nat.le_of_eq g16.symm)
  have V16 : Arv Z h16 ob16 k16 .char (2 : Int32) [(.int (0 : Int32)), (.int (0 : Int32))] (.int (0 : Int32)) := (Arv.new A16 (by decide)).pad (pad_rep [] (.int (0 : Int32)) 2)
  refine Go.st st16 ?_
  refine g_dup X16 hx hby dc18_32 rfl ?_
  refine g_iconst X16 hx hby dc18_33 (v := 0) rfl ?_
  refine g_iloadN X16 hx hby dc18_34 rfl ?_
  have ov18 := V16
  obtain ⟨cl18, Ar18, q18, S18, M18, H18, G18⟩ := ov18
  have hin18 : ¬ ((0 : Int32) < 0 ∨ cl18.slots.size ≤ ((0 : Int32)).toNatClampNeg) := inb_of S18 ⟨by decide, by decide⟩
  obtain ⟨T19, h19, X19, e19, W19, st19⟩ := stC X16 hx hZ e16 Ar18 (j := (0 : Int32)) hin18 (g := (mkF mi 35 #[.val (.int 2), .val (.int x), .val (.int y), .val (.int z), .val (.int u)] [(.int x), (.int 0), (.ref ob16), (.ref ob16), (.ref ob14), (.ref ob14)])) rfl rfl (hb hby dc18_35)
  have Zs20 : n0 ≤ h19.size := Nat.le_trans Zs17 (Keep.of_wr W19).1
  have KC20 : Keep h0 h19 [] := KC17.wr W19 (Or.inr sz_ob16)
  have N20 := Fr.snoc X19 N0 g_ob16
  have V19 : Arv Z h19 ob16 k16 .char (2 : Int32) [(.int (x.toUInt32.toUInt16.toUInt32.toInt32)), (.int 0)] (.int (0 : Int32)) := Arv.set Ar18 q18 S18 M18 H18 G18 (fits_nar_char _) W19 0 rfl (Nat.le_of_ble_eq_true rfl)
  rw [own_nc hx1 hx2] at V19
  refine Go.st st19 ?_
  refine g_dup X19 hx hby dc18_36 rfl ?_
  refine g_iconst X19 hx hby dc18_37 (v := 1) rfl ?_
  refine g_iloadN X19 hx hby dc18_38 rfl ?_
  have ov21 := V19
  obtain ⟨cl21, Ar21, q21, S21, M21, H21, G21⟩ := ov21
  have hin21 : ¬ ((1 : Int32) < 0 ∨ cl21.slots.size ≤ ((1 : Int32)).toNatClampNeg) := inb_of S21 ⟨by decide, by decide⟩
  obtain ⟨T22, h22, X22, e22, W22, st22⟩ := stC X19 hx hZ e19 Ar21 (j := (1 : Int32)) hin21 (g := (mkF mi 39 #[.val (.int 2), .val (.int x), .val (.int y), .val (.int z), .val (.int u)] [(.int y), (.int 1), (.ref ob16), (.ref ob16), (.ref ob14), (.ref ob14)])) rfl rfl (hb hby dc18_39)
  have Zs23 : n0 ≤ h22.size := Nat.le_trans Zs20 (Keep.of_wr W22).1
  have KC23 : Keep h0 h22 [] := KC20.wr W22 (Or.inr sz_ob16)
  have N23 := Fr.snoc X22 N20 g_ob16
  have V22 : Arv Z h22 ob16 k16 .char (2 : Int32) [(.int x), (.int (y.toUInt32.toUInt16.toUInt32.toInt32))] (.int (0 : Int32)) := Arv.set Ar21 q21 S21 M21 H21 G21 (fits_nar_char _) W22 1 rfl (Nat.le_of_ble_eq_true rfl)
  rw [own_nc hy1 hy2] at V22
  refine Go.st st22 ?_
  have f25 := (((A14.ext E16).wr W19).wr W22)
  have ne_ob14_ob16 : ob14 ≠ ob16 := Nat.ne_of_lt (Nat.lt_of_lt_of_le A14.lt (Nat.le_of_eq g16.symm))
  have f26 := (((F14_34.ext E16).other W19 (Or.inl ne_ob14_ob16)).other W22 (Or.inl ne_ob14_ob16))
  have f27 := (((F14_36.ext E16).other W19 (Or.inl ne_ob14_ob16)).other W22 (Or.inl ne_ob14_ob16))
  have f28 := ((((SC.ext E14).ext E16).wr W19).wr W22)
  obtain ⟨_, _, ⟨T24, L24, k24, n24⟩, -, X24, ⟨Lc24, hQ24, l24, y24, z24⟩, st24⟩ := X22.specialBack hx (y := zy17) rfl hown (mvT hZ (hw _ (own_m 11 rfl))) (mvT hZ (hw _ (own_m 12 rfl))) (mvT hZ (hw _ (own_m 13 rfl))) (by decide) (backOf (W := 1) (rmSC2 l Z a0 hw [] ob14 ob16 k16 x y cz h22 n0 Zs23 f25 f26 f27 g_ob14 V22 (Ne.symm ne_ob14_ob16) f28 hcz hx1 hx2 hy1 hy2) hZ (hw _ (own_m 13 rfl)) (hw _ (own_m 9 rfl)) (by decide) (by decide)) (g := (mkF mi 40 #[.val (.int 2), .val (.int x), .val (.int y), .val (.int z), .val (.int u)] [(.ref ob16), (.ref ob14), (.ref ob14)])) rfl (by rw [hml]; rfl) (Steps.refl _) (a := ob14) (argsL := [(.ref ob16)]) (rest := [(.ref ob14)]) (lenOf pd_9 rfl) rfl (by show 2 * 0 + _ ≤ _; exact Nat.le_of_eq rfl) (hb hby dc18_40) (fun _ _ => ⟨rfl, e22, (by decide : 2 + 1 ≤ _), (by decide : 6 + 4 ≤ _)⟩)
  dsimp only [Pt.U, Pt.locs, Pt.cells, Pt.slots] at X24 l24 y24 z24 st24 hQ24
  subst y24 z24
  have X24 := own_cs X24 (cells' := 3) (slots' := 10) rfl rfl
  obtain ⟨h24, e24⟩ : ∃ z, T24.heap = z := ⟨_, rfl⟩
  rw [e24] at hQ24
  obtain ⟨rfl, N24q, K24, sb24, sk24, SE24, SCo24, SVa24, SAr24, SEb24⟩ := hQ24
  have N24 := own_fr l24 (Fr.app N23 N24q)
  have Zs29 : n0 ≤ h24.size := Nat.le_trans Zs23 K24.1
  have KC29 : Keep h0 h24 [] := KC23.trans K24 (allS (P := fun x => x ∈ [] ∨ h0.size ≤ x) (Or.inr sz_ob14) all0)
  refine Go.tr st24 ?_
  show Go _ _ _ (T24.setTop (mkF mi 43 #[.val (.int 2), .val (.int x), .val (.int y), .val (.int z), .val (.int u)] [(.ref ob14)])) _
  obtain ⟨fs, hr, hrun, hended, hW, hsame⟩ := X24.leave (v := some (.ref ob14)) (fun h => by rw [Bd.returns] at h; cases h) (BodyLoose.notSynchronized Bd)
  refine ⟨_, _, ?_, hP _ _ ⟨hrun, hended, _, _, rfl, ?_, ⟨_, rfl⟩, hW, hsame.mono (by decide) (by decide)⟩⟩
  ·exact retOut X24 hx Bd.returns rfl (Or.inr (Or.inr (Or.inr (Or.inr ⟨rfl, rfl, rfl⟩)))) (hb hby dc18_43) hr
  ·show Q_rmMk _ _ _ _ _ _ _ _ _ _ T24.heap _
   rw [e24]
   exact ⟨ob14, sb24, sk24, rfl, N24, KC29, SE24, SCo24, SVa24, (by rw [hN, own_tk2]; exact SAr24), SEb24⟩
 ·rw [hN]
  show Go _ _ _ (s₁.setTop (mkF mi 0 #[.val (.int 3), .val (.int x), .val (.int y), .val (.int z), .val (.int u)] [])) _
  refine g_iloadN X0 hx hby dc18_0 rfl ?_
  refine g_iconst X0 hx hby dc18_1 (v := 1) rfl ?_
  refine g_icmpYes X0 hx hby dc18_2 (feq (by decide)).2 (pc0 := 2) (pc' := 20) rfl (by decide) (by decide) ?_
  refine g_iloadN X0 hx hby dc18_20 rfl ?_
  refine g_iconst X0 hx hby dc18_21 (v := 2) rfl ?_
  refine g_icmpYes X0 hx hby dc18_22 (feq (by decide)).2 (pc0 := 22) (pc' := 44) rfl (by decide) (by decide) ?_
  refine g_iloadN X0 hx hby dc18_44 rfl ?_
  refine g_iconst X0 hx hby dc18_45 (v := 3) rfl ?_
  refine g_icmpNo X0 hx hby dc18_46 (teq rfl).2 ?_
  obtain ⟨T30, h30, X30, e30, E30, A30, D30, -, st30⟩ := newO X0 hx hZ hown (hw _ (own_m 7 rfl)) (hw _ (own_m 8 rfl)) (hw _ (own_m 9 rfl)) e0 (g := (mkF mi 49 #[.val (.int 3), .val (.int x), .val (.int y), .val (.int z), .val (.int u)] [])) rfl (hb hby dc18_49) (by decide) (by decide)
  obtain ⟨ob30, g30⟩ : ∃ z, z = h0.size := ⟨_, rfl⟩
  rw [← g30] at A30 D30 st30
  have Zs31 : n0 ≤ h30.size := Nat.le_trans Z0 E30.1
  have KC31 : Keep h0 h30 [] := (Keep.refl h0 []).ext E30
  have g_ob30 : n0 ≤ ob30 := Nat.le_trans Z0 (Nat.le_of_eq g30.symm)
  have sz_ob30 : h0.size ≤ ob30 := Nat.le_trans (Keep.refl h0 []).1 (Nat.le_of_eq g30.symm)
  have F30_34 : Fld Z h30 ob30 "java/lang/String" "coder" "B" (.int 0) := D30 (Or.inr (hw _ (own_m 34 rfl))) (ty := .byte) (by decide)
  have F30_36 : Fld Z h30 ob30 "java/lang/String" "value" "[B" .null := D30 (Or.inr (hw _ (own_m 36 rfl))) (ty := (.array .byte)) (by decide)
  refine Go.st st30 ?_
  refine g_dup X30 hx hby dc18_52 rfl ?_
  refine g_iconst X30 hx hby dc18_53 (v := 3) rfl ?_
  obtain ⟨T32, h32, k32, X32, e32, E32, A32, EX32, st32⟩ := newPE X30 hx hZ (hw _ (own_m 10 rfl)) e30 (g := (mkF mi 54 #[.val (.int 3), .val (.int x), .val (.int y), .val (.int z), .val (.int u)] [(.int 3), (.ref ob30), (.ref ob30)])) rfl (hb hby dc18_54) rfl (by decide) (cap := 3) (by decide) (by decide) (by decide) (by decide) (ad := "[C") (by decide)
  obtain ⟨ob32, g32⟩ : ∃ z, z = h30.size := ⟨_, rfl⟩
  rw [← g32] at A32 EX32 st32
  have Zs33 : n0 ≤ h32.size := Nat.le_trans Zs31 E32.1
  have KC33 : Keep h0 h32 [] := KC31.ext E32
  have g_ob32 : n0 ≤ ob32 := Nat.le_trans Zs31 (Nat.le_of_eq g32.symm)
  have sz_ob32 : h0.size ≤ ob32 := Nat.le_trans KC31.1 (Nat.le_of_eq g32.symm)
  have V32 : Arv Z h32 ob32 k32 .char (3 : Int32) [(.int (0 : Int32)), (.int (0 : Int32)), (.int (0 : Int32))] (.int (0 : Int32)) := (Arv.new A32 (by decide)).pad (pad_rep [] (.int (0 : Int32)) 3)
  refine Go.st st32 ?_
  refine g_dup X32 hx hby dc18_56 rfl ?_
  refine g_iconst X32 hx hby dc18_57 (v := 0) rfl ?_
  refine g_iloadN X32 hx hby dc18_58 rfl ?_
  have ov34 := V32
  obtain ⟨cl34, Ar34, q34, S34, M34, H34, G34⟩ := ov34
  have hin34 : ¬ ((0 : Int32) < 0 ∨ cl34.slots.size ≤ ((0 : Int32)).toNatClampNeg) := inb_of S34 ⟨by decide, by decide⟩
  obtain ⟨T35, h35, X35, e35, W35, st35⟩ := stC X32 hx hZ e32 Ar34 (j := (0 : Int32)) hin34 (g := (mkF mi 59 #[.val (.int 3), .val (.int x), .val (.int y), .val (.int z), .val (.int u)] [(.int x), (.int 0), (.ref ob32), (.ref ob32), (.ref ob30), (.ref ob30)])) rfl rfl (hb hby dc18_59)
  have Zs36 : n0 ≤ h35.size := Nat.le_trans Zs33 (Keep.of_wr W35).1
  have KC36 : Keep h0 h35 [] := KC33.wr W35 (Or.inr sz_ob32)
  have N36 := Fr.snoc X35 N0 g_ob32
  have V35 : Arv Z h35 ob32 k32 .char (3 : Int32) [(.int (x.toUInt32.toUInt16.toUInt32.toInt32)), (.int 0), (.int 0)] (.int (0 : Int32)) := Arv.set Ar34 q34 S34 M34 H34 G34 (fits_nar_char _) W35 0 rfl (Nat.le_of_ble_eq_true rfl)
  rw [own_nc hx1 hx2] at V35
  refine Go.st st35 ?_
  refine g_dup X35 hx hby dc18_60 rfl ?_
  refine g_iconst X35 hx hby dc18_61 (v := 1) rfl ?_
  refine g_iloadN X35 hx hby dc18_62 rfl ?_
  have ov37 := V35
  obtain ⟨cl37, Ar37, q37, S37, M37, H37, G37⟩ := ov37
  have hin37 : ¬ ((1 : Int32) < 0 ∨ cl37.slots.size ≤ ((1 : Int32)).toNatClampNeg) := inb_of S37 ⟨by decide, by decide⟩
  obtain ⟨T38, h38, X38, e38, W38, st38⟩ := stC X35 hx hZ e35 Ar37 (j := (1 : Int32)) hin37 (g := (mkF mi 63 #[.val (.int 3), .val (.int x), .val (.int y), .val (.int z), .val (.int u)] [(.int y), (.int 1), (.ref ob32), (.ref ob32), (.ref ob30), (.ref ob30)])) rfl rfl (hb hby dc18_63)
  have Zs39 : n0 ≤ h38.size := Nat.le_trans Zs36 (Keep.of_wr W38).1
  have KC39 : Keep h0 h38 [] := KC36.wr W38 (Or.inr sz_ob32)
  have N39 := Fr.snoc X38 N36 g_ob32
  have V38 : Arv Z h38 ob32 k32 .char (3 : Int32) [(.int x), (.int (y.toUInt32.toUInt16.toUInt32.toInt32)), (.int 0)] (.int (0 : Int32)) := Arv.set Ar37 q37 S37 M37 H37 G37 (fits_nar_char _) W38 1 rfl (Nat.le_of_ble_eq_true rfl)
  rw [own_nc hy1 hy2] at V38
  refine Go.st st38 ?_
  refine g_dup X38 hx hby dc18_64 rfl ?_
  refine g_iconst X38 hx hby dc18_65 (v := 2) rfl ?_
  refine g_iloadN X38 hx hby dc18_66 rfl ?_
  have ov40 := V38
  obtain ⟨cl40, Ar40, q40, S40, M40, H40, G40⟩ := ov40
  have hin40 : ¬ ((2 : Int32) < 0 ∨ cl40.slots.size ≤ ((2 : Int32)).toNatClampNeg) := inb_of S40 ⟨by decide, by decide⟩
  obtain ⟨T41, h41, X41, e41, W41, st41⟩ := stC X38 hx hZ e38 Ar40 (j := (2 : Int32)) hin40 (g := (mkF mi 67 #[.val (.int 3), .val (.int x), .val (.int y), .val (.int z), .val (.int u)] [(.int z), (.int 2), (.ref ob32), (.ref ob32), (.ref ob30), (.ref ob30)])) rfl rfl (hb hby dc18_67)
  have Zs42 : n0 ≤ h41.size := Nat.le_trans Zs39 (Keep.of_wr W41).1
  have KC42 : Keep h0 h41 [] := KC39.wr W41 (Or.inr sz_ob32)
  have N42 := Fr.snoc X41 N39 g_ob32
  have V41 : Arv Z h41 ob32 k32 .char (3 : Int32) [(.int x), (.int y), (.int (z.toUInt32.toUInt16.toUInt32.toInt32))] (.int (0 : Int32)) := Arv.set Ar40 q40 S40 M40 H40 G40 (fits_nar_char _) W41 2 rfl (Nat.le_of_ble_eq_true rfl)
  rw [own_nc hz1 hz2] at V41
  refine Go.st st41 ?_
  have f44 := ((((A30.ext E32).wr W35).wr W38).wr W41)
  have ne_ob30_ob32 : ob30 ≠ ob32 := Nat.ne_of_lt (Nat.lt_of_lt_of_le A30.lt (Nat.le_of_eq g32.symm))
  have f45 := ((((F30_34.ext E32).other W35 (Or.inl ne_ob30_ob32)).other W38 (Or.inl ne_ob30_ob32)).other W41 (Or.inl ne_ob30_ob32))
  have f46 := ((((F30_36.ext E32).other W35 (Or.inl ne_ob30_ob32)).other W38 (Or.inl ne_ob30_ob32)).other W41 (Or.inl ne_ob30_ob32))
  have f47 := (((((SC.ext E30).ext E32).wr W35).wr W38).wr W41)
  obtain ⟨_, _, ⟨T43, L43, k43, n43⟩, -, X43, ⟨Lc43, hQ43, l43, y43, z43⟩, st43⟩ := X41.specialBack hx (y := zy17) rfl hown (mvT hZ (hw _ (own_m 11 rfl))) (mvT hZ (hw _ (own_m 12 rfl))) (mvT hZ (hw _ (own_m 13 rfl))) (by decide) (backOf (W := 1) (rmSC3 l Z a0 hw [] ob30 ob32 k32 x y z cz h41 n0 Zs42 f44 f45 f46 g_ob30 V41 (Ne.symm ne_ob30_ob32) f47 hcz hx1 hx2 hy1 hy2 hz1 hz2) hZ (hw _ (own_m 13 rfl)) (hw _ (own_m 9 rfl)) (by decide) (by decide)) (g := (mkF mi 68 #[.val (.int 3), .val (.int x), .val (.int y), .val (.int z), .val (.int u)] [(.ref ob32), (.ref ob30), (.ref ob30)])) rfl (by rw [hml]; rfl) (Steps.refl _) (a := ob30) (argsL := [(.ref ob32)]) (rest := [(.ref ob30)]) (lenOf pd_9 rfl) rfl (by show 2 * 0 + _ ≤ _; exact Nat.le_of_eq rfl) (hb hby dc18_68) (fun _ _ => ⟨rfl, e41, (by decide : 2 + 1 ≤ _), (by decide : 7 + 4 ≤ _)⟩)
  dsimp only [Pt.U, Pt.locs, Pt.cells, Pt.slots] at X43 l43 y43 z43 st43 hQ43
  subst y43 z43
  have X43 := own_cs X43 (cells' := 3) (slots' := 11) rfl rfl
  obtain ⟨h43, e43⟩ : ∃ z, T43.heap = z := ⟨_, rfl⟩
  rw [e43] at hQ43
  obtain ⟨rfl, N43q, K43, sb43, sk43, SE43, SCo43, SVa43, SAr43, SEb43⟩ := hQ43
  have N43 := own_fr l43 (Fr.app N42 N43q)
  have Zs48 : n0 ≤ h43.size := Nat.le_trans Zs42 K43.1
  have KC48 : Keep h0 h43 [] := KC42.trans K43 (allS (P := fun x => x ∈ [] ∨ h0.size ≤ x) (Or.inr sz_ob30) all0)
  refine Go.tr st43 ?_
  obtain ⟨fs, hr, hrun, hended, hW, hsame⟩ := X43.leave (v := some (.ref ob30)) (fun h => by rw [Bd.returns] at h; cases h) (BodyLoose.notSynchronized Bd)
  refine ⟨_, _, ?_, hP _ _ ⟨hrun, hended, _, _, rfl, ?_, ⟨_, rfl⟩, hW, hsame.mono (by decide) (by decide)⟩⟩
  ·exact retOut X43 hx Bd.returns rfl (Or.inr (Or.inr (Or.inr (Or.inr ⟨rfl, rfl, rfl⟩)))) (hb hby dc18_71) hr
  ·show Q_rmMk _ _ _ _ _ _ _ _ _ _ T43.heap _
   rw [e43]
   exact ⟨ob30, sb43, sk43, rfl, N43, KC48, SE43, SCo43, SVa43, (by rw [hN, own_tk3]; exact SAr43), SEb43⟩
 ·rw [hN]
  show Go _ _ _ (s₁.setTop (mkF mi 0 #[.val (.int 4), .val (.int x), .val (.int y), .val (.int z), .val (.int u)] [])) _
  refine g_iloadN X0 hx hby dc18_0 rfl ?_
  refine g_iconst X0 hx hby dc18_1 (v := 1) rfl ?_
  refine g_icmpYes X0 hx hby dc18_2 (feq (by decide)).2 (pc0 := 2) (pc' := 20) rfl (by decide) (by decide) ?_
  refine g_iloadN X0 hx hby dc18_20 rfl ?_
  refine g_iconst X0 hx hby dc18_21 (v := 2) rfl ?_
  show Go _ _ _ (s₁.setTop (mkF mi 22 #[.val (.int 4), .val (.int x), .val (.int y), .val (.int z), .val (.int u)] [(.int 2), (.int 4)])) _
  refine g_icmpYes X0 hx hby dc18_22 (feq (by decide)).2 (pc0 := 22) (pc' := 44) rfl (by decide) (by decide) ?_
  refine g_iloadN X0 hx hby dc18_44 rfl ?_
  refine g_iconst X0 hx hby dc18_45 (v := 3) rfl ?_
  refine g_icmpYes X0 hx hby dc18_46 (feq (by decide)).2 (pc0 := 46) (pc' := 72) rfl (by decide) (by decide) ?_
  obtain ⟨T49, h49, X49, e49, E49, A49, D49, -, st49⟩ := newO X0 hx hZ hown (hw _ (own_m 7 rfl)) (hw _ (own_m 8 rfl)) (hw _ (own_m 9 rfl)) e0 (g := (mkF mi 72 #[.val (.int 4), .val (.int x), .val (.int y), .val (.int z), .val (.int u)] [])) rfl (hb hby dc18_72) (by decide) (by decide)
  obtain ⟨ob49, g49⟩ : ∃ z, z = h0.size := ⟨_, rfl⟩
  rw [← g49] at A49 D49 st49
  have Zs50 : n0 ≤ h49.size := Nat.le_trans Z0 E49.1
  have KC50 : Keep h0 h49 [] := (Keep.refl h0 []).ext E49
  have g_ob49 : n0 ≤ ob49 := Nat.le_trans Z0 (Nat.le_of_eq g49.symm)
  have sz_ob49 : h0.size ≤ ob49 := Nat.le_trans (Keep.refl h0 []).1 (Nat.le_of_eq g49.symm)
  have F49_34 : Fld Z h49 ob49 "java/lang/String" "coder" "B" (.int 0) := D49 (Or.inr (hw _ (own_m 34 rfl))) (ty := .byte) (by decide)
  have F49_36 : Fld Z h49 ob49 "java/lang/String" "value" "[B" .null := D49 (Or.inr (hw _ (own_m 36 rfl))) (ty := (.array .byte)) (by decide)
  refine Go.st st49 ?_
  refine g_dup X49 hx hby dc18_75 rfl ?_
  refine g_iconst X49 hx hby dc18_76 (v := 4) rfl ?_
  obtain ⟨T51, h51, k51, X51, e51, E51, A51, EX51, st51⟩ := newPE X49 hx hZ (hw _ (own_m 10 rfl)) e49 (g := (mkF mi 77 #[.val (.int 4), .val (.int x), .val (.int y), .val (.int z), .val (.int u)] [(.int 4), (.ref ob49), (.ref ob49)])) rfl (hb hby dc18_77) rfl (by decide) (cap := 4) (by decide) (by decide) (by decide) (by decide) (ad := "[C") (by decide)
  obtain ⟨ob51, g51⟩ : ∃ z, z = h49.size := ⟨_, rfl⟩
  rw [← g51] at A51 EX51 st51
  have Zs52 : n0 ≤ h51.size := Nat.le_trans Zs50 E51.1
  have KC52 : Keep h0 h51 [] := KC50.ext E51
  have g_ob51 : n0 ≤ ob51 := Nat.le_trans Zs50 (Nat.le_of_eq g51.symm)
  have sz_ob51 : h0.size ≤ ob51 := Nat.le_trans KC50.1 (Nat.le_of_eq g51.symm)
  have V51 : Arv Z h51 ob51 k51 .char (4 : Int32) [(.int (0 : Int32)), (.int (0 : Int32)), (.int (0 : Int32)), (.int (0 : Int32))] (.int (0 : Int32)) := (Arv.new A51 (by decide)).pad (pad_rep [] (.int (0 : Int32)) 4)
  refine Go.st st51 ?_
  refine g_dup X51 hx hby dc18_79 rfl ?_
  refine g_iconst X51 hx hby dc18_80 (v := 0) rfl ?_
  refine g_iloadN X51 hx hby dc18_81 rfl ?_
  have ov53 := V51
  obtain ⟨cl53, Ar53, q53, S53, M53, H53, G53⟩ := ov53
  have hin53 : ¬ ((0 : Int32) < 0 ∨ cl53.slots.size ≤ ((0 : Int32)).toNatClampNeg) := inb_of S53 ⟨by decide, by decide⟩
  obtain ⟨T54, h54, X54, e54, W54, st54⟩ := stC X51 hx hZ e51 Ar53 (j := (0 : Int32)) hin53 (g := (mkF mi 82 #[.val (.int 4), .val (.int x), .val (.int y), .val (.int z), .val (.int u)] [(.int x), (.int 0), (.ref ob51), (.ref ob51), (.ref ob49), (.ref ob49)])) rfl rfl (hb hby dc18_82)
  have Zs55 : n0 ≤ h54.size := Nat.le_trans Zs52 (Keep.of_wr W54).1
  have KC55 : Keep h0 h54 [] := KC52.wr W54 (Or.inr sz_ob51)
  have N55 := Fr.snoc X54 N0 g_ob51
  have V54 : Arv Z h54 ob51 k51 .char (4 : Int32) [(.int (x.toUInt32.toUInt16.toUInt32.toInt32)), (.int 0), (.int 0), (.int 0)] (.int (0 : Int32)) := Arv.set Ar53 q53 S53 M53 H53 G53 (fits_nar_char _) W54 0 rfl (Nat.le_of_ble_eq_true rfl)
  rw [own_nc hx1 hx2] at V54
  refine Go.st st54 ?_
  refine g_dup X54 hx hby dc18_83 rfl ?_
  refine g_iconst X54 hx hby dc18_84 (v := 1) rfl ?_
  refine g_iloadN X54 hx hby dc18_85 rfl ?_
  have ov56 := V54
  obtain ⟨cl56, Ar56, q56, S56, M56, H56, G56⟩ := ov56
  have hin56 : ¬ ((1 : Int32) < 0 ∨ cl56.slots.size ≤ ((1 : Int32)).toNatClampNeg) := inb_of S56 ⟨by decide, by decide⟩
  obtain ⟨T57, h57, X57, e57, W57, st57⟩ := stC X54 hx hZ e54 Ar56 (j := (1 : Int32)) hin56 (g := (mkF mi 86 #[.val (.int 4), .val (.int x), .val (.int y), .val (.int z), .val (.int u)] [(.int y), (.int 1), (.ref ob51), (.ref ob51), (.ref ob49), (.ref ob49)])) rfl rfl (hb hby dc18_86)
  have Zs58 : n0 ≤ h57.size := Nat.le_trans Zs55 (Keep.of_wr W57).1
  have KC58 : Keep h0 h57 [] := KC55.wr W57 (Or.inr sz_ob51)
  have N58 := Fr.snoc X57 N55 g_ob51
  have V57 : Arv Z h57 ob51 k51 .char (4 : Int32) [(.int x), (.int (y.toUInt32.toUInt16.toUInt32.toInt32)), (.int 0), (.int 0)] (.int (0 : Int32)) := Arv.set Ar56 q56 S56 M56 H56 G56 (fits_nar_char _) W57 1 rfl (Nat.le_of_ble_eq_true rfl)
  rw [own_nc hy1 hy2] at V57
  refine Go.st st57 ?_
  refine g_dup X57 hx hby dc18_87 rfl ?_
  refine g_iconst X57 hx hby dc18_88 (v := 2) rfl ?_
  refine g_iloadN X57 hx hby dc18_89 rfl ?_
  have ov59 := V57
  obtain ⟨cl59, Ar59, q59, S59, M59, H59, G59⟩ := ov59
  have hin59 : ¬ ((2 : Int32) < 0 ∨ cl59.slots.size ≤ ((2 : Int32)).toNatClampNeg) := inb_of S59 ⟨by decide, by decide⟩
  obtain ⟨T60, h60, X60, e60, W60, st60⟩ := stC X57 hx hZ e57 Ar59 (j := (2 : Int32)) hin59 (g := (mkF mi 90 #[.val (.int 4), .val (.int x), .val (.int y), .val (.int z), .val (.int u)] [(.int z), (.int 2), (.ref ob51), (.ref ob51), (.ref ob49), (.ref ob49)])) rfl rfl (hb hby dc18_90)
  have Zs61 : n0 ≤ h60.size := Nat.le_trans Zs58 (Keep.of_wr W60).1
  have KC61 : Keep h0 h60 [] := KC58.wr W60 (Or.inr sz_ob51)
  have N61 := Fr.snoc X60 N58 g_ob51
  have V60 : Arv Z h60 ob51 k51 .char (4 : Int32) [(.int x), (.int y), (.int (z.toUInt32.toUInt16.toUInt32.toInt32)), (.int 0)] (.int (0 : Int32)) := Arv.set Ar59 q59 S59 M59 H59 G59 (fits_nar_char _) W60 2 rfl (Nat.le_of_ble_eq_true rfl)
  rw [own_nc hz1 hz2] at V60
  refine Go.st st60 ?_
  refine g_dup X60 hx hby dc18_91 rfl ?_
  refine g_iconst X60 hx hby dc18_92 (v := 3) rfl ?_
  refine g_iload X60 hx hby dc18_93 rfl ?_
  have ov62 := V60
  obtain ⟨cl62, Ar62, q62, S62, M62, H62, G62⟩ := ov62
  have hin62 : ¬ ((3 : Int32) < 0 ∨ cl62.slots.size ≤ ((3 : Int32)).toNatClampNeg) := inb_of S62 ⟨by decide, by decide⟩
  obtain ⟨T63, h63, X63, e63, W63, st63⟩ := stC X60 hx hZ e60 Ar62 (j := (3 : Int32)) hin62 (g := (mkF mi 95 #[.val (.int 4), .val (.int x), .val (.int y), .val (.int z), .val (.int u)] [(.int u), (.int 3), (.ref ob51), (.ref ob51), (.ref ob49), (.ref ob49)])) rfl rfl (hb hby dc18_95)
  have Zs64 : n0 ≤ h63.size := Nat.le_trans Zs61 (Keep.of_wr W63).1
  have KC64 : Keep h0 h63 [] := KC61.wr W63 (Or.inr sz_ob51)
  have N64 := Fr.snoc X63 N61 g_ob51
  have V63 : Arv Z h63 ob51 k51 .char (4 : Int32) [(.int x), (.int y), (.int z), (.int (u.toUInt32.toUInt16.toUInt32.toInt32))] (.int (0 : Int32)) := Arv.set Ar62 q62 S62 M62 H62 G62 (fits_nar_char _) W63 3 rfl (Nat.le_of_ble_eq_true rfl)
  rw [own_nc hu1 hu2] at V63
  refine Go.st st63 ?_
  have f66 := (((((A49.ext E51).wr W54).wr W57).wr W60).wr W63)
  have ne_ob49_ob51 : ob49 ≠ ob51 := Nat.ne_of_lt (Nat.lt_of_lt_of_le A49.lt (Nat.le_of_eq g51.symm))
  have f67 := (((((F49_34.ext E51).other W54 (Or.inl ne_ob49_ob51)).other W57 (Or.inl ne_ob49_ob51)).other W60 (Or.inl ne_ob49_ob51)).other W63 (Or.inl ne_ob49_ob51))
  have f68 := (((((F49_36.ext E51).other W54 (Or.inl ne_ob49_ob51)).other W57 (Or.inl ne_ob49_ob51)).other W60 (Or.inl ne_ob49_ob51)).other W63 (Or.inl ne_ob49_ob51))
  have f69 := ((((((SC.ext E49).ext E51).wr W54).wr W57).wr W60).wr W63)
  obtain ⟨_, _, ⟨T65, L65, k65, n65⟩, -, X65, ⟨Lc65, hQ65, l65, y65, z65⟩, st65⟩ := X63.specialBack hx (y := zy17) rfl hown (mvT hZ (hw _ (own_m 11 rfl))) (mvT hZ (hw _ (own_m 12 rfl))) (mvT hZ (hw _ (own_m 13 rfl))) (by decide) (backOf (W := 1) (rmSC4 l Z a0 hw [] ob49 ob51 k51 x y z u cz h63 n0 Zs64 f66 f67 f68 g_ob49 V63 (Ne.symm ne_ob49_ob51) f69 hcz hx1 hx2 hy1 hy2 hz1 hz2 hu1 hu2) hZ (hw _ (own_m 13 rfl)) (hw _ (own_m 9 rfl)) (by decide) (by decide)) (g := (mkF mi 96 #[.val (.int 4), .val (.int x), .val (.int y), .val (.int z), .val (.int u)] [(.ref ob51), (.ref ob49), (.ref ob49)])) rfl (by rw [hml]; rfl) (Steps.refl _) (a := ob49) (argsL := [(.ref ob51)]) (rest := [(.ref ob49)]) (lenOf pd_9 rfl) rfl (by show 2 * 0 + _ ≤ _; exact Nat.le_of_eq rfl) (hb hby dc18_96) (fun _ _ => ⟨rfl, e63, (by decide : 2 + 1 ≤ _), (by decide : 8 + 4 ≤ _)⟩)
  dsimp only [Pt.U, Pt.locs, Pt.cells, Pt.slots] at X65 l65 y65 z65 st65 hQ65
  subst y65 z65
  have X65 := own_cs X65 (cells' := 3) (slots' := 12) rfl rfl
  obtain ⟨h65, e65⟩ : ∃ z, T65.heap = z := ⟨_, rfl⟩
  rw [e65] at hQ65
  obtain ⟨rfl, N65q, K65, sb65, sk65, SE65, SCo65, SVa65, SAr65, SEb65⟩ := hQ65
  have N65 := own_fr l65 (Fr.app N64 N65q)
  have Zs70 : n0 ≤ h65.size := Nat.le_trans Zs64 K65.1
  have KC70 : Keep h0 h65 [] := KC64.trans K65 (allS (P := fun x => x ∈ [] ∨ h0.size ≤ x) (Or.inr sz_ob49) all0)
  refine Go.tr st65 ?_
  obtain ⟨fs, hr, hrun, hended, hW, hsame⟩ := X65.leave (v := some (.ref ob49)) (fun h => by rw [Bd.returns] at h; cases h) (BodyLoose.notSynchronized Bd)
  refine ⟨_, _, ?_, hP _ _ ⟨hrun, hended, _, _, rfl, ?_, ⟨_, rfl⟩, hW, hsame.mono (by decide) (by decide)⟩⟩
  ·exact retOut X65 hx Bd.returns rfl (Or.inr (Or.inr (Or.inr (Or.inr ⟨rfl, rfl, rfl⟩)))) (hb hby dc18_99) hr
  ·show Q_rmMk _ _ _ _ _ _ _ _ _ _ T65.heap _
   rw [e65]
   exact ⟨ob49, sb65, sk65, rfl, N65, KC70, SE65, SCo65, SVa65, (by rw [hN, own_tk4]; exact SAr65), SEb65⟩
theorem dc19_0 : Dk zb19 0 (.aload_n 0) 1 := by decide +kernel
theorem dc19_1 : Dk zb19 1 (.getfield 9) 3 := by decide +kernel
theorem dc19_4 : Dk zb19 4 .arraylength 1 := by decide +kernel
theorem dc19_5 : Dk zb19 5 (.ifCond .ne 7) 3 := by decide +kernel
theorem dc19_12 : Dk zb19 12 (.iconst 0) 1 := by decide +kernel
theorem dc19_13 : Dk zb19 13 .ireturn 1 := by decide +kernel
theorem ef_rmIE (mi : MethodId) (o : Addr) : entryFrame mi #[(.ref o)] 1 = mkF mi 0 #[.val (.ref o)] [] := by first | (simp [entryFrame, mkF, argsToLocals, Value.category]; done) | rfl
theorem rmIE (l : Launch) (Z : State) (a0 : Array Value) (hw : Tb Z a0) (ws : List Jvm.Cond) (o : Addr) (b : Addr) (kb : ClassId) (n : Int32) (E : List Int32) (h0 : Heap) (n0 : Nat) (Z0 : n0 ≤ h0.size) (SE : Exa Z h0 o "java/lang/String") (SCo : Fld Z h0 o "java/lang/String" "coder" "B" (.int (0 : Int32))) (SVa : Fld Z h0 o "java/lang/String" "value" "[B" (.ref b)) (SAr : Arv Z h0 b kb .byte n (E.map Value.int) (.int (0 : Int32))) (SEb : Exa Z h0 b "[B") (hn0 : ¬ (n = (0 : Int32))) :
  Mt l Z zy19 zb19 1 (some .boolean) ws zR0 #[(.ref o)] h0 (QP (some (.int (0 : Int32))) h0 n0) := by
 refine MetFree.of_bodySF (plainFor_of_name pn_0) hisR ?_
 intro pg ev si mi args below meth ci s₁ Bd hml0 hP0 hK
 obtain ⟨rfl, hZ, hh⟩ := hP0
 have hx := Bd.exec
 have hby := Bd.bytes
 have hml : ci.maxLocals = 1 := hml0
 have hown : si.vm.findClass "java/lang/String" = some mi.cls := findClass_of_methodNamed Bd.named
 have hnm := (name_of_methodNamed Bd.named Bd.method).1
 have X0 : Stand pg l ev zR0 si mi #[(.ref o)] below meth ci s₁ [] 0 0 := Stand.of_body Bd
 have e0 : s₁.heap = h0 := by rw [← hh, Bd.state]; rfl
 have N0 := Fr.nil n0
 refine Go.start (fun P hP => ?_)
 refine Go.st (fun t_ k_ => castTop (ef_rmIE mi o) k_) (A := s₁.setTop (mkF mi 0 #[.val (.ref o)] [])) ?_
 refine g_aloadN X0 hx hby dc19_0 rfl rfl ?_
 obtain ⟨T1, X1, e1, st1⟩ := getF X0 hx hZ hown (host := "") (Or.inl (hw _ (own_m 35 rfl))) Via.refl e0 SVa (g := (mkF mi 1 #[.val (.ref o)] [(.ref o)])) rfl rfl (hb hby dc19_1)
 refine Go.st st1 ?_
 have ov2 := SAr
 obtain ⟨cl2, Ar2, q2, S2, M2, H2, G2⟩ := ov2
 refine Go.st (X1.arraylength hx (by rw [e1]; exact Ar2.1) (State.isArrayOf_alike hZ.alike Ar2.2.1) (g := (mkF mi 4 #[.val (.ref o)] [(.ref b)])) rfl rfl (hb hby dc19_4)) ?_
 rw [len_of S2 M2]
 refine g_ifYes X1 hx hby dc19_5 ((if0 _ _).trans (feq hn0).2) (pc0 := 5) (pc' := 12) rfl (by decide) (by decide) ?_
 refine g_iconst X1 hx hby dc19_12 (v := 0) rfl ?_
 obtain ⟨fs, hr, hrun, hended, hW, hsame⟩ := X1.leave (v := some (.int 0)) (fun h => by rw [Bd.returns] at h; cases h) (BodyLoose.notSynchronized Bd)
 refine ⟨_, _, ?_, hP _ _ ⟨hrun, hended, _, _, rfl, ?_, ⟨_, rfl⟩, hW, hsame.mono (by decide) (by decide)⟩⟩
 ·exact retN X1 hx (t := .boolean) Bd.returns (by simp) (hb hby dc19_13) hr
 ·exact ⟨rfl, N0, e1⟩
theorem dc20_7 : Dk zb20 7 (.iload 5) 2 := by decide +kernel
theorem dc20_9 : Dk zb20 9 (.iload_n 3) 1 := by decide +kernel
theorem dc20_10 : Dk zb20 10 (.if_icmp .ge 21) 3 := by decide +kernel
theorem dc20_13 : Dk zb20 13 (.aload_n 0) 1 := by decide +kernel
theorem dc20_14 : Dk zb20 14 (.iload 5) 2 := by decide +kernel
theorem dc20_16 : Dk zb20 16 .baload 1 := by decide +kernel
theorem dc20_17 : Dk zb20 17 (.iload 4) 2 := by decide +kernel
theorem dc20_19 : Dk zb20 19 (.if_icmp .ne 6) 3 := by decide +kernel
theorem dc20_25 : Dk zb20 25 (.iinc 5 1) 3 := by decide +kernel
theorem dc20_28 : Dk zb20 28 (.goto (-21)) 3 := by decide +kernel
theorem own_ic7 (l : Launch) (Z : State) (a0 : Array Value) (hw : Tb Z a0) {pg : Program} {ev : Env} {si : State} {mi : MethodId} {args : Array Value} {below : List Frame} {meth : Method} {ci : Code} {s₁ : State} {locs : List Loc} (X0 : Stand pg l ev zR0 si mi args below meth ci s₁ locs 0 0) (hx : pg.tables.exec = Jvm.exec) (hby : ci.code = zb20) (hml : ci.maxLocals = 6) (hZ : Z.Warmed39 si.vm) (hown : si.vm.findClass "java/lang/StringLatin1" = some mi.cls) {P : State → Outcome → Prop} (b : Addr) (c : Int32) (f : Int32) (n : Int32) (cb : Int32) (i : Int32) (kb : ClassId) (E : List Int32) (h0 : Heap) (n0 : Nat) (Z0 : n0 ≤ h0.size) (e0 : s₁.heap = h0) (N0 : Fr n0 locs) (SAr : Arv Z h0 b kb .byte n (E.map Value.int) (.int (0 : Int32))) (h1 : ¬ (i < (0 : Int32))) (h2 : i < n) (K1 : (E.getD i.toNatClampNeg 0) = cb → ∀ (T' : State) (locs' : List Loc), Stand pg l ev zR0 si mi args below meth ci T' locs' 0 0 → T'.heap = h0 → Fr n0 locs' → Go pg.tables ev below (T'.setTop (mkF mi 22 #[.val (.ref b), .val (.int c), .val (.int f), .val (.int n), .val (.int cb), .val (.int i)] [])) P) (K2 : ¬ ((E.getD i.toNatClampNeg 0) = cb) → ∀ (T' : State) (locs' : List Loc), Stand pg l ev zR0 si mi args below meth ci T' locs' 0 0 → T'.heap = h0 → Fr n0 locs' → Go pg.tables ev below (T'.setTop (mkF mi 7 #[.val (.ref b), .val (.int c), .val (.int f), .val (.int n), .val (.int cb), .val (.int (i + (1 : Int32)))] [])) P) :
  Go pg.tables ev below (s₁.setTop (mkF mi 7 #[.val (.ref b), .val (.int c), .val (.int f), .val (.int n), .val (.int cb), .val (.int i)] [])) P := by
 refine g_iload X0 hx hby dc20_7 rfl ?_
 refine g_iloadN X0 hx hby dc20_9 rfl ?_
 refine g_icmpNo X0 hx hby dc20_10 (tlt h2).2.1 ?_
 refine g_aloadN X0 hx hby dc20_13 rfl rfl ?_
 refine g_iload X0 hx hby dc20_14 rfl ?_
 have ov1 := SAr
 obtain ⟨cl1, Ar1, q1, S1, M1, H1, G1⟩ := ov1
 have hin1 : ¬ (i < 0 ∨ cl1.slots.size ≤ (i).toNatClampNeg) := inb_of S1 ⟨h1, h2⟩
 have hat1 : cl1.slots[(i).toNatClampNeg]? = some (.int (E.getD i.toNatClampNeg 0)) := Has.at H1 hin1 (own_gm E _)
 refine Go.st (X0.baloadBytes hx (j := i) (v := (.int (E.getD i.toNatClampNeg 0))) (by rw [e0]; exact Ar1.1) (State.isArrayOf_alike hZ.alike Ar1.2.1) Ar1.2.2 hin1 hat1 (g := (mkF mi 16 #[.val (.ref b), .val (.int c), .val (.int f), .val (.int n), .val (.int cb), .val (.int i)] [(.int i), (.ref b)])) rfl rfl (hb hby dc20_16)) ?_
 refine g_iload X0 hx hby dc20_17 rfl ?_
 by_cases hc19_1 : (E.getD i.toNatClampNeg 0) = cb
 ·refine g_icmpNo X0 hx hby dc20_19 (teq hc19_1).2 ?_
  show Go _ _ _ (s₁.setTop (mkF mi 22 #[.val (.ref b), .val (.int c), .val (.int f), .val (.int n), .val (.int cb), .val (.int i)] [])) _
  exact K1 hc19_1 _ _ X0 e0 N0
 ·refine g_icmpYes X0 hx hby dc20_19 (feq hc19_1).2 (pc0 := 19) (pc' := 25) rfl (by decide) (by decide) ?_
  refine g_iinc X0 hx hby dc20_25 rfl rfl (l' := #[.val (.ref b), .val (.int c), .val (.int f), .val (.int n), .val (.int cb), .val (.int (i + (1 : Int32)))]) rfl ?_
  refine g_goto X0 hx hby dc20_28 (pc0 := 28) (pc' := 7) rfl (by decide) (by decide) ?_
  show Go _ _ _ (s₁.setTop (mkF mi 7 #[.val (.ref b), .val (.int c), .val (.int f), .val (.int n), .val (.int cb), .val (.int (i + (1 : Int32)))] [])) _
  exact K2 hc19_1 _ _ X0 e0 N0
theorem own_icL (l : Launch) (Z : State) (a0 : Array Value) (hw : Tb Z a0) {pg : Program} {ev : Env} {si : State} {mi : MethodId} {args : Array Value} {below : List Frame} {meth : Method} {ci : Code} (hx : pg.tables.exec = Jvm.exec) (hby : ci.code = zb20) (hml : ci.maxLocals = 6) (hZ : Z.Warmed39 si.vm) (hown : si.vm.findClass "java/lang/StringLatin1" = some mi.cls) {P : State → Outcome → Prop} (b : Addr) (c f n cb : Int32) (kb : ClassId) (E : List Int32) (h0 : Heap) (n0 : Nat) (Z0 : n0 ≤ h0.size) (hE : E.length ≤ 100) (hn : n.toInt = E.length) (SAr : Arv Z h0 b kb .byte n (E.map Value.int) (.int (0 : Int32))) (v : Int32)
  (Kf : ∀ (T' : State) (locs' : List Loc) (k : Nat), v = Int32.ofNat k → Stand pg l ev zR0 si mi args below meth ci T' locs' 0 0 → T'.heap = h0 → Fr n0 locs' → Go pg.tables ev below (T'.setTop (mkF mi 22 #[.val (.ref b), .val (.int c), .val (.int f), .val (.int n), .val (.int cb), .val (.int (Int32.ofNat k))] [])) P)
  (Kn : ∀ (T' : State) (locs' : List Loc), v = -1 → Stand pg l ev zR0 si mi args below meth ci T' locs' 0 0 → T'.heap = h0 → Fr n0 locs' → Go pg.tables ev below (T'.setTop (mkF mi 7 #[.val (.ref b), .val (.int c), .val (.int f), .val (.int n), .val (.int cb), .val (.int n)] [])) P) :
  ∀ (r k : Nat) (s₁ : State) (locs : List Loc), k + r = E.length → v = ixF E cb r k → Stand pg l ev zR0 si mi args below meth ci s₁ locs 0 0 → s₁.heap = h0 → Fr n0 locs → Go pg.tables ev below (s₁.setTop (mkF mi 7 #[.val (.ref b), .val (.int c), .val (.int f), .val (.int n), .val (.int cb), .val (.int (Int32.ofNat k))] [])) P := by
 intro r
 induction r with
 | zero =>
  intro k s₁ locs hk hv X0 e0 N0
  obtain rfl : k = E.length := by omega
  have en : Int32.ofNat E.length = n := by apply Int32.toInt_inj.mp; rw [own_ofN (by omega), hn]
  rw [en]; exact Kn _ _ hv X0 e0 N0
 | succ r ih =>
  intro k s₁ locs hkr hv X0 e0 N0
  refine own_ic7 l Z a0 hw X0 hx hby hml hZ hown b c f n cb (Int32.ofNat k) kb E h0 n0 Z0 e0 N0 SAr (own_ofN0 (by omega)) (by rw [Int32.lt_iff_toInt_lt, own_ofN (by omega), hn]; omega) (fun hq T' L' X' e' N' => ?_) (fun hq T' L' X' e' N' => ?_)
  ·rw [own_ofNn (by omega)] at hq
   exact Kf T' L' k (hv.trans (if_pos hq)) X' e' N'
  ·rw [own_ofNn (by omega)] at hq
   rw [own_ofS]
   exact ih (k + 1) T' L' (by omega) (hv.trans (if_neg hq)) X' e' N'
theorem dc20_0 : Dk zb20 0 (.iload_n 1) 1 := by decide +kernel
theorem dc20_1 : Dk zb20 1 .i2b 1 := by decide +kernel
theorem dc20_2 : Dk zb20 2 (.istore 4) 2 := by decide +kernel
theorem dc20_4 : Dk zb20 4 (.iload_n 2) 1 := by decide +kernel
theorem dc20_5 : Dk zb20 5 (.istore 5) 2 := by decide +kernel
theorem dc20_22 : Dk zb20 22 (.iload 5) 2 := by decide +kernel
theorem dc20_24 : Dk zb20 24 .ireturn 1 := by decide +kernel
theorem dc20_31 : Dk zb20 31 (.iconst (-1)) 1 := by decide +kernel
theorem dc20_32 : Dk zb20 32 .ireturn 1 := by decide +kernel
theorem ef_rmIC (mi : MethodId) (b : Addr) (c : Int32) (n : Int32) (F : Nat) : entryFrame mi #[(.ref b), (.int c), (.int (Int32.ofNat F)), (.int n)] 6 = mkF mi 0 #[.val (.ref b), .val (.int c), .val (.int (Int32.ofNat F)), .val (.int n), .unset, .unset] [] := by first | (simp [entryFrame, mkF, argsToLocals, Value.category]; done) | rfl
theorem rmIC (l : Launch) (Z : State) (a0 : Array Value) (hw : Tb Z a0) (ws : List Jvm.Cond) (b : Addr) (c : Int32) (n : Int32) (F : Nat) (cb : Int32) (kb : ClassId) (E : List Int32) (h0 : Heap) (n0 : Nat) (Z0 : n0 ≤ h0.size) (SAr : Arv Z h0 b kb .byte n (E.map Value.int) (.int (0 : Int32))) (hE : E.length ≤ 100) (hn : n.toInt = E.length) (hF : F ≤ E.length) (hcb : c.toInt8.toInt32 = cb) :
  Mt l Z zy20 zb20 6 (some .int) ws zR0 #[(.ref b), (.int c), (.int (Int32.ofNat F)), (.int n)] h0 (QP (some (.int (ix E cb F))) h0 n0) := by
 refine MetFree.of_bodySF (plainFor_of_name pn_2) hisR ?_
 intro pg ev si mi args below meth ci s₁ Bd hml0 hP0 hK
 obtain ⟨rfl, hZ, hh⟩ := hP0
 have hx := Bd.exec
 have hby := Bd.bytes
 have hml : ci.maxLocals = 6 := hml0
 have hown : si.vm.findClass "java/lang/StringLatin1" = some mi.cls := findClass_of_methodNamed Bd.named
 have hnm := (name_of_methodNamed Bd.named Bd.method).1
 have X0 : Stand pg l ev zR0 si mi #[(.ref b), (.int c), (.int (Int32.ofNat F)), (.int n)] below meth ci s₁ [] 0 0 := Stand.of_body Bd
 have e0 : s₁.heap = h0 := by rw [← hh, Bd.state]; rfl
 have N0 := Fr.nil n0
 refine Go.start (fun P hP => ?_)
 refine Go.st (fun t_ k_ => castTop (ef_rmIC mi b c n F) k_) (A := s₁.setTop (mkF mi 0 #[.val (.ref b), .val (.int c), .val (.int (Int32.ofNat F)), .val (.int n), .unset, .unset] [])) ?_
 refine g_iloadN X0 hx hby dc20_0 rfl ?_
 refine g_i2b X0 hx hby dc20_1 rfl ?_
 show Go _ _ _ (s₁.setTop (mkF mi 2 #[.val (.ref b), .val (.int c), .val (.int (Int32.ofNat F)), .val (.int n), .unset, .unset] [(.int (c.toInt8.toInt32))])) _
 rw [hcb]
 show Go _ _ _ (s₁.setTop (mkF mi 2 #[.val (.ref b), .val (.int c), .val (.int (Int32.ofNat F)), .val (.int n), .unset, .unset] [(.int cb)])) _
 refine g_istore X0 hx hby dc20_2 (l' := #[.val (.ref b), .val (.int c), .val (.int (Int32.ofNat F)), .val (.int n), .val (.int cb), .unset]) rfl ?_
 refine g_iloadN X0 hx hby dc20_4 rfl ?_
 refine g_istore X0 hx hby dc20_5 (l' := #[.val (.ref b), .val (.int c), .val (.int (Int32.ofNat F)), .val (.int n), .val (.int cb), .val (.int (Int32.ofNat F))]) rfl ?_
 show Go _ _ _ (s₁.setTop (mkF mi 7 #[.val (.ref b), .val (.int c), .val (.int (Int32.ofNat F)), .val (.int n), .val (.int cb), .val (.int (Int32.ofNat F))] [])) _
 refine own_icL l Z a0 hw hx hby hml hZ hown b c (Int32.ofNat F) n cb kb E h0 n0 Z0 hE hn SAr (ix E cb F) (fun T' L' k hv X' e' N' => ?_) (fun T' L' hv X' e' N' => ?_) (E.length - F) F _ _ (by omega) rfl X0 e0 N0
 ·
  show Go _ _ _ (T'.setTop (mkF mi 22 #[.val (.ref b), .val (.int c), .val (.int (Int32.ofNat F)), .val (.int n), .val (.int cb), .val (.int (Int32.ofNat k))] [])) _
  refine g_iload X' hx hby dc20_22 rfl ?_
  obtain ⟨fs, hr, hrun, hended, hW, hsame⟩ := X'.leave (v := some (.int (Int32.ofNat k))) (fun h => by rw [Bd.returns] at h; cases h) (BodyLoose.notSynchronized Bd)
  refine ⟨_, _, ?_, hP _ _ ⟨hrun, hended, _, _, rfl, ?_, ⟨_, rfl⟩, hW, hsame.mono (by decide) (by decide)⟩⟩
  ·exact retI X' hx Bd.returns (hb hby dc20_24) hr
  ·exact ⟨by rw [hv], N', e'⟩
 ·
  show Go _ _ _ (T'.setTop (mkF mi 7 #[.val (.ref b), .val (.int c), .val (.int (Int32.ofNat F)), .val (.int n), .val (.int cb), .val (.int n)] [])) _
  refine g_iload X' hx hby dc20_7 rfl ?_
  refine g_iloadN X' hx hby dc20_9 rfl ?_
  refine g_icmpYes X' hx hby dc20_10 (flt Int32.lt_irrefl).2.1 (pc0 := 10) (pc' := 31) rfl (by decide) (by decide) ?_
  refine g_iconst X' hx hby dc20_31 (v := (-1)) rfl ?_
  obtain ⟨fs, hr, hrun, hended, hW, hsame⟩ := X'.leave (v := some (.int (-1))) (fun h => by rw [Bd.returns] at h; cases h) (BodyLoose.notSynchronized Bd)
  refine ⟨_, _, ?_, hP _ _ ⟨hrun, hended, _, _, rfl, ?_, ⟨_, rfl⟩, hW, hsame.mono (by decide) (by decide)⟩⟩
  ·exact retI X' hx Bd.returns (hb hby dc20_32) hr
  ·exact ⟨by rw [hv], N', e'⟩
theorem dc21_0 : Dk zb21 0 (.iload_n 1) 1 := by decide +kernel
theorem dc21_1 : Dk zb21 1 (.invokestatic 88) 3 := by decide +kernel
theorem pd_10 : parseMethodDescriptor "(I)Z" = some ⟨[.int], some .boolean⟩ := by decide +kernel
theorem dc21_4 : Dk zb21 4 (.ifCond .ne 5) 3 := by decide +kernel
theorem dc21_9 : Dk zb21 9 (.iload_n 2) 1 := by decide +kernel
theorem dc21_10 : Dk zb21 10 (.iconst 0) 1 := by decide +kernel
theorem dc21_11 : Dk zb21 11 (.invokestatic 92) 3 := by decide +kernel
theorem pd_11 : parseMethodDescriptor "(II)I" = some ⟨[.int, .int], some .int⟩ := by decide +kernel
theorem dc21_14 : Dk zb21 14 (.istore_n 2) 1 := by decide +kernel
theorem dc21_15 : Dk zb21 15 (.iload_n 3) 1 := by decide +kernel
theorem dc21_16 : Dk zb21 16 (.aload_n 0) 1 := by decide +kernel
theorem dc21_17 : Dk zb21 17 .arraylength 1 := by decide +kernel
theorem dc21_18 : Dk zb21 18 (.invokestatic 38) 3 := by decide +kernel
theorem dc21_21 : Dk zb21 21 (.istore_n 3) 1 := by decide +kernel
theorem dc21_22 : Dk zb21 22 (.iload_n 2) 1 := by decide +kernel
theorem dc21_23 : Dk zb21 23 (.iload_n 3) 1 := by decide +kernel
theorem dc21_24 : Dk zb21 24 (.if_icmp .lt 5) 3 := by decide +kernel
theorem dc21_29 : Dk zb21 29 (.aload_n 0) 1 := by decide +kernel
theorem dc21_30 : Dk zb21 30 (.iload_n 1) 1 := by decide +kernel
theorem dc21_31 : Dk zb21 31 (.iload_n 2) 1 := by decide +kernel
theorem dc21_32 : Dk zb21 32 (.iload_n 3) 1 := by decide +kernel
theorem dc21_33 : Dk zb21 33 (.invokestatic 95) 3 := by decide +kernel
theorem pd_12 : parseMethodDescriptor "([BIII)I" = some ⟨[(.array .byte), .int, .int, .int], some .int⟩ := by decide +kernel
theorem dc21_36 : Dk zb21 36 .ireturn 1 := by decide +kernel
theorem dc21_27 : Dk zb21 27 (.iconst (-1)) 1 := by decide +kernel
theorem dc21_28 : Dk zb21 28 .ireturn 1 := by decide +kernel
theorem ef_rmLI (mi : MethodId) (b : Addr) (c : Int32) (n : Int32) (F : Nat) : entryFrame mi #[(.ref b), (.int c), (.int (Int32.ofNat F)), (.int n)] 4 = mkF mi 0 #[.val (.ref b), .val (.int c), .val (.int (Int32.ofNat F)), .val (.int n)] [] := by first | (simp [entryFrame, mkF, argsToLocals, Value.category]; done) | rfl
theorem rmLI (l : Launch) (Z : State) (a0 : Array Value) (hw : Tb Z a0) (ws : List Jvm.Cond) (b : Addr) (c : Int32) (n : Int32) (F : Nat) (cb : Int32) (kb : ClassId) (E : List Int32) (h0 : Heap) (n0 : Nat) (Z0 : n0 ≤ h0.size) (SAr : Arv Z h0 b kb .byte n (E.map Value.int) (.int (0 : Int32))) (hE : E.length ≤ 100) (hn : n.toInt = E.length) (hF : F ≤ E.length) (hcb : c.toInt8.toInt32 = cb) (hc0 : ¬ (c < (0 : Int32))) (hc1 : ¬ ((255 : Int32) < c)) :
  Mt l Z zy21 zb21 4 (some .int) ws zR16 #[(.ref b), (.int c), (.int (Int32.ofNat F)), (.int n)] h0 (QP (some (.int (ix E cb F))) h0 n0) := by
 refine MetFree.of_bodySF (plainFor_of_name pn_2) hisR ?_
 intro pg ev si mi args below meth ci s₁ Bd hml0 hP0 hK
 obtain ⟨rfl, hZ, hh⟩ := hP0
 have hx := Bd.exec
 have hby := Bd.bytes
 have hml : ci.maxLocals = 4 := hml0
 have hown : si.vm.findClass "java/lang/StringLatin1" = some mi.cls := findClass_of_methodNamed Bd.named
 have hnm := (name_of_methodNamed Bd.named Bd.method).1
 have X0 : Stand pg l ev zR16 si mi #[(.ref b), (.int c), (.int (Int32.ofNat F)), (.int n)] below meth ci s₁ [] 0 0 := Stand.of_body Bd
 have e0 : s₁.heap = h0 := by rw [← hh, Bd.state]; rfl
 have N0 := Fr.nil n0
 refine Go.start (fun P hP => ?_)
 refine Go.st (fun t_ k_ => castTop (ef_rmLI mi b c n F) k_) (A := s₁.setTop (mkF mi 0 #[.val (.ref b), .val (.int c), .val (.int (Int32.ofNat F)), .val (.int n)] [])) ?_
 refine g_iloadN X0 hx hby dc21_0 rfl ?_
 obtain ⟨_, _, ⟨T1, L1, k1, n1⟩, -, X1, ⟨Lc1, hQ1, l1, y1, z1⟩, st1⟩ := Jvm.LawKit.callS X0 hx (y := zy9) hown (mvT hZ (hw _ (own_m 75 rfl))) (mvT hZ (hw _ (own_m 76 rfl))) (mvT hZ (hw _ (own_m 73 rfl))) (mvT hZ (hw _ (own_m 77 rfl))) (by decide) (backOf (W := 0) (rmCan l Z a0 hw [] c h0 n0 Z0) hZ (hw _ (own_m 77 rfl)) (hw _ (own_m 73 rfl)) (by decide) (by decide)) (g := (mkF mi 1 #[.val (.ref b), .val (.int c), .val (.int (Int32.ofNat F)), .val (.int n)] [(.int c)])) rfl (by rw [hml]; rfl) (argsL := [(.int c)]) (rest := []) (lenOf pd_10 rfl) rfl (by show 2 * 0 + _ ≤ _; exact Nat.le_of_eq rfl) (hb hby dc21_1) (fun _ _ => ⟨rfl, e0, (by decide : 0 + 0 ≤ _), (by decide : 0 + 0 ≤ _)⟩)
 dsimp only [Pt.U, Pt.locs, Pt.cells, Pt.slots] at X1 l1 y1 z1 st1 hQ1
 subst y1 z1
 have X1 := own_cs X1 (cells' := 0) (slots' := 0) rfl rfl
 obtain ⟨rfl, N1q, e1⟩ := hQ1
 have N1 := own_fr l1 (Fr.app N0 N1q)
 refine Go.st st1 ?_
 show Go _ _ _ (T1.setTop (mkF mi 4 #[.val (.ref b), .val (.int c), .val (.int (Int32.ofNat F)), .val (.int n)] [(.int (fCan c))])) _
 rw [own_can1 hc0 hc1]
 show Go _ _ _ (T1.setTop (mkF mi 4 #[.val (.ref b), .val (.int c), .val (.int (Int32.ofNat F)), .val (.int n)] [(.int 1)])) _
 refine g_ifYes X1 hx hby dc21_4 ((if0 _ _).trans (feq (by decide)).2) (pc0 := 4) (pc' := 9) rfl (by decide) (by decide) ?_
 refine g_iloadN X1 hx hby dc21_9 rfl ?_
 refine g_iconst X1 hx hby dc21_10 (v := 0) rfl ?_
 obtain ⟨_, _, ⟨T2, L2, k2, n2⟩, -, X2, ⟨Lc2, hQ2, l2, y2, z2⟩, st2⟩ := Jvm.LawKit.callS X1 hx (y := zy7) hown (mvT hZ (hw _ (own_m 78 rfl))) (mvT hZ (hw _ (own_m 79 rfl))) (mvT hZ (hw _ (own_m 80 rfl))) (mvT hZ (hw _ (own_m 81 rfl))) (by decide) (backOf (W := 0) (rmMax l Z a0 hw [] (Int32.ofNat F) (0 : Int32) h0 n0 Z0) hZ (hw _ (own_m 81 rfl)) (hw _ (own_m 80 rfl)) (by decide) (by decide)) (g := (mkF mi 11 #[.val (.ref b), .val (.int c), .val (.int (Int32.ofNat F)), .val (.int n)] [(.int 0), (.int (Int32.ofNat F))])) rfl (by rw [hml]; rfl) (argsL := [(.int (Int32.ofNat F)), (.int 0)]) (rest := []) (lenOf pd_11 rfl) rfl (by show 2 * 0 + _ ≤ _; exact Nat.le_of_eq rfl) (hb hby dc21_11) (fun _ _ => ⟨rfl, e1, (by decide : 0 + 0 ≤ _), (by decide : 0 + 0 ≤ _)⟩)
 dsimp only [Pt.U, Pt.locs, Pt.cells, Pt.slots] at X2 l2 y2 z2 st2 hQ2
 subst y2 z2
 have X2 := own_cs X2 (cells' := 0) (slots' := 0) rfl rfl
 obtain ⟨rfl, N2q, e2⟩ := hQ2
 have N2 := own_fr l2 (Fr.app N1 N2q)
 refine Go.st st2 ?_
 show Go _ _ _ (T2.setTop (mkF mi 14 #[.val (.ref b), .val (.int c), .val (.int (Int32.ofNat F)), .val (.int n)] [(.int (fMax (Int32.ofNat F) (0 : Int32)))])) _
 rw [own_max0 (by omega)]
 show Go _ _ _ (T2.setTop (mkF mi 14 #[.val (.ref b), .val (.int c), .val (.int (Int32.ofNat F)), .val (.int n)] [(.int (Int32.ofNat F))])) _
 refine g_istoreN X2 hx hby dc21_14 (l' := #[.val (.ref b), .val (.int c), .val (.int (Int32.ofNat F)), .val (.int n)]) rfl ?_
 refine g_iloadN X2 hx hby dc21_15 rfl ?_
 refine g_aloadN X2 hx hby dc21_16 rfl rfl ?_
 have ov3 := SAr
 obtain ⟨cl3, Ar3, q3, S3, M3, H3, G3⟩ := ov3
 refine Go.st (X2.arraylength hx (by rw [e2]; exact Ar3.1) (State.isArrayOf_alike hZ.alike Ar3.2.1) (g := (mkF mi 17 #[.val (.ref b), .val (.int c), .val (.int (Int32.ofNat F)), .val (.int n)] [(.ref b), (.int n)])) rfl rfl (hb hby dc21_17)) ?_
 rw [len_of S3 M3]
 obtain ⟨_, _, ⟨T4, L4, k4, n4⟩, -, X4, ⟨Lc4, hQ4, l4, y4, z4⟩, st4⟩ := Jvm.LawKit.callS X2 hx (y := zy8) hown (mvT hZ (hw _ (own_m 82 rfl))) (mvT hZ (hw _ (own_m 83 rfl))) (mvT hZ (hw _ (own_m 80 rfl))) (mvT hZ (hw _ (own_m 84 rfl))) (by decide) (backOf (W := 0) (rmMin l Z a0 hw [] n n h0 n0 Z0) hZ (hw _ (own_m 84 rfl)) (hw _ (own_m 80 rfl)) (by decide) (by decide)) (g := (mkF mi 18 #[.val (.ref b), .val (.int c), .val (.int (Int32.ofNat F)), .val (.int n)] [(.int n), (.int n)])) rfl (by rw [hml]; rfl) (argsL := [(.int n), (.int n)]) (rest := []) (lenOf pd_11 rfl) rfl (by show 2 * 0 + _ ≤ _; exact Nat.le_of_eq rfl) (hb hby dc21_18) (fun _ _ => ⟨rfl, e2, (by decide : 0 + 0 ≤ _), (by decide : 0 + 0 ≤ _)⟩)
 dsimp only [Pt.U, Pt.locs, Pt.cells, Pt.slots] at X4 l4 y4 z4 st4 hQ4
 subst y4 z4
 have X4 := own_cs X4 (cells' := 0) (slots' := 0) rfl rfl
 obtain ⟨rfl, N4q, e4⟩ := hQ4
 have N4 := own_fr l4 (Fr.app N2 N4q)
 refine Go.st st4 ?_
 show Go _ _ _ (T4.setTop (mkF mi 21 #[.val (.ref b), .val (.int c), .val (.int (Int32.ofNat F)), .val (.int n)] [(.int (fMin n n))])) _
 rw [own_minn n]
 show Go _ _ _ (T4.setTop (mkF mi 21 #[.val (.ref b), .val (.int c), .val (.int (Int32.ofNat F)), .val (.int n)] [(.int n)])) _
 refine g_istoreN X4 hx hby dc21_21 (l' := #[.val (.ref b), .val (.int c), .val (.int (Int32.ofNat F)), .val (.int n)]) rfl ?_
 refine g_iloadN X4 hx hby dc21_22 rfl ?_
 refine g_iloadN X4 hx hby dc21_23 rfl ?_
 by_cases hc24_1 : (Int32.ofNat F) < n
 ·refine g_icmpYes X4 hx hby dc21_24 (tlt hc24_1).1 (pc0 := 24) (pc' := 29) rfl (by decide) (by decide) ?_
  refine g_aloadN X4 hx hby dc21_29 rfl rfl ?_
  refine g_iloadN X4 hx hby dc21_30 rfl ?_
  refine g_iloadN X4 hx hby dc21_31 rfl ?_
  refine g_iloadN X4 hx hby dc21_32 rfl ?_
  obtain ⟨_, _, ⟨T5, L5, k5, n5⟩, -, X5, ⟨Lc5, hQ5, l5, y5, z5⟩, st5⟩ := Jvm.LawKit.callS X4 hx (y := zy20) hown (mvT hZ (hw _ (own_m 85 rfl))) (mvT hZ (hw _ (own_m 86 rfl))) (mvT hZ (hw _ (own_m 73 rfl))) (mvT hZ (hw _ (own_m 87 rfl))) (by decide) (backOf (W := 0) (rmIC l Z a0 hw [] b c n F cb kb E h0 n0 Z0 SAr hE hn hF hcb) hZ (hw _ (own_m 87 rfl)) (hw _ (own_m 73 rfl)) (by decide) (by decide)) (g := (mkF mi 33 #[.val (.ref b), .val (.int c), .val (.int (Int32.ofNat F)), .val (.int n)] [(.int n), (.int (Int32.ofNat F)), (.int c), (.ref b)])) rfl (by rw [hml]; rfl) (argsL := [(.ref b), (.int c), (.int (Int32.ofNat F)), (.int n)]) (rest := []) (lenOf pd_12 rfl) rfl (by show 2 * 0 + _ ≤ _; exact Nat.le_of_eq rfl) (hb hby dc21_33) (fun _ _ => ⟨rfl, e4, (by decide : 0 + 0 ≤ _), (by decide : 0 + 0 ≤ _)⟩)
  dsimp only [Pt.U, Pt.locs, Pt.cells, Pt.slots] at X5 l5 y5 z5 st5 hQ5
  subst y5 z5
  have X5 := own_cs X5 (cells' := 0) (slots' := 0) rfl rfl
  obtain ⟨rfl, N5q, e5⟩ := hQ5
  have N5 := own_fr l5 (Fr.app N4 N5q)
  refine Go.st st5 ?_
  obtain ⟨fs, hr, hrun, hended, hW, hsame⟩ := X5.leave (v := some (.int (ix E cb F))) (fun h => by rw [Bd.returns] at h; cases h) (BodyLoose.notSynchronized Bd)
  refine ⟨_, _, ?_, hP _ _ ⟨hrun, hended, _, _, rfl, ?_, ⟨_, rfl⟩, hW, hsame.mono (by decide) (by decide)⟩⟩
  ·exact retI X5 hx Bd.returns (hb hby dc21_36) hr
  ·exact ⟨rfl, N5, e5⟩
 ·refine g_icmpNo X4 hx hby dc21_24 (flt hc24_1).1 ?_
  refine g_iconst X4 hx hby dc21_27 (v := (-1)) rfl ?_
  obtain ⟨fs, hr, hrun, hended, hW, hsame⟩ := X4.leave (v := some (.int (-1))) (fun h => by rw [Bd.returns] at h; cases h) (BodyLoose.notSynchronized Bd)
  refine ⟨_, _, ?_, hP _ _ ⟨hrun, hended, _, _, rfl, ?_, ⟨_, rfl⟩, hW, hsame.mono (by decide) (by decide)⟩⟩
  ·exact retI X4 hx Bd.returns (hb hby dc21_28) hr
  ·exact ⟨(by rw [ix_end (fun q => hc24_1 (by rw [Int32.lt_iff_toInt_lt, own_ofN (by omega), hn]; omega))]), N4, e4⟩
theorem dc22_0 : Dk zb22 0 (.aload_n 0) 1 := by decide +kernel
theorem dc22_1 : Dk zb22 1 (.invokevirtual 492) 3 := by decide +kernel
theorem dc22_4 : Dk zb22 4 (.ifCond .eq 19) 3 := by decide +kernel
theorem dc22_7 : Dk zb22 7 (.aload_n 0) 1 := by decide +kernel
theorem dc22_8 : Dk zb22 8 (.getfield 9) 3 := by decide +kernel
theorem dc22_11 : Dk zb22 11 (.iload_n 1) 1 := by decide +kernel
theorem dc22_12 : Dk zb22 12 (.iload_n 2) 1 := by decide +kernel
theorem dc22_13 : Dk zb22 13 (.aload_n 0) 1 := by decide +kernel
theorem dc22_14 : Dk zb22 14 (.invokevirtual 505) 3 := by decide +kernel
theorem pd_13 : parseMethodDescriptor "()I" = some ⟨[], some .int⟩ := by decide +kernel
theorem dc22_17 : Dk zb22 17 (.invokestatic 637) 3 := by decide +kernel
theorem dc22_20 : Dk zb22 20 (.goto 16) 3 := by decide +kernel
theorem dc22_36 : Dk zb22 36 .ireturn 1 := by decide +kernel
theorem ef_rmI2 (mi : MethodId) (o : Addr) (c : Int32) (F : Nat) : entryFrame mi #[(.ref o), (.int c), (.int (Int32.ofNat F))] 3 = mkF mi 0 #[.val (.ref o), .val (.int c), .val (.int (Int32.ofNat F))] [] := by first | (simp [entryFrame, mkF, argsToLocals, Value.category]; done) | rfl
theorem rmI2 (l : Launch) (Z : State) (a0 : Array Value) (hw : Tb Z a0) (ws : List Jvm.Cond) (o : Addr) (c : Int32) (F : Nat) (b : Addr) (kb : ClassId) (n : Int32) (E : List Int32) (cb : Int32) (cz : Int32) (h0 : Heap) (n0 : Nat) (Z0 : n0 ≤ h0.size) (SE : Exa Z h0 o "java/lang/String") (SCo : Fld Z h0 o "java/lang/String" "coder" "B" (.int (0 : Int32))) (SVa : Fld Z h0 o "java/lang/String" "value" "[B" (.ref b)) (SAr : Arv Z h0 b kb .byte n (E.map Value.int) (.int (0 : Int32))) (SEb : Exa Z h0 b "[B") (SC : Sta Z h0 "java/lang/String" "COMPACT_STRINGS" "Z" (.int cz)) (hcz : ¬ (cz = (0 : Int32))) (hE : E.length ≤ 100) (hn : n.toInt = E.length) (hcb : c.toInt8.toInt32 = cb) (hc0 : ¬ (c < (0 : Int32))) (hc1 : ¬ ((255 : Int32) < c)) (hF : F ≤ E.length) :
  Mt l Z zy22 zb22 3 (some .int) ws zR17 #[(.ref o), (.int c), (.int (Int32.ofNat F))] h0 (QP (some (.int (ix E cb F))) h0 n0) := by
 refine MetFree.of_bodySF (plainFor_of_name pn_0) hisR ?_
 intro pg ev si mi args below meth ci s₁ Bd hml0 hP0 hK
 obtain ⟨rfl, hZ, hh⟩ := hP0
 have hx := Bd.exec
 have hby := Bd.bytes
 have hml : ci.maxLocals = 3 := hml0
 have hown : si.vm.findClass "java/lang/String" = some mi.cls := findClass_of_methodNamed Bd.named
 have hnm := (name_of_methodNamed Bd.named Bd.method).1
 have X0 : Stand pg l ev zR17 si mi #[(.ref o), (.int c), (.int (Int32.ofNat F))] below meth ci s₁ [] 0 0 := Stand.of_body Bd
 have e0 : s₁.heap = h0 := by rw [← hh, Bd.state]; rfl
 have N0 := Fr.nil n0
 refine Go.start (fun P hP => ?_)
 refine Go.st (fun t_ k_ => castTop (ef_rmI2 mi o c F) k_) (A := s₁.setTop (mkF mi 0 #[.val (.ref o), .val (.int c), .val (.int (Int32.ofNat F))] [])) ?_
 refine g_aloadN X0 hx hby dc22_0 rfl rfl ?_
 obtain ⟨cq1, kq1, q1a, q1b, q1c⟩ := isOf hZ e0 SE
 obtain ⟨_, _, ⟨T1, L1, k1, n1⟩, -, X1, ⟨Lc1, hQ1, l1, y1, z1⟩, st1⟩ := X0.virtualBack hx (y := zy2) (z := zy2) hown (mvT hZ (hw _ (own_m 56 rfl))) (mvT hZ (hw _ (own_m 57 rfl))) (notFace_of_selects (args := #[]) (mvT hZ (hw _ (own_m 59 rfl)))) (mvT hZ (hw _ (own_m 59 rfl))) (mvT hZ (hw _ (own_m 58 rfl))) (by decide) (backOf (W := 0) (rmL1 l Z a0 hw [] o cz h0 n0 Z0 SCo SC hcz) hZ (hw _ (own_m 60 rfl)) (hw _ (own_m 9 rfl)) (by decide) (by decide)) q1a q1c (g := (mkF mi 1 #[.val (.ref o), .val (.int c), .val (.int (Int32.ofNat F))] [(.ref o)])) rfl (by rw [hml]; rfl) (Steps.refl _) (argsL := []) (rest := []) (lenOf pd_3 rfl) rfl (by show 2 * 0 + _ ≤ _; exact Nat.le_of_eq rfl) (hb hby dc22_1) (fun _ _ => ⟨rfl, e0, (by decide : 0 + 0 ≤ _), (by decide : 0 + 0 ≤ _)⟩)
 dsimp only [Pt.U, Pt.locs, Pt.cells, Pt.slots] at X1 l1 y1 z1 st1 hQ1
 subst y1 z1
 have X1 := own_cs X1 (cells' := 0) (slots' := 0) rfl rfl
 obtain ⟨rfl, N1q, e1⟩ := hQ1
 have N1 := own_fr l1 (Fr.app N0 N1q)
 refine Go.tr st1 ?_
 refine g_ifNo X1 hx hby dc22_4 ((if0 _ _).trans (feq (by decide)).1) ?_
 refine g_aloadN X1 hx hby dc22_7 rfl rfl ?_
 obtain ⟨T2, X2, e2, st2⟩ := getF X1 hx hZ hown (host := "") (Or.inl (hw _ (own_m 35 rfl))) Via.refl e1 SVa (g := (mkF mi 8 #[.val (.ref o), .val (.int c), .val (.int (Int32.ofNat F))] [(.ref o)])) rfl rfl (hb hby dc22_8)
 refine Go.st st2 ?_
 refine g_iloadN X2 hx hby dc22_11 rfl ?_
 refine g_iloadN X2 hx hby dc22_12 rfl ?_
 refine g_aloadN X2 hx hby dc22_13 rfl rfl ?_
 obtain ⟨cq3, kq3, q3a, q3b, q3c⟩ := isOf hZ e2 SE
 obtain ⟨_, _, ⟨T3, L3, k3, n3⟩, -, X3, ⟨Lc3, hQ3, l3, y3, z3⟩, st3⟩ := X2.virtualBack hx (y := zy1) (z := zy1) hown (mvT hZ (hw _ (own_m 61 rfl))) (mvT hZ (hw _ (own_m 62 rfl))) (notFace_of_selects (args := #[]) (mvT hZ (hw _ (own_m 64 rfl)))) (mvT hZ (hw _ (own_m 64 rfl))) (mvT hZ (hw _ (own_m 63 rfl))) (by decide) (backOf (W := 3) (rmLn l Z a0 hw [] o b kb n E cz h0 n0 Z0 SE SCo SVa SAr SEb SC hcz) hZ (hw _ (own_m 65 rfl)) (hw _ (own_m 9 rfl)) (by decide) (by decide)) q3a q3c (g := (mkF mi 14 #[.val (.ref o), .val (.int c), .val (.int (Int32.ofNat F))] [(.ref o), (.int (Int32.ofNat F)), (.int c), (.ref b)])) rfl (by rw [hml]; rfl) (Steps.refl _) (argsL := []) (rest := [(.int (Int32.ofNat F)), (.int c), (.ref b)]) (lenOf pd_13 rfl) rfl (by show 2 * 0 + _ ≤ _; exact Nat.le_of_eq rfl) (hb hby dc22_14) (fun _ _ => ⟨rfl, e2, (by decide : 0 + 0 ≤ _), (by decide : 0 + 0 ≤ _)⟩)
 dsimp only [Pt.U, Pt.locs, Pt.cells, Pt.slots] at X3 l3 y3 z3 st3 hQ3
 subst y3 z3
 have X3 := own_cs X3 (cells' := 0) (slots' := 0) rfl rfl
 obtain ⟨rfl, N3q, e3⟩ := hQ3
 have N3 := own_fr l3 (Fr.app N1 N3q)
 refine Go.tr st3 ?_
 obtain ⟨_, _, ⟨T4, L4, k4, n4⟩, -, X4, ⟨Lc4, hQ4, l4, y4, z4⟩, st4⟩ := Jvm.LawKit.callS X3 hx (y := zy21) hown (mvT hZ (hw _ (own_m 71 rfl))) (mvT hZ (hw _ (own_m 72 rfl))) (mvT hZ (hw _ (own_m 73 rfl))) (mvT hZ (hw _ (own_m 74 rfl))) (by decide) (backOf (W := 0) (rmLI l Z a0 hw [] b c n F cb kb E h0 n0 Z0 SAr hE hn hF hcb hc0 hc1) hZ (hw _ (own_m 74 rfl)) (hw _ (own_m 73 rfl)) (by decide) (by decide)) (g := (mkF mi 17 #[.val (.ref o), .val (.int c), .val (.int (Int32.ofNat F))] [(.int n), (.int (Int32.ofNat F)), (.int c), (.ref b)])) rfl (by rw [hml]; rfl) (argsL := [(.ref b), (.int c), (.int (Int32.ofNat F)), (.int n)]) (rest := []) (lenOf pd_12 rfl) rfl (by show 2 * 0 + _ ≤ _; exact Nat.le_of_eq rfl) (hb hby dc22_17) (fun _ _ => ⟨rfl, e3, (by decide : 0 + 0 ≤ _), (by decide : 0 + 0 ≤ _)⟩)
 dsimp only [Pt.U, Pt.locs, Pt.cells, Pt.slots] at X4 l4 y4 z4 st4 hQ4
 subst y4 z4
 have X4 := own_cs X4 (cells' := 0) (slots' := 0) rfl rfl
 obtain ⟨rfl, N4q, e4⟩ := hQ4
 have N4 := own_fr l4 (Fr.app N3 N4q)
 refine Go.st st4 ?_
 refine g_goto X4 hx hby dc22_20 (pc0 := 20) (pc' := 36) rfl (by decide) (by decide) ?_
 obtain ⟨fs, hr, hrun, hended, hW, hsame⟩ := X4.leave (v := some (.int (ix E cb F))) (fun h => by rw [Bd.returns] at h; cases h) (BodyLoose.notSynchronized Bd)
 refine ⟨_, _, ?_, hP _ _ ⟨hrun, hended, _, _, rfl, ?_, ⟨_, rfl⟩, hW, hsame.mono (by decide) (by decide)⟩⟩
 ·exact retI X4 hx Bd.returns (hb hby dc22_36) hr
 ·exact ⟨rfl, N4, e4⟩
theorem dc23_0 : Dk zb23 0 (.aload_n 0) 1 := by decide +kernel
theorem dc23_1 : Dk zb23 1 (.iload_n 1) 1 := by decide +kernel
theorem dc23_2 : Dk zb23 2 (.iconst 0) 1 := by decide +kernel
theorem dc23_3 : Dk zb23 3 (.invokevirtual 633) 3 := by decide +kernel
theorem dc23_6 : Dk zb23 6 .ireturn 1 := by decide +kernel
theorem ef_rmI1 (mi : MethodId) (o : Addr) (c : Int32) : entryFrame mi #[(.ref o), (.int c)] 2 = mkF mi 0 #[.val (.ref o), .val (.int c)] [] := by first | (simp [entryFrame, mkF, argsToLocals, Value.category]; done) | rfl
theorem rmI1 (l : Launch) (Z : State) (a0 : Array Value) (hw : Tb Z a0) (ws : List Jvm.Cond) (o : Addr) (c : Int32) (b : Addr) (kb : ClassId) (n : Int32) (E : List Int32) (cb : Int32) (cz : Int32) (h0 : Heap) (n0 : Nat) (Z0 : n0 ≤ h0.size) (SE : Exa Z h0 o "java/lang/String") (SCo : Fld Z h0 o "java/lang/String" "coder" "B" (.int (0 : Int32))) (SVa : Fld Z h0 o "java/lang/String" "value" "[B" (.ref b)) (SAr : Arv Z h0 b kb .byte n (E.map Value.int) (.int (0 : Int32))) (SEb : Exa Z h0 b "[B") (SC : Sta Z h0 "java/lang/String" "COMPACT_STRINGS" "Z" (.int cz)) (hcz : ¬ (cz = (0 : Int32))) (hE : E.length ≤ 100) (hn : n.toInt = E.length) (hcb : c.toInt8.toInt32 = cb) (hc0 : ¬ (c < (0 : Int32))) (hc1 : ¬ ((255 : Int32) < c)) :
  Mt l Z zy23 zb23 2 (some .int) ws zR18 #[(.ref o), (.int c)] h0 (QP (some (.int (ix E cb 0))) h0 n0) := by
 refine MetFree.of_bodySF (plainFor_of_name pn_0) hisR ?_
 intro pg ev si mi args below meth ci s₁ Bd hml0 hP0 hK
 obtain ⟨rfl, hZ, hh⟩ := hP0
 have hx := Bd.exec
 have hby := Bd.bytes
 have hml : ci.maxLocals = 2 := hml0
 have hown : si.vm.findClass "java/lang/String" = some mi.cls := findClass_of_methodNamed Bd.named
 have hnm := (name_of_methodNamed Bd.named Bd.method).1
 have X0 : Stand pg l ev zR18 si mi #[(.ref o), (.int c)] below meth ci s₁ [] 0 0 := Stand.of_body Bd
 have e0 : s₁.heap = h0 := by rw [← hh, Bd.state]; rfl
 have N0 := Fr.nil n0
 refine Go.start (fun P hP => ?_)
 refine Go.st (fun t_ k_ => castTop (ef_rmI1 mi o c) k_) (A := s₁.setTop (mkF mi 0 #[.val (.ref o), .val (.int c)] [])) ?_
 refine g_aloadN X0 hx hby dc23_0 rfl rfl ?_
 refine g_iloadN X0 hx hby dc23_1 rfl ?_
 refine g_iconst X0 hx hby dc23_2 (v := 0) rfl ?_
 obtain ⟨cq1, kq1, q1a, q1b, q1c⟩ := isOf hZ e0 SE
 obtain ⟨_, _, ⟨T1, L1, k1, n1⟩, -, X1, ⟨Lc1, hQ1, l1, y1, z1⟩, st1⟩ := X0.virtualBack hx (y := zy22) (z := zy22) hown (mvT hZ (hw _ (own_m 51 rfl))) (mvT hZ (hw _ (own_m 52 rfl))) (notFace_of_selects (args := #[]) (mvT hZ (hw _ (own_m 54 rfl)))) (mvT hZ (hw _ (own_m 54 rfl))) (mvT hZ (hw _ (own_m 53 rfl))) (by decide) (backOf (W := 0) (rmI2 l Z a0 hw [] o c 0 b kb n E cb cz h0 n0 Z0 SE SCo SVa SAr SEb SC hcz hE hn hcb hc0 hc1 (Nat.zero_le _)) hZ (hw _ (own_m 55 rfl)) (hw _ (own_m 9 rfl)) (by decide) (by decide)) q1a q1c (g := (mkF mi 3 #[.val (.ref o), .val (.int c)] [(.int 0), (.int c), (.ref o)])) rfl (by rw [hml]; rfl) (Steps.refl _) (argsL := [(.int c), (.int 0)]) (rest := []) (lenOf pd_11 rfl) rfl (by show 2 * 0 + _ ≤ _; exact Nat.le_of_eq rfl) (hb hby dc23_3) (fun _ _ => ⟨rfl, e0, (by decide : 0 + 0 ≤ _), (by decide : 0 + 0 ≤ _)⟩)
 dsimp only [Pt.U, Pt.locs, Pt.cells, Pt.slots] at X1 l1 y1 z1 st1 hQ1
 subst y1 z1
 have X1 := own_cs X1 (cells' := 0) (slots' := 0) rfl rfl
 obtain ⟨rfl, N1q, e1⟩ := hQ1
 have N1 := own_fr l1 (Fr.app N0 N1q)
 refine Go.tr st1 ?_
 obtain ⟨fs, hr, hrun, hended, hW, hsame⟩ := X1.leave (v := some (.int (ix E cb 0))) (fun h => by rw [Bd.returns] at h; cases h) (BodyLoose.notSynchronized Bd)
 refine ⟨_, _, ?_, hP _ _ ⟨hrun, hended, _, _, rfl, ?_, ⟨_, rfl⟩, hW, hsame.mono (by decide) (by decide)⟩⟩
 ·exact retI X1 hx Bd.returns (hb hby dc23_6) hr
 ·exact ⟨rfl, N1, e1⟩
theorem own_rb {p : Program} {l : Launch} {e : Env} {R : Room} {s : State} {m : MethodId} {args : Array Value} {below : List Frame} {meth : Method} {c : Code} {T : State} {locs : List Loc} {cells slots : Nat} (X : Stand p l e R s m args below meth c T locs cells slots) : Stand p l e R (s.setVm s.vm) m args below meth c T locs cells slots := X
theorem own_chr {Z s T : State} {EL : List (String × Nat)} {h0 h : Heap} (hh : s.heap = h0) (e : T.heap = h) (q : CHr Z EL s.vm h0 T.vm h) : CHr Z EL s.vm s.heap T.vm T.heap := by rw [hh, e]; exact q
theorem own_exB {Z s : State} {EL : List (String × Nat)} {vm : Vm} {h : Heap} {own text : String} {index : Nat} {a b : Addr} {k : ClassId} {z : Int32} {vs : List Value} {dv : Value} {a0 : Array Value} (hZ : Z.Warmed39 vm) (w : (Cond.stringLink own index text).before a0 Z = true) (hmem : (own, index) ∈ EL) (H : CHv Z EL vm h) (L : Lit (s.setVm vm) own index a) (F : Fld Z h a "java/lang/String" "value" "[B" (.ref b)) (A : Arv Z h b k .byte z vs dv) : Exa Z h b "[B" := by
 have w2 : (Cond.stringLink own index text).before a0 (Wst Z vm h) = true := mvS (s := { Z with heap := h }) hZ w
 have q : (s.setVm vm).resolvedAt? own index = some (.string a) := L
 cases hf : vm.findClass own with
 | none => simp [State.resolvedAt?, hf] at q
 | some c =>
  obtain ⟨k0, cf, i, units, hk, hcf, hp, hu, -, -, -⟩ := Cond.stringLink_spec (s := Wst Z vm h) (show (Wst Z vm h).vm.findClass own = some c from hf) w2
  have hk' : vm.classes[c]? = some k0 := hk
  have hres : k0.resolved[index]? = some (some (.string a)) := by
   simp [State.resolvedAt?, hf, hk'] at q
   rcases hr : k0.resolved[index]? with _ | _ | r
   ·rw [hr] at q; cases q
   ·rw [hr] at q; cases q
   ·rw [hr] at q; simpa using q
  obtain ⟨sq, hq, G⟩ := SlB.of (H _ hmem units a ⟨c, k0, cf, i, hf, hk', hcf, hp, hu, Or.inl hres⟩)
  obtain ⟨cS, ⟨⟨s1, -, -, ⟨cv, kv, iv, s4, -⟩, -, -, -, s8, -, s10, -⟩, -⟩, -, hB, -⟩ := G
  subst hq
  obtain ⟨cell, cf', k', i', f', f1, f2, -, -, -, -, f7⟩ := F
  cases (show h[sq.sa]? = some sq.sC from s1).symm.trans f1
  obtain ⟨kv', z4⟩ := ff_back (U := Wst Z vm h) hZ.alike s4
  have e := z4.symm.trans f2
  simp only [Option.some.injEq, Prod.mk.injEq] at e
  rw [← e.2.2.2, s8] at f7
  have eb : sq.sd = b := by simpa using f7
  subst eb
  obtain ⟨c2, A2, -⟩ := A
  cases (show h[sq.sd]? = some sq.SA from s10).symm.trans A2.1
  obtain ⟨a1, ⟨-, kA, hkA, comp, hkind⟩, -⟩ := id A2
  exact ⟨_, kA, a1, (hZ.alike.findClass _ _).symm.trans (show vm.findClass "[B" = _ from hB), hkA, A2.plain, fun q => by rw [hkind] at q; cases q⟩
def own_EL : List (String × Nat) := [("com/example/corduroy/corduroy/Topics", 7), ("com/example/corduroy/corduroy/Topics", 42), ("com/example/corduroy/corduroy/Topics", 48), ("java/lang/String", 761), ("java/lang/StringLatin1", 151)]
abbrev MtW (l : Launch) (Z : State) (y : MethodName) (b : ByteArray) (ml : Nat) (rt : Option FieldType) (ws : List Jvm.Cond) (R : Room) (A : Array Value) (h0 : Heap) (Q : Option Value → Heap → List Loc → Prop) : Prop := MetFree l y (head1 (Jvm.Cond.code y b ml rt :: ws) R) (fun aa_ U => aa_ = A ∧ Z.Warmed39 U.vm ∧ U.heap = h0 ∧ CHv Z own_EL U.vm h0) (fun _ _ _ _ _ => True) (fun _ U oo_ UV_ => ∃ vv_ LL_, oo_ = .returned vv_ ∧ Q vv_ UV_.heap LL_ ∧ CHr Z own_EL U.vm U.heap UV_.vm UV_.heap ∧ ReturnedEndW U oo_ UV_ LL_ R.cells R.slots)
theorem own_leT {T : State} {h : Heap} {k : Nat} (e : T.heap = h) (q : k ≤ h.size) : k ≤ T.heap.size := by rw [e]; exact q
theorem own_leH {T : State} {h : Heap} (e : T.heap = h) : T.heap.size ≤ h.size := by rw [e]; exact Nat.le_refl _
theorem own_safe {Z : State} {EL : List (String × Nat)} {vm : Vm} {lb h : Heap} {ws : List Addr} {d : Addr} (H : CHv Z EL vm lb) (K : Keep lb h ws) (hs : ∀ x ∈ ws, Safe Z EL vm lb x) (hd : lb.size ≤ d) : Safe Z EL vm h d := fun B => Safe.new hd ((H.keepStep K hs).2 _ B)
theorem dc24_0 : Dk zb24 0 (.iload_n 0) 1 := by decide +kernel
theorem dc24_1 : Dk zb24 1 (.ifCond .lt 13) 3 := by decide +kernel
theorem dc24_4 : Dk zb24 4 (.iload_n 0) 1 := by decide +kernel
theorem dc24_5 : Dk zb24 5 (.iload_n 1) 1 := by decide +kernel
theorem dc24_6 : Dk zb24 6 (.if_icmp .gt 8) 3 := by decide +kernel
theorem dc24_9 : Dk zb24 9 (.iload_n 1) 1 := by decide +kernel
theorem dc24_10 : Dk zb24 10 (.iload_n 2) 1 := by decide +kernel
theorem dc24_11 : Dk zb24 11 (.if_icmp .le 11) 3 := by decide +kernel
theorem dc24_22 : Dk zb24 22 (.iload_n 0) 1 := by decide +kernel
theorem dc24_23 : Dk zb24 23 .ireturn 1 := by decide +kernel
theorem ef_rmFT (mi : MethodId) (f : Int32) (t : Int32) (n : Int32) (fm : Value) (hr_fm : fm.isRef = true) : entryFrame mi #[(.int f), (.int t), (.int n), fm] 4 = mkF mi 0 #[.val (.int f), .val (.int t), .val (.int n), .val fm] [] := by rcases ref_cases hr_fm with rfl | ⟨_, rfl⟩ <;> first | (simp [entryFrame, mkF, argsToLocals, Value.category]; done) | rfl
theorem rmFT (l : Launch) (Z : State) (a0 : Array Value) (hw : Tb Z a0) (ws : List Jvm.Cond) (f : Int32) (t : Int32) (n : Int32) (fm : Value) (h0 : Heap) (n0 : Nat) (Z0 : n0 ≤ h0.size) (hfm : fm.isRef = true) (f1 : ¬ (f < (0 : Int32))) (f2 : ¬ (t < f)) (f3 : ¬ (n < t)) :
  Mt l Z zy24 zb24 4 (some .int) ws zR0 #[(.int f), (.int t), (.int n), fm] h0 (QP (some (.int f)) h0 n0) := by
 refine MetFree.of_bodySF (plainFor_of_name pn_1) hisR ?_
 intro pg ev si mi args below meth ci s₁ Bd hml0 hP0 hK
 obtain ⟨rfl, hZ, hh⟩ := hP0
 have hx := Bd.exec
 have hby := Bd.bytes
 have hml : ci.maxLocals = 4 := hml0
 have hown : si.vm.findClass "jdk/internal/util/Preconditions" = some mi.cls := findClass_of_methodNamed Bd.named
 have hnm := (name_of_methodNamed Bd.named Bd.method).1
 have X0 : Stand pg l ev zR0 si mi #[(.int f), (.int t), (.int n), fm] below meth ci s₁ [] 0 0 := Stand.of_body Bd
 have e0 : s₁.heap = h0 := by rw [← hh, Bd.state]; rfl
 have N0 := Fr.nil n0
 refine Go.start (fun P hP => ?_)
 refine Go.st (fun t_ k_ => castTop (ef_rmFT mi f t n fm hfm) k_) (A := s₁.setTop (mkF mi 0 #[.val (.int f), .val (.int t), .val (.int n), .val fm] [])) ?_
 refine g_iloadN X0 hx hby dc24_0 rfl ?_
 refine g_ifNo X0 hx hby dc24_1 ((if0 _ _).trans (flt f1).1) ?_
 refine g_iloadN X0 hx hby dc24_4 rfl ?_
 refine g_iloadN X0 hx hby dc24_5 rfl ?_
 refine g_icmpNo X0 hx hby dc24_6 (flt f2).2.2.1 ?_
 refine g_iloadN X0 hx hby dc24_9 rfl ?_
 refine g_iloadN X0 hx hby dc24_10 rfl ?_
 refine g_icmpYes X0 hx hby dc24_11 (flt f3).2.2.2 (pc0 := 11) (pc' := 22) rfl (by decide) (by decide) ?_
 refine g_iloadN X0 hx hby dc24_22 rfl ?_
 obtain ⟨fs, hr, hrun, hended, hW, hsame⟩ := X0.leave (v := some (.int f)) (fun h => by rw [Bd.returns] at h; cases h) (BodyLoose.notSynchronized Bd)
 refine ⟨_, _, ?_, hP _ _ ⟨hrun, hended, _, _, rfl, ?_, ⟨_, rfl⟩, hW, hsame.mono (by decide) (by decide)⟩⟩
 ·exact retI X0 hx Bd.returns (hb hby dc24_23) hr
 ·exact ⟨rfl, N0, e0⟩
theorem dc25_0 : Dk zb25 0 (.iload_n 0) 1 := by decide +kernel
theorem dc25_1 : Dk zb25 1 (.iload_n 1) 1 := by decide +kernel
theorem dc25_2 : Dk zb25 2 (.iload_n 2) 1 := by decide +kernel
theorem dc25_3 : Dk zb25 3 (.getstatic 1053) 3 := by decide +kernel
theorem dc25_6 : Dk zb25 6 (.invokestatic 1062) 3 := by decide +kernel
theorem pd_14 : parseMethodDescriptor "(IIILjava/util/function/BiFunction;)I" = some ⟨[.int, .int, .int, (.object "java/util/function/BiFunction")], some .int⟩ := by decide +kernel
theorem dc25_9 : Dk zb25 9 .pop 1 := by decide +kernel
theorem dc25_10 : Dk zb25 10 .return_ 1 := by decide +kernel
theorem ef_rmBE (mi : MethodId) (f : Int32) (t : Int32) (n : Int32) : entryFrame mi #[(.int f), (.int t), (.int n)] 3 = mkF mi 0 #[.val (.int f), .val (.int t), .val (.int n)] [] := by first | (simp [entryFrame, mkF, argsToLocals, Value.category]; done) | rfl
theorem rmBE (l : Launch) (Z : State) (a0 : Array Value) (hw : Tb Z a0) (ws : List Jvm.Cond) (f : Int32) (t : Int32) (n : Int32) (fm : Value) (h0 : Heap) (n0 : Nat) (Z0 : n0 ≤ h0.size) (SF : Sta Z h0 "jdk/internal/util/Preconditions" "SIOOBE_FORMATTER" "Ljava/util/function/BiFunction;" fm) (hfm : fm.isRef = true) (f1 : ¬ (f < (0 : Int32))) (f2 : ¬ (t < f)) (f3 : ¬ (n < t)) :
  Mt l Z zy25 zb25 3 none ws zR19 #[(.int f), (.int t), (.int n)] h0 (QP (none) h0 n0) := by
 refine MetFree.of_bodySF (plainFor_of_name pn_0) hisR ?_
 intro pg ev si mi args below meth ci s₁ Bd hml0 hP0 hK
 obtain ⟨rfl, hZ, hh⟩ := hP0
 have hx := Bd.exec
 have hby := Bd.bytes
 have hml : ci.maxLocals = 3 := hml0
 have hown : si.vm.findClass "java/lang/String" = some mi.cls := findClass_of_methodNamed Bd.named
 have hnm := (name_of_methodNamed Bd.named Bd.method).1
 have X0 : Stand pg l ev zR19 si mi #[(.int f), (.int t), (.int n)] below meth ci s₁ [] 0 0 := Stand.of_body Bd
 have e0 : s₁.heap = h0 := by rw [← hh, Bd.state]; rfl
 have N0 := Fr.nil n0
 refine Go.start (fun P hP => ?_)
 refine Go.st (fun t_ k_ => castTop (ef_rmBE mi f t n) k_) (A := s₁.setTop (mkF mi 0 #[.val (.int f), .val (.int t), .val (.int n)] [])) ?_
 refine g_iloadN X0 hx hby dc25_0 rfl ?_
 refine g_iloadN X0 hx hby dc25_1 rfl ?_
 refine g_iloadN X0 hx hby dc25_2 rfl ?_
 obtain ⟨T1, X1, e1, st1⟩ := getS2 X0 hx hZ hown (host := "") (Or.inl (hw _ (own_m 116 rfl))) Via.refl e0 SF (g := (mkF mi 3 #[.val (.int f), .val (.int t), .val (.int n)] [(.int n), (.int t), (.int f)])) rfl (hb hby dc25_3)
 refine Go.st st1 ?_
 obtain ⟨_, _, ⟨T2, L2, k2, n2⟩, -, X2, ⟨Lc2, hQ2, l2, y2, z2⟩, st2⟩ := Jvm.LawKit.callS X1 hx (y := zy24) hown (mvT hZ (hw _ (own_m 161 rfl))) (mvT hZ (hw _ (own_m 162 rfl))) (mvT hZ (hw _ (own_m 117 rfl))) (mvT hZ (hw _ (own_m 163 rfl))) (by decide) (backOf (W := 0) (rmFT l Z a0 hw [] f t n fm h0 n0 Z0 hfm f1 f2 f3) hZ (hw _ (own_m 163 rfl)) (hw _ (own_m 117 rfl)) (by decide) (by decide)) (g := (mkF mi 6 #[.val (.int f), .val (.int t), .val (.int n)] [fm, (.int n), (.int t), (.int f)])) rfl (by rw [hml]; rfl) (argsL := [(.int f), (.int t), (.int n), fm]) (rest := []) (lenOf pd_14 rfl) rfl (by show 2 * 0 + _ ≤ _; exact Nat.le_of_eq rfl) (hb hby dc25_6) (fun _ _ => ⟨rfl, e1, (by decide : 0 + 0 ≤ _), (by decide : 0 + 0 ≤ _)⟩)
 dsimp only [Pt.U, Pt.locs, Pt.cells, Pt.slots] at X2 l2 y2 z2 st2 hQ2
 subst y2 z2
 have X2 := own_cs X2 (cells' := 0) (slots' := 0) rfl rfl
 obtain ⟨rfl, N2q, e2⟩ := hQ2
 have N2 := own_fr l2 (Fr.app N0 N2q)
 refine Go.st st2 ?_
 refine Go.s (XS.pop X2.here hx rfl (hb hby dc25_9) rfl rfl) ?_
 obtain ⟨fs, hr, hrun, hended, hW, hsame⟩ := X2.leave (v := none) (fun _ => rfl) (BodyLoose.notSynchronized Bd)
 refine ⟨_, _, ?_, hP _ _ ⟨hrun, hended, _, _, rfl, ?_, ⟨_, rfl⟩, hW, hsame.mono (by decide) (by decide)⟩⟩
 ·exact X2.returnOut hx Bd.returns (hb hby dc25_10) hr
 ·exact ⟨rfl, N2, e2⟩
theorem dc26_0 : Dk zb26 0 (.iload_n 1) 1 := by decide +kernel
theorem dc26_1 : Dk zb26 1 (.iload_n 0) 1 := by decide +kernel
theorem dc26_2 : Dk zb26 2 (.if_icmp .ge 35) 3 := by decide +kernel
theorem dc26_37 : Dk zb26 37 .return_ 1 := by decide +kernel
theorem pn_5 : plainName "java/util/Arrays" = true := by first | (simp [plainName, overriddenIn]; done) | decide +kernel
theorem ef_rmCK (mi : MethodId) (f : Int32) (t : Int32) : entryFrame mi #[(.int f), (.int t)] 2 = mkF mi 0 #[.val (.int f), .val (.int t)] [] := by first | (simp [entryFrame, mkF, argsToLocals, Value.category]; done) | rfl
theorem rmCK (l : Launch) (Z : State) (a0 : Array Value) (hw : Tb Z a0) (ws : List Jvm.Cond) (f : Int32) (t : Int32) (h0 : Heap) (n0 : Nat) (Z0 : n0 ≤ h0.size) (f2 : ¬ (t < f)) :
  Mt l Z zy26 zb26 2 none ws zR0 #[(.int f), (.int t)] h0 (QP (none) h0 n0) := by
 refine MetFree.of_bodySF (plainFor_of_name pn_5) hisR ?_
 intro pg ev si mi args below meth ci s₁ Bd hml0 hP0 hK
 obtain ⟨rfl, hZ, hh⟩ := hP0
 have hx := Bd.exec
 have hby := Bd.bytes
 have hml : ci.maxLocals = 2 := hml0
 have hown : si.vm.findClass "java/util/Arrays" = some mi.cls := findClass_of_methodNamed Bd.named
 have hnm := (name_of_methodNamed Bd.named Bd.method).1
 have X0 : Stand pg l ev zR0 si mi #[(.int f), (.int t)] below meth ci s₁ [] 0 0 := Stand.of_body Bd
 have e0 : s₁.heap = h0 := by rw [← hh, Bd.state]; rfl
 have N0 := Fr.nil n0
 refine Go.start (fun P hP => ?_)
 refine Go.st (fun t_ k_ => castTop (ef_rmCK mi f t) k_) (A := s₁.setTop (mkF mi 0 #[.val (.int f), .val (.int t)] [])) ?_
 refine g_iloadN X0 hx hby dc26_0 rfl ?_
 refine g_iloadN X0 hx hby dc26_1 rfl ?_
 refine g_icmpYes X0 hx hby dc26_2 (flt f2).2.1 (pc0 := 2) (pc' := 37) rfl (by decide) (by decide) ?_
 obtain ⟨fs, hr, hrun, hended, hW, hsame⟩ := X0.leave (v := none) (fun _ => rfl) (BodyLoose.notSynchronized Bd)
 refine ⟨_, _, ?_, hP _ _ ⟨hrun, hended, _, _, rfl, ?_, ⟨_, rfl⟩, hW, hsame.mono (by decide) (by decide)⟩⟩
 ·exact X0.returnOut hx Bd.returns (hb hby dc26_37) hr
 ·exact ⟨rfl, N0, e0⟩
theorem own_nlt2 {E : List Int32} {F T : Nat} (hE : E.length ≤ 4) (hT : T ≤ E.length) (hFT : F ≤ T) : ¬ (Int32.ofNat T < Int32.ofNat F) := by rw [own_oflt (by omega) (by omega)]; omega
theorem own_nlt3 {E : List Int32} {T : Nat} {n : Int32} (hE : E.length ≤ 4) (hn : n.toInt = E.length) (hT : T ≤ E.length) : ¬ (n < Int32.ofNat T) := by rw [Int32.lt_iff_toInt_lt, own_ofN (by omega)]; omega
theorem own_crn {E : List Int32} {F T : Nat} {n : Int32} (hE : E.length ≤ 4) (hn : n.toInt = E.length) (hT : T ≤ E.length) (hFT : F ≤ T) (hne : ¬ (F = 0 ∧ T = E.length)) (q : Int32.ofNat F = (0 : Int32)) : ¬ (Int32.ofNat T = n) := fun u => hne ⟨by
 have := congrArg Int32.toInt q; rw [own_ofN (by omega), own_z0] at this; omega, by rw [← u, own_ofN (by omega)] at hn; omega⟩
theorem own_minFT {E : List Int32} {F T : Nat} {n : Int32} (hE : E.length ≤ 4) (hn : n.toInt = E.length) (hT : T ≤ E.length) (hFT : F ≤ T) : fMin (n - Int32.ofNat F) (Int32.ofNat (T - F)) = Int32.ofNat (T - F) := by
 have en : n = Int32.ofNat E.length := by apply Int32.toInt_inj.mp; rw [own_ofN (by omega), hn]
 rw [en, own_sub (by omega) (by omega)]
 unfold fMin; split
 ·rfl
 ·rename_i q; rw [own_oflt (by omega) (by omega)] at q; rw [own_ofeq (by omega) (by omega)]; omega
theorem own_addFT {F T : Nat} (hFT : F ≤ T) : Int32.ofNat F + Int32.ofNat (T - F) = Int32.ofNat T := by rw [← Int32.ofNat_add]; congr 1; omega
theorem own_cpl {E : List Int32} {F T : Nat} (hT : T ≤ E.length) : (List.replicate (T - F) (Value.int (0 : Int32))).take (0 : Int32).toNatClampNeg ++ ((List.range (T - F)).map fun i => (E.map Value.int).getD (F + i) (.int (0 : Int32))) ++ (List.replicate (T - F) (Value.int (0 : Int32))).drop ((0 : Int32).toNatClampNeg + (T - F)) = ((E.drop F).take (T - F)).map Value.int := by
 rw [show (0 : Int32).toNatClampNeg = 0 from by decide +kernel]
 simp only [List.take_zero, List.nil_append, Nat.zero_add]
 rw [List.drop_of_length_le (by simp), List.append_nil]
 apply List.ext_getElem?
 intro i
 by_cases h : i < T - F
 ·simp [List.getElem?_take, h, List.getElem?_drop, List.getD_eq_getElem?_getD]
  rw [List.getElem?_eq_getElem (by omega)]; simp
 ·simp [List.getElem?_take, h]
theorem dc27_0 : Dk zb27 0 (.iload_n 1) 1 := by decide +kernel
theorem dc27_1 : Dk zb27 1 (.iload_n 2) 1 := by decide +kernel
theorem dc27_2 : Dk zb27 2 (.invokestatic 343) 3 := by decide +kernel
theorem dc27_5 : Dk zb27 5 (.iload_n 2) 1 := by decide +kernel
theorem dc27_6 : Dk zb27 6 (.iload_n 1) 1 := by decide +kernel
theorem dc27_7 : Dk zb27 7 .isub 1 := by decide +kernel
theorem dc27_8 : Dk zb27 8 (.istore_n 3) 1 := by decide +kernel
theorem dc27_9 : Dk zb27 9 (.iload_n 3) 1 := by decide +kernel
theorem dc27_10 : Dk zb27 10 (.newarray .byte) 2 := by decide +kernel
theorem dc27_12 : Dk zb27 12 (.astore 4) 2 := by decide +kernel
theorem dc27_14 : Dk zb27 14 (.aload_n 0) 1 := by decide +kernel
theorem dc27_15 : Dk zb27 15 (.iload_n 1) 1 := by decide +kernel
theorem dc27_16 : Dk zb27 16 (.aload 4) 2 := by decide +kernel
theorem dc27_18 : Dk zb27 18 (.iconst 0) 1 := by decide +kernel
theorem dc27_19 : Dk zb27 19 (.aload_n 0) 1 := by decide +kernel
theorem dc27_20 : Dk zb27 20 .arraylength 1 := by decide +kernel
theorem dc27_21 : Dk zb27 21 (.iload_n 1) 1 := by decide +kernel
theorem dc27_22 : Dk zb27 22 .isub 1 := by decide +kernel
theorem dc27_23 : Dk zb27 23 (.iload_n 3) 1 := by decide +kernel
theorem dc27_24 : Dk zb27 24 (.invokestatic 304) 3 := by decide +kernel
theorem dc27_27 : Dk zb27 27 (.invokestatic 150) 3 := by decide +kernel
theorem dc27_30 : Dk zb27 30 (.aload 4) 2 := by decide +kernel
theorem dc27_32 : Dk zb27 32 .areturn 1 := by decide +kernel
theorem ef_rmCB (mi : MethodId) (b : Addr) (F : Nat) (T : Nat) : entryFrame mi #[(.ref b), (.int (Int32.ofNat F)), (.int (Int32.ofNat T))] 5 = mkF mi 0 #[.val (.ref b), .val (.int (Int32.ofNat F)), .val (.int (Int32.ofNat T)), .unset, .unset] [] := by first | (simp [entryFrame, mkF, argsToLocals, Value.category]; done) | rfl
abbrev Q_rmCB (Z : State) (b : Addr) (F : Nat) (T : Nat) (kb : ClassId) (n : Int32) (E : List Int32) (h0 : Heap) (n0 : Nat) (vv_ : Option Value) (hh_ : Heap) (LL_ : List Loc) : Prop := ∃ (r : Addr) (kr : ClassId), vv_ = some (.ref r) ∧ Fr n0 LL_ ∧ Keep h0 hh_ [] ∧ h0.size ≤ r ∧ n0 ≤ r ∧ Arv Z hh_ r kr .byte (Int32.ofNat (T - F)) (((E.drop F).take (T - F)).map Value.int) (.int (0 : Int32)) ∧ Exa Z hh_ r "[B"
theorem rmCB (l : Launch) (Z : State) (a0 : Array Value) (hw : Tb Z a0) (ws : List Jvm.Cond) (b : Addr) (F : Nat) (T : Nat) (kb : ClassId) (n : Int32) (E : List Int32) (h0 : Heap) (n0 : Nat) (Z0 : n0 ≤ h0.size) (SAr : Arv Z h0 b kb .byte n (E.map Value.int) (.int (0 : Int32))) (hE : E.length ≤ 4) (hn : n.toInt = E.length) (hT : T ≤ E.length) (hFT : F ≤ T) :
  Mt l Z zy27 zb27 5 (some (.array .byte)) ws zR6 #[(.ref b), (.int (Int32.ofNat F)), (.int (Int32.ofNat T))] h0 (Q_rmCB Z b F T kb n E h0 n0) := by
 refine MetFree.of_bodySF (plainFor_of_name pn_5) hisR ?_
 intro pg ev si mi args below meth ci s₁ Bd hml0 hP0 hK
 obtain ⟨rfl, hZ, hh⟩ := hP0
 have hx := Bd.exec
 have hby := Bd.bytes
 have hml : ci.maxLocals = 5 := hml0
 have hown : si.vm.findClass "java/util/Arrays" = some mi.cls := findClass_of_methodNamed Bd.named
 have hnm := (name_of_methodNamed Bd.named Bd.method).1
 have X0 : Stand pg l ev zR6 si mi #[(.ref b), (.int (Int32.ofNat F)), (.int (Int32.ofNat T))] below meth ci s₁ [] 0 0 := Stand.of_body Bd
 have e0 : s₁.heap = h0 := by rw [← hh, Bd.state]; rfl
 have N0 := Fr.nil n0
 refine Go.start (fun P hP => ?_)
 refine Go.st (fun t_ k_ => castTop (ef_rmCB mi b F T) k_) (A := s₁.setTop (mkF mi 0 #[.val (.ref b), .val (.int (Int32.ofNat F)), .val (.int (Int32.ofNat T)), .unset, .unset] [])) ?_
 refine g_iloadN X0 hx hby dc27_0 rfl ?_
 refine g_iloadN X0 hx hby dc27_1 rfl ?_
 obtain ⟨_, _, ⟨T1, L1, k1, n1⟩, -, X1, ⟨Lc1, hQ1, l1, y1, z1⟩, st1⟩ := Jvm.LawKit.callS X0 hx (y := zy26) hown (mvT hZ (hw _ (own_m 296 rfl))) (mvT hZ (hw _ (own_m 297 rfl))) (mvT hZ (hw _ (own_m 291 rfl))) (mvT hZ (hw _ (own_m 298 rfl))) (by decide) (backOf (W := 0) (rmCK l Z a0 hw [] (Int32.ofNat F) (Int32.ofNat T) h0 n0 Z0 (own_nlt2 hE hT hFT)) hZ (hw _ (own_m 298 rfl)) (hw _ (own_m 291 rfl)) (by decide) (by decide)) (g := (mkF mi 2 #[.val (.ref b), .val (.int (Int32.ofNat F)), .val (.int (Int32.ofNat T)), .unset, .unset] [(.int (Int32.ofNat T)), (.int (Int32.ofNat F))])) rfl (by rw [hml]; rfl) (argsL := [(.int (Int32.ofNat F)), (.int (Int32.ofNat T))]) (rest := []) (lenOf pd_2 rfl) rfl (by show 2 * 0 + _ ≤ _; exact Nat.le_of_eq rfl) (hb hby dc27_2) (fun _ _ => ⟨rfl, e0, (by decide : 0 + 0 ≤ _), (by decide : 0 + 0 ≤ _)⟩)
 dsimp only [Pt.U, Pt.locs, Pt.cells, Pt.slots] at X1 l1 y1 z1 st1 hQ1
 subst y1 z1
 have X1 := own_cs X1 (cells' := 0) (slots' := 0) rfl rfl
 obtain ⟨rfl, N1q, e1⟩ := hQ1
 have N1 := own_fr l1 (Fr.app N0 N1q)
 refine Go.st st1 ?_
 refine g_iloadN X1 hx hby dc27_5 rfl ?_
 refine g_iloadN X1 hx hby dc27_6 rfl ?_
 refine g_isub X1 hx hby dc27_7 rfl ?_
 show Go _ _ _ (T1.setTop (mkF mi 8 #[.val (.ref b), .val (.int (Int32.ofNat F)), .val (.int (Int32.ofNat T)), .unset, .unset] [(.int ((Int32.ofNat T) - (Int32.ofNat F)))])) _
 rw [own_sub (n := T) (m := F) (by omega) hFT]
 show Go _ _ _ (T1.setTop (mkF mi 8 #[.val (.ref b), .val (.int (Int32.ofNat F)), .val (.int (Int32.ofNat T)), .unset, .unset] [(.int (Int32.ofNat (T - F)))])) _
 refine g_istoreN X1 hx hby dc27_8 (l' := #[.val (.ref b), .val (.int (Int32.ofNat F)), .val (.int (Int32.ofNat T)), .val (.int (Int32.ofNat (T - F))), .unset]) rfl ?_
 refine g_iloadN X1 hx hby dc27_9 rfl ?_
 obtain ⟨T2, h2, k2, X2, e2, E2, A2, EX2, st2⟩ := newPE X1 hx hZ (hw _ (own_m 26 rfl)) e1 (g := (mkF mi 10 #[.val (.ref b), .val (.int (Int32.ofNat F)), .val (.int (Int32.ofNat T)), .val (.int (Int32.ofNat (T - F))), .unset] [(.int (Int32.ofNat (T - F)))])) rfl (hb hby dc27_10) rfl (own_ofN0 (by omega)) (cap := 4) (by rw [own_ofNn (by omega)]; omega) (by decide) (by decide) (by decide) (ad := "[B") (by decide)
 obtain ⟨ob2, g2⟩ : ∃ z, z = h0.size := ⟨_, rfl⟩
 rw [← g2] at A2 EX2 st2
 have Zs3 : n0 ≤ h2.size := Nat.le_trans Z0 E2.1
 have KC3 : Keep h0 h2 [] := (Keep.refl h0 []).ext E2
 have g_ob2 : n0 ≤ ob2 := Nat.le_trans Z0 (Nat.le_of_eq g2.symm)
 have sz_ob2 : h0.size ≤ ob2 := Nat.le_trans (Keep.refl h0 []).1 (Nat.le_of_eq g2.symm)
 have V2 : Arv Z h2 ob2 k2 .byte (Int32.ofNat (T - F)) [] (.int (0 : Int32)) := Arv.new A2 (own_ofN0 (by omega))
 refine Go.st st2 ?_
 refine g_astore X2 hx hby dc27_12 rfl (l' := #[.val (.ref b), .val (.int (Int32.ofNat F)), .val (.int (Int32.ofNat T)), .val (.int (Int32.ofNat (T - F))), .val (.ref ob2)]) rfl ?_
 refine g_aloadN X2 hx hby dc27_14 rfl rfl ?_
 refine g_iloadN X2 hx hby dc27_15 rfl ?_
 refine g_aload X2 hx hby dc27_16 rfl rfl ?_
 refine g_iconst X2 hx hby dc27_18 (v := 0) rfl ?_
 refine g_aloadN X2 hx hby dc27_19 rfl rfl ?_
 have f4 := (SAr.ext E2)
 have ov5 := f4
 obtain ⟨cl5, Ar5, q5, S5, M5, H5, G5⟩ := ov5
 refine Go.st (X2.arraylength hx (by rw [e2]; exact Ar5.1) (State.isArrayOf_alike hZ.alike Ar5.2.1) (g := (mkF mi 20 #[.val (.ref b), .val (.int (Int32.ofNat F)), .val (.int (Int32.ofNat T)), .val (.int (Int32.ofNat (T - F))), .val (.ref ob2)] [(.ref b), (.int 0), (.ref ob2), (.int (Int32.ofNat F)), (.ref b)])) rfl rfl (hb hby dc27_20)) ?_
 rw [len_of S5 M5]
 refine g_iloadN X2 hx hby dc27_21 rfl ?_
 refine g_isub X2 hx hby dc27_22 rfl ?_
 refine g_iloadN X2 hx hby dc27_23 rfl ?_
 obtain ⟨_, _, ⟨T6, L6, k6, n6⟩, -, X6, ⟨Lc6, hQ6, l6, y6, z6⟩, st6⟩ := Jvm.LawKit.callS X2 hx (y := zy8) hown (mvT hZ (hw _ (own_m 299 rfl))) (mvT hZ (hw _ (own_m 83 rfl))) (mvT hZ (hw _ (own_m 80 rfl))) (mvT hZ (hw _ (own_m 84 rfl))) (by decide) (backOf (W := 4) (rmMin l Z a0 hw [] (n - (Int32.ofNat F)) (Int32.ofNat (T - F)) h2 n0 Zs3) hZ (hw _ (own_m 84 rfl)) (hw _ (own_m 80 rfl)) (by decide) (by decide)) (g := (mkF mi 24 #[.val (.ref b), .val (.int (Int32.ofNat F)), .val (.int (Int32.ofNat T)), .val (.int (Int32.ofNat (T - F))), .val (.ref ob2)] [(.int (Int32.ofNat (T - F))), (.int (n - (Int32.ofNat F))), (.int 0), (.ref ob2), (.int (Int32.ofNat F)), (.ref b)])) rfl (by rw [hml]; rfl) (argsL := [(.int (n - (Int32.ofNat F))), (.int (Int32.ofNat (T - F)))]) (rest := [(.int 0), (.ref ob2), (.int (Int32.ofNat F)), (.ref b)]) (lenOf pd_11 rfl) rfl (by show 2 * 0 + _ ≤ _; exact Nat.le_of_eq rfl) (hb hby dc27_24) (fun _ _ => ⟨rfl, e2, (by decide : 1 + 0 ≤ _), (by decide : 4 + 0 ≤ _)⟩)
 dsimp only [Pt.U, Pt.locs, Pt.cells, Pt.slots] at X6 l6 y6 z6 st6 hQ6
 subst y6 z6
 have X6 := own_cs X6 (cells' := 1) (slots' := 4) rfl rfl
 obtain ⟨rfl, N6q, e6⟩ := hQ6
 have N6 := own_fr l6 (Fr.app N1 N6q)
 refine Go.st st6 ?_
 show Go _ _ _ (T6.setTop (mkF mi 27 #[.val (.ref b), .val (.int (Int32.ofNat F)), .val (.int (Int32.ofNat T)), .val (.int (Int32.ofNat (T - F))), .val (.ref ob2)] [(.int (fMin (n - (Int32.ofNat F)) (Int32.ofNat (T - F)))), (.int 0), (.ref ob2), (.int (Int32.ofNat F)), (.ref b)])) _
 rw [own_minFT hE hn hT hFT]
 show Go _ _ _ (T6.setTop (mkF mi 27 #[.val (.ref b), .val (.int (Int32.ofNat F)), .val (.int (Int32.ofNat T)), .val (.int (Int32.ofNat (T - F))), .val (.ref ob2)] [(.int (Int32.ofNat (T - F))), (.int 0), (.ref ob2), (.int (Int32.ofNat F)), (.ref b)])) _
 have VP7 : Arv Z h2 ob2 k2 .byte (Int32.ofNat (T - F)) (List.replicate (T - F) (.int (0 : Int32))) (.int (0 : Int32)) := V2.pad (pad_rep [] _ _)
 obtain ⟨T7, h7, L7, X7, e7, N7, K7, V7, st7⟩ := cpA X6 hx hZ hown (hw _ (own_m 300 rfl)) (hw _ (own_m 252 rfl)) (hw _ (own_m 250 rfl)) (hw _ (own_m 251 rfl)) e6 f4 VP7 (Or.inl ⟨rfl, rfl⟩) (own_ofN0 (by omega)) (by decide) (own_ofN0 (by omega)) (sp := (Int32.ofNat F)) (dp := (0 : Int32)) (nn := (Int32.ofNat (T - F))) (by rw [own_ofNn (by omega), own_ofNn (by omega)]; simp only [Int32.toNatClampNeg]; omega) (by rw [show (0 : Int32).toNatClampNeg = 0 from by decide +kernel, Nat.zero_add]; exact Nat.le_refl _) rfl (by rw [show (0 : Int32).toNatClampNeg = 0 from by decide +kernel, Nat.zero_add, own_ofNn (by omega), List.length_replicate]; exact Nat.le_refl _) N6 g_ob2 (g := (mkF mi 27 #[.val (.ref b), .val (.int (Int32.ofNat F)), .val (.int (Int32.ofNat T)), .val (.int (Int32.ofNat (T - F))), .val (.ref ob2)] [(.int (Int32.ofNat (T - F))), (.int 0), (.ref ob2), (.int (Int32.ofNat F)), (.ref b)])) rfl (by rw [hml]; rfl) rfl (hb hby dc27_27) (by decide) (W := 0) (by show 2 * 0 + _ ≤ _; exact Nat.le_of_eq rfl) (by decide)
 rw [own_ofNn (n := T - F) (by omega), own_ofNn (n := F) (by omega), own_cpl hT] at V7
 have Zs8 : n0 ≤ h7.size := Nat.le_trans Zs3 K7.1
 have KC8 : Keep h0 h7 [] := KC3.trans K7 (allS (P := fun x => x ∈ [] ∨ h0.size ≤ x) (Or.inr sz_ob2) all0)
 refine Go.st st7 ?_
 show Go _ _ _ (T7.setTop (mkF mi 30 #[.val (.ref b), .val (.int (Int32.ofNat F)), .val (.int (Int32.ofNat T)), .val (.int (Int32.ofNat (T - F))), .val (.ref ob2)] [])) _
 refine g_aload X7 hx hby dc27_30 rfl rfl ?_
 obtain ⟨fs, hr, hrun, hended, hW, hsame⟩ := X7.leave (v := some (.ref ob2)) (fun h => by rw [Bd.returns] at h; cases h) (BodyLoose.notSynchronized Bd)
 have f9 := (EX2.keep K7)
 refine ⟨_, _, ?_, hP _ _ ⟨hrun, hended, _, _, rfl, ?_, ⟨_, rfl⟩, hW, hsame.mono (by decide) (by decide)⟩⟩
 ·exact retOut X7 hx Bd.returns rfl (Or.inr (Or.inr (Or.inr (Or.inr ⟨rfl, rfl, rfl⟩)))) (hb hby dc27_32) hr
 ·show Q_rmCB _ _ _ _ _ _ _ _ _ _ T7.heap _
  rw [e7]
  exact ⟨ob2, k2, rfl, N7, KC8, sz_ob2, g_ob2, V7, f9⟩
theorem dc28_0 : Dk zb28 0 (.iload_n 1) 1 := by decide +kernel
theorem dc28_1 : Dk zb28 1 (.ifCond .ne 9) 3 := by decide +kernel
theorem dc28_4 : Dk zb28 4 (.iload_n 2) 1 := by decide +kernel
theorem dc28_5 : Dk zb28 5 (.aload_n 0) 1 := by decide +kernel
theorem dc28_6 : Dk zb28 6 .arraylength 1 := by decide +kernel
theorem dc28_7 : Dk zb28 7 (.if_icmp .eq 10) 3 := by decide +kernel
theorem dc28_10 : Dk zb28 10 (.aload_n 0) 1 := by decide +kernel
theorem dc28_11 : Dk zb28 11 (.iload_n 1) 1 := by decide +kernel
theorem dc28_12 : Dk zb28 12 (.iload_n 2) 1 := by decide +kernel
theorem dc28_13 : Dk zb28 13 (.invokestatic 339) 3 := by decide +kernel
theorem pd_15 : parseMethodDescriptor "([BII)[B" = some ⟨[(.array .byte), .int, .int], some (.array .byte)⟩ := by decide +kernel
theorem dc28_16 : Dk zb28 16 .areturn 1 := by decide +kernel
theorem ef_rmCR (mi : MethodId) (b : Addr) (F : Nat) (T : Nat) : entryFrame mi #[(.ref b), (.int (Int32.ofNat F)), (.int (Int32.ofNat T))] 3 = mkF mi 0 #[.val (.ref b), .val (.int (Int32.ofNat F)), .val (.int (Int32.ofNat T))] [] := by first | (simp [entryFrame, mkF, argsToLocals, Value.category]; done) | rfl
abbrev Q_rmCR (Z : State) (b : Addr) (F : Nat) (T : Nat) (kb : ClassId) (n : Int32) (E : List Int32) (h0 : Heap) (n0 : Nat) (vv_ : Option Value) (hh_ : Heap) (LL_ : List Loc) : Prop := ∃ (r : Addr) (kr : ClassId), vv_ = some (.ref r) ∧ Fr n0 LL_ ∧ Keep h0 hh_ [] ∧ h0.size ≤ r ∧ n0 ≤ r ∧ Arv Z hh_ r kr .byte (Int32.ofNat (T - F)) (((E.drop F).take (T - F)).map Value.int) (.int (0 : Int32)) ∧ Exa Z hh_ r "[B"
theorem rmCR (l : Launch) (Z : State) (a0 : Array Value) (hw : Tb Z a0) (ws : List Jvm.Cond) (b : Addr) (F : Nat) (T : Nat) (kb : ClassId) (n : Int32) (E : List Int32) (h0 : Heap) (n0 : Nat) (Z0 : n0 ≤ h0.size) (SAr : Arv Z h0 b kb .byte n (E.map Value.int) (.int (0 : Int32))) (hE : E.length ≤ 4) (hn : n.toInt = E.length) (hT : T ≤ E.length) (hFT : F ≤ T) (hne : ¬ (F = 0 ∧ T = E.length)) :
  Mt l Z zy28 zb28 3 (some (.array .byte)) ws zR20 #[(.ref b), (.int (Int32.ofNat F)), (.int (Int32.ofNat T))] h0 (Q_rmCR Z b F T kb n E h0 n0) := by
 refine MetFree.of_bodySF (plainFor_of_name pn_5) hisR ?_
 intro pg ev si mi args below meth ci s₁ Bd hml0 hP0 hK
 obtain ⟨rfl, hZ, hh⟩ := hP0
 have hx := Bd.exec
 have hby := Bd.bytes
 have hml : ci.maxLocals = 3 := hml0
 have hown : si.vm.findClass "java/util/Arrays" = some mi.cls := findClass_of_methodNamed Bd.named
 have hnm := (name_of_methodNamed Bd.named Bd.method).1
 have X0 : Stand pg l ev zR20 si mi #[(.ref b), (.int (Int32.ofNat F)), (.int (Int32.ofNat T))] below meth ci s₁ [] 0 0 := Stand.of_body Bd
 have e0 : s₁.heap = h0 := by rw [← hh, Bd.state]; rfl
 have N0 := Fr.nil n0
 refine Go.start (fun P hP => ?_)
 refine Go.st (fun t_ k_ => castTop (ef_rmCR mi b F T) k_) (A := s₁.setTop (mkF mi 0 #[.val (.ref b), .val (.int (Int32.ofNat F)), .val (.int (Int32.ofNat T))] [])) ?_
 refine g_iloadN X0 hx hby dc28_0 rfl ?_
 by_cases hc1_1 : (Int32.ofNat F) = (0 : Int32)
 ·refine g_ifNo X0 hx hby dc28_1 ((if0 _ _).trans (teq hc1_1).2) ?_
  refine g_iloadN X0 hx hby dc28_4 rfl ?_
  refine g_aloadN X0 hx hby dc28_5 rfl rfl ?_
  have ov1 := SAr
  obtain ⟨cl1, Ar1, q1, S1, M1, H1, G1⟩ := ov1
  refine Go.st (X0.arraylength hx (by rw [e0]; exact Ar1.1) (State.isArrayOf_alike hZ.alike Ar1.2.1) (g := (mkF mi 6 #[.val (.ref b), .val (.int (Int32.ofNat F)), .val (.int (Int32.ofNat T))] [(.ref b), (.int (Int32.ofNat T))])) rfl rfl (hb hby dc28_6)) ?_
  rw [len_of S1 M1]
  refine g_icmpNo X0 hx hby dc28_7 (feq (own_crn hE hn hT hFT hne hc1_1)).1 ?_
  refine g_aloadN X0 hx hby dc28_10 rfl rfl ?_
  refine g_iloadN X0 hx hby dc28_11 rfl ?_
  refine g_iloadN X0 hx hby dc28_12 rfl ?_
  obtain ⟨_, _, ⟨T2, L2, k2, n2⟩, -, X2, ⟨Lc2, hQ2, l2, y2, z2⟩, st2⟩ := Jvm.LawKit.callS X0 hx (y := zy27) hown (mvT hZ (hw _ (own_m 293 rfl))) (mvT hZ (hw _ (own_m 294 rfl))) (mvT hZ (hw _ (own_m 291 rfl))) (mvT hZ (hw _ (own_m 295 rfl))) (by decide) (backOf (W := 0) (rmCB l Z a0 hw [] b F T kb n E h0 n0 Z0 SAr hE hn hT hFT) hZ (hw _ (own_m 295 rfl)) (hw _ (own_m 291 rfl)) (by decide) (by decide)) (g := (mkF mi 13 #[.val (.ref b), .val (.int (Int32.ofNat F)), .val (.int (Int32.ofNat T))] [(.int (Int32.ofNat T)), (.int (Int32.ofNat F)), (.ref b)])) rfl (by rw [hml]; rfl) (argsL := [(.ref b), (.int (Int32.ofNat F)), (.int (Int32.ofNat T))]) (rest := []) (lenOf pd_15 rfl) rfl (by show 2 * 0 + _ ≤ _; exact Nat.le_of_eq rfl) (hb hby dc28_13) (fun _ _ => ⟨rfl, e0, (by decide : 0 + 1 ≤ _), (by decide : 0 + 4 ≤ _)⟩)
  dsimp only [Pt.U, Pt.locs, Pt.cells, Pt.slots] at X2 l2 y2 z2 st2 hQ2
  subst y2 z2
  have X2 := own_cs X2 (cells' := 1) (slots' := 4) rfl rfl
  obtain ⟨h2, e2⟩ : ∃ z, T2.heap = z := ⟨_, rfl⟩
  rw [e2] at hQ2
  obtain ⟨r2, kr2, rfl, N2q, K2, z_r2, g_r2, V_r2, E_r2⟩ := hQ2
  have N2 := own_fr l2 (Fr.app N0 N2q)
  have Zs3 : n0 ≤ h2.size := Nat.le_trans Z0 K2.1
  have KC3 : Keep h0 h2 [] := (Keep.refl h0 []).trans K2 all0
  have sz_r2 : h0.size ≤ r2 := Nat.le_trans (Keep.refl h0 []).1 z_r2
  refine Go.st st2 ?_
  obtain ⟨fs, hr, hrun, hended, hW, hsame⟩ := X2.leave (v := some (.ref r2)) (fun h => by rw [Bd.returns] at h; cases h) (BodyLoose.notSynchronized Bd)
  refine ⟨_, _, ?_, hP _ _ ⟨hrun, hended, _, _, rfl, ?_, ⟨_, rfl⟩, hW, hsame.mono (by decide) (by decide)⟩⟩
  ·exact retOut X2 hx Bd.returns rfl (Or.inr (Or.inr (Or.inr (Or.inr ⟨rfl, rfl, rfl⟩)))) (hb hby dc28_16) hr
  ·show Q_rmCR _ _ _ _ _ _ _ _ _ _ T2.heap _
   rw [e2]
   exact ⟨r2, kr2, rfl, N2, KC3, sz_r2, g_r2, V_r2, E_r2⟩
 ·refine g_ifYes X0 hx hby dc28_1 ((if0 _ _).trans (feq hc1_1).2) (pc0 := 1) (pc' := 10) rfl (by decide) (by decide) ?_
  refine g_aloadN X0 hx hby dc28_10 rfl rfl ?_
  refine g_iloadN X0 hx hby dc28_11 rfl ?_
  refine g_iloadN X0 hx hby dc28_12 rfl ?_
  obtain ⟨_, _, ⟨T4, L4, k4, n4⟩, -, X4, ⟨Lc4, hQ4, l4, y4, z4⟩, st4⟩ := Jvm.LawKit.callS X0 hx (y := zy27) hown (mvT hZ (hw _ (own_m 293 rfl))) (mvT hZ (hw _ (own_m 294 rfl))) (mvT hZ (hw _ (own_m 291 rfl))) (mvT hZ (hw _ (own_m 295 rfl))) (by decide) (backOf (W := 0) (rmCB l Z a0 hw [] b F T kb n E h0 n0 Z0 SAr hE hn hT hFT) hZ (hw _ (own_m 295 rfl)) (hw _ (own_m 291 rfl)) (by decide) (by decide)) (g := (mkF mi 13 #[.val (.ref b), .val (.int (Int32.ofNat F)), .val (.int (Int32.ofNat T))] [(.int (Int32.ofNat T)), (.int (Int32.ofNat F)), (.ref b)])) rfl (by rw [hml]; rfl) (argsL := [(.ref b), (.int (Int32.ofNat F)), (.int (Int32.ofNat T))]) (rest := []) (lenOf pd_15 rfl) rfl (by show 2 * 0 + _ ≤ _; exact Nat.le_of_eq rfl) (hb hby dc28_13) (fun _ _ => ⟨rfl, e0, (by decide : 0 + 1 ≤ _), (by decide : 0 + 4 ≤ _)⟩)
  dsimp only [Pt.U, Pt.locs, Pt.cells, Pt.slots] at X4 l4 y4 z4 st4 hQ4
  subst y4 z4
  have X4 := own_cs X4 (cells' := 1) (slots' := 4) rfl rfl
  obtain ⟨h4, e4⟩ : ∃ z, T4.heap = z := ⟨_, rfl⟩
  rw [e4] at hQ4
  obtain ⟨r4, kr4, rfl, N4q, K4, z_r4, g_r4, V_r4, E_r4⟩ := hQ4
  have N4 := own_fr l4 (Fr.app N0 N4q)
  have Zs5 : n0 ≤ h4.size := Nat.le_trans Z0 K4.1
  have KC5 : Keep h0 h4 [] := (Keep.refl h0 []).trans K4 all0
  have sz_r4 : h0.size ≤ r4 := Nat.le_trans (Keep.refl h0 []).1 z_r4
  refine Go.st st4 ?_
  obtain ⟨fs, hr, hrun, hended, hW, hsame⟩ := X4.leave (v := some (.ref r4)) (fun h => by rw [Bd.returns] at h; cases h) (BodyLoose.notSynchronized Bd)
  refine ⟨_, _, ?_, hP _ _ ⟨hrun, hended, _, _, rfl, ?_, ⟨_, rfl⟩, hW, hsame.mono (by decide) (by decide)⟩⟩
  ·exact retOut X4 hx Bd.returns rfl (Or.inr (Or.inr (Or.inr (Or.inr ⟨rfl, rfl, rfl⟩)))) (hb hby dc28_16) hr
  ·show Q_rmCR _ _ _ _ _ _ _ _ _ _ T4.heap _
   rw [e4]
   exact ⟨r4, kr4, rfl, N4, KC5, sz_r4, g_r4, V_r4, E_r4⟩
theorem dc29_0 : Dk zb29 0 (.iload_n 2) 1 := by decide +kernel
theorem dc29_1 : Dk zb29 1 (.ifCond .ne 6) 3 := by decide +kernel
theorem dc29_4 : Dk zb29 4 (.ldc 151) 2 := by decide +kernel
theorem dc29_6 : Dk zb29 6 .areturn 1 := by decide +kernel
theorem dc29_7 : Dk zb29 7 (.new 1) 3 := by decide +kernel
theorem dc29_10 : Dk zb29 10 .dup 1 := by decide +kernel
theorem dc29_11 : Dk zb29 11 (.aload_n 0) 1 := by decide +kernel
theorem dc29_12 : Dk zb29 12 (.iload_n 1) 1 := by decide +kernel
theorem dc29_13 : Dk zb29 13 (.iload_n 1) 1 := by decide +kernel
theorem dc29_14 : Dk zb29 14 (.iload_n 2) 1 := by decide +kernel
theorem dc29_15 : Dk zb29 15 .iadd 1 := by decide +kernel
theorem dc29_16 : Dk zb29 16 (.invokestatic 232) 3 := by decide +kernel
theorem dc29_19 : Dk zb29 19 (.iconst 0) 1 := by decide +kernel
theorem dc29_20 : Dk zb29 20 (.invokespecial 112) 3 := by decide +kernel
theorem pd_16 : parseMethodDescriptor "([BB)V" = some ⟨[(.array .byte), .byte], none⟩ := by decide +kernel
theorem dc29_23 : Dk zb29 23 .areturn 1 := by decide +kernel
theorem ef_rmNS (mi : MethodId) (b : Addr) (F : Nat) (T : Nat) : entryFrame mi #[(.ref b), (.int (Int32.ofNat F)), (.int (Int32.ofNat (T - F)))] 3 = mkF mi 0 #[.val (.ref b), .val (.int (Int32.ofNat F)), .val (.int (Int32.ofNat (T - F)))] [] := by first | (simp [entryFrame, mkF, argsToLocals, Value.category]; done) | rfl
abbrev Q_rmNS (Z : State) (b : Addr) (F : Nat) (T : Nat) (kb : ClassId) (n : Int32) (E : List Int32) (h0 : Heap) (n0 : Nat) (vv_ : Option Value) (hh_ : Heap) (LL_ : List Loc) : Prop := ∃ (s b : Addr) (kb : ClassId), vv_ = some (.ref s) ∧ Fr n0 LL_ ∧ Keep h0 hh_ [] ∧ Exa Z hh_ s "java/lang/String" ∧ Fld Z hh_ s "java/lang/String" "coder" "B" (.int (0 : Int32)) ∧ Fld Z hh_ s "java/lang/String" "value" "[B" (.ref b) ∧ Arv Z hh_ b kb .byte (Int32.ofNat (T - F)) (((E.drop F).take (T - F)).map Value.int) (.int (0 : Int32)) ∧ Exa Z hh_ b "[B"
theorem rmNS (l : Launch) (Z : State) (a0 : Array Value) (hw : Tb Z a0) (ws : List Jvm.Cond) (b : Addr) (F : Nat) (T : Nat) (kb : ClassId) (n : Int32) (E : List Int32) (h0 : Heap) (n0 : Nat) (Z0 : n0 ≤ h0.size) (hEL : EW Z a0 own_EL) (SAr : Arv Z h0 b kb .byte n (E.map Value.int) (.int (0 : Int32))) (hE : E.length ≤ 4) (hn : n.toInt = E.length) (hT : T ≤ E.length) (hFT : F ≤ T) (hne : ¬ (F = 0 ∧ T = E.length)) :
  MtW l Z zy29 zb29 3 (some (.object "java/lang/String")) ws zR21 #[(.ref b), (.int (Int32.ofNat F)), (.int (Int32.ofNat (T - F)))] h0 (Q_rmNS Z b F T kb n E h0 n0) := by
 refine MetFree.of_bodySF (plainFor_of_name pn_2) hisR ?_
 intro pg ev si mi args below meth ci s₁ Bd hml0 hP0 hK
 obtain ⟨rfl, hZ, hh, hCH⟩ := hP0
 have hx := Bd.exec
 have hby := Bd.bytes
 have hml : ci.maxLocals = 3 := hml0
 have hown : si.vm.findClass "java/lang/StringLatin1" = some mi.cls := findClass_of_methodNamed Bd.named
 have hnm := (name_of_methodNamed Bd.named Bd.method).1
 have X0 : Stand pg l ev zR21 si mi #[(.ref b), (.int (Int32.ofNat F)), (.int (Int32.ofNat (T - F)))] below meth ci s₁ [] 0 0 := Stand.of_body Bd
 have e0 : s₁.heap = h0 := by rw [← hh, Bd.state]; rfl
 have N0 := Fr.nil n0
 refine Go.start (fun P hP => ?_)
 refine Go.st (fun t_ k_ => castTop (ef_rmNS mi b F T) k_) (A := s₁.setTop (mkF mi 0 #[.val (.ref b), .val (.int (Int32.ofNat F)), .val (.int (Int32.ofNat (T - F)))] [])) ?_
 refine g_iloadN X0 hx hby dc29_0 rfl ?_
 by_cases hc1_1 : (Int32.ofNat (T - F)) = (0 : Int32)
 ·refine g_ifNo X0 hx hby dc29_1 ((if0 _ _).trans (teq hc1_1).2) ?_
  show Go _ _ _ (s₁.setTop (mkF mi 4 #[.val (.ref b), .val (.int (Int32.ofNat F)), .val (.int (Int32.ofNat (T - F)))] [])) _
  have CR1 : CHr Z own_EL si.vm h0 si.vm h0 := (CHr.refl hCH).trans (CHr.keep (Keep.refl h0 []) sf0 (CHr.refl hCH).1)
  have hwS : ∀ a ∈ Bundle.stringAtoms, a.before a0 Z = true := fun d hd => hw d ((by decide +kernel : ∀ d ∈ Bundle.stringAtoms, d ∈ tables_1) d hd)
  obtain ⟨os2, T2, h2, k12, bs2, ks2, X2, e2, E2, hSi2, hk12, hZ2, hown2, SE2, SCo2, SVa2, SA2, -, -, hCr2, hLi2, -, st2⟩ := ldcCH (s := si) (vm0 := si.vm) (EL := own_EL) (own_rb X0) hx hZ hown (hw _ (own_m 167 rfl)) hwS e0 ((State.WarmedH.refl si).since h0.size) (Nat.le_trans (Nat.le_refl _) (Keep.refl h0 []).1) hEL (List.mem_of_getElem? (i := 4) rfl) CR1.1 (vs := []) (z := (0 : Int32)) ⟨by decide +kernel, by decide +kernel⟩ (by decide) (by decide +kernel) (g := (mkF mi 4 #[.val (.ref b), .val (.int (Int32.ofNat F)), .val (.int (Int32.ofNat (T - F)))] [])) rfl (hb hby dc29_4) (n := 0) (by decide +kernel) (by decide) (by decide) (by decide)
  have SAr2 : Arv Z h2 bs2 ks2 .byte (0 : Int32) (([] : List Int32).map Value.int) (.int (0 : Int32)) := SA2
  have SEb2 : Exa Z h2 bs2 "[B" := own_exB (s := si) hZ2 (hw _ (own_m 167 rfl)) (EL := own_EL) (List.mem_of_getElem? (i := 4) rfl) hCr2.1 hLi2 SVa2 SA2
  have hZ : Z.Warmed39 (si.setVm T2.vm).vm := hZ2
  have hown : (si.setVm T2.vm).vm.findClass "java/lang/StringLatin1" = some mi.cls := hown2
  have Zs3 : n0 ≤ h2.size := Nat.le_trans Z0 E2.1
  have KC3 : Keep h0 h2 [] := (Keep.refl h0 []).ext E2
  have KL3 : Keep h0 h2 [] := (Keep.refl h0 []).ext E2
  have CS2 : CHr Z own_EL si.vm h0 T2.vm h2 := CR1.trans hCr2
  refine Go.st st2 ?_
  show Go _ _ _ (T2.setTop (mkF mi 6 #[.val (.ref b), .val (.int (Int32.ofNat F)), .val (.int (Int32.ofNat (T - F)))] [(.ref os2)])) _
  obtain ⟨fs, hr, hrun, hended, -, hW, hpr, hsame⟩ := Stand.leaveW (v := some (.ref os2)) X2 hSi2 (own_leT e2 (Nat.le_trans hk12 (Keep.refl h2 []).1)) (fun h => by rw [Bd.returns] at h; cases h) (BodyLoose.notSynchronized Bd)
  have hM0 : T - F = 0 := by have q := congrArg Int32.toInt hc1_1; rw [own_ofN (by omega), own_z0] at q; omega
  refine ⟨_, _, ?_, hP _ _ ⟨hrun, hended, _, _, rfl, ?_, (show CHr Z own_EL si.vm si.heap T2.vm T2.heap from own_chr hh e2 ((CS2.trans (CHr.keep (Keep.refl h2 []) sf0 CS2.1)).trans (CHv.at X2 hZ hEL (CHr.keep (Keep.refl h2 []) sf0 CS2.1).1))), ⟨_, rfl⟩, hW, hpr, hsame.mono (by decide) (by decide)⟩⟩
  ·exact retOut X2 hx Bd.returns rfl (Or.inr (Or.inr (Or.inr (Or.inr ⟨rfl, rfl, rfl⟩)))) (hb hby dc29_6) hr
  ·show Q_rmNS _ _ _ _ _ _ _ _ _ _ T2.heap _
   rw [e2]
   exact ⟨os2, bs2, ks2, rfl, N0, KC3, SE2, SCo2, SVa2, (by rw [hM0]; exact SAr2), SEb2⟩
 ·refine g_ifYes X0 hx hby dc29_1 ((if0 _ _).trans (feq hc1_1).2) (pc0 := 1) (pc' := 7) rfl (by decide) (by decide) ?_
  obtain ⟨T4, h4, X4, e4, E4, A4, D4, -, st4⟩ := newO X0 hx hZ hown (hw _ (own_m 288 rfl)) (hw _ (own_m 8 rfl)) (hw _ (own_m 9 rfl)) e0 (g := (mkF mi 7 #[.val (.ref b), .val (.int (Int32.ofNat F)), .val (.int (Int32.ofNat (T - F)))] [])) rfl (hb hby dc29_7) (by decide) (by decide)
  obtain ⟨ob4, g4⟩ : ∃ z, z = h0.size := ⟨_, rfl⟩
  rw [← g4] at A4 D4 st4
  have Zs5 : n0 ≤ h4.size := Nat.le_trans Z0 E4.1
  have KC5 : Keep h0 h4 [] := (Keep.refl h0 []).ext E4
  have KL5 : Keep h0 h4 [] := (Keep.refl h0 []).ext E4
  have g_ob4 : n0 ≤ ob4 := Nat.le_trans Z0 (Nat.le_of_eq g4.symm)
  have sz_ob4 : h0.size ≤ ob4 := Nat.le_trans (Keep.refl h0 []).1 (Nat.le_of_eq g4.symm)
  have szl_ob4 : h0.size ≤ ob4 := Nat.le_trans (Keep.refl h0 []).1 (Nat.le_of_eq g4.symm)
  have F4_34 : Fld Z h4 ob4 "java/lang/String" "coder" "B" (.int 0) := D4 (Or.inr (hw _ (own_m 34 rfl))) (ty := .byte) (by decide)
  have F4_36 : Fld Z h4 ob4 "java/lang/String" "value" "[B" .null := D4 (Or.inr (hw _ (own_m 36 rfl))) (ty := (.array .byte)) (by decide)
  refine Go.st st4 ?_
  refine g_dup X4 hx hby dc29_10 rfl ?_
  refine g_aloadN X4 hx hby dc29_11 rfl rfl ?_
  refine g_iloadN X4 hx hby dc29_12 rfl ?_
  refine g_iloadN X4 hx hby dc29_13 rfl ?_
  refine g_iloadN X4 hx hby dc29_14 rfl ?_
  refine g_iadd X4 hx hby dc29_15 rfl ?_
  show Go _ _ _ (T4.setTop (mkF mi 16 #[.val (.ref b), .val (.int (Int32.ofNat F)), .val (.int (Int32.ofNat (T - F)))] [(.int ((Int32.ofNat F) + (Int32.ofNat (T - F)))), (.int (Int32.ofNat F)), (.ref b), (.ref ob4), (.ref ob4)])) _
  rw [own_addFT hFT]
  show Go _ _ _ (T4.setTop (mkF mi 16 #[.val (.ref b), .val (.int (Int32.ofNat F)), .val (.int (Int32.ofNat (T - F)))] [(.int (Int32.ofNat T)), (.int (Int32.ofNat F)), (.ref b), (.ref ob4), (.ref ob4)])) _
  have f7 := (SAr.ext E4)
  obtain ⟨_, _, ⟨T6, L6, k6, n6⟩, -, X6, ⟨Lc6, hQ6, l6, y6, z6⟩, st6⟩ := Jvm.LawKit.callS X4 hx (y := zy28) hown (mvT hZ (hw _ (own_m 289 rfl))) (mvT hZ (hw _ (own_m 290 rfl))) (mvT hZ (hw _ (own_m 291 rfl))) (mvT hZ (hw _ (own_m 292 rfl))) (by decide) (backOf (W := 2) (rmCR l Z a0 hw [] b F T kb n E h4 n0 Zs5 f7 hE hn hT hFT hne) hZ (hw _ (own_m 292 rfl)) (hw _ (own_m 291 rfl)) (by decide) (by decide)) (g := (mkF mi 16 #[.val (.ref b), .val (.int (Int32.ofNat F)), .val (.int (Int32.ofNat (T - F)))] [(.int (Int32.ofNat T)), (.int (Int32.ofNat F)), (.ref b), (.ref ob4), (.ref ob4)])) rfl (by rw [hml]; rfl) (argsL := [(.ref b), (.int (Int32.ofNat F)), (.int (Int32.ofNat T))]) (rest := [(.ref ob4), (.ref ob4)]) (lenOf pd_15 rfl) rfl (by show 2 * 0 + _ ≤ _; exact Nat.le_of_eq rfl) (hb hby dc29_16) (fun _ _ => ⟨rfl, e4, (by decide : 1 + 1 ≤ _), (by decide : 4 + 4 ≤ _)⟩)
  dsimp only [Pt.U, Pt.locs, Pt.cells, Pt.slots] at X6 l6 y6 z6 st6 hQ6
  subst y6 z6
  have X6 := own_cs X6 (cells' := 2) (slots' := 8) rfl rfl
  obtain ⟨h6, e6⟩ : ∃ z, T6.heap = z := ⟨_, rfl⟩
  rw [e6] at hQ6
  obtain ⟨r6, kr6, rfl, N6q, K6, z_r6, g_r6, V_r6, E_r6⟩ := hQ6
  have N6 := own_fr l6 (Fr.app N0 N6q)
  have Zs8 : n0 ≤ h6.size := Nat.le_trans Zs5 K6.1
  have KC8 : Keep h0 h6 [] := KC5.trans K6 all0
  have KL8 : Keep h0 h6 [] := KL5.trans K6 all0
  have sz_r6 : h0.size ≤ r6 := Nat.le_trans KC5.1 z_r6
  have szl_r6 : h0.size ≤ r6 := Nat.le_trans KL5.1 z_r6
  refine Go.st st6 ?_
  refine g_iconst X6 hx hby dc29_19 (v := 0) rfl ?_
  have f10 := (A4.keep K6)
  have f11 := (F4_34.keep K6 nin0)
  have f12 := (F4_36.keep K6 nin0)
  obtain ⟨_, _, ⟨T9, L9, k9, n9⟩, -, X9, ⟨Lc9, hQ9, l9, y9, z9⟩, st9⟩ := X6.specialBack hx (y := zy12) rfl hown (mvT hZ (hw _ (own_m 301 rfl))) (mvT hZ (hw _ (own_m 302 rfl))) (mvT hZ (hw _ (own_m 303 rfl))) (by decide) (backOf (W := 1) (rmSB l Z a0 hw [] ob4 r6 h6 n0 Zs8 f10 f11 f12 g_ob4) hZ (hw _ (own_m 303 rfl)) (hw _ (own_m 9 rfl)) (by decide) (by decide)) (g := (mkF mi 20 #[.val (.ref b), .val (.int (Int32.ofNat F)), .val (.int (Int32.ofNat (T - F)))] [(.int 0), (.ref r6), (.ref ob4), (.ref ob4)])) rfl (by rw [hml]; rfl) (Steps.refl _) (a := ob4) (argsL := [(.ref r6), (.int 0)]) (rest := [(.ref ob4)]) (lenOf pd_16 rfl) rfl (by show 2 * 0 + _ ≤ _; exact Nat.le_of_eq rfl) (hb hby dc29_20) (fun _ _ => ⟨rfl, e6, (by decide : 2 + 0 ≤ _), (by decide : 8 + 0 ≤ _)⟩)
  dsimp only [Pt.U, Pt.locs, Pt.cells, Pt.slots] at X9 l9 y9 z9 st9 hQ9
  subst y9 z9
  have X9 := own_cs X9 (cells' := 2) (slots' := 8) rfl rfl
  obtain ⟨h9, e9⟩ : ∃ z, T9.heap = z := ⟨_, rfl⟩
  rw [e9] at hQ9
  obtain ⟨rfl, N9q, K9, A_9, FC_9, FV_9⟩ := hQ9
  have N9 := own_fr l9 (Fr.app N6 N9q)
  have Zs13 : n0 ≤ h9.size := Nat.le_trans Zs8 K9.1
  have KC13 : Keep h0 h9 [] := KC8.trans K9 (allS (P := fun x => x ∈ [] ∨ h0.size ≤ x) (Or.inr sz_ob4) all0)
  have KL13 : Keep h0 h9 [] := KL8.trans K9 (allS (P := fun x => x ∈ [] ∨ h0.size ≤ x) (Or.inr szl_ob4) all0)
  refine Go.tr st9 ?_
  show Go _ _ _ (T9.setTop (mkF mi 23 #[.val (.ref b), .val (.int (Int32.ofNat F)), .val (.int (Int32.ofNat (T - F)))] [(.ref ob4)])) _
  obtain ⟨fs, hr, hrun, hended, -, hW, hpr, hsame⟩ := Stand.leaveW (v := some (.ref ob4)) (own_rb X9) ((State.WarmedH.refl si).since h0.size) (own_leT e9 (Nat.le_trans (Nat.le_refl _) KL13.1)) (fun h => by rw [Bd.returns] at h; cases h) (BodyLoose.notSynchronized Bd)
  have ne_ob4_r6 : ob4 ≠ r6 := Nat.ne_of_lt (Nat.lt_of_lt_of_le A4.lt z_r6)
  have f14 := (V_r6.keep K9 (ninS (Ne.symm ne_ob4_r6) nin0))
  have f15 := (E_r6.keep K9)
  refine ⟨_, _, ?_, hP _ _ ⟨hrun, hended, _, _, rfl, ?_, (show CHr Z own_EL si.vm si.heap T9.vm T9.heap from own_chr hh e9 (((CHr.refl hCH).trans (CHr.keep KL13 sf0 (CHr.refl hCH).1)).trans (CHv.at (own_rb X9) hZ hEL (CHr.keep KL13 sf0 (CHr.refl hCH).1).1))), ⟨_, rfl⟩, hW, hpr, hsame.mono (by decide) (by decide)⟩⟩
  ·exact retOut (own_rb X9) hx Bd.returns rfl (Or.inr (Or.inr (Or.inr (Or.inr ⟨rfl, rfl, rfl⟩)))) (hb hby dc29_23) hr
  ·show Q_rmNS _ _ _ _ _ _ _ _ _ _ T9.heap _
   rw [e9]
   exact ⟨ob4, r6, kr6, rfl, N9, KC13, A_9, FC_9, FV_9, f14, f15⟩
theorem dc30_0 : Dk zb30 0 (.aload_n 0) 1 := by decide +kernel
theorem dc30_1 : Dk zb30 1 (.invokevirtual 505) 3 := by decide +kernel
theorem dc30_4 : Dk zb30 4 (.istore_n 3) 1 := by decide +kernel
theorem dc30_5 : Dk zb30 5 (.iload_n 1) 1 := by decide +kernel
theorem dc30_6 : Dk zb30 6 (.iload_n 2) 1 := by decide +kernel
theorem dc30_7 : Dk zb30 7 (.iload_n 3) 1 := by decide +kernel
theorem dc30_8 : Dk zb30 8 (.invokestatic 521) 3 := by decide +kernel
theorem pd_17 : parseMethodDescriptor "(III)V" = some ⟨[.int, .int, .int], none⟩ := by decide +kernel
theorem dc30_11 : Dk zb30 11 (.iload_n 1) 1 := by decide +kernel
theorem dc30_12 : Dk zb30 12 (.ifCond .ne 10) 3 := by decide +kernel
theorem dc30_15 : Dk zb30 15 (.iload_n 2) 1 := by decide +kernel
theorem dc30_16 : Dk zb30 16 (.iload_n 3) 1 := by decide +kernel
theorem dc30_17 : Dk zb30 17 (.if_icmp .ne 5) 3 := by decide +kernel
theorem dc30_22 : Dk zb30 22 (.iload_n 2) 1 := by decide +kernel
theorem dc30_23 : Dk zb30 23 (.iload_n 1) 1 := by decide +kernel
theorem dc30_24 : Dk zb30 24 .isub 1 := by decide +kernel
theorem dc30_25 : Dk zb30 25 (.istore 4) 2 := by decide +kernel
theorem dc30_27 : Dk zb30 27 (.aload_n 0) 1 := by decide +kernel
theorem dc30_28 : Dk zb30 28 (.invokevirtual 492) 3 := by decide +kernel
theorem dc30_31 : Dk zb30 31 (.ifCond .eq 16) 3 := by decide +kernel
theorem dc30_34 : Dk zb30 34 (.aload_n 0) 1 := by decide +kernel
theorem dc30_35 : Dk zb30 35 (.getfield 9) 3 := by decide +kernel
theorem dc30_38 : Dk zb30 38 (.iload_n 1) 1 := by decide +kernel
theorem dc30_39 : Dk zb30 39 (.iload 4) 2 := by decide +kernel
theorem pd_18 : parseMethodDescriptor "([BII)Ljava/lang/String;" = some ⟨[(.array .byte), .int, .int], some (.object "java/lang/String")⟩ := by decide +kernel
theorem dc30_41 : Dk zb30 41 (.invokestatic 685) 3 := by decide +kernel
theorem dc30_44 : Dk zb30 44 (.goto 13) 3 := by decide +kernel
theorem dc30_57 : Dk zb30 57 .areturn 1 := by decide +kernel
theorem ef_rmSu (mi : MethodId) (o : Addr) (F : Nat) (T : Nat) : entryFrame mi #[(.ref o), (.int (Int32.ofNat F)), (.int (Int32.ofNat T))] 5 = mkF mi 0 #[.val (.ref o), .val (.int (Int32.ofNat F)), .val (.int (Int32.ofNat T)), .unset, .unset] [] := by first | (simp [entryFrame, mkF, argsToLocals, Value.category]; done) | rfl
abbrev Q_rmSu (Z : State) (o : Addr) (F : Nat) (T : Nat) (b : Addr) (kb : ClassId) (n : Int32) (E : List Int32) (cz : Int32) (fm : Value) (h0 : Heap) (n0 : Nat) (vv_ : Option Value) (hh_ : Heap) (LL_ : List Loc) : Prop := ∃ (s b : Addr) (kb : ClassId), vv_ = some (.ref s) ∧ Fr n0 LL_ ∧ Keep h0 hh_ [] ∧ Exa Z hh_ s "java/lang/String" ∧ Fld Z hh_ s "java/lang/String" "coder" "B" (.int (0 : Int32)) ∧ Fld Z hh_ s "java/lang/String" "value" "[B" (.ref b) ∧ Arv Z hh_ b kb .byte (Int32.ofNat (T - F)) (((E.drop F).take (T - F)).map Value.int) (.int (0 : Int32)) ∧ Exa Z hh_ b "[B"
theorem rmSu (l : Launch) (Z : State) (a0 : Array Value) (hw : Tb Z a0) (ws : List Jvm.Cond) (o : Addr) (F : Nat) (T : Nat) (b : Addr) (kb : ClassId) (n : Int32) (E : List Int32) (cz : Int32) (fm : Value) (h0 : Heap) (n0 : Nat) (Z0 : n0 ≤ h0.size) (hEL : EW Z a0 own_EL) (SE : Exa Z h0 o "java/lang/String") (SCo : Fld Z h0 o "java/lang/String" "coder" "B" (.int (0 : Int32))) (SVa : Fld Z h0 o "java/lang/String" "value" "[B" (.ref b)) (SAr : Arv Z h0 b kb .byte n (E.map Value.int) (.int (0 : Int32))) (SEb : Exa Z h0 b "[B") (SC : Sta Z h0 "java/lang/String" "COMPACT_STRINGS" "Z" (.int cz)) (hcz : ¬ (cz = (0 : Int32))) (SF : Sta Z h0 "jdk/internal/util/Preconditions" "SIOOBE_FORMATTER" "Ljava/util/function/BiFunction;" fm) (hfm : fm.isRef = true) (hE : E.length ≤ 4) (hn : n.toInt = E.length) (hT : T ≤ E.length) (hFT : F ≤ T) (hne : ¬ (F = 0 ∧ T = E.length)) :
  MtW l Z zy30 zb30 5 (some (.object "java/lang/String")) ws zR22 #[(.ref o), (.int (Int32.ofNat F)), (.int (Int32.ofNat T))] h0 (Q_rmSu Z o F T b kb n E cz fm h0 n0) := by
 refine MetFree.of_bodySF (plainFor_of_name pn_0) hisR ?_
 intro pg ev si mi args below meth ci s₁ Bd hml0 hP0 hK
 obtain ⟨rfl, hZ, hh, hCH⟩ := hP0
 have hx := Bd.exec
 have hby := Bd.bytes
 have hml : ci.maxLocals = 5 := hml0
 have hown : si.vm.findClass "java/lang/String" = some mi.cls := findClass_of_methodNamed Bd.named
 have hnm := (name_of_methodNamed Bd.named Bd.method).1
 have X0 : Stand pg l ev zR22 si mi #[(.ref o), (.int (Int32.ofNat F)), (.int (Int32.ofNat T))] below meth ci s₁ [] 0 0 := Stand.of_body Bd
 have e0 : s₁.heap = h0 := by rw [← hh, Bd.state]; rfl
 have N0 := Fr.nil n0
 refine Go.start (fun P hP => ?_)
 refine Go.st (fun t_ k_ => castTop (ef_rmSu mi o F T) k_) (A := s₁.setTop (mkF mi 0 #[.val (.ref o), .val (.int (Int32.ofNat F)), .val (.int (Int32.ofNat T)), .unset, .unset] [])) ?_
 have f1 : ¬ (Int32.ofNat F < (0 : Int32)) := own_ofN0 (by omega)
 have f2 := own_nlt2 hE hT hFT
 have f3 := own_nlt3 hE hn hT
 show Go _ _ _ (s₁.setTop (mkF mi 0 #[.val (.ref o), .val (.int (Int32.ofNat F)), .val (.int (Int32.ofNat T)), .unset, .unset] [])) _
 refine g_aloadN X0 hx hby dc30_0 rfl rfl ?_
 obtain ⟨cq1, kq1, q1a, q1b, q1c⟩ := isOf hZ e0 SE
 obtain ⟨_, _, ⟨T1, L1, k1, n1⟩, -, X1, ⟨Lc1, hQ1, l1, y1, z1⟩, st1⟩ := X0.virtualBack hx (y := zy1) (z := zy1) hown (mvT hZ (hw _ (own_m 61 rfl))) (mvT hZ (hw _ (own_m 62 rfl))) (notFace_of_selects (args := #[]) (mvT hZ (hw _ (own_m 64 rfl)))) (mvT hZ (hw _ (own_m 64 rfl))) (mvT hZ (hw _ (own_m 63 rfl))) (by decide) (backOf (W := 0) (rmLn l Z a0 hw [] o b kb n E cz h0 n0 Z0 SE SCo SVa SAr SEb SC hcz) hZ (hw _ (own_m 65 rfl)) (hw _ (own_m 9 rfl)) (by decide) (by decide)) q1a q1c (g := (mkF mi 1 #[.val (.ref o), .val (.int (Int32.ofNat F)), .val (.int (Int32.ofNat T)), .unset, .unset] [(.ref o)])) rfl (by rw [hml]; rfl) (Steps.refl _) (argsL := []) (rest := []) (lenOf pd_13 rfl) rfl (by show 2 * 0 + _ ≤ _; exact Nat.le_of_eq rfl) (hb hby dc30_1) (fun _ _ => ⟨rfl, e0, (by decide : 0 + 0 ≤ _), (by decide : 0 + 0 ≤ _)⟩)
 dsimp only [Pt.U, Pt.locs, Pt.cells, Pt.slots] at X1 l1 y1 z1 st1 hQ1
 subst y1 z1
 have X1 := own_cs X1 (cells' := 0) (slots' := 0) rfl rfl
 obtain ⟨rfl, N1q, e1⟩ := hQ1
 have N1 := own_fr l1 (Fr.app N0 N1q)
 refine Go.tr st1 ?_
 refine g_istoreN X1 hx hby dc30_4 (l' := #[.val (.ref o), .val (.int (Int32.ofNat F)), .val (.int (Int32.ofNat T)), .val (.int n), .unset]) rfl ?_
 refine g_iloadN X1 hx hby dc30_5 rfl ?_
 refine g_iloadN X1 hx hby dc30_6 rfl ?_
 refine g_iloadN X1 hx hby dc30_7 rfl ?_
 obtain ⟨_, _, ⟨T2, L2, k2, n2⟩, -, X2, ⟨Lc2, hQ2, l2, y2, z2⟩, st2⟩ := Jvm.LawKit.callS X1 hx (y := zy25) hown (mvT hZ (hw _ (own_m 158 rfl))) (mvT hZ (hw _ (own_m 159 rfl))) (mvT hZ (hw _ (own_m 9 rfl))) (mvT hZ (hw _ (own_m 160 rfl))) (by decide) (backOf (W := 0) (rmBE l Z a0 hw [] (Int32.ofNat F) (Int32.ofNat T) n fm h0 n0 Z0 SF hfm f1 f2 f3) hZ (hw _ (own_m 160 rfl)) (hw _ (own_m 9 rfl)) (by decide) (by decide)) (g := (mkF mi 8 #[.val (.ref o), .val (.int (Int32.ofNat F)), .val (.int (Int32.ofNat T)), .val (.int n), .unset] [(.int n), (.int (Int32.ofNat T)), (.int (Int32.ofNat F))])) rfl (by rw [hml]; rfl) (argsL := [(.int (Int32.ofNat F)), (.int (Int32.ofNat T)), (.int n)]) (rest := []) (lenOf pd_17 rfl) rfl (by show 2 * 0 + _ ≤ _; exact Nat.le_of_eq rfl) (hb hby dc30_8) (fun _ _ => ⟨rfl, e1, (by decide : 0 + 0 ≤ _), (by decide : 0 + 0 ≤ _)⟩)
 dsimp only [Pt.U, Pt.locs, Pt.cells, Pt.slots] at X2 l2 y2 z2 st2 hQ2
 subst y2 z2
 have X2 := own_cs X2 (cells' := 0) (slots' := 0) rfl rfl
 obtain ⟨rfl, N2q, e2⟩ := hQ2
 have N2 := own_fr l2 (Fr.app N1 N2q)
 refine Go.st st2 ?_
 refine g_iloadN X2 hx hby dc30_11 rfl ?_
 by_cases hc12_1 : (Int32.ofNat F) = (0 : Int32)
 ·refine g_ifNo X2 hx hby dc30_12 ((if0 _ _).trans (teq hc12_1).2) ?_
  refine g_iloadN X2 hx hby dc30_15 rfl ?_
  refine g_iloadN X2 hx hby dc30_16 rfl ?_
  refine g_icmpYes X2 hx hby dc30_17 (feq (own_crn hE hn hT hFT hne hc12_1)).2 (pc0 := 17) (pc' := 22) rfl (by decide) (by decide) ?_
  refine g_iloadN X2 hx hby dc30_22 rfl ?_
  refine g_iloadN X2 hx hby dc30_23 rfl ?_
  refine g_isub X2 hx hby dc30_24 rfl ?_
  show Go _ _ _ (T2.setTop (mkF mi 25 #[.val (.ref o), .val (.int (Int32.ofNat F)), .val (.int (Int32.ofNat T)), .val (.int n), .unset] [(.int ((Int32.ofNat T) - (Int32.ofNat F)))])) _
  rw [own_sub (n := T) (m := F) (by omega) hFT]
  show Go _ _ _ (T2.setTop (mkF mi 25 #[.val (.ref o), .val (.int (Int32.ofNat F)), .val (.int (Int32.ofNat T)), .val (.int n), .unset] [(.int (Int32.ofNat (T - F)))])) _
  refine g_istore X2 hx hby dc30_25 (l' := #[.val (.ref o), .val (.int (Int32.ofNat F)), .val (.int (Int32.ofNat T)), .val (.int n), .val (.int (Int32.ofNat (T - F)))]) rfl ?_
  refine g_aloadN X2 hx hby dc30_27 rfl rfl ?_
  obtain ⟨cq3, kq3, q3a, q3b, q3c⟩ := isOf hZ e2 SE
  obtain ⟨_, _, ⟨T3, L3, k3, n3⟩, -, X3, ⟨Lc3, hQ3, l3, y3, z3⟩, st3⟩ := X2.virtualBack hx (y := zy2) (z := zy2) hown (mvT hZ (hw _ (own_m 56 rfl))) (mvT hZ (hw _ (own_m 57 rfl))) (notFace_of_selects (args := #[]) (mvT hZ (hw _ (own_m 59 rfl)))) (mvT hZ (hw _ (own_m 59 rfl))) (mvT hZ (hw _ (own_m 58 rfl))) (by decide) (backOf (W := 0) (rmL1 l Z a0 hw [] o cz h0 n0 Z0 SCo SC hcz) hZ (hw _ (own_m 60 rfl)) (hw _ (own_m 9 rfl)) (by decide) (by decide)) q3a q3c (g := (mkF mi 28 #[.val (.ref o), .val (.int (Int32.ofNat F)), .val (.int (Int32.ofNat T)), .val (.int n), .val (.int (Int32.ofNat (T - F)))] [(.ref o)])) rfl (by rw [hml]; rfl) (Steps.refl _) (argsL := []) (rest := []) (lenOf pd_3 rfl) rfl (by show 2 * 0 + _ ≤ _; exact Nat.le_of_eq rfl) (hb hby dc30_28) (fun _ _ => ⟨rfl, e2, (by decide : 0 + 0 ≤ _), (by decide : 0 + 0 ≤ _)⟩)
  dsimp only [Pt.U, Pt.locs, Pt.cells, Pt.slots] at X3 l3 y3 z3 st3 hQ3
  subst y3 z3
  have X3 := own_cs X3 (cells' := 0) (slots' := 0) rfl rfl
  obtain ⟨rfl, N3q, e3⟩ := hQ3
  have N3 := own_fr l3 (Fr.app N2 N3q)
  refine Go.tr st3 ?_
  refine g_ifNo X3 hx hby dc30_31 ((if0 _ _).trans (feq (by decide)).1) ?_
  refine g_aloadN X3 hx hby dc30_34 rfl rfl ?_
  obtain ⟨T4, X4, e4, st4⟩ := getF X3 hx hZ hown (host := "") (Or.inl (hw _ (own_m 35 rfl))) Via.refl e3 SVa (g := (mkF mi 35 #[.val (.ref o), .val (.int (Int32.ofNat F)), .val (.int (Int32.ofNat T)), .val (.int n), .val (.int (Int32.ofNat (T - F)))] [(.ref o)])) rfl rfl (hb hby dc30_35)
  refine Go.st st4 ?_
  refine g_iloadN X4 hx hby dc30_38 rfl ?_
  refine g_iload X4 hx hby dc30_39 rfl ?_
  show Go _ _ _ (T4.setTop (mkF mi 41 #[.val (.ref o), .val (.int (Int32.ofNat F)), .val (.int (Int32.ofNat T)), .val (.int n), .val (.int (Int32.ofNat (T - F)))] [(.int (Int32.ofNat (T - F))), (.int (Int32.ofNat F)), (.ref b)])) _
  have CR5 : CHr Z own_EL si.vm h0 si.vm h0 := (CHr.refl hCH).trans (CHr.keep (Keep.refl h0 []) sf0 (CHr.refl hCH).1)
  obtain ⟨_, _, ⟨T6, L6, k6, n6⟩, -, X6, hS6', hG6, ⟨Lc6, hQ6, l6, y6, z6, hCr6⟩, st6⟩ := callSS (own_rb X4) hx (y := zy29) hown (mvT hZ (hw _ (own_m 164 rfl))) (mvT hZ (hw _ (own_m 165 rfl))) (mvT hZ (hw _ (own_m 73 rfl))) (mvT hZ (hw _ (own_m 166 rfl))) (by decide) (backOfSH (s := si) (vm0 := si.vm) (EL := own_EL) (W := 0) (rmNS l Z a0 hw [] b F T kb n E h0 n0 Z0 hEL SAr hE hn hT hFT hne) hZ (hw _ (own_m 166 rfl)) (hw _ (own_m 73 rfl)) (by decide) (by decide) hEL CR5.1) (g := (mkF mi 41 #[.val (.ref o), .val (.int (Int32.ofNat F)), .val (.int (Int32.ofNat T)), .val (.int n), .val (.int (Int32.ofNat (T - F)))] [(.int (Int32.ofNat (T - F))), (.int (Int32.ofNat F)), (.ref b)])) rfl (by rw [hml]; rfl) (argsL := [(.ref b), (.int (Int32.ofNat F)), (.int (Int32.ofNat (T - F)))]) (rest := []) (lenOf pd_18 rfl) rfl (by show 2 * 0 + _ ≤ _; exact Nat.le_of_eq rfl) (hb hby dc30_41) (fun _ _ => ⟨rfl, e4, (by decide : 0 + 2 ≤ _), (by decide : 0 + 8 ≤ _)⟩)
  dsimp only [Pt.U, Pt.locs, Pt.cells, Pt.slots] at X6 l6 y6 z6 st6 hQ6 hCr6 hS6' hG6
  subst y6 z6
  have X6 := own_cs X6 (cells' := 2) (slots' := 8) rfl rfl
  obtain ⟨X6, hS6, hZ, hown⟩ := rebS ((State.WarmedH.refl si).since h0.size) (own_leT e4 (Nat.le_trans (Nat.le_refl _) (Keep.refl h0 []).1)) X6 hS6' hG6 hZ hown
  obtain ⟨h6, e6⟩ : ∃ z, T6.heap = z := ⟨_, rfl⟩
  rw [e6] at hQ6
  obtain ⟨s6_, b6, kb6, rfl, N6q, K6, SE6, SCo6, SVa6, SAr6, SEb6⟩ := hQ6
  have N6 := own_fr l6 (Fr.app N3 N6q)
  have Zs7 : n0 ≤ h6.size := Nat.le_trans Z0 K6.1
  have KC7 : Keep h0 h6 [] := (Keep.refl h0 []).trans K6 all0
  have KL7 : Keep h0 h6 [] := (Keep.refl h0 []).trans K6 all0
  rw [e6] at hCr6
  have CS6 : CHr Z own_EL si.vm h0 T6.vm h6 := CR5.trans hCr6
  refine Go.tr st6 ?_
  show Go _ _ _ (T6.setTop (mkF mi 44 #[.val (.ref o), .val (.int (Int32.ofNat F)), .val (.int (Int32.ofNat T)), .val (.int n), .val (.int (Int32.ofNat (T - F)))] [(.ref s6_)])) _
  refine g_goto X6 hx hby dc30_44 (pc0 := 44) (pc' := 57) rfl (by decide) (by decide) ?_
  show Go _ _ _ (T6.setTop (mkF mi 57 #[.val (.ref o), .val (.int (Int32.ofNat F)), .val (.int (Int32.ofNat T)), .val (.int n), .val (.int (Int32.ofNat (T - F)))] [(.ref s6_)])) _
  obtain ⟨fs, hr, hrun, hended, -, hW, hpr, hsame⟩ := Stand.leaveW (v := some (.ref s6_)) X6 hS6 (own_leT e6 (Nat.le_trans (own_leH e6) (Keep.refl h6 []).1)) (fun h => by rw [Bd.returns] at h; cases h) (BodyLoose.notSynchronized Bd)
  refine ⟨_, _, ?_, hP _ _ ⟨hrun, hended, _, _, rfl, ?_, (show CHr Z own_EL si.vm si.heap T6.vm T6.heap from own_chr hh e6 ((CS6.trans (CHr.keep (Keep.refl h6 []) sf0 CS6.1)).trans (CHv.at X6 hZ hEL (CHr.keep (Keep.refl h6 []) sf0 CS6.1).1))), ⟨_, rfl⟩, hW, hpr, hsame.mono (by decide) (by decide)⟩⟩
  ·exact retOut X6 hx Bd.returns rfl (Or.inr (Or.inr (Or.inr (Or.inr ⟨rfl, rfl, rfl⟩)))) (hb hby dc30_57) hr
  ·show Q_rmSu _ _ _ _ _ _ _ _ _ _ _ _ _ T6.heap _
   rw [e6]
   exact ⟨s6_, b6, kb6, rfl, N6, KC7, SE6, SCo6, SVa6, SAr6, SEb6⟩
 ·refine g_ifYes X2 hx hby dc30_12 ((if0 _ _).trans (feq hc12_1).2) (pc0 := 12) (pc' := 22) rfl (by decide) (by decide) ?_
  refine g_iloadN X2 hx hby dc30_22 rfl ?_
  refine g_iloadN X2 hx hby dc30_23 rfl ?_
  refine g_isub X2 hx hby dc30_24 rfl ?_
  show Go _ _ _ (T2.setTop (mkF mi 25 #[.val (.ref o), .val (.int (Int32.ofNat F)), .val (.int (Int32.ofNat T)), .val (.int n), .unset] [(.int ((Int32.ofNat T) - (Int32.ofNat F)))])) _
  rw [own_sub (n := T) (m := F) (by omega) hFT]
  show Go _ _ _ (T2.setTop (mkF mi 25 #[.val (.ref o), .val (.int (Int32.ofNat F)), .val (.int (Int32.ofNat T)), .val (.int n), .unset] [(.int (Int32.ofNat (T - F)))])) _
  refine g_istore X2 hx hby dc30_25 (l' := #[.val (.ref o), .val (.int (Int32.ofNat F)), .val (.int (Int32.ofNat T)), .val (.int n), .val (.int (Int32.ofNat (T - F)))]) rfl ?_
  refine g_aloadN X2 hx hby dc30_27 rfl rfl ?_
  obtain ⟨cq8, kq8, q8a, q8b, q8c⟩ := isOf hZ e2 SE
  obtain ⟨_, _, ⟨T8, L8, k8, n8⟩, -, X8, ⟨Lc8, hQ8, l8, y8, z8⟩, st8⟩ := X2.virtualBack hx (y := zy2) (z := zy2) hown (mvT hZ (hw _ (own_m 56 rfl))) (mvT hZ (hw _ (own_m 57 rfl))) (notFace_of_selects (args := #[]) (mvT hZ (hw _ (own_m 59 rfl)))) (mvT hZ (hw _ (own_m 59 rfl))) (mvT hZ (hw _ (own_m 58 rfl))) (by decide) (backOf (W := 0) (rmL1 l Z a0 hw [] o cz h0 n0 Z0 SCo SC hcz) hZ (hw _ (own_m 60 rfl)) (hw _ (own_m 9 rfl)) (by decide) (by decide)) q8a q8c (g := (mkF mi 28 #[.val (.ref o), .val (.int (Int32.ofNat F)), .val (.int (Int32.ofNat T)), .val (.int n), .val (.int (Int32.ofNat (T - F)))] [(.ref o)])) rfl (by rw [hml]; rfl) (Steps.refl _) (argsL := []) (rest := []) (lenOf pd_3 rfl) rfl (by show 2 * 0 + _ ≤ _; exact Nat.le_of_eq rfl) (hb hby dc30_28) (fun _ _ => ⟨rfl, e2, (by decide : 0 + 0 ≤ _), (by decide : 0 + 0 ≤ _)⟩)
  dsimp only [Pt.U, Pt.locs, Pt.cells, Pt.slots] at X8 l8 y8 z8 st8 hQ8
  subst y8 z8
  have X8 := own_cs X8 (cells' := 0) (slots' := 0) rfl rfl
  obtain ⟨rfl, N8q, e8⟩ := hQ8
  have N8 := own_fr l8 (Fr.app N2 N8q)
  refine Go.tr st8 ?_
  refine g_ifNo X8 hx hby dc30_31 ((if0 _ _).trans (feq (by decide)).1) ?_
  refine g_aloadN X8 hx hby dc30_34 rfl rfl ?_
  obtain ⟨T9, X9, e9, st9⟩ := getF X8 hx hZ hown (host := "") (Or.inl (hw _ (own_m 35 rfl))) Via.refl e8 SVa (g := (mkF mi 35 #[.val (.ref o), .val (.int (Int32.ofNat F)), .val (.int (Int32.ofNat T)), .val (.int n), .val (.int (Int32.ofNat (T - F)))] [(.ref o)])) rfl rfl (hb hby dc30_35)
  refine Go.st st9 ?_
  refine g_iloadN X9 hx hby dc30_38 rfl ?_
  refine g_iload X9 hx hby dc30_39 rfl ?_
  show Go _ _ _ (T9.setTop (mkF mi 41 #[.val (.ref o), .val (.int (Int32.ofNat F)), .val (.int (Int32.ofNat T)), .val (.int n), .val (.int (Int32.ofNat (T - F)))] [(.int (Int32.ofNat (T - F))), (.int (Int32.ofNat F)), (.ref b)])) _
  have CR10 : CHr Z own_EL si.vm h0 si.vm h0 := (CHr.refl hCH).trans (CHr.keep (Keep.refl h0 []) sf0 (CHr.refl hCH).1)
  obtain ⟨_, _, ⟨T11, L11, k11, n11⟩, -, X11, hS11', hG11, ⟨Lc11, hQ11, l11, y11, z11, hCr11⟩, st11⟩ := callSS (own_rb X9) hx (y := zy29) hown (mvT hZ (hw _ (own_m 164 rfl))) (mvT hZ (hw _ (own_m 165 rfl))) (mvT hZ (hw _ (own_m 73 rfl))) (mvT hZ (hw _ (own_m 166 rfl))) (by decide) (backOfSH (s := si) (vm0 := si.vm) (EL := own_EL) (W := 0) (rmNS l Z a0 hw [] b F T kb n E h0 n0 Z0 hEL SAr hE hn hT hFT hne) hZ (hw _ (own_m 166 rfl)) (hw _ (own_m 73 rfl)) (by decide) (by decide) hEL CR10.1) (g := (mkF mi 41 #[.val (.ref o), .val (.int (Int32.ofNat F)), .val (.int (Int32.ofNat T)), .val (.int n), .val (.int (Int32.ofNat (T - F)))] [(.int (Int32.ofNat (T - F))), (.int (Int32.ofNat F)), (.ref b)])) rfl (by rw [hml]; rfl) (argsL := [(.ref b), (.int (Int32.ofNat F)), (.int (Int32.ofNat (T - F)))]) (rest := []) (lenOf pd_18 rfl) rfl (by show 2 * 0 + _ ≤ _; exact Nat.le_of_eq rfl) (hb hby dc30_41) (fun _ _ => ⟨rfl, e9, (by decide : 0 + 2 ≤ _), (by decide : 0 + 8 ≤ _)⟩)
  dsimp only [Pt.U, Pt.locs, Pt.cells, Pt.slots] at X11 l11 y11 z11 st11 hQ11 hCr11 hS11' hG11
  subst y11 z11
  have X11 := own_cs X11 (cells' := 2) (slots' := 8) rfl rfl
  obtain ⟨X11, hS11, hZ, hown⟩ := rebS ((State.WarmedH.refl si).since h0.size) (own_leT e9 (Nat.le_trans (Nat.le_refl _) (Keep.refl h0 []).1)) X11 hS11' hG11 hZ hown
  obtain ⟨h11, e11⟩ : ∃ z, T11.heap = z := ⟨_, rfl⟩
  rw [e11] at hQ11
  obtain ⟨s11_, b11, kb11, rfl, N11q, K11, SE11, SCo11, SVa11, SAr11, SEb11⟩ := hQ11
  have N11 := own_fr l11 (Fr.app N8 N11q)
  have Zs12 : n0 ≤ h11.size := Nat.le_trans Z0 K11.1
  have KC12 : Keep h0 h11 [] := (Keep.refl h0 []).trans K11 all0
  have KL12 : Keep h0 h11 [] := (Keep.refl h0 []).trans K11 all0
  rw [e11] at hCr11
  have CS11 : CHr Z own_EL si.vm h0 T11.vm h11 := CR10.trans hCr11
  refine Go.tr st11 ?_
  show Go _ _ _ (T11.setTop (mkF mi 44 #[.val (.ref o), .val (.int (Int32.ofNat F)), .val (.int (Int32.ofNat T)), .val (.int n), .val (.int (Int32.ofNat (T - F)))] [(.ref s11_)])) _
  refine g_goto X11 hx hby dc30_44 (pc0 := 44) (pc' := 57) rfl (by decide) (by decide) ?_
  show Go _ _ _ (T11.setTop (mkF mi 57 #[.val (.ref o), .val (.int (Int32.ofNat F)), .val (.int (Int32.ofNat T)), .val (.int n), .val (.int (Int32.ofNat (T - F)))] [(.ref s11_)])) _
  obtain ⟨fs, hr, hrun, hended, -, hW, hpr, hsame⟩ := Stand.leaveW (v := some (.ref s11_)) X11 hS11 (own_leT e11 (Nat.le_trans (own_leH e11) (Keep.refl h11 []).1)) (fun h => by rw [Bd.returns] at h; cases h) (BodyLoose.notSynchronized Bd)
  refine ⟨_, _, ?_, hP _ _ ⟨hrun, hended, _, _, rfl, ?_, (show CHr Z own_EL si.vm si.heap T11.vm T11.heap from own_chr hh e11 ((CS11.trans (CHr.keep (Keep.refl h11 []) sf0 CS11.1)).trans (CHv.at X11 hZ hEL (CHr.keep (Keep.refl h11 []) sf0 CS11.1).1))), ⟨_, rfl⟩, hW, hpr, hsame.mono (by decide) (by decide)⟩⟩
  ·exact retOut X11 hx Bd.returns rfl (Or.inr (Or.inr (Or.inr (Or.inr ⟨rfl, rfl, rfl⟩)))) (hb hby dc30_57) hr
  ·show Q_rmSu _ _ _ _ _ _ _ _ _ _ _ _ _ T11.heap _
   rw [e11]
   exact ⟨s11_, b11, kb11, rfl, N11, KC12, SE11, SCo11, SVa11, SAr11, SEb11⟩
theorem own_newRE {p : Program} {l : Launch} {e : Env} {R : Room} {s : State} {m : MethodId} {args : Array Value} {below : List Frame} {meth : Method} {c : Code} {T : State} {locs : List Loc} {cells slots : Nat} {Z : State} {a0 : Array Value} {h : Heap} (X : Stand p l e R s m args below meth c T locs cells slots) (hx : p.tables.exec = Jvm.exec) (hZ : Z.Warmed39 s.vm) {own C : String} {index : Nat} (hown : s.vm.findClass own = some m.cls) (w1 : (Cond.classLink own index C).before a0 Z = true) (w2 : (Cond.arrayOver (.object C)).before a0 Z = true)
  (eT : T.heap = h) {g : JFrame} (hg : g.method = m) (hd : decode c.code g.pc = .ok (.anewarray index, 3)) {n : Int32} {rest : List Value} (hs : g.stack = .int n :: rest) (hn : ¬ n < 0) {cap : Nat} (hcap : n.toNatClampNeg ≤ cap) (hb : cap * 8 ≤ 536870912) (hc : cells + 1 ≤ R.cells) (hl : slots + cap ≤ R.slots) {ad : String} (had : "[" ++ (FieldType.object C).toString = ad) :
  ∃ T' h' cA, Stand p l e R s m args below meth c T' locs (cells + 1) (slots + cap) ∧ T'.heap = h' ∧ Ext h h' ∧ Arr Z h' h.size (newA cA (.object C) n) (.object C) ∧ Exa Z h' h.size ad ∧ Ovr Z cA C ∧
   ∀ target, Steps p.tables e below (T'.setTop { g with pc := g.pc + 3, stack := .ref h.size :: rest }) target → Steps p.tables e below (T.setTop g) target := by
 have w3 : (Cond.arrayOver (.object C)).before args s = true := Cond.arrayOver_alike hZ.alike w2
 obtain ⟨vm₁, cA, kA, comp, -, f1, f2, f3, f4, Y, st⟩ := X.anewarrayRefK hx hown (mv hZ w1) w3 hg hd hs hn (by omega) hc (by omega)
 subst eT; subst had
 have f5 := (hZ.alike.findClass _ _).symm.trans f1
 obtain ⟨kz, y1, -⟩ := Vm.findClass_spec f5
 obtain ⟨ky, y2, y3⟩ := hZ.alike.2.2 _ _ y1
 obtain rfl : kA = ky := Option.some.inj (f2.symm.trans y2)
 have kk : kz.kind = .array comp (.object C) := by rw [← f3, y3]
 have A : Arr Z (T.heap.push (newA cA (.object C) n)) T.heap.size (newA cA (.object C) n) (.object C) := ⟨by simp, ⟨by simp [newA], kz, y1, comp, kk⟩, by simp [newA]⟩
 exact ⟨_, _, cA, Y.more (Nat.le_refl _) (by omega), rfl, ext_of fun a q => (Array.getElem?_push_lt q).trans (Array.getElem?_eq_getElem q).symm, A, exa_arr A f5 rfl, ⟨kz, comp, y1, kk, (hZ.alike.findClass _ _).symm.trans f4⟩, st⟩
theorem dc31_0 : Dk zb31 0 (.aload_n 0) 1 := by decide +kernel
theorem dc31_1 : Dk zb31 1 (.invokespecial 1) 3 := by decide +kernel
theorem dc31_4 : Dk zb31 4 .return_ 1 := by decide +kernel
theorem pn_6 : plainName "java/util/AbstractCollection" = true := by first | (simp [plainName, overriddenIn]; done) | decide +kernel
theorem ef_rmACi (mi : MethodId) (o : Addr) : entryFrame mi #[(.ref o)] 1 = mkF mi 0 #[.val (.ref o)] [] := by first | (simp [entryFrame, mkF, argsToLocals, Value.category]; done) | rfl
theorem rmACi (l : Launch) (Z : State) (a0 : Array Value) (hw : Tb Z a0) (ws : List Jvm.Cond) (o : Addr) (h0 : Heap) (n0 : Nat) (Z0 : n0 ≤ h0.size) :
  Mt l Z zy31 zb31 1 none ws zR5 #[(.ref o)] h0 (QP (none) h0 n0) := by
 refine MetFree.of_bodySF (plainFor_of_name pn_6) hisR ?_
 intro pg ev si mi args below meth ci s₁ Bd hml0 hP0 hK
 obtain ⟨rfl, hZ, hh⟩ := hP0
 have hx := Bd.exec
 have hby := Bd.bytes
 have hml : ci.maxLocals = 1 := hml0
 have hown : si.vm.findClass "java/util/AbstractCollection" = some mi.cls := findClass_of_methodNamed Bd.named
 have hnm := (name_of_methodNamed Bd.named Bd.method).1
 have X0 : Stand pg l ev zR5 si mi #[(.ref o)] below meth ci s₁ [] 0 0 := Stand.of_body Bd
 have e0 : s₁.heap = h0 := by rw [← hh, Bd.state]; rfl
 have N0 := Fr.nil n0
 refine Go.start (fun P hP => ?_)
 refine Go.st (fun t_ k_ => castTop (ef_rmACi mi o) k_) (A := s₁.setTop (mkF mi 0 #[.val (.ref o)] [])) ?_
 refine g_aloadN X0 hx hby dc31_0 rfl rfl ?_
 obtain ⟨T1, X1, e1, st1⟩ := initO X0 hx hZ hown (hw _ (own_m 147 rfl)) (hw _ (own_m 19 rfl)) (hw _ (own_m 20 rfl)) e0 (g := (mkF mi 1 #[.val (.ref o)] [(.ref o)])) rfl (by rw [hml]; rfl) rfl (hb hby dc31_1) (by decide) (W := 0) (by show 2 * 0 + _ ≤ _; exact Nat.le_of_eq rfl) (by decide)
 refine Go.st st1 ?_
 obtain ⟨fs, hr, hrun, hended, hW, hsame⟩ := X1.leave (v := none) (fun _ => rfl) (BodyLoose.notSynchronized Bd)
 refine ⟨_, _, ?_, hP _ _ ⟨hrun, hended, _, _, rfl, ?_, ⟨_, rfl⟩, hW, hsame.mono (by decide) (by decide)⟩⟩
 ·exact X1.returnOut hx Bd.returns (hb hby dc31_4) hr
 ·exact ⟨rfl, N0, e1⟩
theorem dc32_0 : Dk zb32 0 (.aload_n 0) 1 := by decide +kernel
theorem dc32_1 : Dk zb32 1 (.invokespecial 1) 3 := by decide +kernel
theorem pd_19 : parseMethodDescriptor "()V" = some ⟨[], none⟩ := by decide +kernel
theorem dc32_4 : Dk zb32 4 (.aload_n 0) 1 := by decide +kernel
theorem dc32_5 : Dk zb32 5 (.iconst 0) 1 := by decide +kernel
theorem dc32_6 : Dk zb32 6 (.putfield 7) 3 := by decide +kernel
theorem dc32_9 : Dk zb32 9 .return_ 1 := by decide +kernel
theorem pn_7 : plainName "java/util/AbstractList" = true := by first | (simp [plainName, overriddenIn]; done) | decide +kernel
theorem ef_rmABa (mi : MethodId) (o : Addr) : entryFrame mi #[(.ref o)] 1 = mkF mi 0 #[.val (.ref o)] [] := by first | (simp [entryFrame, mkF, argsToLocals, Value.category]; done) | rfl
abbrev Q_rmABa (Z : State) (o : Addr) (h0 : Heap) (n0 : Nat) (vv_ : Option Value) (hh_ : Heap) (LL_ : List Loc) : Prop := vv_ = none ∧ Fr n0 LL_ ∧ Keep h0 hh_ [o] ∧ Exa Z hh_ o "java/util/ArrayList" ∧ Fld Z hh_ o "java/util/AbstractList" "modCount" "I" (.int (0 : Int32)) ∧ Fld Z hh_ o "java/util/ArrayList" "elementData" "[Ljava/lang/Object;" .null ∧ Fld Z hh_ o "java/util/ArrayList" "size" "I" (.int 0)
theorem rmABa (l : Launch) (Z : State) (a0 : Array Value) (hw : Tb Z a0) (ws : List Jvm.Cond) (o : Addr) (h0 : Heap) (n0 : Nat) (Z0 : n0 ≤ h0.size) (E0 : Exa Z h0 o "java/util/ArrayList") (FM : Fld Z h0 o "java/util/AbstractList" "modCount" "I" (.int (0 : Int32))) (FX0 : Fld Z h0 o "java/util/ArrayList" "elementData" "[Ljava/lang/Object;" .null) (FX1 : Fld Z h0 o "java/util/ArrayList" "size" "I" (.int 0)) (g_o : n0 ≤ o) :
  Mt l Z zy32 zb32 1 none ws zR23 #[(.ref o)] h0 (Q_rmABa Z o h0 n0) := by
 refine MetFree.of_bodySF (plainFor_of_name pn_7) hisR ?_
 intro pg ev si mi args below meth ci s₁ Bd hml0 hP0 hK
 obtain ⟨rfl, hZ, hh⟩ := hP0
 have hx := Bd.exec
 have hby := Bd.bytes
 have hml : ci.maxLocals = 1 := hml0
 have hown : si.vm.findClass "java/util/AbstractList" = some mi.cls := findClass_of_methodNamed Bd.named
 have hnm := (name_of_methodNamed Bd.named Bd.method).1
 have X0 : Stand pg l ev zR23 si mi #[(.ref o)] below meth ci s₁ [] 0 0 := Stand.of_body Bd
 have e0 : s₁.heap = h0 := by rw [← hh, Bd.state]; rfl
 have N0 := Fr.nil n0
 refine Go.start (fun P hP => ?_)
 refine Go.st (fun t_ k_ => castTop (ef_rmABa mi o) k_) (A := s₁.setTop (mkF mi 0 #[.val (.ref o)] [])) ?_
 refine g_aloadN X0 hx hby dc32_0 rfl rfl ?_
 obtain ⟨_, _, ⟨T1, L1, k1, n1⟩, -, X1, ⟨Lc1, hQ1, l1, y1, z1⟩, st1⟩ := X0.specialBack hx (y := zy31) rfl hown (mvT hZ (hw _ (own_m 141 rfl))) (mvT hZ (hw _ (own_m 142 rfl))) (mvT hZ (hw _ (own_m 146 rfl))) (by decide) (backOf (W := 0) (rmACi l Z a0 hw [] o h0 n0 Z0) hZ (hw _ (own_m 146 rfl)) (hw _ (own_m 145 rfl)) (by decide) (by decide)) (g := (mkF mi 1 #[.val (.ref o)] [(.ref o)])) rfl (by rw [hml]; rfl) (Steps.refl _) (a := o) (argsL := []) (rest := []) (lenOf pd_19 rfl) rfl (by show 2 * 0 + _ ≤ _; exact Nat.le_of_eq rfl) (hb hby dc32_1) (fun _ _ => ⟨rfl, e0, (by decide : 0 + 0 ≤ _), (by decide : 0 + 0 ≤ _)⟩)
 dsimp only [Pt.U, Pt.locs, Pt.cells, Pt.slots] at X1 l1 y1 z1 st1 hQ1
 subst y1 z1
 have X1 := own_cs X1 (cells' := 0) (slots' := 0) rfl rfl
 obtain ⟨rfl, N1q, e1⟩ := hQ1
 have N1 := own_fr l1 (Fr.app N0 N1q)
 refine Go.tr st1 ?_
 refine g_aloadN X1 hx hby dc32_4 rfl rfl ?_
 refine g_iconst X1 hx hby dc32_5 (v := 0) rfl ?_
 obtain ⟨T2, h2, X2, e2, W2, st2⟩ := putF X1 hx hZ hown (host := "") (Or.inl (hw _ (own_m 148 rfl))) Via.refl e1 FM E0 (Or.inl (hw _ (own_m 149 rfl))) (hw _ (own_m 129 rfl)) (ty := .int) (by decide) rfl rfl (g := (mkF mi 6 #[.val (.ref o)] [(.int 0), (.ref o)])) rfl rfl (hb hby dc32_6)
 have Zs3 : n0 ≤ h2.size := Nat.le_trans Z0 (Keep.of_wr W2).1
 have KC3 : Keep h0 h2 [o] := (Keep.refl h0 [o]).wr W2 (Or.inl (List.mem_of_getElem? (i := 0) rfl))
 have N3 := Fr.snoc X2 N1 g_o
 have F2 : Fld Z h2 o "java/util/AbstractList" "modCount" "I" (.int 0) := FM.same W2
 refine Go.st st2 ?_
 obtain ⟨fs, hr, hrun, hended, hW, hsame⟩ := X2.leave (v := none) (fun _ => rfl) (BodyLoose.notSynchronized Bd)
 have f4 := (E0.wr W2)
 have f5 := (FX0.other W2 (Or.inr (slot_ne (Or.inl (hw _ (own_m 152 rfl))) (Or.inl (hw _ (own_m 149 rfl))) (by decide) (t := (.array (.object "java/lang/Object"))) (t' := .int) (by decide) (by decide))))
 have f6 := (FX1.other W2 (Or.inr (slot_ne (Or.inl (hw _ (own_m 176 rfl))) (Or.inl (hw _ (own_m 149 rfl))) (by decide) (t := .int) (t' := .int) (by decide) (by decide))))
 refine ⟨_, _, ?_, hP _ _ ⟨hrun, hended, _, _, rfl, ?_, ⟨_, rfl⟩, hW, hsame.mono (by decide) (by decide)⟩⟩
 ·exact X2.returnOut hx Bd.returns (hb hby dc32_9) hr
 ·show Q_rmABa _ _ _ _ _ T2.heap _
  rw [e2]
  exact ⟨rfl, N3, KC3, f4, F2, f5, f6⟩
theorem ef_rmABs (mi : MethodId) (o : Addr) : entryFrame mi #[(.ref o)] 1 = mkF mi 0 #[.val (.ref o)] [] := by first | (simp [entryFrame, mkF, argsToLocals, Value.category]; done) | rfl
abbrev Q_rmABs (Z : State) (o : Addr) (h0 : Heap) (n0 : Nat) (vv_ : Option Value) (hh_ : Heap) (LL_ : List Loc) : Prop := vv_ = none ∧ Fr n0 LL_ ∧ Keep h0 hh_ [o] ∧ Exa Z hh_ o "java/util/ArrayList$SubList" ∧ Fld Z hh_ o "java/util/AbstractList" "modCount" "I" (.int (0 : Int32)) ∧ Fld Z hh_ o "java/util/ArrayList$SubList" "root" "Ljava/util/ArrayList;" .null ∧ Fld Z hh_ o "java/util/ArrayList$SubList" "parent" "Ljava/util/ArrayList$SubList;" .null ∧ Fld Z hh_ o "java/util/ArrayList$SubList" "offset" "I" (.int 0) ∧ Fld Z hh_ o "java/util/ArrayList$SubList" "size" "I" (.int 0)
theorem rmABs (l : Launch) (Z : State) (a0 : Array Value) (hw : Tb Z a0) (ws : List Jvm.Cond) (o : Addr) (h0 : Heap) (n0 : Nat) (Z0 : n0 ≤ h0.size) (E0 : Exa Z h0 o "java/util/ArrayList$SubList") (FM : Fld Z h0 o "java/util/AbstractList" "modCount" "I" (.int (0 : Int32))) (FX0 : Fld Z h0 o "java/util/ArrayList$SubList" "root" "Ljava/util/ArrayList;" .null) (FX1 : Fld Z h0 o "java/util/ArrayList$SubList" "parent" "Ljava/util/ArrayList$SubList;" .null) (FX2 : Fld Z h0 o "java/util/ArrayList$SubList" "offset" "I" (.int 0)) (FX3 : Fld Z h0 o "java/util/ArrayList$SubList" "size" "I" (.int 0)) (g_o : n0 ≤ o) :
  Mt l Z zy32 zb32 1 none ws zR23 #[(.ref o)] h0 (Q_rmABs Z o h0 n0) := by
 refine MetFree.of_bodySF (plainFor_of_name pn_7) hisR ?_
 intro pg ev si mi args below meth ci s₁ Bd hml0 hP0 hK
 obtain ⟨rfl, hZ, hh⟩ := hP0
 have hx := Bd.exec
 have hby := Bd.bytes
 have hml : ci.maxLocals = 1 := hml0
 have hown : si.vm.findClass "java/util/AbstractList" = some mi.cls := findClass_of_methodNamed Bd.named
 have hnm := (name_of_methodNamed Bd.named Bd.method).1
 have X0 : Stand pg l ev zR23 si mi #[(.ref o)] below meth ci s₁ [] 0 0 := Stand.of_body Bd
 have e0 : s₁.heap = h0 := by rw [← hh, Bd.state]; rfl
 have N0 := Fr.nil n0
 refine Go.start (fun P hP => ?_)
 refine Go.st (fun t_ k_ => castTop (ef_rmABs mi o) k_) (A := s₁.setTop (mkF mi 0 #[.val (.ref o)] [])) ?_
 refine g_aloadN X0 hx hby dc32_0 rfl rfl ?_
 obtain ⟨_, _, ⟨T1, L1, k1, n1⟩, -, X1, ⟨Lc1, hQ1, l1, y1, z1⟩, st1⟩ := X0.specialBack hx (y := zy31) rfl hown (mvT hZ (hw _ (own_m 141 rfl))) (mvT hZ (hw _ (own_m 142 rfl))) (mvT hZ (hw _ (own_m 146 rfl))) (by decide) (backOf (W := 0) (rmACi l Z a0 hw [] o h0 n0 Z0) hZ (hw _ (own_m 146 rfl)) (hw _ (own_m 145 rfl)) (by decide) (by decide)) (g := (mkF mi 1 #[.val (.ref o)] [(.ref o)])) rfl (by rw [hml]; rfl) (Steps.refl _) (a := o) (argsL := []) (rest := []) (lenOf pd_19 rfl) rfl (by show 2 * 0 + _ ≤ _; exact Nat.le_of_eq rfl) (hb hby dc32_1) (fun _ _ => ⟨rfl, e0, (by decide : 0 + 0 ≤ _), (by decide : 0 + 0 ≤ _)⟩)
 dsimp only [Pt.U, Pt.locs, Pt.cells, Pt.slots] at X1 l1 y1 z1 st1 hQ1
 subst y1 z1
 have X1 := own_cs X1 (cells' := 0) (slots' := 0) rfl rfl
 obtain ⟨rfl, N1q, e1⟩ := hQ1
 have N1 := own_fr l1 (Fr.app N0 N1q)
 refine Go.tr st1 ?_
 refine g_aloadN X1 hx hby dc32_4 rfl rfl ?_
 refine g_iconst X1 hx hby dc32_5 (v := 0) rfl ?_
 obtain ⟨T2, h2, X2, e2, W2, st2⟩ := putF X1 hx hZ hown (host := "") (Or.inl (hw _ (own_m 148 rfl))) Via.refl e1 FM E0 (Or.inl (hw _ (own_m 222 rfl))) (hw _ (own_m 213 rfl)) (ty := .int) (by decide) rfl rfl (g := (mkF mi 6 #[.val (.ref o)] [(.int 0), (.ref o)])) rfl rfl (hb hby dc32_6)
 have Zs3 : n0 ≤ h2.size := Nat.le_trans Z0 (Keep.of_wr W2).1
 have KC3 : Keep h0 h2 [o] := (Keep.refl h0 [o]).wr W2 (Or.inl (List.mem_of_getElem? (i := 0) rfl))
 have N3 := Fr.snoc X2 N1 g_o
 have F2 : Fld Z h2 o "java/util/AbstractList" "modCount" "I" (.int 0) := FM.same W2
 refine Go.st st2 ?_
 obtain ⟨fs, hr, hrun, hended, hW, hsame⟩ := X2.leave (v := none) (fun _ => rfl) (BodyLoose.notSynchronized Bd)
 have f4 := (E0.wr W2)
 have f5 := (FX0.other W2 (Or.inr (slot_ne (Or.inr (hw _ (own_m 224 rfl))) (Or.inl (hw _ (own_m 222 rfl))) (by decide) (t := (.object "java/util/ArrayList")) (t' := .int) (by decide) (by decide))))
 have f6 := (FX1.other W2 (Or.inr (slot_ne (Or.inr (hw _ (own_m 226 rfl))) (Or.inl (hw _ (own_m 222 rfl))) (by decide) (t := (.object "java/util/ArrayList$SubList")) (t' := .int) (by decide) (by decide))))
 have f7 := (FX2.other W2 (Or.inr (slot_ne (Or.inr (hw _ (own_m 228 rfl))) (Or.inl (hw _ (own_m 222 rfl))) (by decide) (t := .int) (t' := .int) (by decide) (by decide))))
 have f8 := (FX3.other W2 (Or.inr (slot_ne (Or.inl (hw _ (own_m 230 rfl))) (Or.inl (hw _ (own_m 222 rfl))) (by decide) (t := .int) (t' := .int) (by decide) (by decide))))
 refine ⟨_, _, ?_, hP _ _ ⟨hrun, hended, _, _, rfl, ?_, ⟨_, rfl⟩, hW, hsame.mono (by decide) (by decide)⟩⟩
 ·exact X2.returnOut hx Bd.returns (hb hby dc32_9) hr
 ·show Q_rmABs _ _ _ _ _ T2.heap _
  rw [e2]
  exact ⟨rfl, N3, KC3, f4, F2, f5, f6, f7, f8⟩
theorem dc33_0 : Dk zb33 0 (.aload_n 0) 1 := by decide +kernel
theorem dc33_1 : Dk zb33 1 (.invokespecial 1) 3 := by decide +kernel
theorem dc33_4 : Dk zb33 4 (.aload_n 0) 1 := by decide +kernel
theorem dc33_5 : Dk zb33 5 (.getstatic 39) 3 := by decide +kernel
theorem dc33_8 : Dk zb33 8 (.putfield 9) 3 := by decide +kernel
theorem dc33_11 : Dk zb33 11 .return_ 1 := by decide +kernel
theorem pn_8 : plainName "java/util/ArrayList" = true := by first | (simp [plainName, overriddenIn]; done) | decide +kernel
theorem ef_rmAI (mi : MethodId) (o : Addr) : entryFrame mi #[(.ref o)] 1 = mkF mi 0 #[.val (.ref o)] [] := by first | (simp [entryFrame, mkF, argsToLocals, Value.category]; done) | rfl
abbrev Q_rmAI (Z : State) (o : Addr) (de : Addr) (h0 : Heap) (n0 : Nat) (vv_ : Option Value) (hh_ : Heap) (LL_ : List Loc) : Prop := vv_ = none ∧ Fr n0 LL_ ∧ Keep h0 hh_ [o] ∧ Exa Z hh_ o "java/util/ArrayList" ∧ Fld Z hh_ o "java/util/ArrayList" "elementData" "[Ljava/lang/Object;" (.ref de) ∧ Fld Z hh_ o "java/util/ArrayList" "size" "I" (.int (0 : Int32)) ∧ Fld Z hh_ o "java/util/AbstractList" "modCount" "I" (.int (0 : Int32))
theorem rmAI (l : Launch) (Z : State) (a0 : Array Value) (hw : Tb Z a0) (ws : List Jvm.Cond) (o : Addr) (de : Addr) (h0 : Heap) (n0 : Nat) (Z0 : n0 ≤ h0.size) (E0 : Exa Z h0 o "java/util/ArrayList") (FM : Fld Z h0 o "java/util/AbstractList" "modCount" "I" (.int (0 : Int32))) (FX0 : Fld Z h0 o "java/util/ArrayList" "elementData" "[Ljava/lang/Object;" .null) (FX1 : Fld Z h0 o "java/util/ArrayList" "size" "I" (.int 0)) (g_o : n0 ≤ o) (SD : Sta Z h0 "java/util/ArrayList" "DEFAULTCAPACITY_EMPTY_ELEMENTDATA" "[Ljava/lang/Object;" (.ref de)) :
  Mt l Z zy33 zb33 1 none ws zR24 #[(.ref o)] h0 (Q_rmAI Z o de h0 n0) := by
 refine MetFree.of_bodySF (plainFor_of_name pn_8) hisR ?_
 intro pg ev si mi args below meth ci s₁ Bd hml0 hP0 hK
 obtain ⟨rfl, hZ, hh⟩ := hP0
 have hx := Bd.exec
 have hby := Bd.bytes
 have hml : ci.maxLocals = 1 := hml0
 have hown : si.vm.findClass "java/util/ArrayList" = some mi.cls := findClass_of_methodNamed Bd.named
 have hnm := (name_of_methodNamed Bd.named Bd.method).1
 have X0 : Stand pg l ev zR24 si mi #[(.ref o)] below meth ci s₁ [] 0 0 := Stand.of_body Bd
 have e0 : s₁.heap = h0 := by rw [← hh, Bd.state]; rfl
 have N0 := Fr.nil n0
 refine Go.start (fun P hP => ?_)
 refine Go.st (fun t_ k_ => castTop (ef_rmAI mi o) k_) (A := s₁.setTop (mkF mi 0 #[.val (.ref o)] [])) ?_
 refine g_aloadN X0 hx hby dc33_0 rfl rfl ?_
 obtain ⟨_, _, ⟨T1, L1, k1, n1⟩, -, X1, ⟨Lc1, hQ1, l1, y1, z1⟩, st1⟩ := X0.specialBack hx (y := zy32) rfl hown (mvT hZ (hw _ (own_m 135 rfl))) (mvT hZ (hw _ (own_m 136 rfl))) (mvT hZ (hw _ (own_m 140 rfl))) (by decide) (backOf (W := 0) (rmABa l Z a0 hw [] o h0 n0 Z0 E0 FM FX0 FX1 g_o) hZ (hw _ (own_m 140 rfl)) (hw _ (own_m 139 rfl)) (by decide) (by decide)) (g := (mkF mi 1 #[.val (.ref o)] [(.ref o)])) rfl (by rw [hml]; rfl) (Steps.refl _) (a := o) (argsL := []) (rest := []) (lenOf pd_19 rfl) rfl (by show 2 * 0 + _ ≤ _; exact Nat.le_of_eq rfl) (hb hby dc33_1) (fun _ _ => ⟨rfl, e0, (by decide : 0 + 0 ≤ _), (by decide : 0 + 0 ≤ _)⟩)
 dsimp only [Pt.U, Pt.locs, Pt.cells, Pt.slots] at X1 l1 y1 z1 st1 hQ1
 subst y1 z1
 have X1 := own_cs X1 (cells' := 0) (slots' := 0) rfl rfl
 obtain ⟨h1, e1⟩ : ∃ z, T1.heap = z := ⟨_, rfl⟩
 rw [e1] at hQ1
 obtain ⟨rfl, N1q, K1, G1_0, G1_1, G1_2, G1_3⟩ := hQ1
 have N1 := own_fr l1 (Fr.app N0 N1q)
 have Zs2 : n0 ≤ h1.size := Nat.le_trans Z0 K1.1
 have KC2 : Keep h0 h1 [o] := (Keep.refl h0 [o]).trans K1 (allS (P := fun x => x ∈ [o] ∨ h0.size ≤ x) (Or.inl (List.mem_of_getElem? (i := 0) rfl)) all0)
 refine Go.tr st1 ?_
 refine g_aloadN X1 hx hby dc33_4 rfl rfl ?_
 have f3 := (own_sta_keep SD K1 (nsS E0.nostat ns0))
 obtain ⟨T4, X4, e4, st4⟩ := getS2 X1 hx hZ hown (host := "") (Or.inl (hw _ (own_m 150 rfl))) Via.refl e1 f3 (g := (mkF mi 5 #[.val (.ref o)] [(.ref o)])) rfl (hb hby dc33_5)
 refine Go.st st4 ?_
 obtain ⟨T5, h5, X5, e5, W5, st5⟩ := putF X4 hx hZ hown (host := "") (Or.inl (hw _ (own_m 151 rfl))) Via.refl e4 G1_2 G1_0 (Or.inl (hw _ (own_m 152 rfl))) (hw _ (own_m 129 rfl)) (ty := (.array (.object "java/lang/Object"))) (by decide) rfl rfl (g := (mkF mi 8 #[.val (.ref o)] [(.ref de), (.ref o)])) rfl rfl (hb hby dc33_8)
 have Zs6 : n0 ≤ h5.size := Nat.le_trans Zs2 (Keep.of_wr W5).1
 have KC6 : Keep h0 h5 [o] := KC2.wr W5 (Or.inl (List.mem_of_getElem? (i := 0) rfl))
 have N6 := Fr.snoc X5 N1 g_o
 have F5 : Fld Z h5 o "java/util/ArrayList" "elementData" "[Ljava/lang/Object;" (.ref de) := G1_2.same W5
 refine Go.st st5 ?_
 obtain ⟨fs, hr, hrun, hended, hW, hsame⟩ := X5.leave (v := none) (fun _ => rfl) (BodyLoose.notSynchronized Bd)
 have f7 := (G1_0.wr W5)
 have f8 := (G1_3.other W5 (Or.inr (slot_ne (Or.inl (hw _ (own_m 176 rfl))) (Or.inl (hw _ (own_m 152 rfl))) (by decide) (t := .int) (t' := (.array (.object "java/lang/Object"))) (by decide) (by decide))))
 have f9 := (G1_1.other W5 (Or.inr (slot_ne (Or.inl (hw _ (own_m 149 rfl))) (Or.inl (hw _ (own_m 152 rfl))) (by decide) (t := .int) (t' := (.array (.object "java/lang/Object"))) (by decide) (by decide))))
 refine ⟨_, _, ?_, hP _ _ ⟨hrun, hended, _, _, rfl, ?_, ⟨_, rfl⟩, hW, hsame.mono (by decide) (by decide)⟩⟩
 ·exact X5.returnOut hx Bd.returns (hb hby dc33_11) hr
 ·show Q_rmAI _ _ _ _ _ _ T5.heap _
  rw [e5]
  exact ⟨rfl, N6, KC6, f7, F5, f8, f9⟩
theorem own_max10 : fMax (10 : Int32) (1 : Int32) = (10 : Int32) := by decide +kernel
theorem dc34_0 : Dk zb34 0 (.aload_n 0) 1 := by decide +kernel
theorem dc34_1 : Dk zb34 1 (.getfield 9) 3 := by decide +kernel
theorem dc34_4 : Dk zb34 4 .arraylength 1 := by decide +kernel
theorem dc34_5 : Dk zb34 5 (.istore_n 2) 1 := by decide +kernel
theorem dc34_6 : Dk zb34 6 (.iload_n 2) 1 := by decide +kernel
theorem dc34_7 : Dk zb34 7 (.ifCond .gt 13) 3 := by decide +kernel
theorem dc34_10 : Dk zb34 10 (.aload_n 0) 1 := by decide +kernel
theorem dc34_11 : Dk zb34 11 (.getfield 9) 3 := by decide +kernel
theorem dc34_14 : Dk zb34 14 (.getstatic 39) 3 := by decide +kernel
theorem dc34_17 : Dk zb34 17 (.if_acmp .eq 28) 3 := by decide +kernel
theorem dc34_45 : Dk zb34 45 (.aload_n 0) 1 := by decide +kernel
theorem dc34_46 : Dk zb34 46 (.bipush 10) 2 := by decide +kernel
theorem dc34_48 : Dk zb34 48 (.iload_n 1) 1 := by decide +kernel
theorem dc34_49 : Dk zb34 49 (.invokestatic 79) 3 := by decide +kernel
theorem dc34_52 : Dk zb34 52 (.anewarray 7) 3 := by decide +kernel
theorem dc34_55 : Dk zb34 55 .dup_x1 1 := by decide +kernel
theorem dc34_56 : Dk zb34 56 (.putfield 9) 3 := by decide +kernel
theorem dc34_59 : Dk zb34 59 .areturn 1 := by decide +kernel
theorem ef_rmG1 (mi : MethodId) (o : Addr) : entryFrame mi #[(.ref o), (.int 1)] 4 = mkF mi 0 #[.val (.ref o), .val (.int 1), .unset, .unset] [] := by first | (simp [entryFrame, mkF, argsToLocals, Value.category]; done) | rfl
abbrev Q_rmG1 (Z : State) (o : Addr) (de : Addr) (kde : ClassId) (h0 : Heap) (n0 : Nat) (vv_ : Option Value) (hh_ : Heap) (LL_ : List Loc) : Prop := ∃ (d : Addr) (kd : ClassId), vv_ = some (.ref d) ∧ Fr n0 LL_ ∧ Keep h0 hh_ [o] ∧ h0.size ≤ d ∧ n0 ≤ d ∧ Exa Z hh_ o "java/util/ArrayList" ∧ Fld Z hh_ o "java/util/ArrayList" "elementData" "[Ljava/lang/Object;" (.ref d) ∧ Fld Z hh_ o "java/util/ArrayList" "size" "I" (.int (0 : Int32)) ∧ Fld Z hh_ o "java/util/AbstractList" "modCount" "I" (.int (1 : Int32)) ∧ Arv Z hh_ d kd (.object "java/lang/Object") (10 : Int32) [.null, .null, .null, .null, .null, .null, .null, .null, .null, .null] .null ∧ Exa Z hh_ d "[Ljava/lang/Object;" ∧ Ovr Z kd "java/lang/Object"
theorem rmG1 (l : Launch) (Z : State) (a0 : Array Value) (hw : Tb Z a0) (ws : List Jvm.Cond) (o : Addr) (de : Addr) (kde : ClassId) (h0 : Heap) (n0 : Nat) (Z0 : n0 ≤ h0.size) (LE : Exa Z h0 o "java/util/ArrayList") (LD : Fld Z h0 o "java/util/ArrayList" "elementData" "[Ljava/lang/Object;" (.ref de)) (LZ : Fld Z h0 o "java/util/ArrayList" "size" "I" (.int (0 : Int32))) (LM : Fld Z h0 o "java/util/AbstractList" "modCount" "I" (.int (1 : Int32))) (SD : Sta Z h0 "java/util/ArrayList" "DEFAULTCAPACITY_EMPTY_ELEMENTDATA" "[Ljava/lang/Object;" (.ref de)) (DV : Arv Z h0 de kde (.object "java/lang/Object") (0 : Int32) [] .null) (DE : Exa Z h0 de "[Ljava/lang/Object;") (g_o : n0 ≤ o) (n_do : de ≠ o) :
  Mt l Z zy34 zb34 4 (some (.array (.object "java/lang/Object"))) ws zR25 #[(.ref o), (.int 1)] h0 (Q_rmG1 Z o de kde h0 n0) := by
 refine MetFree.of_bodySF (plainFor_of_name pn_8) hisR ?_
 intro pg ev si mi args below meth ci s₁ Bd hml0 hP0 hK
 obtain ⟨rfl, hZ, hh⟩ := hP0
 have hx := Bd.exec
 have hby := Bd.bytes
 have hml : ci.maxLocals = 4 := hml0
 have hown : si.vm.findClass "java/util/ArrayList" = some mi.cls := findClass_of_methodNamed Bd.named
 have hnm := (name_of_methodNamed Bd.named Bd.method).1
 have X0 : Stand pg l ev zR25 si mi #[(.ref o), (.int 1)] below meth ci s₁ [] 0 0 := Stand.of_body Bd
 have e0 : s₁.heap = h0 := by rw [← hh, Bd.state]; rfl
 have N0 := Fr.nil n0
 refine Go.start (fun P hP => ?_)
 refine Go.st (fun t_ k_ => castTop (ef_rmG1 mi o) k_) (A := s₁.setTop (mkF mi 0 #[.val (.ref o), .val (.int 1), .unset, .unset] [])) ?_
 refine g_aloadN X0 hx hby dc34_0 rfl rfl ?_
 obtain ⟨T1, X1, e1, st1⟩ := getF X0 hx hZ hown (host := "") (Or.inl (hw _ (own_m 151 rfl))) Via.refl e0 LD (g := (mkF mi 1 #[.val (.ref o), .val (.int 1), .unset, .unset] [(.ref o)])) rfl rfl (hb hby dc34_1)
 refine Go.st st1 ?_
 have ov2 := DV
 obtain ⟨cl2, Ar2, q2, S2, M2, H2, G2⟩ := ov2
 refine Go.st (X1.arraylength hx (by rw [e1]; exact Ar2.1) (State.isArrayOf_alike hZ.alike Ar2.2.1) (g := (mkF mi 4 #[.val (.ref o), .val (.int 1), .unset, .unset] [(.ref de)])) rfl rfl (hb hby dc34_4)) ?_
 rw [len_of S2 M2]
 refine g_istoreN X1 hx hby dc34_5 (l' := #[.val (.ref o), .val (.int 1), .val (.int 0), .unset]) rfl ?_
 refine g_iloadN X1 hx hby dc34_6 rfl ?_
 refine g_ifNo X1 hx hby dc34_7 ((if0 _ _).trans (flt (by decide)).2.2.1) ?_
 refine g_aloadN X1 hx hby dc34_10 rfl rfl ?_
 obtain ⟨T3, X3, e3, st3⟩ := getF X1 hx hZ hown (host := "") (Or.inl (hw _ (own_m 151 rfl))) Via.refl e1 LD (g := (mkF mi 11 #[.val (.ref o), .val (.int 1), .val (.int 0), .unset] [(.ref o)])) rfl rfl (hb hby dc34_11)
 refine Go.st st3 ?_
 obtain ⟨T4, X4, e4, st4⟩ := getS2 X3 hx hZ hown (host := "") (Or.inl (hw _ (own_m 150 rfl))) Via.refl e3 SD (g := (mkF mi 14 #[.val (.ref o), .val (.int 1), .val (.int 0), .unset] [(.ref de)])) rfl (hb hby dc34_14)
 refine Go.st st4 ?_
 refine Go.st (fun t_ k_ => Jvm.RoadKit.acmp (g := (mkF mi 17 #[.val (.ref o), .val (.int 1), .val (.int 0), .unset] [(.ref de), (.ref de)])) X4 hx rfl rfl rfl (pc0 := 17) (pc' := 45) (same := true) rfl (hb hby dc34_17) rfl (decide_eq_true rfl) (by decide) (by decide) k_) ?_
 refine g_aloadN X4 hx hby dc34_45 rfl rfl ?_
 refine g_bipush X4 hx hby dc34_46 (v := 10) rfl ?_
 refine g_iloadN X4 hx hby dc34_48 rfl ?_
 obtain ⟨_, _, ⟨T5, L5, k5, n5⟩, -, X5, ⟨Lc5, hQ5, l5, y5, z5⟩, st5⟩ := Jvm.LawKit.callS X4 hx (y := zy7) hown (mvT hZ (hw _ (own_m 192 rfl))) (mvT hZ (hw _ (own_m 79 rfl))) (mvT hZ (hw _ (own_m 80 rfl))) (mvT hZ (hw _ (own_m 81 rfl))) (by decide) (backOf (W := 1) (rmMax l Z a0 hw [] (10 : Int32) (1 : Int32) h0 n0 Z0) hZ (hw _ (own_m 81 rfl)) (hw _ (own_m 80 rfl)) (by decide) (by decide)) (g := (mkF mi 49 #[.val (.ref o), .val (.int 1), .val (.int 0), .unset] [(.int 1), (.int 10), (.ref o)])) rfl (by rw [hml]; rfl) (argsL := [(.int 10), (.int 1)]) (rest := [(.ref o)]) (lenOf pd_11 rfl) rfl (by show 2 * 0 + _ ≤ _; exact Nat.le_of_eq rfl) (hb hby dc34_49) (fun _ _ => ⟨rfl, e4, (by decide : 0 + 0 ≤ _), (by decide : 0 + 0 ≤ _)⟩)
 dsimp only [Pt.U, Pt.locs, Pt.cells, Pt.slots] at X5 l5 y5 z5 st5 hQ5
 subst y5 z5
 have X5 := own_cs X5 (cells' := 0) (slots' := 0) rfl rfl
 obtain ⟨rfl, N5q, e5⟩ := hQ5
 have N5 := own_fr l5 (Fr.app N0 N5q)
 refine Go.st st5 ?_
 show Go _ _ _ (T5.setTop (mkF mi 52 #[.val (.ref o), .val (.int 1), .val (.int 0), .unset] [(.int (fMax (10 : Int32) (1 : Int32))), (.ref o)])) _
 rw [own_max10]
 show Go _ _ _ (T5.setTop (mkF mi 52 #[.val (.ref o), .val (.int 1), .val (.int 0), .unset] [(.int 10), (.ref o)])) _
 obtain ⟨T6, h6, k6, X6, e6, E6, A6, EX6, O6, st6⟩ := own_newRE X5 hx hZ hown (hw _ (own_m 193 rfl)) (hw _ (own_m 194 rfl)) e5 (g := (mkF mi 52 #[.val (.ref o), .val (.int 1), .val (.int 0), .unset] [(.int 10), (.ref o)])) rfl (hb hby dc34_52) rfl (by decide) (cap := 10) (by decide) (by decide) (by decide) (by decide) (ad := "[Ljava/lang/Object;") (by decide)
 obtain ⟨ob6, g6⟩ : ∃ z, z = h0.size := ⟨_, rfl⟩
 rw [← g6] at A6 EX6 st6
 have Zs7 : n0 ≤ h6.size := Nat.le_trans Z0 E6.1
 have KC7 : Keep h0 h6 [o] := (Keep.refl h0 [o]).ext E6
 have g_ob6 : n0 ≤ ob6 := Nat.le_trans Z0 (Nat.le_of_eq g6.symm)
 have sz_ob6 : h0.size ≤ ob6 := Nat.le_trans (Keep.refl h0 [o]).1 (Nat.le_of_eq g6.symm)
 have V6 : Arv Z h6 ob6 k6 (.object "java/lang/Object") (10 : Int32) [.null, .null, .null, .null, .null, .null, .null, .null, .null, .null] .null := (Arv.new A6 (by decide)).pad (pad_rep [] .null 10)
 refine Go.st st6 ?_
 refine Go.s (XS.dupX1 X6.here hx rfl (hb hby dc34_55) rfl rfl rfl) ?_
 have f8 := (LD.ext E6)
 have f9 := (LE.ext E6)
 obtain ⟨T10, h10, X10, e10, W10, st10⟩ := putF X6 hx hZ hown (host := "") (Or.inl (hw _ (own_m 151 rfl))) Via.refl e6 f8 f9 (Or.inl (hw _ (own_m 152 rfl))) (hw _ (own_m 129 rfl)) (ty := (.array (.object "java/lang/Object"))) (by decide) rfl rfl (g := (mkF mi 56 #[.val (.ref o), .val (.int 1), .val (.int 0), .unset] [(.ref ob6), (.ref o), (.ref ob6)])) rfl rfl (hb hby dc34_56)
 have Zs11 : n0 ≤ h10.size := Nat.le_trans Zs7 (Keep.of_wr W10).1
 have KC11 : Keep h0 h10 [o] := KC7.wr W10 (Or.inl (List.mem_of_getElem? (i := 0) rfl))
 have N11 := Fr.snoc X10 N5 g_o
 have F10 : Fld Z h10 o "java/util/ArrayList" "elementData" "[Ljava/lang/Object;" (.ref ob6) := f8.same W10
 refine Go.st st10 ?_
 obtain ⟨fs, hr, hrun, hended, hW, hsame⟩ := X10.leave (v := some (.ref ob6)) (fun h => by rw [Bd.returns] at h; cases h) (BodyLoose.notSynchronized Bd)
 have f12 := (f9.wr W10)
 have f13 := ((LZ.ext E6).other W10 (Or.inr (slot_ne (Or.inl (hw _ (own_m 176 rfl))) (Or.inl (hw _ (own_m 152 rfl))) (by decide) (t := .int) (t' := (.array (.object "java/lang/Object"))) (by decide) (by decide))))
 have f14 := ((LM.ext E6).other W10 (Or.inr (slot_ne (Or.inl (hw _ (own_m 149 rfl))) (Or.inl (hw _ (own_m 152 rfl))) (by decide) (t := .int) (t' := (.array (.object "java/lang/Object"))) (by decide) (by decide))))
 have ne_o_ob6 : o ≠ ob6 := Nat.ne_of_lt (Nat.lt_of_lt_of_le LE.lt (Nat.le_of_eq g6.symm))
 have f15 := (V6.other W10 (Ne.symm ne_o_ob6))
 have f16 := (EX6.wr W10)
 refine ⟨_, _, ?_, hP _ _ ⟨hrun, hended, _, _, rfl, ?_, ⟨_, rfl⟩, hW, hsame.mono (by decide) (by decide)⟩⟩
 ·exact retOut X10 hx Bd.returns rfl (Or.inr (Or.inr (Or.inr (Or.inr ⟨rfl, rfl, rfl⟩)))) (hb hby dc34_59) hr
 ·show Q_rmG1 _ _ _ _ _ _ _ T10.heap _
  rw [e10]
  exact ⟨ob6, k6, rfl, N11, KC11, sz_ob6, g_ob6, f12, F10, f13, f14, f15, f16, O6⟩
theorem dc35_0 : Dk zb35 0 (.aload_n 0) 1 := by decide +kernel
theorem dc35_1 : Dk zb35 1 (.aload_n 0) 1 := by decide +kernel
theorem dc35_2 : Dk zb35 2 (.getfield 48) 3 := by decide +kernel
theorem dc35_5 : Dk zb35 5 (.iconst 1) 1 := by decide +kernel
theorem dc35_6 : Dk zb35 6 .iadd 1 := by decide +kernel
theorem dc35_7 : Dk zb35 7 (.invokevirtual 69) 3 := by decide +kernel
theorem pd_20 : parseMethodDescriptor "(I)[Ljava/lang/Object;" = some ⟨[.int], some (.array (.object "java/lang/Object"))⟩ := by decide +kernel
theorem dc35_10 : Dk zb35 10 .areturn 1 := by decide +kernel
theorem ef_rmG0 (mi : MethodId) (o : Addr) : entryFrame mi #[(.ref o)] 1 = mkF mi 0 #[.val (.ref o)] [] := by first | (simp [entryFrame, mkF, argsToLocals, Value.category]; done) | rfl
abbrev Q_rmG0 (Z : State) (o : Addr) (de : Addr) (kde : ClassId) (h0 : Heap) (n0 : Nat) (vv_ : Option Value) (hh_ : Heap) (LL_ : List Loc) : Prop := ∃ (d : Addr) (kd : ClassId), vv_ = some (.ref d) ∧ Fr n0 LL_ ∧ Keep h0 hh_ [o] ∧ h0.size ≤ d ∧ n0 ≤ d ∧ Exa Z hh_ o "java/util/ArrayList" ∧ Fld Z hh_ o "java/util/ArrayList" "elementData" "[Ljava/lang/Object;" (.ref d) ∧ Fld Z hh_ o "java/util/ArrayList" "size" "I" (.int (0 : Int32)) ∧ Fld Z hh_ o "java/util/AbstractList" "modCount" "I" (.int (1 : Int32)) ∧ Arv Z hh_ d kd (.object "java/lang/Object") (10 : Int32) [.null, .null, .null, .null, .null, .null, .null, .null, .null, .null] .null ∧ Exa Z hh_ d "[Ljava/lang/Object;" ∧ Ovr Z kd "java/lang/Object"
theorem rmG0 (l : Launch) (Z : State) (a0 : Array Value) (hw : Tb Z a0) (ws : List Jvm.Cond) (o : Addr) (de : Addr) (kde : ClassId) (h0 : Heap) (n0 : Nat) (Z0 : n0 ≤ h0.size) (LE : Exa Z h0 o "java/util/ArrayList") (LD : Fld Z h0 o "java/util/ArrayList" "elementData" "[Ljava/lang/Object;" (.ref de)) (LZ : Fld Z h0 o "java/util/ArrayList" "size" "I" (.int (0 : Int32))) (LM : Fld Z h0 o "java/util/AbstractList" "modCount" "I" (.int (1 : Int32))) (SD : Sta Z h0 "java/util/ArrayList" "DEFAULTCAPACITY_EMPTY_ELEMENTDATA" "[Ljava/lang/Object;" (.ref de)) (DV : Arv Z h0 de kde (.object "java/lang/Object") (0 : Int32) [] .null) (DE : Exa Z h0 de "[Ljava/lang/Object;") (g_o : n0 ≤ o) (n_do : de ≠ o) :
  Mt l Z zy35 zb35 1 (some (.array (.object "java/lang/Object"))) ws zR26 #[(.ref o)] h0 (Q_rmG0 Z o de kde h0 n0) := by
 refine MetFree.of_bodySF (plainFor_of_name pn_8) hisR ?_
 intro pg ev si mi args below meth ci s₁ Bd hml0 hP0 hK
 obtain ⟨rfl, hZ, hh⟩ := hP0
 have hx := Bd.exec
 have hby := Bd.bytes
 have hml : ci.maxLocals = 1 := hml0
 have hown : si.vm.findClass "java/util/ArrayList" = some mi.cls := findClass_of_methodNamed Bd.named
 have hnm := (name_of_methodNamed Bd.named Bd.method).1
 have X0 : Stand pg l ev zR26 si mi #[(.ref o)] below meth ci s₁ [] 0 0 := Stand.of_body Bd
 have e0 : s₁.heap = h0 := by rw [← hh, Bd.state]; rfl
 have N0 := Fr.nil n0
 refine Go.start (fun P hP => ?_)
 refine Go.st (fun t_ k_ => castTop (ef_rmG0 mi o) k_) (A := s₁.setTop (mkF mi 0 #[.val (.ref o)] [])) ?_
 refine g_aloadN X0 hx hby dc35_0 rfl rfl ?_
 refine g_aloadN X0 hx hby dc35_1 rfl rfl ?_
 obtain ⟨T1, X1, e1, st1⟩ := getF X0 hx hZ hown (host := "") (Or.inl (hw _ (own_m 175 rfl))) Via.refl e0 LZ (g := (mkF mi 2 #[.val (.ref o)] [(.ref o), (.ref o)])) rfl rfl (hb hby dc35_2)
 refine Go.st st1 ?_
 refine g_iconst X1 hx hby dc35_5 (v := 1) rfl ?_
 refine g_iadd X1 hx hby dc35_6 (z := 1) rfl ?_
 obtain ⟨cq2, q2, q2'⟩ := LE.cell
 obtain ⟨_, _, ⟨T2, L2, k2, n2⟩, -, X2, ⟨Lc2, hQ2, l2, y2, z2⟩, st2⟩ := X1.privateBack hx (y := zy34) hown (mvT hZ (hw _ (own_m 187 rfl))) (mvT hZ (hw _ (own_m 188 rfl))) (mvT hZ (hw _ (own_m 190 rfl))) (Cond.privateMethod_at (mvP hZ (hw _ (own_m 189 rfl)) (args := #[]))) (mvT hZ (hw _ (own_m 191 rfl))) (by decide) (backOf (W := 0) (rmG1 l Z a0 hw [] o de kde h0 n0 Z0 LE LD LZ LM SD DV DE g_o n_do) hZ (hw _ (own_m 191 rfl)) (hw _ (own_m 130 rfl)) (by decide) (by decide)) (g := (mkF mi 7 #[.val (.ref o)] [(.int 1), (.ref o)])) rfl (by rw [hml]; rfl) (Steps.refl _) (a := o) (by rw [e1]; exact q2) q2' (argsL := [(.int 1)]) (rest := []) (lenOf pd_20 rfl) rfl (by show 2 * 0 + _ ≤ _; exact Nat.le_of_eq rfl) (hb hby dc35_7) (fun _ _ => ⟨rfl, e1, (by decide : 0 + 1 ≤ _), (by decide : 0 + 10 ≤ _)⟩)
 dsimp only [Pt.U, Pt.locs, Pt.cells, Pt.slots] at X2 l2 y2 z2 st2 hQ2
 subst y2 z2
 have X2 := own_cs X2 (cells' := 1) (slots' := 10) rfl rfl
 obtain ⟨h2, e2⟩ : ∃ z, T2.heap = z := ⟨_, rfl⟩
 rw [e2] at hQ2
 obtain ⟨d2, kd2, rfl, N2q, K2, z_d2, g_d2, LE2, LD2, LZ2, LM2, EA2, EB2, OV2⟩ := hQ2
 have N2 := own_fr l2 (Fr.app N0 N2q)
 have Zs3 : n0 ≤ h2.size := Nat.le_trans Z0 K2.1
 have KC3 : Keep h0 h2 [o] := (Keep.refl h0 [o]).trans K2 (allS (P := fun x => x ∈ [o] ∨ h0.size ≤ x) (Or.inl (List.mem_of_getElem? (i := 0) rfl)) all0)
 have sz_d2 : h0.size ≤ d2 := Nat.le_trans (Keep.refl h0 [o]).1 z_d2
 refine Go.tr st2 ?_
 obtain ⟨fs, hr, hrun, hended, hW, hsame⟩ := X2.leave (v := some (.ref d2)) (fun h => by rw [Bd.returns] at h; cases h) (BodyLoose.notSynchronized Bd)
 refine ⟨_, _, ?_, hP _ _ ⟨hrun, hended, _, _, rfl, ?_, ⟨_, rfl⟩, hW, hsame.mono (by decide) (by decide)⟩⟩
 ·exact retOut X2 hx Bd.returns rfl (Or.inr (Or.inr (Or.inr (Or.inr ⟨rfl, rfl, rfl⟩)))) (hb hby dc35_10) hr
 ·show Q_rmG0 _ _ _ _ _ _ _ T2.heap _
  rw [e2]
  exact ⟨d2, kd2, rfl, N2, KC3, sz_d2, g_d2, LE2, LD2, LZ2, LM2, EA2, EB2, OV2⟩
theorem dc36_0 : Dk zb36 0 (.iload_n 3) 1 := by decide +kernel
theorem dc36_1 : Dk zb36 1 (.aload_n 2) 1 := by decide +kernel
theorem dc36_2 : Dk zb36 2 .arraylength 1 := by decide +kernel
theorem dc36_3 : Dk zb36 3 (.if_icmp .ne 8) 3 := by decide +kernel
theorem dc36_6 : Dk zb36 6 (.aload_n 0) 1 := by decide +kernel
theorem dc36_7 : Dk zb36 7 (.invokevirtual 129) 3 := by decide +kernel
theorem pd_21 : parseMethodDescriptor "()[Ljava/lang/Object;" = some ⟨[], some (.array (.object "java/lang/Object"))⟩ := by decide +kernel
theorem dc36_10 : Dk zb36 10 (.astore_n 2) 1 := by decide +kernel
theorem dc36_11 : Dk zb36 11 (.aload_n 2) 1 := by decide +kernel
theorem dc36_12 : Dk zb36 12 (.iload_n 3) 1 := by decide +kernel
theorem dc36_13 : Dk zb36 13 (.aload_n 1) 1 := by decide +kernel
theorem dc36_14 : Dk zb36 14 .aastore 1 := by decide +kernel
theorem dc36_15 : Dk zb36 15 (.aload_n 0) 1 := by decide +kernel
theorem dc36_16 : Dk zb36 16 (.iload_n 3) 1 := by decide +kernel
theorem dc36_17 : Dk zb36 17 (.iconst 1) 1 := by decide +kernel
theorem dc36_18 : Dk zb36 18 .iadd 1 := by decide +kernel
theorem dc36_19 : Dk zb36 19 (.putfield 48) 3 := by decide +kernel
theorem dc36_22 : Dk zb36 22 .return_ 1 := by decide +kernel
theorem ef_rmA30 (mi : MethodId) (o : Addr) (e : Addr) (de : Addr) : entryFrame mi #[(.ref o), (.ref e), (.ref de), (.int 0)] 4 = mkF mi 0 #[.val (.ref o), .val (.ref e), .val (.ref de), .val (.int 0)] [] := by first | (simp [entryFrame, mkF, argsToLocals, Value.category]; done) | rfl
abbrev Q_rmA30 (Z : State) (o : Addr) (e : Addr) (de : Addr) (kde : ClassId) (h0 : Heap) (n0 : Nat) (vv_ : Option Value) (hh_ : Heap) (LL_ : List Loc) : Prop := vv_ = none ∧ Fr n0 LL_ ∧ Keep h0 hh_ [o] ∧ ∃ (d : Addr) (kd : ClassId), h0.size ≤ d ∧ n0 ≤ d ∧ Exa Z hh_ o "java/util/ArrayList" ∧ Fld Z hh_ o "java/util/ArrayList" "elementData" "[Ljava/lang/Object;" (.ref d) ∧ Fld Z hh_ o "java/util/ArrayList" "size" "I" (.int (1 : Int32)) ∧ Fld Z hh_ o "java/util/AbstractList" "modCount" "I" (.int (1 : Int32)) ∧ Arv Z hh_ d kd (.object "java/lang/Object") (10 : Int32) [(.ref e), .null, .null, .null, .null, .null, .null, .null, .null, .null] .null ∧ Exa Z hh_ d "[Ljava/lang/Object;" ∧ Ovr Z kd "java/lang/Object"
theorem rmA30 (l : Launch) (Z : State) (a0 : Array Value) (hw : Tb Z a0) (ws : List Jvm.Cond) (o : Addr) (e : Addr) (de : Addr) (kde : ClassId) (h0 : Heap) (n0 : Nat) (Z0 : n0 ≤ h0.size) (LE : Exa Z h0 o "java/util/ArrayList") (LD : Fld Z h0 o "java/util/ArrayList" "elementData" "[Ljava/lang/Object;" (.ref de)) (LZ : Fld Z h0 o "java/util/ArrayList" "size" "I" (.int (0 : Int32))) (LM : Fld Z h0 o "java/util/AbstractList" "modCount" "I" (.int (1 : Int32))) (SD : Sta Z h0 "java/util/ArrayList" "DEFAULTCAPACITY_EMPTY_ELEMENTDATA" "[Ljava/lang/Object;" (.ref de)) (DV : Arv Z h0 de kde (.object "java/lang/Object") (0 : Int32) [] .null) (DE : Exa Z h0 de "[Ljava/lang/Object;") (g_o : n0 ≤ o) (n_do : de ≠ o) (SEe : Exa Z h0 e "java/lang/String") (n_eo : e ≠ o) :
  Mt l Z zy36 zb36 4 none ws zR27 #[(.ref o), (.ref e), (.ref de), (.int 0)] h0 (Q_rmA30 Z o e de kde h0 n0) := by
 refine MetFree.of_bodySF (plainFor_of_name pn_8) hisR ?_
 intro pg ev si mi args below meth ci s₁ Bd hml0 hP0 hK
 obtain ⟨rfl, hZ, hh⟩ := hP0
 have hx := Bd.exec
 have hby := Bd.bytes
 have hml : ci.maxLocals = 4 := hml0
 have hown : si.vm.findClass "java/util/ArrayList" = some mi.cls := findClass_of_methodNamed Bd.named
 have hnm := (name_of_methodNamed Bd.named Bd.method).1
 have X0 : Stand pg l ev zR27 si mi #[(.ref o), (.ref e), (.ref de), (.int 0)] below meth ci s₁ [] 0 0 := Stand.of_body Bd
 have e0 : s₁.heap = h0 := by rw [← hh, Bd.state]; rfl
 have N0 := Fr.nil n0
 refine Go.start (fun P hP => ?_)
 refine Go.st (fun t_ k_ => castTop (ef_rmA30 mi o e de) k_) (A := s₁.setTop (mkF mi 0 #[.val (.ref o), .val (.ref e), .val (.ref de), .val (.int 0)] [])) ?_
 refine g_iloadN X0 hx hby dc36_0 rfl ?_
 refine g_aloadN X0 hx hby dc36_1 rfl rfl ?_
 have ov1 := DV
 obtain ⟨cl1, Ar1, q1, S1, M1, H1, G1⟩ := ov1
 refine Go.st (X0.arraylength hx (by rw [e0]; exact Ar1.1) (State.isArrayOf_alike hZ.alike Ar1.2.1) (g := (mkF mi 2 #[.val (.ref o), .val (.ref e), .val (.ref de), .val (.int 0)] [(.ref de), (.int 0)])) rfl rfl (hb hby dc36_2)) ?_
 rw [len_of S1 M1]
 refine g_icmpNo X0 hx hby dc36_3 (teq rfl).2 ?_
 refine g_aloadN X0 hx hby dc36_6 rfl rfl ?_
 obtain ⟨cq2, q2, q2'⟩ := LE.cell
 obtain ⟨_, _, ⟨T2, L2, k2, n2⟩, -, X2, ⟨Lc2, hQ2, l2, y2, z2⟩, st2⟩ := X0.privateBack hx (y := zy35) hown (mvT hZ (hw _ (own_m 182 rfl))) (mvT hZ (hw _ (own_m 183 rfl))) (mvT hZ (hw _ (own_m 185 rfl))) (Cond.privateMethod_at (mvP hZ (hw _ (own_m 184 rfl)) (args := #[]))) (mvT hZ (hw _ (own_m 186 rfl))) (by decide) (backOf (W := 0) (rmG0 l Z a0 hw [] o de kde h0 n0 Z0 LE LD LZ LM SD DV DE g_o n_do) hZ (hw _ (own_m 186 rfl)) (hw _ (own_m 130 rfl)) (by decide) (by decide)) (g := (mkF mi 7 #[.val (.ref o), .val (.ref e), .val (.ref de), .val (.int 0)] [(.ref o)])) rfl (by rw [hml]; rfl) (Steps.refl _) (a := o) (by rw [e0]; exact q2) q2' (argsL := []) (rest := []) (lenOf pd_21 rfl) rfl (by show 2 * 0 + _ ≤ _; exact Nat.le_of_eq rfl) (hb hby dc36_7) (fun _ _ => ⟨rfl, e0, (by decide : 0 + 1 ≤ _), (by decide : 0 + 10 ≤ _)⟩)
 dsimp only [Pt.U, Pt.locs, Pt.cells, Pt.slots] at X2 l2 y2 z2 st2 hQ2
 subst y2 z2
 have X2 := own_cs X2 (cells' := 1) (slots' := 10) rfl rfl
 obtain ⟨h2, e2⟩ : ∃ z, T2.heap = z := ⟨_, rfl⟩
 rw [e2] at hQ2
 obtain ⟨d2, kd2, rfl, N2q, K2, z_d2, g_d2, LE2, LD2, LZ2, LM2, EA2, EB2, OV2⟩ := hQ2
 have N2 := own_fr l2 (Fr.app N0 N2q)
 have Zs3 : n0 ≤ h2.size := Nat.le_trans Z0 K2.1
 have KC3 : Keep h0 h2 [o] := (Keep.refl h0 [o]).trans K2 (allS (P := fun x => x ∈ [o] ∨ h0.size ≤ x) (Or.inl (List.mem_of_getElem? (i := 0) rfl)) all0)
 have sz_d2 : h0.size ≤ d2 := Nat.le_trans (Keep.refl h0 [o]).1 z_d2
 refine Go.tr st2 ?_
 refine g_astoreN X2 hx hby dc36_10 rfl (l' := #[.val (.ref o), .val (.ref e), .val (.ref d2), .val (.int 0)]) rfl ?_
 refine g_aloadN X2 hx hby dc36_11 rfl rfl ?_
 refine g_iloadN X2 hx hby dc36_12 rfl ?_
 refine g_aloadN X2 hx hby dc36_13 rfl rfl ?_
 have ov4 := EA2
 obtain ⟨cl4, Ar4, q4, S4, M4, H4, G4⟩ := ov4
 have hin4 : ¬ ((0 : Int32) < 0 ∨ cl4.slots.size ≤ ((0 : Int32)).toNatClampNeg) := inb_of S4 ⟨by decide, by decide⟩
 have f5 := (SEe.keep K2)
 obtain ⟨T6, h6, X6, e6, W6, st6⟩ := stR X2 hx hZ e2 Ar4 (j := (0 : Int32)) hin4 rfl (Sto.ofV Ar4 q4 OV2 (Ins.of_exa f5 (hw _ (own_m 195 rfl)))) (g := (mkF mi 14 #[.val (.ref o), .val (.ref e), .val (.ref d2), .val (.int 0)] [(.ref e), (.int 0), (.ref d2)])) rfl rfl (hb hby dc36_14)
 have Zs7 : n0 ≤ h6.size := Nat.le_trans Zs3 (Keep.of_wr W6).1
 have KC7 : Keep h0 h6 [o] := KC3.wr W6 (Or.inr sz_d2)
 have N7 := Fr.snoc X6 N2 g_d2
 have V6 : Arv Z h6 d2 kd2 (.object "java/lang/Object") (10 : Int32) [(.ref e), .null, .null, .null, .null, .null, .null, .null, .null, .null] .null := Arv.set Ar4 q4 S4 M4 H4 G4 rfl W6 0 rfl (Nat.le_of_ble_eq_true rfl)
 refine Go.st st6 ?_
 refine g_aloadN X6 hx hby dc36_15 rfl rfl ?_
 refine g_iloadN X6 hx hby dc36_16 rfl ?_
 refine g_iconst X6 hx hby dc36_17 (v := 1) rfl ?_
 refine g_iadd X6 hx hby dc36_18 (z := 1) rfl ?_
 have ne_o_d2 : o ≠ d2 := Nat.ne_of_lt (Nat.lt_of_lt_of_le LE.lt z_d2)
 have f8 := (LZ2.other W6 (Or.inl ne_o_d2))
 have f9 := (LE2.wr W6)
 obtain ⟨T10, h10, X10, e10, W10, st10⟩ := putF X6 hx hZ hown (host := "") (Or.inl (hw _ (own_m 175 rfl))) Via.refl e6 f8 f9 (Or.inl (hw _ (own_m 176 rfl))) (hw _ (own_m 129 rfl)) (ty := .int) (by decide) rfl rfl (g := (mkF mi 19 #[.val (.ref o), .val (.ref e), .val (.ref d2), .val (.int 0)] [(.int 1), (.ref o)])) rfl rfl (hb hby dc36_19)
 have Zs11 : n0 ≤ h10.size := Nat.le_trans Zs7 (Keep.of_wr W10).1
 have KC11 : Keep h0 h10 [o] := KC7.wr W10 (Or.inl (List.mem_of_getElem? (i := 0) rfl))
 have N11 := Fr.snoc X10 N7 g_o
 have F10 : Fld Z h10 o "java/util/ArrayList" "size" "I" (.int 1) := f8.same W10
 refine Go.st st10 ?_
 obtain ⟨fs, hr, hrun, hended, hW, hsame⟩ := X10.leave (v := none) (fun _ => rfl) (BodyLoose.notSynchronized Bd)
 have f12 := (f9.wr W10)
 have f13 := ((LD2.other W6 (Or.inl ne_o_d2)).other W10 (Or.inr (slot_ne (Or.inl (hw _ (own_m 152 rfl))) (Or.inl (hw _ (own_m 176 rfl))) (by decide) (t := (.array (.object "java/lang/Object"))) (t' := .int) (by decide) (by decide))))
 have f14 := ((LM2.other W6 (Or.inl ne_o_d2)).other W10 (Or.inr (slot_ne (Or.inl (hw _ (own_m 149 rfl))) (Or.inl (hw _ (own_m 176 rfl))) (by decide) (t := .int) (t' := .int) (by decide) (by decide))))
 have f15 := (V6.other W10 (Ne.symm ne_o_d2))
 have f16 := ((EB2.wr W6).wr W10)
 refine ⟨_, _, ?_, hP _ _ ⟨hrun, hended, _, _, rfl, ?_, ⟨_, rfl⟩, hW, hsame.mono (by decide) (by decide)⟩⟩
 ·exact X10.returnOut hx Bd.returns (hb hby dc36_22) hr
 ·show Q_rmA30 _ _ _ _ _ _ _ _ T10.heap _
  rw [e10]
  exact ⟨rfl, N11, KC11, d2, kd2, sz_d2, g_d2, f12, f13, F10, f14, f15, f16, OV2⟩
theorem dc37_0 : Dk zb37 0 (.aload_n 0) 1 := by decide +kernel
theorem dc37_1 : Dk zb37 1 .dup 1 := by decide +kernel
theorem dc37_2 : Dk zb37 2 (.getfield 63) 3 := by decide +kernel
theorem dc37_5 : Dk zb37 5 (.iconst 1) 1 := by decide +kernel
theorem dc37_6 : Dk zb37 6 .iadd 1 := by decide +kernel
theorem dc37_7 : Dk zb37 7 (.putfield 63) 3 := by decide +kernel
theorem dc37_10 : Dk zb37 10 (.aload_n 0) 1 := by decide +kernel
theorem dc37_11 : Dk zb37 11 (.aload_n 1) 1 := by decide +kernel
theorem dc37_12 : Dk zb37 12 (.aload_n 0) 1 := by decide +kernel
theorem dc37_13 : Dk zb37 13 (.getfield 9) 3 := by decide +kernel
theorem dc37_16 : Dk zb37 16 (.aload_n 0) 1 := by decide +kernel
theorem dc37_17 : Dk zb37 17 (.getfield 48) 3 := by decide +kernel
theorem dc37_20 : Dk zb37 20 (.invokevirtual 131) 3 := by decide +kernel
theorem pd_22 : parseMethodDescriptor "(Ljava/lang/Object;[Ljava/lang/Object;I)V" = some ⟨[(.object "java/lang/Object"), (.array (.object "java/lang/Object")), .int], none⟩ := by decide +kernel
theorem dc37_23 : Dk zb37 23 (.iconst 1) 1 := by decide +kernel
theorem dc37_24 : Dk zb37 24 .ireturn 1 := by decide +kernel
theorem ef_rmA10 (mi : MethodId) (o : Addr) (e : Addr) : entryFrame mi #[(.ref o), (.ref e)] 2 = mkF mi 0 #[.val (.ref o), .val (.ref e)] [] := by first | (simp [entryFrame, mkF, argsToLocals, Value.category]; done) | rfl
abbrev Q_rmA10 (Z : State) (o : Addr) (e : Addr) (de : Addr) (kde : ClassId) (h0 : Heap) (n0 : Nat) (vv_ : Option Value) (hh_ : Heap) (LL_ : List Loc) : Prop := vv_ = some (.int (1 : Int32)) ∧ Fr n0 LL_ ∧ Keep h0 hh_ [o] ∧ ∃ (d : Addr) (kd : ClassId), h0.size ≤ d ∧ n0 ≤ d ∧ Exa Z hh_ o "java/util/ArrayList" ∧ Fld Z hh_ o "java/util/ArrayList" "elementData" "[Ljava/lang/Object;" (.ref d) ∧ Fld Z hh_ o "java/util/ArrayList" "size" "I" (.int (1 : Int32)) ∧ Fld Z hh_ o "java/util/AbstractList" "modCount" "I" (.int (1 : Int32)) ∧ Arv Z hh_ d kd (.object "java/lang/Object") (10 : Int32) [(.ref e), .null, .null, .null, .null, .null, .null, .null, .null, .null] .null ∧ Exa Z hh_ d "[Ljava/lang/Object;" ∧ Ovr Z kd "java/lang/Object"
theorem rmA10 (l : Launch) (Z : State) (a0 : Array Value) (hw : Tb Z a0) (ws : List Jvm.Cond) (o : Addr) (e : Addr) (de : Addr) (kde : ClassId) (h0 : Heap) (n0 : Nat) (Z0 : n0 ≤ h0.size) (LE : Exa Z h0 o "java/util/ArrayList") (LD : Fld Z h0 o "java/util/ArrayList" "elementData" "[Ljava/lang/Object;" (.ref de)) (LZ : Fld Z h0 o "java/util/ArrayList" "size" "I" (.int (0 : Int32))) (LM : Fld Z h0 o "java/util/AbstractList" "modCount" "I" (.int (0 : Int32))) (SD : Sta Z h0 "java/util/ArrayList" "DEFAULTCAPACITY_EMPTY_ELEMENTDATA" "[Ljava/lang/Object;" (.ref de)) (DV : Arv Z h0 de kde (.object "java/lang/Object") (0 : Int32) [] .null) (DE : Exa Z h0 de "[Ljava/lang/Object;") (g_o : n0 ≤ o) (n_do : de ≠ o) (SEe : Exa Z h0 e "java/lang/String") (n_eo : e ≠ o) :
  Mt l Z zy37 zb37 2 (some .boolean) ws zR28 #[(.ref o), (.ref e)] h0 (Q_rmA10 Z o e de kde h0 n0) := by
 refine MetFree.of_bodySF (plainFor_of_name pn_8) hisR ?_
 intro pg ev si mi args below meth ci s₁ Bd hml0 hP0 hK
 obtain ⟨rfl, hZ, hh⟩ := hP0
 have hx := Bd.exec
 have hby := Bd.bytes
 have hml : ci.maxLocals = 2 := hml0
 have hown : si.vm.findClass "java/util/ArrayList" = some mi.cls := findClass_of_methodNamed Bd.named
 have hnm := (name_of_methodNamed Bd.named Bd.method).1
 have X0 : Stand pg l ev zR28 si mi #[(.ref o), (.ref e)] below meth ci s₁ [] 0 0 := Stand.of_body Bd
 have e0 : s₁.heap = h0 := by rw [← hh, Bd.state]; rfl
 have N0 := Fr.nil n0
 refine Go.start (fun P hP => ?_)
 refine Go.st (fun t_ k_ => castTop (ef_rmA10 mi o e) k_) (A := s₁.setTop (mkF mi 0 #[.val (.ref o), .val (.ref e)] [])) ?_
 refine g_aloadN X0 hx hby dc37_0 rfl rfl ?_
 refine g_dup X0 hx hby dc37_1 rfl ?_
 obtain ⟨T1, X1, e1, st1⟩ := getF X0 hx hZ hown (host := "") (Or.inl (hw _ (own_m 173 rfl))) (Via.of (hw _ (own_m 174 rfl))) e0 LM (g := (mkF mi 2 #[.val (.ref o), .val (.ref e)] [(.ref o), (.ref o)])) rfl rfl (hb hby dc37_2)
 refine Go.st st1 ?_
 refine g_iconst X1 hx hby dc37_5 (v := 1) rfl ?_
 refine g_iadd X1 hx hby dc37_6 (z := 1) rfl ?_
 obtain ⟨T2, h2, X2, e2, W2, st2⟩ := putF X1 hx hZ hown (host := "") (Or.inl (hw _ (own_m 173 rfl))) (Via.of (hw _ (own_m 174 rfl))) e1 LM LE (Or.inl (hw _ (own_m 149 rfl))) (hw _ (own_m 129 rfl)) (ty := .int) (by decide) rfl rfl (g := (mkF mi 7 #[.val (.ref o), .val (.ref e)] [(.int 1), (.ref o)])) rfl rfl (hb hby dc37_7)
 have Zs3 : n0 ≤ h2.size := Nat.le_trans Z0 (Keep.of_wr W2).1
 have KC3 : Keep h0 h2 [o] := (Keep.refl h0 [o]).wr W2 (Or.inl (List.mem_of_getElem? (i := 0) rfl))
 have N3 := Fr.snoc X2 N0 g_o
 have F2 : Fld Z h2 o "java/util/AbstractList" "modCount" "I" (.int 1) := LM.same W2
 refine Go.st st2 ?_
 refine g_aloadN X2 hx hby dc37_10 rfl rfl ?_
 refine g_aloadN X2 hx hby dc37_11 rfl rfl ?_
 refine g_aloadN X2 hx hby dc37_12 rfl rfl ?_
 have f4 := (LD.other W2 (Or.inr (slot_ne (Or.inl (hw _ (own_m 152 rfl))) (Or.inl (hw _ (own_m 149 rfl))) (by decide) (t := (.array (.object "java/lang/Object"))) (t' := .int) (by decide) (by decide))))
 obtain ⟨T5, X5, e5, st5⟩ := getF X2 hx hZ hown (host := "") (Or.inl (hw _ (own_m 151 rfl))) Via.refl e2 f4 (g := (mkF mi 13 #[.val (.ref o), .val (.ref e)] [(.ref o), (.ref e), (.ref o)])) rfl rfl (hb hby dc37_13)
 refine Go.st st5 ?_
 refine g_aloadN X5 hx hby dc37_16 rfl rfl ?_
 have f6 := (LZ.other W2 (Or.inr (slot_ne (Or.inl (hw _ (own_m 176 rfl))) (Or.inl (hw _ (own_m 149 rfl))) (by decide) (t := .int) (t' := .int) (by decide) (by decide))))
 obtain ⟨T7, X7, e7, st7⟩ := getF X5 hx hZ hown (host := "") (Or.inl (hw _ (own_m 175 rfl))) Via.refl e5 f6 (g := (mkF mi 17 #[.val (.ref o), .val (.ref e)] [(.ref o), (.ref de), (.ref e), (.ref o)])) rfl rfl (hb hby dc37_17)
 refine Go.st st7 ?_
 have f9 := (LE.wr W2)
 have f10 := (SD.wr W2)
 have f11 := (DV.other W2 n_do)
 have f12 := (DE.wr W2)
 have f13 := (SEe.wr W2)
 obtain ⟨cq8, q8, q8'⟩ := f9.cell
 obtain ⟨_, _, ⟨T8, L8, k8, n8⟩, -, X8, ⟨Lc8, hQ8, l8, y8, z8⟩, st8⟩ := X7.privateBack hx (y := zy36) hown (mvT hZ (hw _ (own_m 177 rfl))) (mvT hZ (hw _ (own_m 178 rfl))) (mvT hZ (hw _ (own_m 180 rfl))) (Cond.privateMethod_at (mvP hZ (hw _ (own_m 179 rfl)) (args := #[]))) (mvT hZ (hw _ (own_m 181 rfl))) (by decide) (backOf (W := 0) (rmA30 l Z a0 hw [] o e de kde h2 n0 Zs3 f9 f4 f6 F2 f10 f11 f12 g_o n_do f13 n_eo) hZ (hw _ (own_m 181 rfl)) (hw _ (own_m 130 rfl)) (by decide) (by decide)) (g := (mkF mi 20 #[.val (.ref o), .val (.ref e)] [(.int 0), (.ref de), (.ref e), (.ref o)])) rfl (by rw [hml]; rfl) (Steps.refl _) (a := o) (by rw [e7]; exact q8) q8' (argsL := [(.ref e), (.ref de), (.int 0)]) (rest := []) (lenOf pd_22 rfl) rfl (by show 2 * 0 + _ ≤ _; exact Nat.le_of_eq rfl) (hb hby dc37_20) (fun _ _ => ⟨rfl, e7, (by decide : 0 + 1 ≤ _), (by decide : 0 + 10 ≤ _)⟩)
 dsimp only [Pt.U, Pt.locs, Pt.cells, Pt.slots] at X8 l8 y8 z8 st8 hQ8
 subst y8 z8
 have X8 := own_cs X8 (cells' := 1) (slots' := 10) rfl rfl
 obtain ⟨h8, e8⟩ : ∃ z, T8.heap = z := ⟨_, rfl⟩
 rw [e8] at hQ8
 obtain ⟨rfl, N8q, K8, d8, kd8, z_d8, g_d8, LE8, LD8, LZ8, LM8, EA8, EB8, OV8⟩ := hQ8
 have N8 := own_fr l8 (Fr.app N3 N8q)
 have Zs14 : n0 ≤ h8.size := Nat.le_trans Zs3 K8.1
 have KC14 : Keep h0 h8 [o] := KC3.trans K8 (allS (P := fun x => x ∈ [o] ∨ h0.size ≤ x) (Or.inl (List.mem_of_getElem? (i := 0) rfl)) all0)
 have sz_d8 : h0.size ≤ d8 := Nat.le_trans KC3.1 z_d8
 refine Go.tr st8 ?_
 refine g_iconst X8 hx hby dc37_23 (v := 1) rfl ?_
 obtain ⟨fs, hr, hrun, hended, hW, hsame⟩ := X8.leave (v := some (.int 1)) (fun h => by rw [Bd.returns] at h; cases h) (BodyLoose.notSynchronized Bd)
 refine ⟨_, _, ?_, hP _ _ ⟨hrun, hended, _, _, rfl, ?_, ⟨_, rfl⟩, hW, hsame.mono (by decide) (by decide)⟩⟩
 ·exact retN X8 hx (t := .boolean) Bd.returns (by simp) (hb hby dc37_24) hr
 ·show Q_rmA10 _ _ _ _ _ _ _ _ T8.heap _
  rw [e8]
  exact ⟨rfl, N8, KC14, d8, kd8, sz_d8, g_d8, LE8, LD8, LZ8, LM8, EA8, EB8, OV8⟩
theorem ef_rmA3k (mi : MethodId) (o : Addr) (e : Addr) (d : Addr) (k : Nat) : entryFrame mi #[(.ref o), (.ref e), (.ref d), (.int (Int32.ofNat k))] 4 = mkF mi 0 #[.val (.ref o), .val (.ref e), .val (.ref d), .val (.int (Int32.ofNat k))] [] := by first | (simp [entryFrame, mkF, argsToLocals, Value.category]; done) | rfl
abbrev Q_rmA3k (Z : State) (o : Addr) (e : Addr) (d : Addr) (kd : ClassId) (vs : List Value) (k : Nat) (h0 : Heap) (n0 : Nat) (vv_ : Option Value) (hh_ : Heap) (LL_ : List Loc) : Prop := vv_ = none ∧ Fr n0 LL_ ∧ Keep h0 hh_ [o, d] ∧ Exa Z hh_ o "java/util/ArrayList" ∧ Fld Z hh_ o "java/util/ArrayList" "elementData" "[Ljava/lang/Object;" (.ref d) ∧ Fld Z hh_ o "java/util/ArrayList" "size" "I" (.int (Int32.ofNat (k + 1))) ∧ Fld Z hh_ o "java/util/AbstractList" "modCount" "I" (.int (Int32.ofNat (k + 1))) ∧ Arv Z hh_ d kd (.object "java/lang/Object") (10 : Int32) (vs.set k (.ref e)) .null ∧ Exa Z hh_ d "[Ljava/lang/Object;"
theorem rmA3k (l : Launch) (Z : State) (a0 : Array Value) (hw : Tb Z a0) (ws : List Jvm.Cond) (o : Addr) (e : Addr) (d : Addr) (kd : ClassId) (vs : List Value) (k : Nat) (h0 : Heap) (n0 : Nat) (Z0 : n0 ≤ h0.size) (LE : Exa Z h0 o "java/util/ArrayList") (LD : Fld Z h0 o "java/util/ArrayList" "elementData" "[Ljava/lang/Object;" (.ref d)) (LZ : Fld Z h0 o "java/util/ArrayList" "size" "I" (.int (Int32.ofNat k))) (LM : Fld Z h0 o "java/util/AbstractList" "modCount" "I" (.int (Int32.ofNat (k + 1)))) (EA : Arv Z h0 d kd (.object "java/lang/Object") (10 : Int32) vs .null) (EB : Exa Z h0 d "[Ljava/lang/Object;") (OV : Ovr Z kd "java/lang/Object") (g_o : n0 ≤ o) (g_d : n0 ≤ d) (n_od : o ≠ d) (SEe : Exa Z h0 e "java/lang/String") (n_eo : e ≠ o) (n_ed : e ≠ d) (hk : k < 10) (hvl : vs.length = 10) :
  Mt l Z zy36 zb36 4 none ws zR0 #[(.ref o), (.ref e), (.ref d), (.int (Int32.ofNat k))] h0 (Q_rmA3k Z o e d kd vs k h0 n0) := by
 refine MetFree.of_bodySF (plainFor_of_name pn_8) hisR ?_
 intro pg ev si mi args below meth ci s₁ Bd hml0 hP0 hK
 obtain ⟨rfl, hZ, hh⟩ := hP0
 have hx := Bd.exec
 have hby := Bd.bytes
 have hml : ci.maxLocals = 4 := hml0
 have hown : si.vm.findClass "java/util/ArrayList" = some mi.cls := findClass_of_methodNamed Bd.named
 have hnm := (name_of_methodNamed Bd.named Bd.method).1
 have X0 : Stand pg l ev zR0 si mi #[(.ref o), (.ref e), (.ref d), (.int (Int32.ofNat k))] below meth ci s₁ [] 0 0 := Stand.of_body Bd
 have e0 : s₁.heap = h0 := by rw [← hh, Bd.state]; rfl
 have N0 := Fr.nil n0
 refine Go.start (fun P hP => ?_)
 refine Go.st (fun t_ k_ => castTop (ef_rmA3k mi o e d k) k_) (A := s₁.setTop (mkF mi 0 #[.val (.ref o), .val (.ref e), .val (.ref d), .val (.int (Int32.ofNat k))] [])) ?_
 refine g_iloadN X0 hx hby dc36_0 rfl ?_
 refine g_aloadN X0 hx hby dc36_1 rfl rfl ?_
 have ov1 := EA
 obtain ⟨cl1, Ar1, q1, S1, M1, H1, G1⟩ := ov1
 refine Go.st (X0.arraylength hx (by rw [e0]; exact Ar1.1) (State.isArrayOf_alike hZ.alike Ar1.2.1) (g := (mkF mi 2 #[.val (.ref o), .val (.ref e), .val (.ref d), .val (.int (Int32.ofNat k))] [(.ref d), (.int (Int32.ofNat k))])) rfl rfl (hb hby dc36_2)) ?_
 rw [len_of S1 M1]
 refine g_icmpYes X0 hx hby dc36_3 (feq (fun q => absurd ((own_ofeq (n := k) (m := 10) (by omega) (by omega)).mp q) (by omega))).2 (pc0 := 3) (pc' := 11) rfl (by decide) (by decide) ?_
 refine g_aloadN X0 hx hby dc36_11 rfl rfl ?_
 refine g_iloadN X0 hx hby dc36_12 rfl ?_
 refine g_aloadN X0 hx hby dc36_13 rfl rfl ?_
 have ov2 := EA
 obtain ⟨cl2, Ar2, q2, S2, M2, H2, G2⟩ := ov2
 have hin2 : ¬ ((Int32.ofNat k) < 0 ∨ cl2.slots.size ≤ ((Int32.ofNat k)).toNatClampNeg) := inb_of S2 ⟨own_ofN0 (n := k) (by omega), (own_oflt (n := k) (m := 10) (by omega) (by omega)).mpr hk⟩
 obtain ⟨T3, h3, X3, e3, W3, st3⟩ := stR X0 hx hZ e0 Ar2 (j := (Int32.ofNat k)) hin2 rfl (Sto.ofV Ar2 q2 OV (Ins.of_exa SEe (hw _ (own_m 195 rfl)))) (g := (mkF mi 14 #[.val (.ref o), .val (.ref e), .val (.ref d), .val (.int (Int32.ofNat k))] [(.ref e), (.int (Int32.ofNat k)), (.ref d)])) rfl rfl (hb hby dc36_14)
 have Zs4 : n0 ≤ h3.size := Nat.le_trans Z0 (Keep.of_wr W3).1
 have KC4 : Keep h0 h3 [o, d] := (Keep.refl h0 [o, d]).wr W3 (Or.inl (List.mem_of_getElem? (i := 1) rfl))
 have N4 := Fr.snoc X3 N0 g_d
 have V3 : Arv Z h3 d kd (.object "java/lang/Object") (10 : Int32) (vs.set k (.ref e)) .null := Arv.set Ar2 q2 S2 M2 H2 G2 rfl W3 k (own_ofNn (n := k) (by omega)) (by rw [hvl]; exact hk)
 refine Go.st st3 ?_
 refine g_aloadN X3 hx hby dc36_15 rfl rfl ?_
 refine g_iloadN X3 hx hby dc36_16 rfl ?_
 refine g_iconst X3 hx hby dc36_17 (v := 1) rfl ?_
 refine g_iadd X3 hx hby dc36_18 rfl ?_
 show Go _ _ _ (T3.setTop (mkF mi 19 #[.val (.ref o), .val (.ref e), .val (.ref d), .val (.int (Int32.ofNat k))] [(.int ((Int32.ofNat k) + (1 : Int32))), (.ref o)])) _
 rw [own_ofS]
 show Go _ _ _ (T3.setTop (mkF mi 19 #[.val (.ref o), .val (.ref e), .val (.ref d), .val (.int (Int32.ofNat k))] [(.int (Int32.ofNat (k + 1))), (.ref o)])) _
 have f5 := (LZ.other W3 (Or.inl n_od))
 have f6 := (LE.wr W3)
 obtain ⟨T7, h7, X7, e7, W7, st7⟩ := putF X3 hx hZ hown (host := "") (Or.inl (hw _ (own_m 175 rfl))) Via.refl e3 f5 f6 (Or.inl (hw _ (own_m 176 rfl))) (hw _ (own_m 129 rfl)) (ty := .int) (by decide) rfl rfl (g := (mkF mi 19 #[.val (.ref o), .val (.ref e), .val (.ref d), .val (.int (Int32.ofNat k))] [(.int (Int32.ofNat (k + 1))), (.ref o)])) rfl rfl (hb hby dc36_19)
 have Zs8 : n0 ≤ h7.size := Nat.le_trans Zs4 (Keep.of_wr W7).1
 have KC8 : Keep h0 h7 [o, d] := KC4.wr W7 (Or.inl (List.mem_of_getElem? (i := 0) rfl))
 have N8 := Fr.snoc X7 N4 g_o
 have F7 : Fld Z h7 o "java/util/ArrayList" "size" "I" (.int (Int32.ofNat (k + 1))) := f5.same W7
 refine Go.st st7 ?_
 obtain ⟨fs, hr, hrun, hended, hW, hsame⟩ := X7.leave (v := none) (fun _ => rfl) (BodyLoose.notSynchronized Bd)
 have f9 := (f6.wr W7)
 have f10 := ((LD.other W3 (Or.inl n_od)).other W7 (Or.inr (slot_ne (Or.inl (hw _ (own_m 152 rfl))) (Or.inl (hw _ (own_m 176 rfl))) (by decide) (t := (.array (.object "java/lang/Object"))) (t' := .int) (by decide) (by decide))))
 have f11 := ((LM.other W3 (Or.inl n_od)).other W7 (Or.inr (slot_ne (Or.inl (hw _ (own_m 149 rfl))) (Or.inl (hw _ (own_m 176 rfl))) (by decide) (t := .int) (t' := .int) (by decide) (by decide))))
 have f12 := (V3.other W7 (Ne.symm n_od))
 have f13 := ((EB.wr W3).wr W7)
 refine ⟨_, _, ?_, hP _ _ ⟨hrun, hended, _, _, rfl, ?_, ⟨_, rfl⟩, hW, hsame.mono (by decide) (by decide)⟩⟩
 ·exact X7.returnOut hx Bd.returns (hb hby dc36_22) hr
 ·show Q_rmA3k _ _ _ _ _ _ _ _ _ _ T7.heap _
  rw [e7]
  exact ⟨rfl, N8, KC8, f9, f10, F7, f11, f12, f13⟩
theorem ef_rmA1k (mi : MethodId) (o : Addr) (e : Addr) : entryFrame mi #[(.ref o), (.ref e)] 2 = mkF mi 0 #[.val (.ref o), .val (.ref e)] [] := by first | (simp [entryFrame, mkF, argsToLocals, Value.category]; done) | rfl
abbrev Q_rmA1k (Z : State) (o : Addr) (e : Addr) (d : Addr) (kd : ClassId) (vs : List Value) (k : Nat) (h0 : Heap) (n0 : Nat) (vv_ : Option Value) (hh_ : Heap) (LL_ : List Loc) : Prop := vv_ = some (.int (1 : Int32)) ∧ Fr n0 LL_ ∧ Keep h0 hh_ [o, d] ∧ Exa Z hh_ o "java/util/ArrayList" ∧ Fld Z hh_ o "java/util/ArrayList" "elementData" "[Ljava/lang/Object;" (.ref d) ∧ Fld Z hh_ o "java/util/ArrayList" "size" "I" (.int (Int32.ofNat (k + 1))) ∧ Fld Z hh_ o "java/util/AbstractList" "modCount" "I" (.int (Int32.ofNat (k + 1))) ∧ Arv Z hh_ d kd (.object "java/lang/Object") (10 : Int32) (vs.set k (.ref e)) .null ∧ Exa Z hh_ d "[Ljava/lang/Object;"
theorem rmA1k (l : Launch) (Z : State) (a0 : Array Value) (hw : Tb Z a0) (ws : List Jvm.Cond) (o : Addr) (e : Addr) (d : Addr) (kd : ClassId) (vs : List Value) (k : Nat) (h0 : Heap) (n0 : Nat) (Z0 : n0 ≤ h0.size) (LE : Exa Z h0 o "java/util/ArrayList") (LD : Fld Z h0 o "java/util/ArrayList" "elementData" "[Ljava/lang/Object;" (.ref d)) (LZ : Fld Z h0 o "java/util/ArrayList" "size" "I" (.int (Int32.ofNat k))) (LM : Fld Z h0 o "java/util/AbstractList" "modCount" "I" (.int (Int32.ofNat k))) (EA : Arv Z h0 d kd (.object "java/lang/Object") (10 : Int32) vs .null) (EB : Exa Z h0 d "[Ljava/lang/Object;") (OV : Ovr Z kd "java/lang/Object") (g_o : n0 ≤ o) (g_d : n0 ≤ d) (n_od : o ≠ d) (SEe : Exa Z h0 e "java/lang/String") (n_eo : e ≠ o) (n_ed : e ≠ d) (hk : k < 10) (hvl : vs.length = 10) :
  Mt l Z zy37 zb37 2 (some .boolean) ws zR19 #[(.ref o), (.ref e)] h0 (Q_rmA1k Z o e d kd vs k h0 n0) := by
 refine MetFree.of_bodySF (plainFor_of_name pn_8) hisR ?_
 intro pg ev si mi args below meth ci s₁ Bd hml0 hP0 hK
 obtain ⟨rfl, hZ, hh⟩ := hP0
 have hx := Bd.exec
 have hby := Bd.bytes
 have hml : ci.maxLocals = 2 := hml0
 have hown : si.vm.findClass "java/util/ArrayList" = some mi.cls := findClass_of_methodNamed Bd.named
 have hnm := (name_of_methodNamed Bd.named Bd.method).1
 have X0 : Stand pg l ev zR19 si mi #[(.ref o), (.ref e)] below meth ci s₁ [] 0 0 := Stand.of_body Bd
 have e0 : s₁.heap = h0 := by rw [← hh, Bd.state]; rfl
 have N0 := Fr.nil n0
 refine Go.start (fun P hP => ?_)
 refine Go.st (fun t_ k_ => castTop (ef_rmA1k mi o e) k_) (A := s₁.setTop (mkF mi 0 #[.val (.ref o), .val (.ref e)] [])) ?_
 refine g_aloadN X0 hx hby dc37_0 rfl rfl ?_
 refine g_dup X0 hx hby dc37_1 rfl ?_
 obtain ⟨T1, X1, e1, st1⟩ := getF X0 hx hZ hown (host := "") (Or.inl (hw _ (own_m 173 rfl))) (Via.of (hw _ (own_m 174 rfl))) e0 LM (g := (mkF mi 2 #[.val (.ref o), .val (.ref e)] [(.ref o), (.ref o)])) rfl rfl (hb hby dc37_2)
 refine Go.st st1 ?_
 refine g_iconst X1 hx hby dc37_5 (v := 1) rfl ?_
 refine g_iadd X1 hx hby dc37_6 rfl ?_
 show Go _ _ _ (T1.setTop (mkF mi 7 #[.val (.ref o), .val (.ref e)] [(.int ((Int32.ofNat k) + (1 : Int32))), (.ref o)])) _
 rw [own_ofS]
 show Go _ _ _ (T1.setTop (mkF mi 7 #[.val (.ref o), .val (.ref e)] [(.int (Int32.ofNat (k + 1))), (.ref o)])) _
 obtain ⟨T2, h2, X2, e2, W2, st2⟩ := putF X1 hx hZ hown (host := "") (Or.inl (hw _ (own_m 173 rfl))) (Via.of (hw _ (own_m 174 rfl))) e1 LM LE (Or.inl (hw _ (own_m 149 rfl))) (hw _ (own_m 129 rfl)) (ty := .int) (by decide) rfl rfl (g := (mkF mi 7 #[.val (.ref o), .val (.ref e)] [(.int (Int32.ofNat (k + 1))), (.ref o)])) rfl rfl (hb hby dc37_7)
 have Zs3 : n0 ≤ h2.size := Nat.le_trans Z0 (Keep.of_wr W2).1
 have KC3 : Keep h0 h2 [o, d] := (Keep.refl h0 [o, d]).wr W2 (Or.inl (List.mem_of_getElem? (i := 0) rfl))
 have N3 := Fr.snoc X2 N0 g_o
 have F2 : Fld Z h2 o "java/util/AbstractList" "modCount" "I" (.int (Int32.ofNat (k + 1))) := LM.same W2
 refine Go.st st2 ?_
 refine g_aloadN X2 hx hby dc37_10 rfl rfl ?_
 refine g_aloadN X2 hx hby dc37_11 rfl rfl ?_
 refine g_aloadN X2 hx hby dc37_12 rfl rfl ?_
 have f4 := (LD.other W2 (Or.inr (slot_ne (Or.inl (hw _ (own_m 152 rfl))) (Or.inl (hw _ (own_m 149 rfl))) (by decide) (t := (.array (.object "java/lang/Object"))) (t' := .int) (by decide) (by decide))))
 obtain ⟨T5, X5, e5, st5⟩ := getF X2 hx hZ hown (host := "") (Or.inl (hw _ (own_m 151 rfl))) Via.refl e2 f4 (g := (mkF mi 13 #[.val (.ref o), .val (.ref e)] [(.ref o), (.ref e), (.ref o)])) rfl rfl (hb hby dc37_13)
 refine Go.st st5 ?_
 refine g_aloadN X5 hx hby dc37_16 rfl rfl ?_
 have f6 := (LZ.other W2 (Or.inr (slot_ne (Or.inl (hw _ (own_m 176 rfl))) (Or.inl (hw _ (own_m 149 rfl))) (by decide) (t := .int) (t' := .int) (by decide) (by decide))))
 obtain ⟨T7, X7, e7, st7⟩ := getF X5 hx hZ hown (host := "") (Or.inl (hw _ (own_m 175 rfl))) Via.refl e5 f6 (g := (mkF mi 17 #[.val (.ref o), .val (.ref e)] [(.ref o), (.ref d), (.ref e), (.ref o)])) rfl rfl (hb hby dc37_17)
 refine Go.st st7 ?_
 have f9 := (LE.wr W2)
 have f10 := (EA.other W2 (Ne.symm n_od))
 have f11 := (EB.wr W2)
 have f12 := (SEe.wr W2)
 obtain ⟨cq8, q8, q8'⟩ := f9.cell
 obtain ⟨_, _, ⟨T8, L8, k8, n8⟩, -, X8, ⟨Lc8, hQ8, l8, y8, z8⟩, st8⟩ := X7.privateBack hx (y := zy36) hown (mvT hZ (hw _ (own_m 177 rfl))) (mvT hZ (hw _ (own_m 178 rfl))) (mvT hZ (hw _ (own_m 180 rfl))) (Cond.privateMethod_at (mvP hZ (hw _ (own_m 179 rfl)) (args := #[]))) (mvT hZ (hw _ (own_m 181 rfl))) (by decide) (backOf (W := 0) (rmA3k l Z a0 hw [] o e d kd vs k h2 n0 Zs3 f9 f4 f6 F2 f10 f11 OV g_o g_d n_od f12 n_eo n_ed hk hvl) hZ (hw _ (own_m 181 rfl)) (hw _ (own_m 130 rfl)) (by decide) (by decide)) (g := (mkF mi 20 #[.val (.ref o), .val (.ref e)] [(.int (Int32.ofNat k)), (.ref d), (.ref e), (.ref o)])) rfl (by rw [hml]; rfl) (Steps.refl _) (a := o) (by rw [e7]; exact q8) q8' (argsL := [(.ref e), (.ref d), (.int (Int32.ofNat k))]) (rest := []) (lenOf pd_22 rfl) rfl (by show 2 * 0 + _ ≤ _; exact Nat.le_of_eq rfl) (hb hby dc37_20) (fun _ _ => ⟨rfl, e7, (by decide : 0 + 0 ≤ _), (by decide : 0 + 0 ≤ _)⟩)
 dsimp only [Pt.U, Pt.locs, Pt.cells, Pt.slots] at X8 l8 y8 z8 st8 hQ8
 subst y8 z8
 have X8 := own_cs X8 (cells' := 0) (slots' := 0) rfl rfl
 obtain ⟨h8, e8⟩ : ∃ z, T8.heap = z := ⟨_, rfl⟩
 rw [e8] at hQ8
 obtain ⟨rfl, N8q, K8, LE8, LD8, LZ8, LM8, EA8, EB8⟩ := hQ8
 have N8 := own_fr l8 (Fr.app N3 N8q)
 have Zs13 : n0 ≤ h8.size := Nat.le_trans Zs3 K8.1
 have KC13 : Keep h0 h8 [o, d] := KC3.trans K8 (allS (P := fun x => x ∈ [o, d] ∨ h0.size ≤ x) (Or.inl (List.mem_of_getElem? (i := 0) rfl)) (allS (P := fun x => x ∈ [o, d] ∨ h0.size ≤ x) (Or.inl (List.mem_of_getElem? (i := 1) rfl)) all0))
 refine Go.tr st8 ?_
 refine g_iconst X8 hx hby dc37_23 (v := 1) rfl ?_
 obtain ⟨fs, hr, hrun, hended, hW, hsame⟩ := X8.leave (v := some (.int 1)) (fun h => by rw [Bd.returns] at h; cases h) (BodyLoose.notSynchronized Bd)
 refine ⟨_, _, ?_, hP _ _ ⟨hrun, hended, _, _, rfl, ?_, ⟨_, rfl⟩, hW, hsame.mono (by decide) (by decide)⟩⟩
 ·exact retN X8 hx (t := .boolean) Bd.returns (by simp) (hb hby dc37_24) hr
 ·show Q_rmA1k _ _ _ _ _ _ _ _ _ _ T8.heap _
  rw [e8]
  exact ⟨rfl, N8, KC13, LE8, LD8, LZ8, LM8, EA8, EB8⟩
theorem dc38_0 : Dk zb38 0 (.aload_n 0) 1 := by decide +kernel
theorem dc38_1 : Dk zb38 1 (.getfield 48) 3 := by decide +kernel
theorem dc38_4 : Dk zb38 4 .ireturn 1 := by decide +kernel
theorem ef_rmSz (mi : MethodId) (o : Addr) : entryFrame mi #[(.ref o)] 1 = mkF mi 0 #[.val (.ref o)] [] := by first | (simp [entryFrame, mkF, argsToLocals, Value.category]; done) | rfl
theorem rmSz (l : Launch) (Z : State) (a0 : Array Value) (hw : Tb Z a0) (ws : List Jvm.Cond) (o : Addr) (m : Int32) (h0 : Heap) (n0 : Nat) (Z0 : n0 ≤ h0.size) (LZ : Fld Z h0 o "java/util/ArrayList" "size" "I" (.int m)) :
  Mt l Z zy38 zb38 1 (some .int) ws zR0 #[(.ref o)] h0 (QP (some (.int m)) h0 n0) := by
 refine MetFree.of_bodySF (plainFor_of_name pn_8) hisR ?_
 intro pg ev si mi args below meth ci s₁ Bd hml0 hP0 hK
 obtain ⟨rfl, hZ, hh⟩ := hP0
 have hx := Bd.exec
 have hby := Bd.bytes
 have hml : ci.maxLocals = 1 := hml0
 have hown : si.vm.findClass "java/util/ArrayList" = some mi.cls := findClass_of_methodNamed Bd.named
 have hnm := (name_of_methodNamed Bd.named Bd.method).1
 have X0 : Stand pg l ev zR0 si mi #[(.ref o)] below meth ci s₁ [] 0 0 := Stand.of_body Bd
 have e0 : s₁.heap = h0 := by rw [← hh, Bd.state]; rfl
 have N0 := Fr.nil n0
 refine Go.start (fun P hP => ?_)
 refine Go.st (fun t_ k_ => castTop (ef_rmSz mi o) k_) (A := s₁.setTop (mkF mi 0 #[.val (.ref o)] [])) ?_
 refine g_aloadN X0 hx hby dc38_0 rfl rfl ?_
 obtain ⟨T1, X1, e1, st1⟩ := getF X0 hx hZ hown (host := "") (Or.inl (hw _ (own_m 175 rfl))) Via.refl e0 LZ (g := (mkF mi 1 #[.val (.ref o)] [(.ref o)])) rfl rfl (hb hby dc38_1)
 refine Go.st st1 ?_
 obtain ⟨fs, hr, hrun, hended, hW, hsame⟩ := X1.leave (v := some (.int m)) (fun h => by rw [Bd.returns] at h; cases h) (BodyLoose.notSynchronized Bd)
 refine ⟨_, _, ?_, hP _ _ ⟨hrun, hended, _, _, rfl, ?_, ⟨_, rfl⟩, hW, hsame.mono (by decide) (by decide)⟩⟩
 ·exact retI X1 hx Bd.returns (hb hby dc38_4) hr
 ·exact ⟨rfl, N0, e1⟩
theorem dc39_0 : Dk zb39 0 (.iload_n 0) 1 := by decide +kernel
theorem dc39_1 : Dk zb39 1 (.ifCond .ge 30) 3 := by decide +kernel
theorem dc39_31 : Dk zb39 31 (.iload_n 1) 1 := by decide +kernel
theorem dc39_32 : Dk zb39 32 (.iload_n 2) 1 := by decide +kernel
theorem dc39_33 : Dk zb39 33 (.if_icmp .le 30) 3 := by decide +kernel
theorem dc39_63 : Dk zb39 63 (.iload_n 0) 1 := by decide +kernel
theorem dc39_64 : Dk zb39 64 (.iload_n 1) 1 := by decide +kernel
theorem dc39_65 : Dk zb39 65 (.if_icmp .le 44) 3 := by decide +kernel
theorem dc39_109 : Dk zb39 109 .return_ 1 := by decide +kernel
theorem ef_rmRC (mi : MethodId) (m : Int32) : entryFrame mi #[(.int 0), (.int m), (.int m)] 3 = mkF mi 0 #[.val (.int 0), .val (.int m), .val (.int m)] [] := by first | (simp [entryFrame, mkF, argsToLocals, Value.category]; done) | rfl
theorem rmRC (l : Launch) (Z : State) (a0 : Array Value) (hw : Tb Z a0) (ws : List Jvm.Cond) (m : Int32) (h0 : Heap) (n0 : Nat) (Z0 : n0 ≤ h0.size) (hm0 : ¬ (m < (0 : Int32))) :
  Mt l Z zy39 zb39 3 none ws zR0 #[(.int 0), (.int m), (.int m)] h0 (QP (none) h0 n0) := by
 refine MetFree.of_bodySF (plainFor_of_name pn_7) hisR ?_
 intro pg ev si mi args below meth ci s₁ Bd hml0 hP0 hK
 obtain ⟨rfl, hZ, hh⟩ := hP0
 have hx := Bd.exec
 have hby := Bd.bytes
 have hml : ci.maxLocals = 3 := hml0
 have hown : si.vm.findClass "java/util/AbstractList" = some mi.cls := findClass_of_methodNamed Bd.named
 have hnm := (name_of_methodNamed Bd.named Bd.method).1
 have X0 : Stand pg l ev zR0 si mi #[(.int 0), (.int m), (.int m)] below meth ci s₁ [] 0 0 := Stand.of_body Bd
 have e0 : s₁.heap = h0 := by rw [← hh, Bd.state]; rfl
 have N0 := Fr.nil n0
 refine Go.start (fun P hP => ?_)
 refine Go.st (fun t_ k_ => castTop (ef_rmRC mi m) k_) (A := s₁.setTop (mkF mi 0 #[.val (.int 0), .val (.int m), .val (.int m)] [])) ?_
 refine g_iloadN X0 hx hby dc39_0 rfl ?_
 refine g_ifYes X0 hx hby dc39_1 ((if0 _ _).trans (flt (by decide)).2.1) (pc0 := 1) (pc' := 31) rfl (by decide) (by decide) ?_
 refine g_iloadN X0 hx hby dc39_31 rfl ?_
 refine g_iloadN X0 hx hby dc39_32 rfl ?_
 refine g_icmpYes X0 hx hby dc39_33 (flt Int32.lt_irrefl).2.2.2 (pc0 := 33) (pc' := 63) rfl (by decide) (by decide) ?_
 refine g_iloadN X0 hx hby dc39_63 rfl ?_
 refine g_iloadN X0 hx hby dc39_64 rfl ?_
 refine g_icmpYes X0 hx hby dc39_65 (flt hm0).2.2.2 (pc0 := 65) (pc' := 109) rfl (by decide) (by decide) ?_
 obtain ⟨fs, hr, hrun, hended, hW, hsame⟩ := X0.leave (v := none) (fun _ => rfl) (BodyLoose.notSynchronized Bd)
 refine ⟨_, _, ?_, hP _ _ ⟨hrun, hended, _, _, rfl, ?_, ⟨_, rfl⟩, hW, hsame.mono (by decide) (by decide)⟩⟩
 ·exact X0.returnOut hx Bd.returns (hb hby dc39_109) hr
 ·exact ⟨rfl, N0, e0⟩
theorem dc40_0 : Dk zb40 0 (.aload_n 0) 1 := by decide +kernel
theorem dc40_1 : Dk zb40 1 (.invokespecial 1) 3 := by decide +kernel
theorem dc40_4 : Dk zb40 4 (.aload_n 0) 1 := by decide +kernel
theorem dc40_5 : Dk zb40 5 (.aload_n 1) 1 := by decide +kernel
theorem dc40_6 : Dk zb40 6 (.putfield 7) 3 := by decide +kernel
theorem dc40_9 : Dk zb40 9 (.aload_n 0) 1 := by decide +kernel
theorem dc40_10 : Dk zb40 10 .aconst_null 1 := by decide +kernel
theorem dc40_11 : Dk zb40 11 (.putfield 13) 3 := by decide +kernel
theorem dc40_14 : Dk zb40 14 (.aload_n 0) 1 := by decide +kernel
theorem dc40_15 : Dk zb40 15 (.iload_n 2) 1 := by decide +kernel
theorem dc40_16 : Dk zb40 16 (.putfield 17) 3 := by decide +kernel
theorem dc40_19 : Dk zb40 19 (.aload_n 0) 1 := by decide +kernel
theorem dc40_20 : Dk zb40 20 (.iload_n 3) 1 := by decide +kernel
theorem dc40_21 : Dk zb40 21 (.iload_n 2) 1 := by decide +kernel
theorem dc40_22 : Dk zb40 22 .isub 1 := by decide +kernel
theorem dc40_23 : Dk zb40 23 (.putfield 21) 3 := by decide +kernel
theorem dc40_26 : Dk zb40 26 (.aload_n 0) 1 := by decide +kernel
theorem dc40_27 : Dk zb40 27 (.aload_n 1) 1 := by decide +kernel
theorem dc40_28 : Dk zb40 28 (.getfield 24) 3 := by decide +kernel
theorem dc40_31 : Dk zb40 31 (.putfield 29) 3 := by decide +kernel
theorem dc40_34 : Dk zb40 34 .return_ 1 := by decide +kernel
theorem pn_9 : plainName "java/util/ArrayList$SubList" = true := by first | (simp [plainName, overriddenIn]; done) | decide +kernel
theorem ef_rmSI (mi : MethodId) (o : Addr) (al : Addr) (m : Int32) : entryFrame mi #[(.ref o), (.ref al), (.int 0), (.int m)] 4 = mkF mi 0 #[.val (.ref o), .val (.ref al), .val (.int 0), .val (.int m)] [] := by first | (simp [entryFrame, mkF, argsToLocals, Value.category]; done) | rfl
abbrev Q_rmSI (Z : State) (o : Addr) (al : Addr) (m : Int32) (h0 : Heap) (n0 : Nat) (vv_ : Option Value) (hh_ : Heap) (LL_ : List Loc) : Prop := vv_ = none ∧ Fr n0 LL_ ∧ Keep h0 hh_ [o] ∧ Exa Z hh_ o "java/util/ArrayList$SubList" ∧ Fld Z hh_ o "java/util/ArrayList$SubList" "root" "Ljava/util/ArrayList;" (.ref al) ∧ Fld Z hh_ o "java/util/ArrayList$SubList" "offset" "I" (.int (0 : Int32)) ∧ Fld Z hh_ o "java/util/ArrayList$SubList" "size" "I" (.int m) ∧ Fld Z hh_ o "java/util/AbstractList" "modCount" "I" (.int m)
theorem rmSI (l : Launch) (Z : State) (a0 : Array Value) (hw : Tb Z a0) (ws : List Jvm.Cond) (o : Addr) (al : Addr) (m : Int32) (h0 : Heap) (n0 : Nat) (Z0 : n0 ≤ h0.size) (E0 : Exa Z h0 o "java/util/ArrayList$SubList") (FM : Fld Z h0 o "java/util/AbstractList" "modCount" "I" (.int (0 : Int32))) (FX0 : Fld Z h0 o "java/util/ArrayList$SubList" "root" "Ljava/util/ArrayList;" .null) (FX1 : Fld Z h0 o "java/util/ArrayList$SubList" "parent" "Ljava/util/ArrayList$SubList;" .null) (FX2 : Fld Z h0 o "java/util/ArrayList$SubList" "offset" "I" (.int 0)) (FX3 : Fld Z h0 o "java/util/ArrayList$SubList" "size" "I" (.int 0)) (g_o : n0 ≤ o) (n_ao : al ≠ o) (LM : Fld Z h0 al "java/util/AbstractList" "modCount" "I" (.int m)) :
  Mt l Z zy40 zb40 4 none ws zR24 #[(.ref o), (.ref al), (.int 0), (.int m)] h0 (Q_rmSI Z o al m h0 n0) := by
 refine MetFree.of_bodySF (plainFor_of_name pn_9) hisR ?_
 intro pg ev si mi args below meth ci s₁ Bd hml0 hP0 hK
 obtain ⟨rfl, hZ, hh⟩ := hP0
 have hx := Bd.exec
 have hby := Bd.bytes
 have hml : ci.maxLocals = 4 := hml0
 have hown : si.vm.findClass "java/util/ArrayList$SubList" = some mi.cls := findClass_of_methodNamed Bd.named
 have hnm := (name_of_methodNamed Bd.named Bd.method).1
 have X0 : Stand pg l ev zR24 si mi #[(.ref o), (.ref al), (.int 0), (.int m)] below meth ci s₁ [] 0 0 := Stand.of_body Bd
 have e0 : s₁.heap = h0 := by rw [← hh, Bd.state]; rfl
 have N0 := Fr.nil n0
 refine Go.start (fun P hP => ?_)
 refine Go.st (fun t_ k_ => castTop (ef_rmSI mi o al m) k_) (A := s₁.setTop (mkF mi 0 #[.val (.ref o), .val (.ref al), .val (.int 0), .val (.int m)] [])) ?_
 refine g_aloadN X0 hx hby dc40_0 rfl rfl ?_
 obtain ⟨_, _, ⟨T1, L1, k1, n1⟩, -, X1, ⟨Lc1, hQ1, l1, y1, z1⟩, st1⟩ := X0.specialBack hx (y := zy32) rfl hown (mvT hZ (hw _ (own_m 219 rfl))) (mvT hZ (hw _ (own_m 136 rfl))) (mvT hZ (hw _ (own_m 140 rfl))) (by decide) (backOf (W := 0) (rmABs l Z a0 hw [] o h0 n0 Z0 E0 FM FX0 FX1 FX2 FX3 g_o) hZ (hw _ (own_m 140 rfl)) (hw _ (own_m 139 rfl)) (by decide) (by decide)) (g := (mkF mi 1 #[.val (.ref o), .val (.ref al), .val (.int 0), .val (.int m)] [(.ref o)])) rfl (by rw [hml]; rfl) (Steps.refl _) (a := o) (argsL := []) (rest := []) (lenOf pd_19 rfl) rfl (by show 2 * 0 + _ ≤ _; exact Nat.le_of_eq rfl) (hb hby dc40_1) (fun _ _ => ⟨rfl, e0, (by decide : 0 + 0 ≤ _), (by decide : 0 + 0 ≤ _)⟩)
 dsimp only [Pt.U, Pt.locs, Pt.cells, Pt.slots] at X1 l1 y1 z1 st1 hQ1
 subst y1 z1
 have X1 := own_cs X1 (cells' := 0) (slots' := 0) rfl rfl
 obtain ⟨h1, e1⟩ : ∃ z, T1.heap = z := ⟨_, rfl⟩
 rw [e1] at hQ1
 obtain ⟨rfl, N1q, K1, G1_0, G1_1, G1_2, G1_3, G1_4, G1_5⟩ := hQ1
 have N1 := own_fr l1 (Fr.app N0 N1q)
 have Zs2 : n0 ≤ h1.size := Nat.le_trans Z0 K1.1
 have KC2 : Keep h0 h1 [o] := (Keep.refl h0 [o]).trans K1 (allS (P := fun x => x ∈ [o] ∨ h0.size ≤ x) (Or.inl (List.mem_of_getElem? (i := 0) rfl)) all0)
 refine Go.tr st1 ?_
 refine g_aloadN X1 hx hby dc40_4 rfl rfl ?_
 refine g_aloadN X1 hx hby dc40_5 rfl rfl ?_
 obtain ⟨T3, h3, X3, e3, W3, st3⟩ := putF X1 hx hZ hown (host := "") (Or.inl (hw _ (own_m 223 rfl))) Via.refl e1 G1_2 G1_0 (Or.inr ⟨(hw _ (own_m 224 rfl)), rfl, hnm⟩) (hw _ (own_m 213 rfl)) (ty := (.object "java/util/ArrayList")) (by decide) rfl rfl (g := (mkF mi 6 #[.val (.ref o), .val (.ref al), .val (.int 0), .val (.int m)] [(.ref al), (.ref o)])) rfl rfl (hb hby dc40_6)
 have Zs4 : n0 ≤ h3.size := Nat.le_trans Zs2 (Keep.of_wr W3).1
 have KC4 : Keep h0 h3 [o] := KC2.wr W3 (Or.inl (List.mem_of_getElem? (i := 0) rfl))
 have N4 := Fr.snoc X3 N1 g_o
 have F3 : Fld Z h3 o "java/util/ArrayList$SubList" "root" "Ljava/util/ArrayList;" (.ref al) := G1_2.same W3
 refine Go.st st3 ?_
 refine g_aloadN X3 hx hby dc40_9 rfl rfl ?_
 refine Go.s (XS.aconstNull X3.here hx rfl (hb hby dc40_10)) ?_
 have f5 := (G1_3.other W3 (Or.inr (slot_ne (Or.inr (hw _ (own_m 226 rfl))) (Or.inr (hw _ (own_m 224 rfl))) (by decide) (t := (.object "java/util/ArrayList$SubList")) (t' := (.object "java/util/ArrayList")) (by decide) (by decide))))
 have f6 := (G1_0.wr W3)
 obtain ⟨T7, h7, X7, e7, W7, st7⟩ := putF X3 hx hZ hown (host := "") (Or.inl (hw _ (own_m 225 rfl))) Via.refl e3 f5 f6 (Or.inr ⟨(hw _ (own_m 226 rfl)), rfl, hnm⟩) (hw _ (own_m 213 rfl)) (ty := (.object "java/util/ArrayList$SubList")) (by decide) rfl rfl (g := (mkF mi 11 #[.val (.ref o), .val (.ref al), .val (.int 0), .val (.int m)] [.null, (.ref o)])) rfl rfl (hb hby dc40_11)
 have Zs8 : n0 ≤ h7.size := Nat.le_trans Zs4 (Keep.of_wr W7).1
 have KC8 : Keep h0 h7 [o] := KC4.wr W7 (Or.inl (List.mem_of_getElem? (i := 0) rfl))
 have N8 := Fr.snoc X7 N4 g_o
 have F7 : Fld Z h7 o "java/util/ArrayList$SubList" "parent" "Ljava/util/ArrayList$SubList;" .null := f5.same W7
 refine Go.st st7 ?_
 refine g_aloadN X7 hx hby dc40_14 rfl rfl ?_
 refine g_iloadN X7 hx hby dc40_15 rfl ?_
 have f9 := ((G1_4.other W3 (Or.inr (slot_ne (Or.inr (hw _ (own_m 228 rfl))) (Or.inr (hw _ (own_m 224 rfl))) (by decide) (t := .int) (t' := (.object "java/util/ArrayList")) (by decide) (by decide)))).other W7 (Or.inr (slot_ne (Or.inr (hw _ (own_m 228 rfl))) (Or.inr (hw _ (own_m 226 rfl))) (by decide) (t := .int) (t' := (.object "java/util/ArrayList$SubList")) (by decide) (by decide))))
 have f10 := (f6.wr W7)
 obtain ⟨T11, h11, X11, e11, W11, st11⟩ := putF X7 hx hZ hown (host := "") (Or.inl (hw _ (own_m 227 rfl))) Via.refl e7 f9 f10 (Or.inr ⟨(hw _ (own_m 228 rfl)), rfl, hnm⟩) (hw _ (own_m 213 rfl)) (ty := .int) (by decide) rfl rfl (g := (mkF mi 16 #[.val (.ref o), .val (.ref al), .val (.int 0), .val (.int m)] [(.int 0), (.ref o)])) rfl rfl (hb hby dc40_16)
 have Zs12 : n0 ≤ h11.size := Nat.le_trans Zs8 (Keep.of_wr W11).1
 have KC12 : Keep h0 h11 [o] := KC8.wr W11 (Or.inl (List.mem_of_getElem? (i := 0) rfl))
 have N12 := Fr.snoc X11 N8 g_o
 have F11 : Fld Z h11 o "java/util/ArrayList$SubList" "offset" "I" (.int 0) := f9.same W11
 refine Go.st st11 ?_
 refine g_aloadN X11 hx hby dc40_19 rfl rfl ?_
 refine g_iloadN X11 hx hby dc40_20 rfl ?_
 refine g_iloadN X11 hx hby dc40_21 rfl ?_
 refine g_isub X11 hx hby dc40_22 rfl ?_
 show Go _ _ _ (T11.setTop (mkF mi 23 #[.val (.ref o), .val (.ref al), .val (.int 0), .val (.int m)] [(.int (m - (0 : Int32))), (.ref o)])) _
 rw [Int32.sub_zero]
 show Go _ _ _ (T11.setTop (mkF mi 23 #[.val (.ref o), .val (.ref al), .val (.int 0), .val (.int m)] [(.int m), (.ref o)])) _
 have f13 := (((G1_5.other W3 (Or.inr (slot_ne (Or.inl (hw _ (own_m 230 rfl))) (Or.inr (hw _ (own_m 224 rfl))) (by decide) (t := .int) (t' := (.object "java/util/ArrayList")) (by decide) (by decide)))).other W7 (Or.inr (slot_ne (Or.inl (hw _ (own_m 230 rfl))) (Or.inr (hw _ (own_m 226 rfl))) (by decide) (t := .int) (t' := (.object "java/util/ArrayList$SubList")) (by decide) (by decide)))).other W11 (Or.inr (slot_ne (Or.inl (hw _ (own_m 230 rfl))) (Or.inr (hw _ (own_m 228 rfl))) (by decide) (t := .int) (t' := .int) (by decide) (by decide))))
 have f14 := (f10.wr W11)
 obtain ⟨T15, h15, X15, e15, W15, st15⟩ := putF X11 hx hZ hown (host := "") (Or.inl (hw _ (own_m 229 rfl))) Via.refl e11 f13 f14 (Or.inl (hw _ (own_m 230 rfl))) (hw _ (own_m 213 rfl)) (ty := .int) (by decide) rfl rfl (g := (mkF mi 23 #[.val (.ref o), .val (.ref al), .val (.int 0), .val (.int m)] [(.int m), (.ref o)])) rfl rfl (hb hby dc40_23)
 have Zs16 : n0 ≤ h15.size := Nat.le_trans Zs12 (Keep.of_wr W15).1
 have KC16 : Keep h0 h15 [o] := KC12.wr W15 (Or.inl (List.mem_of_getElem? (i := 0) rfl))
 have N16 := Fr.snoc X15 N12 g_o
 have F15 : Fld Z h15 o "java/util/ArrayList$SubList" "size" "I" (.int m) := f13.same W15
 refine Go.st st15 ?_
 refine g_aloadN X15 hx hby dc40_26 rfl rfl ?_
 refine g_aloadN X15 hx hby dc40_27 rfl rfl ?_
 have f17 := (((((LM.keep K1 (ninS n_ao nin0)).other W3 (Or.inl n_ao)).other W7 (Or.inl n_ao)).other W11 (Or.inl n_ao)).other W15 (Or.inl n_ao))
 obtain ⟨T18, X18, e18, st18⟩ := getF X15 hx hZ hown (host := "") (Or.inl (hw _ (own_m 231 rfl))) (Via.of (hw _ (own_m 174 rfl))) e15 f17 (g := (mkF mi 28 #[.val (.ref o), .val (.ref al), .val (.int 0), .val (.int m)] [(.ref al), (.ref o)])) rfl rfl (hb hby dc40_28)
 refine Go.st st18 ?_
 have f19 := ((((G1_1.other W3 (Or.inr (slot_ne (Or.inl (hw _ (own_m 222 rfl))) (Or.inr (hw _ (own_m 224 rfl))) (by decide) (t := .int) (t' := (.object "java/util/ArrayList")) (by decide) (by decide)))).other W7 (Or.inr (slot_ne (Or.inl (hw _ (own_m 222 rfl))) (Or.inr (hw _ (own_m 226 rfl))) (by decide) (t := .int) (t' := (.object "java/util/ArrayList$SubList")) (by decide) (by decide)))).other W11 (Or.inr (slot_ne (Or.inl (hw _ (own_m 222 rfl))) (Or.inr (hw _ (own_m 228 rfl))) (by decide) (t := .int) (t' := .int) (by decide) (by decide)))).other W15 (Or.inr (slot_ne (Or.inl (hw _ (own_m 222 rfl))) (Or.inl (hw _ (own_m 230 rfl))) (by decide) (t := .int) (t' := .int) (by decide) (by decide))))
 have f20 := (f14.wr W15)
 obtain ⟨T21, h21, X21, e21, W21, st21⟩ := putF X18 hx hZ hown (host := "") (Or.inl (hw _ (own_m 232 rfl))) (Via.of (hw _ (own_m 233 rfl))) e18 f19 f20 (Or.inl (hw _ (own_m 222 rfl))) (hw _ (own_m 213 rfl)) (ty := .int) (by decide) rfl rfl (g := (mkF mi 31 #[.val (.ref o), .val (.ref al), .val (.int 0), .val (.int m)] [(.int m), (.ref o)])) rfl rfl (hb hby dc40_31)
 have Zs22 : n0 ≤ h21.size := Nat.le_trans Zs16 (Keep.of_wr W21).1
 have KC22 : Keep h0 h21 [o] := KC16.wr W21 (Or.inl (List.mem_of_getElem? (i := 0) rfl))
 have N22 := Fr.snoc X21 N16 g_o
 have F21 : Fld Z h21 o "java/util/AbstractList" "modCount" "I" (.int m) := f19.same W21
 refine Go.st st21 ?_
 obtain ⟨fs, hr, hrun, hended, hW, hsame⟩ := X21.leave (v := none) (fun _ => rfl) (BodyLoose.notSynchronized Bd)
 have f23 := (f20.wr W21)
 have f24 := ((((F3.other W7 (Or.inr (slot_ne (Or.inr (hw _ (own_m 224 rfl))) (Or.inr (hw _ (own_m 226 rfl))) (by decide) (t := (.object "java/util/ArrayList")) (t' := (.object "java/util/ArrayList$SubList")) (by decide) (by decide)))).other W11 (Or.inr (slot_ne (Or.inr (hw _ (own_m 224 rfl))) (Or.inr (hw _ (own_m 228 rfl))) (by decide) (t := (.object "java/util/ArrayList")) (t' := .int) (by decide) (by decide)))).other W15 (Or.inr (slot_ne (Or.inr (hw _ (own_m 224 rfl))) (Or.inl (hw _ (own_m 230 rfl))) (by decide) (t := (.object "java/util/ArrayList")) (t' := .int) (by decide) (by decide)))).other W21 (Or.inr (slot_ne (Or.inr (hw _ (own_m 224 rfl))) (Or.inl (hw _ (own_m 222 rfl))) (by decide) (t := (.object "java/util/ArrayList")) (t' := .int) (by decide) (by decide))))
 have f25 := ((F11.other W15 (Or.inr (slot_ne (Or.inr (hw _ (own_m 228 rfl))) (Or.inl (hw _ (own_m 230 rfl))) (by decide) (t := .int) (t' := .int) (by decide) (by decide)))).other W21 (Or.inr (slot_ne (Or.inr (hw _ (own_m 228 rfl))) (Or.inl (hw _ (own_m 222 rfl))) (by decide) (t := .int) (t' := .int) (by decide) (by decide))))
 have f26 := (F15.other W21 (Or.inr (slot_ne (Or.inl (hw _ (own_m 230 rfl))) (Or.inl (hw _ (own_m 222 rfl))) (by decide) (t := .int) (t' := .int) (by decide) (by decide))))
 refine ⟨_, _, ?_, hP _ _ ⟨hrun, hended, _, _, rfl, ?_, ⟨_, rfl⟩, hW, hsame.mono (by decide) (by decide)⟩⟩
 ·exact X21.returnOut hx Bd.returns (hb hby dc40_34) hr
 ·show Q_rmSI _ _ _ _ _ _ _ T21.heap _
  rw [e21]
  exact ⟨rfl, N22, KC22, f23, f24, f25, f26, F21⟩
theorem dc41_0 : Dk zb41 0 (.iload_n 1) 1 := by decide +kernel
theorem dc41_1 : Dk zb41 1 (.iload_n 2) 1 := by decide +kernel
theorem dc41_2 : Dk zb41 2 (.aload_n 0) 1 := by decide +kernel
theorem dc41_3 : Dk zb41 3 (.getfield 48) 3 := by decide +kernel
theorem dc41_6 : Dk zb41 6 (.invokestatic 272) 3 := by decide +kernel
theorem dc41_9 : Dk zb41 9 (.new 276) 3 := by decide +kernel
theorem dc41_12 : Dk zb41 12 .dup 1 := by decide +kernel
theorem dc41_13 : Dk zb41 13 (.aload_n 0) 1 := by decide +kernel
theorem dc41_14 : Dk zb41 14 (.iload_n 1) 1 := by decide +kernel
theorem dc41_15 : Dk zb41 15 (.iload_n 2) 1 := by decide +kernel
theorem dc41_16 : Dk zb41 16 (.invokespecial 278) 3 := by decide +kernel
theorem pd_23 : parseMethodDescriptor "(Ljava/util/ArrayList;II)V" = some ⟨[(.object "java/util/ArrayList"), .int, .int], none⟩ := by decide +kernel
theorem dc41_19 : Dk zb41 19 .areturn 1 := by decide +kernel
theorem ef_rmSL (mi : MethodId) (o : Addr) (m : Int32) : entryFrame mi #[(.ref o), (.int 0), (.int m)] 3 = mkF mi 0 #[.val (.ref o), .val (.int 0), .val (.int m)] [] := by first | (simp [entryFrame, mkF, argsToLocals, Value.category]; done) | rfl
abbrev Q_rmSL (Z : State) (o : Addr) (m : Int32) (h0 : Heap) (n0 : Nat) (vv_ : Option Value) (hh_ : Heap) (LL_ : List Loc) : Prop := ∃ r : Addr, vv_ = some (.ref r) ∧ Fr n0 LL_ ∧ Keep h0 hh_ [] ∧ h0.size ≤ r ∧ n0 ≤ r ∧ Exa Z hh_ r "java/util/ArrayList$SubList" ∧ Fld Z hh_ r "java/util/ArrayList$SubList" "root" "Ljava/util/ArrayList;" (.ref o) ∧ Fld Z hh_ r "java/util/ArrayList$SubList" "offset" "I" (.int (0 : Int32)) ∧ Fld Z hh_ r "java/util/ArrayList$SubList" "size" "I" (.int m) ∧ Fld Z hh_ r "java/util/AbstractList" "modCount" "I" (.int m)
theorem rmSL (l : Launch) (Z : State) (a0 : Array Value) (hw : Tb Z a0) (ws : List Jvm.Cond) (o : Addr) (m : Int32) (h0 : Heap) (n0 : Nat) (Z0 : n0 ≤ h0.size) (LE : Exa Z h0 o "java/util/ArrayList") (LZ : Fld Z h0 o "java/util/ArrayList" "size" "I" (.int m)) (LM : Fld Z h0 o "java/util/AbstractList" "modCount" "I" (.int m)) (hm0 : ¬ (m < (0 : Int32))) :
  Mt l Z zy41 zb41 3 (some (.object "java/util/List")) ws zR29 #[(.ref o), (.int 0), (.int m)] h0 (Q_rmSL Z o m h0 n0) := by
 refine MetFree.of_bodySF (plainFor_of_name pn_8) hisR ?_
 intro pg ev si mi args below meth ci s₁ Bd hml0 hP0 hK
 obtain ⟨rfl, hZ, hh⟩ := hP0
 have hx := Bd.exec
 have hby := Bd.bytes
 have hml : ci.maxLocals = 3 := hml0
 have hown : si.vm.findClass "java/util/ArrayList" = some mi.cls := findClass_of_methodNamed Bd.named
 have hnm := (name_of_methodNamed Bd.named Bd.method).1
 have X0 : Stand pg l ev zR29 si mi #[(.ref o), (.int 0), (.int m)] below meth ci s₁ [] 0 0 := Stand.of_body Bd
 have e0 : s₁.heap = h0 := by rw [← hh, Bd.state]; rfl
 have N0 := Fr.nil n0
 refine Go.start (fun P hP => ?_)
 refine Go.st (fun t_ k_ => castTop (ef_rmSL mi o m) k_) (A := s₁.setTop (mkF mi 0 #[.val (.ref o), .val (.int 0), .val (.int m)] [])) ?_
 refine g_iloadN X0 hx hby dc41_0 rfl ?_
 refine g_iloadN X0 hx hby dc41_1 rfl ?_
 refine g_aloadN X0 hx hby dc41_2 rfl rfl ?_
 obtain ⟨T1, X1, e1, st1⟩ := getF X0 hx hZ hown (host := "") (Or.inl (hw _ (own_m 175 rfl))) Via.refl e0 LZ (g := (mkF mi 3 #[.val (.ref o), .val (.int 0), .val (.int m)] [(.ref o), (.int m), (.int 0)])) rfl rfl (hb hby dc41_3)
 refine Go.st st1 ?_
 show Go _ _ _ (T1.setTop (mkF mi 6 #[.val (.ref o), .val (.int 0), .val (.int m)] [(.int m), (.int m), (.int 0)])) _
 obtain ⟨mk2, hmk2⟩ := Cond.code_named (mvT (s := si) (args := #[]) hZ (hw _ (own_m 211 rfl)))
 obtain ⟨me2, -, hme2, -, -, -, -, -, -, hsg2⟩ := Cond.code_spec hmk2 (mvT (s := si) (args := #[]) hZ (hw _ (own_m 211 rfl)))
 obtain ⟨_, _, ⟨T2, L2, k2, n2⟩, -, X2, ⟨Lc2, hQ2, l2, y2, z2⟩, st2⟩ := X1.staticBackUp hx (x := (⟨"java/util/ArrayList", "subListRangeCheck", "(III)V"⟩ : MethodName)) (owner := "java/util/AbstractList") hown (mvT hZ (hw _ (own_m 208 rfl))) (mvT hZ (hw _ (own_m 209 rfl))) (mvT hZ (hw _ (own_m 210 rfl))) (mvT hZ (hw _ (own_m 139 rfl))) hmk2 hme2 hsg2 (by decide) (backOf (W := 0) (rmRC l Z a0 hw [] m h0 n0 Z0 hm0) hZ (hw _ (own_m 211 rfl)) (hw _ (own_m 139 rfl)) (by decide) (by decide)) (g := (mkF mi 6 #[.val (.ref o), .val (.int 0), .val (.int m)] [(.int m), (.int m), (.int 0)])) rfl (by rw [hml]; rfl) (Steps.refl _) (argsL := [(.int 0), (.int m), (.int m)]) (rest := []) (lenOf pd_17 rfl) rfl (by show 2 * 0 + _ ≤ _; exact Nat.le_of_eq rfl) (hb hby dc41_6) (fun _ _ => ⟨rfl, e1, (by decide : 0 + 0 ≤ _), (by decide : 0 + 0 ≤ _)⟩)
 dsimp only [Pt.U, Pt.locs, Pt.cells, Pt.slots] at X2 l2 y2 z2 st2 hQ2
 subst y2 z2
 have X2 := own_cs X2 (cells' := 0) (slots' := 0) rfl rfl
 obtain ⟨rfl, N2q, e2⟩ := hQ2
 have N2 := own_fr l2 (Fr.app N0 N2q)
 refine Go.tr st2 ?_
 obtain ⟨T3, h3, X3, e3, E3, A3, D3, -, st3⟩ := newO X2 hx hZ hown (hw _ (own_m 212 rfl)) (hw _ (own_m 213 rfl)) (hw _ (own_m 214 rfl)) e2 (g := (mkF mi 9 #[.val (.ref o), .val (.int 0), .val (.int m)] [])) rfl (hb hby dc41_9) (by decide) (by decide)
 obtain ⟨ob3, g3⟩ : ∃ z, z = h0.size := ⟨_, rfl⟩
 rw [← g3] at A3 D3 st3
 have Zs4 : n0 ≤ h3.size := Nat.le_trans Z0 E3.1
 have KC4 : Keep h0 h3 [] := (Keep.refl h0 []).ext E3
 have g_ob3 : n0 ≤ ob3 := Nat.le_trans Z0 (Nat.le_of_eq g3.symm)
 have sz_ob3 : h0.size ≤ ob3 := Nat.le_trans (Keep.refl h0 []).1 (Nat.le_of_eq g3.symm)
 have F3_222 : Fld Z h3 ob3 "java/util/AbstractList" "modCount" "I" (.int 0) := D3 (Or.inl (hw _ (own_m 222 rfl))) (ty := .int) (by decide)
 have F3_224 : Fld Z h3 ob3 "java/util/ArrayList$SubList" "root" "Ljava/util/ArrayList;" .null := D3 (Or.inr (hw _ (own_m 224 rfl))) (ty := (.object "java/util/ArrayList")) (by decide)
 have F3_226 : Fld Z h3 ob3 "java/util/ArrayList$SubList" "parent" "Ljava/util/ArrayList$SubList;" .null := D3 (Or.inr (hw _ (own_m 226 rfl))) (ty := (.object "java/util/ArrayList$SubList")) (by decide)
 have F3_228 : Fld Z h3 ob3 "java/util/ArrayList$SubList" "offset" "I" (.int 0) := D3 (Or.inr (hw _ (own_m 228 rfl))) (ty := .int) (by decide)
 have F3_230 : Fld Z h3 ob3 "java/util/ArrayList$SubList" "size" "I" (.int 0) := D3 (Or.inl (hw _ (own_m 230 rfl))) (ty := .int) (by decide)
 refine Go.st st3 ?_
 refine g_dup X3 hx hby dc41_12 rfl ?_
 refine g_aloadN X3 hx hby dc41_13 rfl rfl ?_
 refine g_iloadN X3 hx hby dc41_14 rfl ?_
 refine g_iloadN X3 hx hby dc41_15 rfl ?_
 have ne_o_ob3 : o ≠ ob3 := Nat.ne_of_lt (Nat.lt_of_lt_of_le LE.lt (Nat.le_of_eq g3.symm))
 have f6 := (LM.ext E3)
 obtain ⟨_, _, ⟨T5, L5, k5, n5⟩, -, X5, ⟨Lc5, hQ5, l5, y5, z5⟩, st5⟩ := X3.specialBack hx (y := zy40) rfl hown (mvT hZ (hw _ (own_m 215 rfl))) (mvT hZ (hw _ (own_m 216 rfl))) (mvT hZ (hw _ (own_m 218 rfl))) (by decide) (backOf (W := 1) (rmSI l Z a0 hw [] ob3 o m h3 n0 Zs4 A3 F3_222 F3_224 F3_226 F3_228 F3_230 g_ob3 ne_o_ob3 f6) hZ (hw _ (own_m 218 rfl)) (hw _ (own_m 214 rfl)) (by decide) (by decide)) (g := (mkF mi 16 #[.val (.ref o), .val (.int 0), .val (.int m)] [(.int m), (.int 0), (.ref o), (.ref ob3), (.ref ob3)])) rfl (by rw [hml]; rfl) (Steps.refl _) (a := ob3) (argsL := [(.ref o), (.int 0), (.int m)]) (rest := [(.ref ob3)]) (lenOf pd_23 rfl) rfl (by show 2 * 0 + _ ≤ _; exact Nat.le_of_eq rfl) (hb hby dc41_16) (fun _ _ => ⟨rfl, e3, (by decide : 1 + 0 ≤ _), (by decide : 5 + 0 ≤ _)⟩)
 dsimp only [Pt.U, Pt.locs, Pt.cells, Pt.slots] at X5 l5 y5 z5 st5 hQ5
 subst y5 z5
 have X5 := own_cs X5 (cells' := 1) (slots' := 5) rfl rfl
 obtain ⟨h5, e5⟩ : ∃ z, T5.heap = z := ⟨_, rfl⟩
 rw [e5] at hQ5
 obtain ⟨rfl, N5q, K5, UE5, UR5, UO5, US5, UM5⟩ := hQ5
 have N5 := own_fr l5 (Fr.app N2 N5q)
 have Zs7 : n0 ≤ h5.size := Nat.le_trans Zs4 K5.1
 have KC7 : Keep h0 h5 [] := KC4.trans K5 (allS (P := fun x => x ∈ [] ∨ h0.size ≤ x) (Or.inr sz_ob3) all0)
 refine Go.tr st5 ?_
 obtain ⟨fs, hr, hrun, hended, hW, hsame⟩ := X5.leave (v := some (.ref ob3)) (fun h => by rw [Bd.returns] at h; cases h) (BodyLoose.notSynchronized Bd)
 refine ⟨_, _, ?_, hP _ _ ⟨hrun, hended, _, _, rfl, ?_, ⟨_, rfl⟩, hW, hsame.mono (by decide) (by decide)⟩⟩
 ·exact retOut X5 hx Bd.returns rfl (Or.inr (Or.inr (Or.inr (Or.inr ⟨rfl, rfl, rfl⟩)))) (hb hby dc41_19) hr
 ·show Q_rmSL _ _ _ _ _ _ T5.heap _
  rw [e5]
  exact ⟨ob3, rfl, N5, KC7, sz_ob3, g_ob3, UE5, UR5, UO5, US5, UM5⟩
def Nb (Z : State) (h : Heap) (x : Addr) : Prop := ∃ C, Exa Z h x C ∧ C ≠ "java/lang/String" ∧ C ≠ "[B"
def Sx (Z : State) (h : Heap) (s : Addr) (E : List Int32) : Prop := ∃ (b : Addr) (kb : ClassId) (n : Int32), Exa Z h s "java/lang/String" ∧ Fld Z h s "java/lang/String" "coder" "B" (.int (0 : Int32)) ∧ Fld Z h s "java/lang/String" "value" "[B" (.ref b) ∧ Arv Z h b kb .byte n (E.map Value.int) (.int (0 : Int32)) ∧ Exa Z h b "[B" ∧ n.toInt = E.length ∧ E.length ≤ 100
theorem Sx.ext {Z : State} {h h' : Heap} {s : Addr} {E : List Int32} (F : Sx Z h s E) (X : Ext h h') : Sx Z h' s E := by
 obtain ⟨b, kb, n, f1, f2, f3, f4, f5, f6⟩ := F
 exact ⟨b, kb, n, f1.ext X, f2.ext X, f3.ext X, f4.ext X, f5.ext X, f6⟩
theorem Sx.keep {Z : State} {h h' : Heap} {s : Addr} {E : List Int32} {ws : List Addr} (F : Sx Z h s E) (K : Keep h h' ws) (q : ∀ x ∈ ws, Nb Z h x) : Sx Z h' s E := by
 obtain ⟨b, kb, n, f1, f2, f3, f4, f5, f6⟩ := F
 have ns : s ∉ ws := fun hm => by obtain ⟨C, e, c1, c2⟩ := q s hm; exact Exa.ne f1 e (Ne.symm c1) rfl
 have nb : b ∉ ws := fun hm => by obtain ⟨C, e, c1, c2⟩ := q b hm; exact Exa.ne f5 e (Ne.symm c2) rfl
 exact ⟨b, kb, n, f1.keep K, f2.keep K ns, f3.keep K ns, f4.keep K nb, f5.keep K, f6⟩
def Lvs (Z : State) (h : Heap) (vs : List Value) (Ps : List (List Int32)) : Prop := ∀ i, i < Ps.length → ∃ s, vs.getD i .null = .ref s ∧ Sx Z h s (Ps.getD i [])
theorem Lvs.ext {Z : State} {h h' : Heap} {vs : List Value} {Ps : List (List Int32)} (F : Lvs Z h vs Ps) (X : Ext h h') : Lvs Z h' vs Ps := fun i hi => by
 obtain ⟨s, a, b⟩ := F i hi; exact ⟨s, a, b.ext X⟩
theorem Lvs.keep {Z : State} {h h' : Heap} {vs : List Value} {Ps : List (List Int32)} {ws : List Addr} (F : Lvs Z h vs Ps) (K : Keep h h' ws) (q : ∀ x ∈ ws, Nb Z h x) : Lvs Z h' vs Ps := fun i hi => by
 obtain ⟨s, a, b⟩ := F i hi; exact ⟨s, a, b.keep K q⟩
theorem Lvs.snoc {Z : State} {h : Heap} {vs : List Value} {Ps : List (List Int32)} {P : List Int32} {s : Addr} {k : Nat} (F : Lvs Z h vs Ps) (hk : Ps.length = k) (hv : k < vs.length) (S : Sx Z h s P) : Lvs Z h (vs.set k (.ref s)) (Ps ++ [P]) := fun i hi => by
 subst hk
 rw [List.length_append, List.length_singleton] at hi
 by_cases q : i = Ps.length
 ·subst q
  refine ⟨s, ?_, ?_⟩
  ·rw [List.getD_eq_getElem?_getD, List.getElem?_set_self hv]; rfl
  ·rw [List.getD_eq_getElem?_getD, List.getElem?_append_right (Nat.le_refl _)]; simpa using S
 ·obtain ⟨u, a, b⟩ := F i (by omega)
  refine ⟨u, ?_, ?_⟩
  ·rw [List.getD_eq_getElem?_getD, List.getElem?_set_ne (Ne.symm q), ← List.getD_eq_getElem?_getD]; exact a
  ·rw [List.getD_eq_getElem?_getD, List.getElem?_append_left (by omega), ← List.getD_eq_getElem?_getD]; exact b
theorem Lvs.one {Z : State} {h : Heap} {P : List Int32} {s : Addr} {r : List Value} (S : Sx Z h s P) : Lvs Z h (.ref s :: r) [P] := fun i hi => by
 obtain rfl : i = 0 := by simp at hi; omega
 exact ⟨s, rfl, S⟩
theorem Lvs.range {Z : State} {h : Heap} {vs : List Value} {Ps : List (List Int32)} {m : Nat} (F : Lvs Z h vs Ps) (hm : Ps.length = m) : Lvs Z h ((List.range m).map fun i => vs.getD (0 + i) .null) Ps := fun i hi => by
 obtain ⟨s, a, b⟩ := F i hi
 refine ⟨s, ?_, b⟩
 rw [List.getD_eq_getElem?_getD, List.getElem?_map, List.getElem?_range (by omega), ← a]; show vs.getD (0 + i) .null = _; rw [Nat.zero_add]
theorem own_stoL {Z : State} {h : Heap} {a : Addr} : ∀ (us : List Value), (∀ v ∈ us, Sto Z h a v) → StoL Z h a us
 | [], _ => trivial
 | v :: r, H => ⟨H v (List.mem_cons_self ..), own_stoL r fun w hw => H w (List.mem_cons_of_mem _ hw)⟩
theorem own_cpr {m : Nat} {us : List Value} (hu : us.length = m) : (List.replicate m Value.null).take (0 : Int32).toNatClampNeg ++ us ++ (List.replicate m Value.null).drop ((0 : Int32).toNatClampNeg + m) = us := by
 rw [show (0 : Int32).toNatClampNeg = 0 from by decide +kernel]
 simp
theorem dc42_0 : Dk zb42 0 (.aload_n 0) 1 := by decide +kernel
theorem dc42_1 : Dk zb42 1 (.getfield 7) 3 := by decide +kernel
theorem dc42_4 : Dk zb42 4 (.getfield 24) 3 := by decide +kernel
theorem dc42_7 : Dk zb42 7 (.aload_n 0) 1 := by decide +kernel
theorem dc42_8 : Dk zb42 8 (.getfield 29) 3 := by decide +kernel
theorem dc42_11 : Dk zb42 11 (.if_icmp .eq 11) 3 := by decide +kernel
theorem dc42_22 : Dk zb42 22 .return_ 1 := by decide +kernel
theorem ef_rmCM (mi : MethodId) (o : Addr) : entryFrame mi #[(.ref o)] 1 = mkF mi 0 #[.val (.ref o)] [] := by first | (simp [entryFrame, mkF, argsToLocals, Value.category]; done) | rfl
theorem rmCM (l : Launch) (Z : State) (a0 : Array Value) (hw : Tb Z a0) (ws : List Jvm.Cond) (o : Addr) (al : Addr) (m : Int32) (h0 : Heap) (n0 : Nat) (Z0 : n0 ≤ h0.size) (UE : Exa Z h0 o "java/util/ArrayList$SubList") (UR : Fld Z h0 o "java/util/ArrayList$SubList" "root" "Ljava/util/ArrayList;" (.ref al)) (UO : Fld Z h0 o "java/util/ArrayList$SubList" "offset" "I" (.int (0 : Int32))) (US : Fld Z h0 o "java/util/ArrayList$SubList" "size" "I" (.int m)) (UM : Fld Z h0 o "java/util/AbstractList" "modCount" "I" (.int m)) (LM : Fld Z h0 al "java/util/AbstractList" "modCount" "I" (.int m)) :
  Mt l Z zy42 zb42 1 none ws zR0 #[(.ref o)] h0 (QP (none) h0 n0) := by
 refine MetFree.of_bodySF (plainFor_of_name pn_9) hisR ?_
 intro pg ev si mi args below meth ci s₁ Bd hml0 hP0 hK
 obtain ⟨rfl, hZ, hh⟩ := hP0
 have hx := Bd.exec
 have hby := Bd.bytes
 have hml : ci.maxLocals = 1 := hml0
 have hown : si.vm.findClass "java/util/ArrayList$SubList" = some mi.cls := findClass_of_methodNamed Bd.named
 have hnm := (name_of_methodNamed Bd.named Bd.method).1
 have X0 : Stand pg l ev zR0 si mi #[(.ref o)] below meth ci s₁ [] 0 0 := Stand.of_body Bd
 have e0 : s₁.heap = h0 := by rw [← hh, Bd.state]; rfl
 have N0 := Fr.nil n0
 refine Go.start (fun P hP => ?_)
 refine Go.st (fun t_ k_ => castTop (ef_rmCM mi o) k_) (A := s₁.setTop (mkF mi 0 #[.val (.ref o)] [])) ?_
 refine g_aloadN X0 hx hby dc42_0 rfl rfl ?_
 obtain ⟨T1, X1, e1, st1⟩ := getF X0 hx hZ hown (host := "") (Or.inl (hw _ (own_m 223 rfl))) Via.refl e0 UR (g := (mkF mi 1 #[.val (.ref o)] [(.ref o)])) rfl rfl (hb hby dc42_1)
 refine Go.st st1 ?_
 obtain ⟨T2, X2, e2, st2⟩ := getF X1 hx hZ hown (host := "") (Or.inl (hw _ (own_m 231 rfl))) (Via.of (hw _ (own_m 174 rfl))) e1 LM (g := (mkF mi 4 #[.val (.ref o)] [(.ref al)])) rfl rfl (hb hby dc42_4)
 refine Go.st st2 ?_
 refine g_aloadN X2 hx hby dc42_7 rfl rfl ?_
 obtain ⟨T3, X3, e3, st3⟩ := getF X2 hx hZ hown (host := "") (Or.inl (hw _ (own_m 232 rfl))) (Via.of (hw _ (own_m 233 rfl))) e2 UM (g := (mkF mi 8 #[.val (.ref o)] [(.ref o), (.int m)])) rfl rfl (hb hby dc42_8)
 refine Go.st st3 ?_
 refine g_icmpYes X3 hx hby dc42_11 (teq rfl).1 (pc0 := 11) (pc' := 22) rfl (by decide) (by decide) ?_
 obtain ⟨fs, hr, hrun, hended, hW, hsame⟩ := X3.leave (v := none) (fun _ => rfl) (BodyLoose.notSynchronized Bd)
 refine ⟨_, _, ?_, hP _ _ ⟨hrun, hended, _, _, rfl, ?_, ⟨_, rfl⟩, hW, hsame.mono (by decide) (by decide)⟩⟩
 ·exact X3.returnOut hx Bd.returns (hb hby dc42_22) hr
 ·exact ⟨rfl, N0, e3⟩
theorem dc43_0 : Dk zb43 0 (.aload_n 0) 1 := by decide +kernel
theorem dc43_1 : Dk zb43 1 (.invokevirtual 36) 3 := by decide +kernel
theorem dc43_4 : Dk zb43 4 (.aload_n 1) 1 := by decide +kernel
theorem dc43_5 : Dk zb43 5 .arraylength 1 := by decide +kernel
theorem dc43_6 : Dk zb43 6 (.aload_n 0) 1 := by decide +kernel
theorem dc43_7 : Dk zb43 7 (.getfield 21) 3 := by decide +kernel
theorem dc43_10 : Dk zb43 10 (.if_icmp .ge 31) 3 := by decide +kernel
theorem dc43_41 : Dk zb43 41 (.aload_n 0) 1 := by decide +kernel
theorem dc43_42 : Dk zb43 42 (.getfield 7) 3 := by decide +kernel
theorem dc43_45 : Dk zb43 45 (.getfield 43) 3 := by decide +kernel
theorem dc43_48 : Dk zb43 48 (.aload_n 0) 1 := by decide +kernel
theorem dc43_49 : Dk zb43 49 (.getfield 17) 3 := by decide +kernel
theorem dc43_52 : Dk zb43 52 (.aload_n 1) 1 := by decide +kernel
theorem dc43_53 : Dk zb43 53 (.iconst 0) 1 := by decide +kernel
theorem dc43_54 : Dk zb43 54 (.aload_n 0) 1 := by decide +kernel
theorem dc43_55 : Dk zb43 55 (.getfield 21) 3 := by decide +kernel
theorem dc43_58 : Dk zb43 58 (.invokestatic 105) 3 := by decide +kernel
theorem dc43_61 : Dk zb43 61 (.aload_n 1) 1 := by decide +kernel
theorem dc43_62 : Dk zb43 62 .arraylength 1 := by decide +kernel
theorem dc43_63 : Dk zb43 63 (.aload_n 0) 1 := by decide +kernel
theorem dc43_64 : Dk zb43 64 (.getfield 21) 3 := by decide +kernel
theorem dc43_67 : Dk zb43 67 (.if_icmp .le 10) 3 := by decide +kernel
theorem dc43_77 : Dk zb43 77 (.aload_n 1) 1 := by decide +kernel
theorem dc43_78 : Dk zb43 78 .areturn 1 := by decide +kernel
theorem ef_rmTA (mi : MethodId) (o : Addr) (ar : Addr) : entryFrame mi #[(.ref o), (.ref ar)] 2 = mkF mi 0 #[.val (.ref o), .val (.ref ar)] [] := by first | (simp [entryFrame, mkF, argsToLocals, Value.category]; done) | rfl
abbrev Q_rmTA (Z : State) (o : Addr) (ar : Addr) (al : Addr) (d : Addr) (kd : ClassId) (vs : List Value) (ka : ClassId) (m : Nat) (h0 : Heap) (n0 : Nat) (vv_ : Option Value) (hh_ : Heap) (LL_ : List Loc) : Prop := vv_ = some (.ref ar) ∧ Fr n0 LL_ ∧ Keep h0 hh_ [ar] ∧ Arv Z hh_ ar ka (.object "java/lang/String") (Int32.ofNat m) ((List.range m).map fun i => vs.getD (0 + i) .null) .null ∧ Exa Z hh_ ar "[Ljava/lang/String;"
theorem rmTA (l : Launch) (Z : State) (a0 : Array Value) (hw : Tb Z a0) (ws : List Jvm.Cond) (o : Addr) (ar : Addr) (al : Addr) (d : Addr) (kd : ClassId) (vs : List Value) (ka : ClassId) (m : Nat) (h0 : Heap) (n0 : Nat) (Z0 : n0 ≤ h0.size) (UE : Exa Z h0 o "java/util/ArrayList$SubList") (UR : Fld Z h0 o "java/util/ArrayList$SubList" "root" "Ljava/util/ArrayList;" (.ref al)) (UO : Fld Z h0 o "java/util/ArrayList$SubList" "offset" "I" (.int (0 : Int32))) (US : Fld Z h0 o "java/util/ArrayList$SubList" "size" "I" (.int (Int32.ofNat m))) (UM : Fld Z h0 o "java/util/AbstractList" "modCount" "I" (.int (Int32.ofNat m))) (LE : Exa Z h0 al "java/util/ArrayList") (LD : Fld Z h0 al "java/util/ArrayList" "elementData" "[Ljava/lang/Object;" (.ref d)) (LZ : Fld Z h0 al "java/util/ArrayList" "size" "I" (.int (Int32.ofNat m))) (LM : Fld Z h0 al "java/util/AbstractList" "modCount" "I" (.int (Int32.ofNat m))) (EA : Arv Z h0 d kd (.object "java/lang/Object") (10 : Int32) vs .null) (EB : Exa Z h0 d "[Ljava/lang/Object;") (RA : Arv Z h0 ar ka (.object "java/lang/String") (Int32.ofNat m) [] .null) (RE : Exa Z h0 ar "[Ljava/lang/String;") (OA : Ovr Z ka "java/lang/String") (g_a : n0 ≤ ar) (n_oa : o ≠ ar) (n_la : al ≠ ar) (n_da : d ≠ ar) (hm : m ≤ 5) (HS : ∀ i, i < m → ∃ s, vs.getD i .null = .ref s ∧ Exa Z h0 s "java/lang/String") :
  Mt l Z zy43 zb43 2 (some (.array (.object "java/lang/Object"))) ws zR30 #[(.ref o), (.ref ar)] h0 (Q_rmTA Z o ar al d kd vs ka m h0 n0) := by
 refine MetFree.of_bodySF (plainFor_of_name pn_9) hisR ?_
 intro pg ev si mi args below meth ci s₁ Bd hml0 hP0 hK
 obtain ⟨rfl, hZ, hh⟩ := hP0
 have hx := Bd.exec
 have hby := Bd.bytes
 have hml : ci.maxLocals = 2 := hml0
 have hown : si.vm.findClass "java/util/ArrayList$SubList" = some mi.cls := findClass_of_methodNamed Bd.named
 have hnm := (name_of_methodNamed Bd.named Bd.method).1
 have X0 : Stand pg l ev zR30 si mi #[(.ref o), (.ref ar)] below meth ci s₁ [] 0 0 := Stand.of_body Bd
 have e0 : s₁.heap = h0 := by rw [← hh, Bd.state]; rfl
 have N0 := Fr.nil n0
 refine Go.start (fun P hP => ?_)
 refine Go.st (fun t_ k_ => castTop (ef_rmTA mi o ar) k_) (A := s₁.setTop (mkF mi 0 #[.val (.ref o), .val (.ref ar)] [])) ?_
 refine g_aloadN X0 hx hby dc43_0 rfl rfl ?_
 obtain ⟨cq1, q1, q1'⟩ := UE.cell
 obtain ⟨_, _, ⟨T1, L1, k1, n1⟩, -, X1, ⟨Lc1, hQ1, l1, y1, z1⟩, st1⟩ := X0.privateBack hx (y := zy42) hown (mvT hZ (hw _ (own_m 243 rfl))) (mvT hZ (hw _ (own_m 244 rfl))) (mvT hZ (hw _ (own_m 246 rfl))) (Cond.privateMethod_at (mvP hZ (hw _ (own_m 245 rfl)) (args := #[]))) (mvT hZ (hw _ (own_m 247 rfl))) (by decide) (backOf (W := 0) (rmCM l Z a0 hw [] o al (Int32.ofNat m) h0 n0 Z0 UE UR UO US UM LM) hZ (hw _ (own_m 247 rfl)) (hw _ (own_m 214 rfl)) (by decide) (by decide)) (g := (mkF mi 1 #[.val (.ref o), .val (.ref ar)] [(.ref o)])) rfl (by rw [hml]; rfl) (Steps.refl _) (a := o) (by rw [e0]; exact q1) q1' (argsL := []) (rest := []) (lenOf pd_19 rfl) rfl (by show 2 * 0 + _ ≤ _; exact Nat.le_of_eq rfl) (hb hby dc43_1) (fun _ _ => ⟨rfl, e0, (by decide : 0 + 0 ≤ _), (by decide : 0 + 0 ≤ _)⟩)
 dsimp only [Pt.U, Pt.locs, Pt.cells, Pt.slots] at X1 l1 y1 z1 st1 hQ1
 subst y1 z1
 have X1 := own_cs X1 (cells' := 0) (slots' := 0) rfl rfl
 obtain ⟨rfl, N1q, e1⟩ := hQ1
 have N1 := own_fr l1 (Fr.app N0 N1q)
 refine Go.tr st1 ?_
 refine g_aloadN X1 hx hby dc43_4 rfl rfl ?_
 have ov2 := RA
 obtain ⟨cl2, Ar2, q2, S2, M2, H2, G2⟩ := ov2
 refine Go.st (X1.arraylength hx (by rw [e1]; exact Ar2.1) (State.isArrayOf_alike hZ.alike Ar2.2.1) (g := (mkF mi 5 #[.val (.ref o), .val (.ref ar)] [(.ref ar)])) rfl rfl (hb hby dc43_5)) ?_
 rw [len_of S2 M2]
 refine g_aloadN X1 hx hby dc43_6 rfl rfl ?_
 obtain ⟨T3, X3, e3, st3⟩ := getF X1 hx hZ hown (host := "") (Or.inl (hw _ (own_m 229 rfl))) Via.refl e1 US (g := (mkF mi 7 #[.val (.ref o), .val (.ref ar)] [(.ref o), (.int (Int32.ofNat m))])) rfl rfl (hb hby dc43_7)
 refine Go.st st3 ?_
 refine g_icmpYes X3 hx hby dc43_10 (flt Int32.lt_irrefl).2.1 (pc0 := 10) (pc' := 41) rfl (by decide) (by decide) ?_
 refine g_aloadN X3 hx hby dc43_41 rfl rfl ?_
 obtain ⟨T4, X4, e4, st4⟩ := getF X3 hx hZ hown (host := "") (Or.inl (hw _ (own_m 223 rfl))) Via.refl e3 UR (g := (mkF mi 42 #[.val (.ref o), .val (.ref ar)] [(.ref o)])) rfl rfl (hb hby dc43_42)
 refine Go.st st4 ?_
 obtain ⟨T5, X5, e5, st5⟩ := getF X4 hx hZ hown (host := "") (Or.inl (hw _ (own_m 248 rfl))) Via.refl e4 LD (g := (mkF mi 45 #[.val (.ref o), .val (.ref ar)] [(.ref al)])) rfl rfl (hb hby dc43_45)
 refine Go.st st5 ?_
 refine g_aloadN X5 hx hby dc43_48 rfl rfl ?_
 obtain ⟨T6, X6, e6, st6⟩ := getF X5 hx hZ hown (host := "") (Or.inl (hw _ (own_m 227 rfl))) Via.refl e5 UO (g := (mkF mi 49 #[.val (.ref o), .val (.ref ar)] [(.ref o), (.ref d)])) rfl rfl (hb hby dc43_49)
 refine Go.st st6 ?_
 refine g_aloadN X6 hx hby dc43_52 rfl rfl ?_
 refine g_iconst X6 hx hby dc43_53 (v := 0) rfl ?_
 refine g_aloadN X6 hx hby dc43_54 rfl rfl ?_
 obtain ⟨T7, X7, e7, st7⟩ := getF X6 hx hZ hown (host := "") (Or.inl (hw _ (own_m 229 rfl))) Via.refl e6 US (g := (mkF mi 55 #[.val (.ref o), .val (.ref ar)] [(.ref o), (.int 0), (.ref ar), (.int 0), (.ref d)])) rfl rfl (hb hby dc43_55)
 refine Go.st st7 ?_
 show Go _ _ _ (T7.setTop (mkF mi 58 #[.val (.ref o), .val (.ref ar)] [(.int (Int32.ofNat m)), (.int 0), (.ref ar), (.int 0), (.ref d)])) _
 have VP : Arv Z h0 ar ka (.object "java/lang/String") (Int32.ofNat m) (List.replicate m .null) .null := RA.pad (pad_rep [] _ _)
 have hst : StoL Z h0 ar ((List.range m).map fun i => vs.getD (0 + i) .null) := own_stoL _ fun v hv => by obtain ⟨i, hi, rfl⟩ := List.mem_map.mp hv; obtain ⟨s, e1, e2⟩ := HS i (List.mem_range.mp hi); obtain ⟨cl, A, qc, -⟩ := id VP; rw [Nat.zero_add, e1]; exact Sto.ofV A qc OA (Ins.self e2)
 obtain ⟨T8, h8, L8, X8, e8, N8, K8, V8, st8⟩ := cpA X7 hx hZ hown (hw _ (own_m 249 rfl)) (hw _ (own_m 252 rfl)) (hw _ (own_m 250 rfl)) (hw _ (own_m 251 rfl)) e7 EA VP (us := ((List.range m).map fun i => vs.getD (0 + i) .null)) (Or.inr ⟨rfl, rfl, hst⟩) (by decide) (by decide) (own_ofN0 (by omega)) (sp := (0 : Int32)) (dp := (0 : Int32)) (nn := (Int32.ofNat m)) (by rw [show (0 : Int32).toNatClampNeg = 0 from by decide +kernel, own_ofNn (by omega), show (10 : Int32).toNatClampNeg = 10 from by decide +kernel]; omega) (by rw [show (0 : Int32).toNatClampNeg = 0 from by decide +kernel, Nat.zero_add]; exact Nat.le_refl _) (by rw [show (0 : Int32).toNatClampNeg = 0 from by decide +kernel, own_ofNn (by omega)]) (by rw [show (0 : Int32).toNatClampNeg = 0 from by decide +kernel, Nat.zero_add, own_ofNn (by omega), List.length_replicate]; exact Nat.le_refl _) N1 g_a (g := (mkF mi 58 #[.val (.ref o), .val (.ref ar)] [(.int (Int32.ofNat m)), (.int 0), (.ref ar), (.int 0), (.ref d)])) rfl (by rw [hml]; rfl) rfl (hb hby dc43_58) (by decide) (W := 0) (by show 2 * 0 + _ ≤ _; exact Nat.le_of_eq rfl) (by decide)
 rw [own_ofNn (n := m) (by omega), own_cpr (by simp)] at V8
 have Zs9 : n0 ≤ h8.size := Nat.le_trans Z0 K8.1
 have KC9 : Keep h0 h8 [ar] := (Keep.refl h0 [ar]).trans K8 (allS (P := fun x => x ∈ [ar] ∨ h0.size ≤ x) (Or.inl (List.mem_of_getElem? (i := 0) rfl)) all0)
 refine Go.st st8 ?_
 show Go _ _ _ (T8.setTop (mkF mi 61 #[.val (.ref o), .val (.ref ar)] [])) _
 refine g_aloadN X8 hx hby dc43_61 rfl rfl ?_
 have ov10 := V8
 obtain ⟨cl10, Ar10, q10, S10, M10, H10, G10⟩ := ov10
 refine Go.st (X8.arraylength hx (by rw [e8]; exact Ar10.1) (State.isArrayOf_alike hZ.alike Ar10.2.1) (g := (mkF mi 62 #[.val (.ref o), .val (.ref ar)] [(.ref ar)])) rfl rfl (hb hby dc43_62)) ?_
 rw [len_of S10 M10]
 refine g_aloadN X8 hx hby dc43_63 rfl rfl ?_
 have f11 := (US.keep K8 (ninS n_oa nin0))
 obtain ⟨T12, X12, e12, st12⟩ := getF X8 hx hZ hown (host := "") (Or.inl (hw _ (own_m 229 rfl))) Via.refl e8 f11 (g := (mkF mi 64 #[.val (.ref o), .val (.ref ar)] [(.ref o), (.int (Int32.ofNat m))])) rfl rfl (hb hby dc43_64)
 refine Go.st st12 ?_
 refine g_icmpYes X12 hx hby dc43_67 (flt Int32.lt_irrefl).2.2.2 (pc0 := 67) (pc' := 77) rfl (by decide) (by decide) ?_
 refine g_aloadN X12 hx hby dc43_77 rfl rfl ?_
 obtain ⟨fs, hr, hrun, hended, hW, hsame⟩ := X12.leave (v := some (.ref ar)) (fun h => by rw [Bd.returns] at h; cases h) (BodyLoose.notSynchronized Bd)
 have f13 := (RE.keep K8)
 refine ⟨_, _, ?_, hP _ _ ⟨hrun, hended, _, _, rfl, ?_, ⟨_, rfl⟩, hW, hsame.mono (by decide) (by decide)⟩⟩
 ·exact retOut X12 hx Bd.returns rfl (Or.inr (Or.inr (Or.inr (Or.inr ⟨rfl, rfl, rfl⟩)))) (hb hby dc43_78) hr
 ·show Q_rmTA _ _ _ _ _ _ _ _ _ _ _ _ T12.heap _
  rw [e12]
  exact ⟨rfl, N8, KC9, V8, f13⟩
section LW
open Jvm.Free.SB Jvm.Free.SBG
variable {p : Program} {l : Launch} {e : Env} {R : Room} {s : State} {m : MethodId} {args : Array Value} {below : List Frame} {meth : Method} {c : Code} {T : State} {locs : List Loc} {cells slots : Nat} {Z : State} {a0 : Array Value} {EL : List (String × Nat)} {h : Heap} {vm0 : Vm} {own text : String} {index : Nat}
theorem own_pp {h : Heap} (A B : Cell) : Ext h ((h.push A).push B) := ⟨by simp only [Array.size_push]; omega, fun x cl q => by
 have hx := (Array.getElem?_eq_some_iff.mp q).1
 simp only [Array.getElem?_push, Array.size_push, if_neg (Nat.ne_of_lt hx), if_neg (Nat.ne_of_lt (Nat.lt_succ_of_lt hx))]; exact q⟩
theorem own_pq (h : Heap) (A B : Cell) : ((h.push A).push B)[h.size]? = some A ∧ ((h.push A).push B)[h.size + 1]? = some B := by
 constructor
 ·rw [Array.getElem?_push_lt (by rw [Array.size_push]; exact Nat.lt_succ_self _), Array.getElem_push_eq]
 ·exact (congrArg (fun j => ((h.push A).push B)[j]?) (Array.size_push A).symm).trans Array.getElem?_push_size
def own_Bk (vm : Vm) (own : String) (index : Nat) (text : String) (c : ClassId) (a : Addr) : Prop := ∃ (k : Class) (cf : ClassFile) (i : Nat) (u : Array UInt16), utf16ToString? u = some text ∧ vm.findClass own = some c ∧ vm.classes[c]? = some k ∧ k.cf = some cf ∧ cf.constantPool[index]? = some (.string i) ∧ cf.constantPool[i]? = some (.utf8 u) ∧ k.resolved[index]? = some (some (.string a))
def own_In (Z T U : State) : Prop := U.vm.interned = T.vm.interned ∨ ∃ (us : Array UInt16) (b : Addr), U.vm.interned = T.vm.interned.push (us, b) ∧ T.vm.interned.find? (fun p => p.1 == us) = none ∧ (us.all (· < 256) = true → ∃ q : SQ, q.sa = b ∧ SlB (Wst Z U.vm U.heap) q us ∧ T.heap.size ≤ q.sa ∧ T.heap.size ≤ q.sd)
theorem own_lw (X : Stand p l e R s m args below meth c T locs cells slots) (hx : p.tables.exec = Jvm.exec) (hZT : Z.Warmed39 T.vm) (hf : T.vm.findClass own = some m.cls) (w : (Cond.stringLink own index text).before a0 Z = true) (wS : ∀ d ∈ Bundle.stringAtoms, d.before a0 Z = true)
  {g : JFrame} (hg : g.method = m) (hd : decode c.code g.pc = .ok (.ldc_w index, 3)) {n : Nat} (hn : 4 * text.toList.length ≤ n) (hbig : n ≤ 536870912) (hc : cells + 2 ≤ R.cells) (hl : slots + (n + 4) ≤ R.slots) :
  ∃ (a : Addr) (U : State), Stand p l e R (s.setVm U.vm) m args below meth c U locs (cells + 2) (slots + (n + 4)) ∧ T.Warmed39 U.vm ∧ T.Interned1 U ∧ Ext T.heap U.heap ∧ own_Bk U.vm own index text m.cls a ∧ own_In Z T U ∧
   ∀ t, Steps p.tables e below (U.setTop { g with pc := g.pc + 3, stack := .ref a :: g.stack }) t → Steps p.tables e below (T.setTop g) t := by
 subst hg
 obtain ⟨k, cf, i, u, hk, hcf, hcp, hu, hnm, htx, hres⟩ := Cond.stringLink_spec (s := Wst Z T.vm T.heap) hf (mvS (s := { Z with heap := T.heap }) (args := a0) hZT w)
 have hk : T.vm.classes[g.method.cls]? = some k := hk
 have hub : (stringBytes u).size ≤ n := Nat.le_trans (text_bytes_le htx) hn
 have X2 := X.mono (Nat.le_add_right cells 2) (Nat.le_add_right slots (n + 4))
 rcases hres with hop | ⟨a, hr⟩
 ·have note : ∀ (v : Vm) (a : Addr), T.Warmed39 v → v.classes = T.vm.classes → v.interned.find? (fun p => p.1 == u) = some (u, a) → T.Warmed39 (v.noted g.method.cls index (.string a)) ∧ own_Bk (v.noted g.method.cls index (.string a)) own index text g.method.cls a := fun v a h1 h2 h3 => by
   have q := h1.notedString hk (Or.inl hop) (by rw [hcf]; exact hnm) (by rw [hcf]; exact hcp) (by rw [hcf]; simp [ConstantPool.utf8?, hu]) h3
   exact ⟨q, _, cf, i, u, htx, by rw [q.alike.findClass]; exact hf, Vm.classes_note_self index (.string a) (by rw [h2]; exact hk), hcf, hcp, hu, Class.resolved_note_self (.string a) hop⟩
  cases hi : T.vm.interned.find? (fun p => p.1 == u) with
  | some pr =>
   obtain ⟨u', a⟩ := pr
   have e1 : u' = u := by have z := Array.find?_some hi; exact eq_of_beq z
   subst e1
   obtain ⟨q1, q2⟩ := note T.vm a (State.Warmed39.refl T) rfl hi
   refine ⟨a, T.setVm (T.vm.noted g.method.cls index (.string a)), X2.retabled (State.Warmed39.trans (t := T) X.warmed.wide q1), q1, ⟨Nat.le_refl _, Or.inl rfl⟩, ⟨Nat.le_refl _, fun _ _ z => z⟩, q2, Or.inl rfl, fun t ht => ?_⟩
   jvm_step X.here [hx, hd, ldc_w.wp_string_found (e := e) (s := T) (f := g) X.here.top hk hcf hcp hu hop hi]
   exact ht
  | none =>
   have two : ∀ d ∈ Bundle.stringAtoms, (d.onTables && d.keepsFace) = true ∨ d = Jvm.Cond.arrayClass .byte := by decide +kernel
   have wT : ∀ d ∈ Bundle.stringAtoms, d.before a0 (Wst Z T.vm T.heap) = true := fun d hd => (two d hd).elim (fun q => mv (s := Wst Z T.vm T.heap) hZT (wS d hd) q) (fun q => by have z := wS d hd; rw [q] at z ⊢; exact mvA (s := Wst Z T.vm T.heap) hZT z)
   obtain ⟨S, L, h4, fv, fc⟩ := StringT.of_atoms wT
   obtain ⟨A, eA⟩ : ∃ z, z = bytesOf S.cB u := ⟨_, rfl⟩
   obtain ⟨B, eB⟩ : ∃ z, z = stringAt S.cS S.kS S.fv S.fc u T.heap.size := ⟨_, rfl⟩
   have lA : A.slots.size = (stringBytes u).size := by rw [eA]; exact (Cell.writeAll_facts _ _).2.2.trans Array.size_replicate
   have lB : B.slots.size = 4 := by rw [eB, ← h4]; simp [string0, Cell.setSlot]
   obtain ⟨v, ev⟩ : ∃ z : Vm, z = { T.vm with interned := T.vm.interned.push (u, T.heap.size + 1) } := ⟨_, rfl⟩
   obtain ⟨q1, q2⟩ := note v (T.heap.size + 1) (by rw [ev]; exact (State.Warmed39.refl T).interns u _) (by rw [ev]) (by rw [ev]; show (T.vm.interned.push _).find? _ = _; rw [Array.find?_push, hi]; simp)
   have X3 := (((X.pushed A).pushed B).mono (cells' := cells + 2) (slots' := slots + (n + 4)) (by omega) (by omega)).retabled (State.Warmed39.trans (t := T) X.warmed.wide q1)
   have ein : (v.noted g.method.cls index (.string (T.heap.size + 1))).interned = T.vm.interned.push (u, T.heap.size + 1) := by rw [ev]; rfl
   refine ⟨T.heap.size + 1, ((T.pushCell A).pushCell B).setVm (v.noted g.method.cls index (.string (T.heap.size + 1))), X3, q1, ⟨(own_pp A B).1, Or.inr ⟨u, _, ein, by omega, by show _ < ((T.heap.push A).push B).size; simp only [Array.size_push]; omega⟩⟩, own_pp A B, q2, Or.inr ⟨u, _, ein, hi, fun hlat => ?_⟩, fun t ht => ?_⟩
   ·obtain ⟨q, cS, z1, z2, z3, z4, z5, z6⟩ := made_sl (W := Wst Z (v.noted g.method.cls index (.string (T.heap.size + 1))) ((T.heap.push A).push B)) wT L h4 rfl q1.alike (n := T.heap.size) (units := u) (eA ▸ (own_pq T.heap A B).1) (eB ▸ (own_pq T.heap A B).2) hlat (by omega) 0
    exact ⟨q, z1, ⟨cS, z2, z3, z4, z5⟩, z6.resolve_left fun z => Nat.not_lt_zero _ z.1⟩
   ·refine Steps.instr (f := g) X.here ?_
    rw [hd]
    show wpRun (p.tables.exec (.ldc_w index)) _ _ e (T.setTop g)
    rw [hx]
    refine ldc_w.wp_string_new (e := e) (s := T) (f := g) X.here.top hk hcf hcp hu hop hi L.found L.cls L.initialized L.ordinary L.foundB L.clsB L.kindB L.value L.coder (by rw [Launch.admits_arrayLengthLimit X.admits]; omega) (by rw [Launch.admits_maxHeapBytes X.admits]; simp only [componentBytes]; omega) (X.cellsAbove hc) (by have z := X.slotsAbove hl; omega) (stringBytes_fit L.clsB L.kindB u) L.valueSlot L.coderSlot (fv _) (fc _) (fun d' acts' acts => ?_)
    rw [withString_eq, ← eA, ← eB, ← ev]
    show Steps p.tables e below (State.modifyTopJava (State.setTop _ _) fun f => { f with pc := f.pc + 3 }) t
    rw [State.modifyTopJava_setTop]
    exact ht
 ·refine ⟨a, T, X2.retabled X.warmed.wide, State.Warmed39.refl T, ⟨Nat.le_refl _, Or.inl rfl⟩, ⟨Nat.le_refl _, fun _ _ z => z⟩, ⟨k, cf, i, u, htx, hf, hk, hcf, hcp, hu, hr⟩, Or.inl rfl, fun t ht => ?_⟩
  jvm_step X.here [hx, hd, ldc_w.wp_string (e := e) (s := T) (f := g) X.here.top hk hcf hcp hr]
  exact ht
theorem own_slf {vm : Vm} {q : SQ} {u : Array UInt16} (hal : Z.vm.Alike vm) (F : SlB (Wst Z vm h) q u) (hlat : u.all (· < 256) = true) {vs : List Value} {z : Int32} (hz : ¬ z < 0) (hv : vs = u.toList.map fun x => Value.int (Jvm.Lit.byteI x)) (hl : z.toNatClampNeg = vs.length) :
  Exa Z h q.sa "java/lang/String" ∧ Fld Z h q.sa "java/lang/String" "coder" "B" (.int 0) ∧ Fld Z h q.sa "java/lang/String" "value" "[B" (.ref q.sd) ∧ Arv Z h q.sd q.SA.cls .byte z vs (.int 0) := by
 obtain ⟨cS, ⟨⟨s1, s2, s3, ⟨cv, kv, iv, s4, s4'⟩, ⟨cc, kc, ic, s5, s5'⟩, s6, s7, s8, s9, s10, s11, s12, -, -, -, s16⟩, s17, s18⟩, ⟨kS, k1, -, k3⟩, -, hb⟩ := SlB.carry (V := { Z with heap := h }) F hal.symm F.ha F.hd
 subst s18
 have hsl : q.SA.slots.toList = vs := by rw [hb, stringBytes_lat hlat, hv, Array.toList_map]; rfl
 have hsz : q.SA.slots.size = vs.length := by rw [← hsl, Array.length_toList]
 have H : Has q.SA vs (.int 0) := fun j hj => by
  rw [← hsl, List.getD_eq_getElem?_getD, Array.getElem?_toList, Array.getElem?_eq_getElem hj]; rfl
 refine ⟨⟨q.sC, kS, s1, s17, k1, s3, fun _ => k3⟩, ⟨q.sC, cc, kc, ic, q.fSC, s1, s5, s7, s2, s3, s5', s9⟩, ⟨q.sC, cv, kv, iv, q.fSV, s1, s4, s6, s2, s3, s4', s8⟩, ⟨q.SA, ⟨s10, s11, s12⟩, rfl, by rw [hsz, hl], hz, H, fun j hj => ?_⟩⟩
 have e1 := s16 j hj
 have e2 := H j hj
 rw [Array.getElem?_eq_getElem hj] at e2
 rw [← Option.some.inj e2]
 rw [Array.getD_eq_getD_getElem?, Array.getElem?_eq_getElem hj] at e1; exact e1
theorem own_ldcC (X : Stand p l e R (s.setVm vm0) m args below meth c T locs cells slots) (hx : p.tables.exec = Jvm.exec) (hZ : Z.Warmed39 vm0) (hown : vm0.findClass own = some m.cls) (w : (Cond.stringLink own index text).before a0 Z = true) (wS : ∀ d ∈ Bundle.stringAtoms, d.before a0 Z = true)
  (eT : T.heap = h) {k0 : Nat} (hS : s.Since vm0 k0) (hk : k0 ≤ h.size) (hEL : EW Z a0 EL) (hmem : (own, index) ∈ EL) (H : CHv Z EL vm0 h)
  {vs : List Value} {z : Int32} (ht : (∀ c ∈ text.toList, c.toNat < 256) ∧ text.toList.map (fun c => Value.int (Jvm.Lit.byteI c.toNat.toUInt16)) = vs) (hz : ¬ z < 0) (hl : z.toNatClampNeg = vs.length)
  {g : JFrame} (hg : g.method = m) (hd : decode c.code g.pc = .ok (.ldc_w index, 3)) {n : Nat} (hn : 4 * text.toList.length ≤ n) (hbig : n ≤ 536870912) (hc : cells + 2 ≤ R.cells) (hl' : slots + (n + 4) ≤ R.slots) :
  ∃ (a : Addr) (U : State) (b : Addr) (k : ClassId), Stand p l e R (s.setVm U.vm) m args below meth c U locs (cells + 2) (slots + (n + 4)) ∧ Ext h U.heap ∧ s.Since U.vm U.heap.size ∧ Z.Warmed39 U.vm ∧ U.vm.findClass own = some m.cls ∧
   Exa Z U.heap a "java/lang/String" ∧ Fld Z U.heap a "java/lang/String" "coder" "B" (.int 0) ∧ Fld Z U.heap a "java/lang/String" "value" "[B" (.ref b) ∧ Arv Z U.heap b k .byte z vs (.int 0) ∧ CHr Z EL vm0 h U.vm U.heap ∧ Lit (s.setVm U.vm) own index a ∧
   ∀ t, Steps p.tables e below (U.setTop { g with pc := g.pc + 3, stack := .ref a :: g.stack }) t → Steps p.tables e below (T.setTop g) t := by
 subst eT
 have hZT : Z.Warmed39 T.vm := wtrans (s := s.setVm vm0) hZ X.warmed
 obtain ⟨a, U, X2, hw, h1, E, ⟨k, cf, i, u, htx, f1, f2, f3, f4, f5, f6⟩, hin, st⟩ := own_lw (Z := Z) X hx hZT (by rw [X.warmed.alike.findClass]; exact hown) w wS hg hd hn hbig hc hl'
 have A := CHv.at X hZ hEL H
 have B := CHv.later hZT (show (Wst Z T.vm T.heap).Warmed39 U.vm from hw) hEL E hin A.1
 have hZU : Z.Warmed39 U.vm := State.Warmed39.trans (t := T) hZT hw
 obtain ⟨q, hq, F⟩ := SlB.of (B.1 _ hmem u a ⟨_, k, cf, i, f1, f2, f3, f4, f5, Or.inl f6⟩)
 subst hq
 have hu := Jvm.ClassFile.units_of_text htx ht.1
 obtain ⟨g1, g2, g3, g4⟩ := own_slf hZU.alike F (Jvm.ClassFile.lat_of_text htx ht.1) hz (by rw [hu, ← ht.2, List.map_map]; rfl) hl
 exact ⟨q.sa, U, q.sd, q.SA.cls, X2, E, hS.trans (s := s) (vm₁ := vm0) ⟨State.Warmed39.trans (t := T) X.warmed.wide hw, State.Booked.step (X.warmed.no_new_pair _) X.same.2.1 h1⟩ (Nat.le_trans hk E.1), hZU, f1, g1, g2, g3, g4, A.trans ⟨B.1, E.1, B.2⟩, by simp [Lit, State.resolvedAt?, f1, f2, f6], st⟩
end LW
theorem own_snc {s : State} {vm : Vm} {k n : Nat} (h : s.Since vm k) (q : k ≤ n) : s.Since vm n := h.trans ((State.WarmedH.refl (s.setVm vm)).since n) q
def Wc (x : Int32) : Prop := x = 43 ∨ x = 35
def Cv (E : List Int32) (Ps : List (List Int32)) (f : Nat) : Prop := ∀ i, i < f → i < E.length → Wc (E.getD i 0) → ∃ P ∈ Ps, E.getD i 0 ∈ P ∧ (P.length = 1 → (i = 0 ∨ E.getD (i - 1) 0 = 47) ∧ (i + 1 = E.length ∨ E.getD (i + 1) 0 = 47))
theorem own_dtl {E : List Int32} {F T : Nat} (hT : T ≤ E.length) : ((E.drop F).take (T - F)).length = T - F := by rw [List.length_take, List.length_drop]; omega
theorem own_dtm {E : List Int32} {F T i : Nat} (h1 : F ≤ i) (h2 : i < T) (hT : T ≤ E.length) : E.getD i 0 ∈ (E.drop F).take (T - F) := by
 rw [List.getD_eq_getElem?_getD, List.getElem?_eq_getElem (by omega)]
 rw [List.mem_iff_getElem?]
 refine ⟨i - F, ?_⟩
 rw [List.getElem?_take, if_pos (by omega), List.getElem?_drop, show F + (i - F) = i from by omega, List.getElem?_eq_getElem (by omega)]; rfl
theorem Cv.step {E : List Int32} {Ps : List (List Int32)} {F T : Nat} (C : Cv E Ps F) (hs : F = 0 ∨ E.getD (F - 1) 0 = 47) (hF : F ≤ T) (hT : T ≤ E.length) (he : T = E.length ∨ E.getD T 0 = 47) : Cv E (Ps ++ [(E.drop F).take (T - F)]) (T + 1) := fun i hi hl hw => by
 by_cases h1 : i < F
 ·obtain ⟨P, p1, p2⟩ := C i h1 hl hw
  exact ⟨P, List.mem_append_left _ p1, p2⟩
 ·by_cases h2 : i = T
  ·subst h2
   rcases he with he | he
   ·omega
   ·rcases hw with q | q <;> rw [he] at q <;> exact absurd q (by decide)
  ·refine ⟨_, List.mem_append_right _ (List.mem_singleton.mpr rfl), own_dtm (by omega) (by omega) hT, fun hq => ?_⟩
   rw [own_dtl hT] at hq
   obtain rfl : i = F := by omega
   obtain rfl : T = i + 1 := by omega
   exact ⟨hs, he.imp id id⟩
theorem Cv.mono {E : List Int32} {Ps : List (List Int32)} {f : Nat} (C : Cv E Ps (E.length + 1)) : Cv E Ps f := fun i _ hl hw => C i (by omega) hl hw
theorem Cv.nil {E : List Int32} {Ps : List (List Int32)} : Cv E Ps 0 := fun i hi => absurd hi (Nat.not_lt_zero _)
theorem own_ixk {E : List Int32} {F : Nat} (hF : F ≤ E.length) (h : ¬ (ix E (47 : Int32) F = (-1 : Int32))) : ∃ T, F ≤ T ∧ T < E.length ∧ ix E (47 : Int32) F = Int32.ofNat T ∧ E.getD T 0 = 47 := by
 rcases ix_sp E 47 F hF with ⟨h1, -⟩ | ⟨k, h1, h2, h3, h4, -⟩
 ·exact absurd h1 h
 ·exact ⟨k, h1, h2, h3, h4⟩
theorem own_isn {Z : State} {h : Heap} {x : Addr} {C : String} (E : Exa Z h x C) (h1 : C ≠ "java/lang/String") (h2 : C ≠ "[B") : Nb Z h x := ⟨C, E, h1, h2⟩
theorem dc44_40 : Dk zb44 40 (.aload_n 0) 1 := by decide +kernel
theorem dc44_41 : Dk zb44 41 (.iload_n 1) 1 := by decide +kernel
theorem dc44_42 : Dk zb44 42 (.iload 5) 2 := by decide +kernel
theorem dc44_44 : Dk zb44 44 (.invokevirtual 633) 3 := by decide +kernel
theorem dc44_47 : Dk zb44 47 .dup 1 := by decide +kernel
theorem dc44_48 : Dk zb44 48 (.istore 6) 2 := by decide +kernel
theorem dc44_50 : Dk zb44 50 (.iconst (-1)) 1 := by decide +kernel
theorem dc44_51 : Dk zb44 51 (.if_icmp .eq 84) 3 := by decide +kernel
theorem dc44_54 : Dk zb44 54 (.iload 7) 2 := by decide +kernel
theorem dc44_56 : Dk zb44 56 (.ifCond .eq 11) 3 := by decide +kernel
theorem dc44_67 : Dk zb44 67 (.aload 8) 2 := by decide +kernel
theorem dc44_69 : Dk zb44 69 (.aload_n 0) 1 := by decide +kernel
theorem dc44_70 : Dk zb44 70 (.iload 5) 2 := by decide +kernel
theorem dc44_72 : Dk zb44 72 (.iload 6) 2 := by decide +kernel
theorem pd_24 : parseMethodDescriptor "(II)Ljava/lang/String;" = some ⟨[.int, .int], some (.object "java/lang/String")⟩ := by decide +kernel
theorem dc44_74 : Dk zb44 74 (.invokevirtual 681) 3 := by decide +kernel
theorem dc44_77 : Dk zb44 77 (.invokevirtual 784) 3 := by decide +kernel
theorem pd_25 : parseMethodDescriptor "(Ljava/lang/Object;)Z" = some ⟨[(.object "java/lang/Object")], some .boolean⟩ := by decide +kernel
theorem dc44_80 : Dk zb44 80 .pop 1 := by decide +kernel
theorem dc44_81 : Dk zb44 81 (.iload_n 3) 1 := by decide +kernel
theorem dc44_82 : Dk zb44 82 (.ifCond .eq 11) 3 := by decide +kernel
theorem dc44_93 : Dk zb44 93 (.iload 6) 2 := by decide +kernel
theorem dc44_95 : Dk zb44 95 (.iconst 1) 1 := by decide +kernel
theorem dc44_96 : Dk zb44 96 .iadd 1 := by decide +kernel
theorem dc44_97 : Dk zb44 97 (.istore 5) 2 := by decide +kernel
theorem dc44_99 : Dk zb44 99 (.iinc 4 1) 3 := by decide +kernel
theorem dc44_102 : Dk zb44 102 (.goto (-62)) 3 := by decide +kernel
theorem own_sp40 (l : Launch) (Z : State) (a0 : Array Value) (hw : Tb Z a0) {pg : Program} {ev : Env} {si : State} {mi : MethodId} {args : Array Value} {below : List Frame} {meth : Method} {ci : Code} {s₁ : State} {locs : List Loc} {cells slots : Nat} (X0 : Stand pg l ev zR31 si mi args below meth ci s₁ locs cells slots) (hx : pg.tables.exec = Jvm.exec) (hby : ci.code = zb44) (hml : ci.maxLocals = 12) (hZ : Z.Warmed39 si.vm) (hown : si.vm.findClass "java/lang/String" = some mi.cls) {P : State → Outcome → Prop} (o : Addr) (u4 : Int32) (F : Nat) (u6 : Int32) (al : Addr) (d : Addr) (kd : ClassId) (vs : List Value) (k : Nat) (Ps : List (List Int32)) (b : Addr) (kb : ClassId) (n : Int32) (E : List Int32) (cz : Int32) (fm : Value) (h0 : Heap) (n0 : Nat) (Z0 : n0 ≤ h0.size) (e0 : s₁.heap = h0) (N0 : Fr n0 locs) (hEL : EW Z a0 own_EL) (hCH : CHv Z own_EL si.vm h0) (SE : Exa Z h0 o "java/lang/String") (SCo : Fld Z h0 o "java/lang/String" "coder" "B" (.int (0 : Int32))) (SVa : Fld Z h0 o "java/lang/String" "value" "[B" (.ref b)) (SAr : Arv Z h0 b kb .byte n (E.map Value.int) (.int (0 : Int32))) (SEb : Exa Z h0 b "[B") (SC : Sta Z h0 "java/lang/String" "COMPACT_STRINGS" "Z" (.int cz)) (hcz : ¬ (cz = (0 : Int32))) (SF : Sta Z h0 "jdk/internal/util/Preconditions" "SIOOBE_FORMATTER" "Ljava/util/function/BiFunction;" fm) (hfm : fm.isRef = true) (LE : Exa Z h0 al "java/util/ArrayList") (LD : Fld Z h0 al "java/util/ArrayList" "elementData" "[Ljava/lang/Object;" (.ref d)) (LZ : Fld Z h0 al "java/util/ArrayList" "size" "I" (.int (Int32.ofNat k))) (LM : Fld Z h0 al "java/util/AbstractList" "modCount" "I" (.int (Int32.ofNat k))) (EA : Arv Z h0 d kd (.object "java/lang/Object") (10 : Int32) vs .null) (EB : Exa Z h0 d "[Ljava/lang/Object;") (OV : Ovr Z kd "java/lang/Object") (HL : Lvs Z h0 vs Ps) (hPl : Ps.length = k) (hvl : vs.length = 10) (hk : k < 10) (hE : E.length ≤ 4) (hn : n.toInt = E.length) (hF : F ≤ E.length) (hF1 : 1 ≤ F) (g_l : n0 ≤ al) (g_d : n0 ≤ d) (n_ld : al ≠ d) (n_ol : o ≠ al) (n_od : o ≠ d) (n_bl : b ≠ al) (n_bd : b ≠ d) (hcs : cells + 2 ≤ 14) (hss : slots + 8 ≤ 64) (K1 : (ix E (47 : Int32) F) = (-1 : Int32) → ∀ (T' : State) (locs' : List Loc), Stand pg l ev zR31 si mi args below meth ci T' locs' cells slots → T'.heap = h0 → Fr n0 locs' → Go pg.tables ev below (T'.setTop (mkF mi 135 #[.val (.ref o), .val (.int 47), .val (.int (-1)), .val (.int 0), .val (.int u4), .val (.int (Int32.ofNat F)), .val (.int (ix E (47 : Int32) F)), .val (.int 0), .val (.ref al), .val .null, .unset, .unset] [])) P) (K2 : ∀ (T : Nat), F ≤ T → T < E.length → E.getD T 0 = 47 → ∀ (T' : State) (vm' : Vm) (locs' : List Loc) (h' : Heap) (e : Addr), Stand pg l ev zR31 (si.setVm vm') mi args below meth ci T' locs' (cells + 2) (slots + 8) → T'.heap = h' → Fr n0 locs' → Keep h0 h' [al, d] → si.Since vm' h'.size → Z.Warmed39 vm' → vm'.findClass "java/lang/String" = some mi.cls → CHr Z own_EL si.vm h0 vm' h' → Exa Z h' al "java/util/ArrayList" → Fld Z h' al "java/util/ArrayList" "elementData" "[Ljava/lang/Object;" (.ref d) → Fld Z h' al "java/util/ArrayList" "size" "I" (.int (Int32.ofNat (k + 1))) → Fld Z h' al "java/util/AbstractList" "modCount" "I" (.int (Int32.ofNat (k + 1))) → Arv Z h' d kd (.object "java/lang/Object") (10 : Int32) (vs.set k (.ref e)) .null → Exa Z h' d "[Ljava/lang/Object;" → Lvs Z h' (vs.set k (.ref e)) (Ps ++ [((E.drop F).take (T - F))]) → Go pg.tables ev below (T'.setTop (mkF mi 40 #[.val (.ref o), .val (.int 47), .val (.int (-1)), .val (.int 0), .val (.int (u4 + (1 : Int32))), .val (.int (Int32.ofNat (T + 1))), .val (.int (Int32.ofNat T)), .val (.int 0), .val (.ref al), .val .null, .unset, .unset] [])) P) :
  Go pg.tables ev below (s₁.setTop (mkF mi 40 #[.val (.ref o), .val (.int 47), .val (.int (-1)), .val (.int 0), .val (.int u4), .val (.int (Int32.ofNat F)), .val (.int u6), .val (.int 0), .val (.ref al), .val .null, .unset, .unset] [])) P := by
 have sf0_al : Safe Z own_EL si.vm h0 al := Safe.exa hZ.alike LE (by decide) (by decide)
 have sf0_d : Safe Z own_EL si.vm h0 d := Safe.exa hZ.alike EB (by decide) (by decide)
 refine g_aloadN X0 hx hby dc44_40 rfl rfl ?_
 refine g_iloadN X0 hx hby dc44_41 rfl ?_
 refine g_iload X0 hx hby dc44_42 rfl ?_
 obtain ⟨cq1, kq1, q1a, q1b, q1c⟩ := isOf hZ e0 SE
 obtain ⟨_, _, ⟨T1, L1, k1, n1⟩, -, X1, ⟨Lc1, hQ1, l1, y1, z1⟩, st1⟩ := X0.virtualBack hx (y := zy22) (z := zy22) hown (mvT hZ (hw _ (own_m 51 rfl))) (mvT hZ (hw _ (own_m 52 rfl))) (notFace_of_selects (args := #[]) (mvT hZ (hw _ (own_m 54 rfl)))) (mvT hZ (hw _ (own_m 54 rfl))) (mvT hZ (hw _ (own_m 53 rfl))) (by decide) (backOf (W := 0) (rmI2 l Z a0 hw [] o (47 : Int32) F b kb n E (47 : Int32) cz h0 n0 Z0 SE SCo SVa SAr SEb SC hcz (by omega) hn (by decide) (by decide) (by decide) hF) hZ (hw _ (own_m 55 rfl)) (hw _ (own_m 9 rfl)) (by decide) (by decide)) q1a q1c (g := (mkF mi 44 #[.val (.ref o), .val (.int 47), .val (.int (-1)), .val (.int 0), .val (.int u4), .val (.int (Int32.ofNat F)), .val (.int u6), .val (.int 0), .val (.ref al), .val .null, .unset, .unset] [(.int (Int32.ofNat F)), (.int 47), (.ref o)])) rfl (by rw [hml]; rfl) (Steps.refl _) (argsL := [(.int 47), (.int (Int32.ofNat F))]) (rest := []) (lenOf pd_11 rfl) rfl (by show 2 * 0 + _ ≤ _; exact Nat.le_of_eq rfl) (hb hby dc44_44) (fun _ _ => ⟨rfl, e0, (by show (cells + 0) + 0 ≤ 14; omega), (by show (slots + 0) + 0 ≤ 64; omega)⟩)
 dsimp only [Pt.U, Pt.locs, Pt.cells, Pt.slots] at X1 l1 y1 z1 st1 hQ1

 have X1 := own_cs X1 (cells' := (cells + 0)) (slots' := (slots + 0)) y1 z1
 obtain ⟨rfl, N1q, e1⟩ := hQ1
 have N1 := own_fr l1 (Fr.app N0 N1q)
 refine Go.tr st1 ?_
 refine g_dup X1 hx hby dc44_47 rfl ?_
 refine g_istore X1 hx hby dc44_48 (l' := #[.val (.ref o), .val (.int 47), .val (.int (-1)), .val (.int 0), .val (.int u4), .val (.int (Int32.ofNat F)), .val (.int (ix E (47 : Int32) F)), .val (.int 0), .val (.ref al), .val .null, .unset, .unset]) rfl ?_
 refine g_iconst X1 hx hby dc44_50 (v := (-1)) rfl ?_
 by_cases hc51_1 : (ix E (47 : Int32) F) = (-1 : Int32)
 ·refine g_icmpYes X1 hx hby dc44_51 (teq hc51_1).1 (pc0 := 51) (pc' := 135) rfl (by decide) (by decide) ?_
  show Go _ _ _ (T1.setTop (mkF mi 135 #[.val (.ref o), .val (.int 47), .val (.int (-1)), .val (.int 0), .val (.int u4), .val (.int (Int32.ofNat F)), .val (.int (ix E (47 : Int32) F)), .val (.int 0), .val (.ref al), .val .null, .unset, .unset] [])) _
  exact K1 hc51_1 _ _ X1 e1 N1
 ·refine g_icmpNo X1 hx hby dc44_51 (feq hc51_1).1 ?_
  show Go _ _ _ (T1.setTop (mkF mi 54 #[.val (.ref o), .val (.int 47), .val (.int (-1)), .val (.int 0), .val (.int u4), .val (.int (Int32.ofNat F)), .val (.int (ix E (47 : Int32) F)), .val (.int 0), .val (.ref al), .val .null, .unset, .unset] [])) _
  obtain ⟨T, hT1, hT2, hT3, hT4⟩ := own_ixk hF hc51_1
  rw [hT3]
  show Go _ _ _ (T1.setTop (mkF mi 54 #[.val (.ref o), .val (.int 47), .val (.int (-1)), .val (.int 0), .val (.int u4), .val (.int (Int32.ofNat F)), .val (.int (Int32.ofNat T)), .val (.int 0), .val (.ref al), .val .null, .unset, .unset] [])) _
  refine g_iload X1 hx hby dc44_54 rfl ?_
  refine g_ifYes X1 hx hby dc44_56 ((if0 _ _).trans (teq rfl).1) (pc0 := 56) (pc' := 67) rfl (by decide) (by decide) ?_
  refine g_aload X1 hx hby dc44_67 rfl rfl ?_
  refine g_aloadN X1 hx hby dc44_69 rfl rfl ?_
  refine g_iload X1 hx hby dc44_70 rfl ?_
  refine g_iload X1 hx hby dc44_72 rfl ?_
  show Go _ _ _ (T1.setTop (mkF mi 74 #[.val (.ref o), .val (.int 47), .val (.int (-1)), .val (.int 0), .val (.int u4), .val (.int (Int32.ofNat F)), .val (.int (Int32.ofNat T)), .val (.int 0), .val (.ref al), .val .null, .unset, .unset] [(.int (Int32.ofNat T)), (.int (Int32.ofNat F)), (.ref o), (.ref al)])) _
  have CR2 : CHr Z own_EL si.vm h0 si.vm h0 := (CHr.refl hCH).trans (CHr.keep (Keep.refl h0 [al, d]) (sfS sf0_al (sfS sf0_d sf0)) (CHr.refl hCH).1)
  obtain ⟨cq3, kq3, q3a, q3b, q3c⟩ := isOf hZ e1 SE
  obtain ⟨_, _, ⟨T3, L3, k3, n3⟩, -, X3, hS3', hG3, ⟨Lc3, hQ3, l3, y3, z3, hCr3⟩, st3⟩ := (own_rb X1).virtualBackS hx (y := zy30) (z := zy30) hown (mvT hZ (hw _ (own_m 153 rfl))) (mvT hZ (hw _ (own_m 154 rfl))) (notFace_of_selects (args := #[]) (mvT hZ (hw _ (own_m 156 rfl)))) (mvT hZ (hw _ (own_m 156 rfl))) (mvT hZ (hw _ (own_m 155 rfl))) (by decide) (backOfSH (s := si) (vm0 := si.vm) (EL := own_EL) (W := 1) (rmSu l Z a0 hw [] o F T b kb n E cz fm h0 n0 Z0 hEL SE SCo SVa SAr SEb SC hcz SF hfm hE hn (by omega) hT1 (fun q => absurd q.1 (by omega))) hZ (hw _ (own_m 157 rfl)) (hw _ (own_m 9 rfl)) (by decide) (by decide) hEL CR2.1) q3a q3c (g := (mkF mi 74 #[.val (.ref o), .val (.int 47), .val (.int (-1)), .val (.int 0), .val (.int u4), .val (.int (Int32.ofNat F)), .val (.int (Int32.ofNat T)), .val (.int 0), .val (.ref al), .val .null, .unset, .unset] [(.int (Int32.ofNat T)), (.int (Int32.ofNat F)), (.ref o), (.ref al)])) rfl (by rw [hml]; rfl) (Steps.refl _) (argsL := [(.int (Int32.ofNat F)), (.int (Int32.ofNat T))]) (rest := [(.ref al)]) (lenOf pd_24 rfl) rfl (by show 2 * 0 + _ ≤ _; exact Nat.le_of_eq rfl) (hb hby dc44_74) (fun _ _ => ⟨rfl, e1, (by show (cells + 0) + 2 ≤ 14; omega), (by show (slots + 0) + 8 ≤ 64; omega)⟩)
  dsimp only [Pt.U, Pt.locs, Pt.cells, Pt.slots] at X3 l3 y3 z3 st3 hQ3 hCr3 hS3' hG3

  have X3 := own_cs X3 (cells' := (cells + 2)) (slots' := (slots + 8)) y3 z3
  obtain ⟨X3, hS3, hZ, hown⟩ := rebS ((State.WarmedH.refl si).since h0.size) (own_leT e1 (Nat.le_trans (Nat.le_refl _) (Keep.refl h0 [al, d]).1)) X3 hS3' hG3 hZ hown
  obtain ⟨h3, e3⟩ : ∃ z, T3.heap = z := ⟨_, rfl⟩
  rw [e3] at hQ3
  obtain ⟨s3_, b3, kb3, rfl, N3q, K3, SE3, SCo3, SVa3, SAr3, SEb3⟩ := hQ3
  have N3 := own_fr l3 (Fr.app N1 N3q)
  have Zs4 : n0 ≤ h3.size := Nat.le_trans Z0 K3.1
  have KC4 : Keep h0 h3 [al, d] := (Keep.refl h0 [al, d]).trans K3 all0
  have KL4 : Keep h0 h3 [al, d] := (Keep.refl h0 [al, d]).trans K3 all0
  have f5 := (LE.keep K3)
  have ne_s3__al : s3_ ≠ al := Exa.ne SE3 f5 (by decide)
  have ne_b3_al : b3 ≠ al := Exa.ne SEb3 f5 (by decide)
  have f6 := (EB.keep K3)
  have ne_s3__d : s3_ ≠ d := Exa.ne SE3 f6 (by decide)
  have ne_b3_d : b3 ≠ d := Exa.ne SEb3 f6 (by decide)
  rw [e3] at hCr3
  have CS3 : CHr Z own_EL si.vm h0 T3.vm h3 := CR2.trans hCr3
  have sf3_al : Safe Z own_EL T3.vm h3 al := Safe.exa hZ.alike f5 (by decide) (by decide)
  have sf3_d : Safe Z own_EL T3.vm h3 d := Safe.exa hZ.alike f6 (by decide) (by decide)
  refine Go.tr st3 ?_
  show Go _ _ _ (T3.setTop (mkF mi 77 #[.val (.ref o), .val (.int 47), .val (.int (-1)), .val (.int 0), .val (.int u4), .val (.int (Int32.ofNat F)), .val (.int (Int32.ofNat T)), .val (.int 0), .val (.ref al), .val .null, .unset, .unset] [(.ref s3_), (.ref al)])) _
  have HLa7 := HL.keep K3 all0
  have nq7 : ∀ x ∈ [al, d], Nb Z h3 x := allS (own_isn f5 (by decide) (by decide)) (allS (own_isn f6 (by decide) (by decide)) all0)
  have f9 := (LD.keep K3 nin0)
  have f10 := (LZ.keep K3 nin0)
  have f11 := (LM.keep K3 nin0)
  have f12 := (EA.keep K3 nin0)
  obtain ⟨cq8, kq8, q8a, q8b, q8c⟩ := isOf hZ e3 f5
  obtain ⟨_, _, ⟨T8, L8, k8, n8⟩, -, X8, ⟨Lc8, hQ8, l8, y8, z8⟩, st8⟩ := X3.virtualBack hx (y := zy37) (z := zy37) hown (mvT hZ (hw _ (own_m 168 rfl))) (mvT hZ (hw _ (own_m 169 rfl))) (notFace_of_selects (args := #[]) (mvT hZ (hw _ (own_m 171 rfl)))) (mvT hZ (hw _ (own_m 171 rfl))) (mvT hZ (hw _ (own_m 170 rfl))) (by decide) (backOf (W := 0) (rmA1k l Z a0 hw [] al s3_ d kd vs k h3 n0 Zs4 f5 f9 f10 f11 f12 f6 OV g_l g_d n_ld SE3 ne_s3__al ne_s3__d hk hvl) hZ (hw _ (own_m 172 rfl)) (hw _ (own_m 130 rfl)) (by decide) (by decide)) q8a q8c (g := (mkF mi 77 #[.val (.ref o), .val (.int 47), .val (.int (-1)), .val (.int 0), .val (.int u4), .val (.int (Int32.ofNat F)), .val (.int (Int32.ofNat T)), .val (.int 0), .val (.ref al), .val .null, .unset, .unset] [(.ref s3_), (.ref al)])) rfl (by rw [hml]; rfl) (Steps.refl _) (argsL := [(.ref s3_)]) (rest := []) (lenOf pd_25 rfl) rfl (by show 2 * 0 + _ ≤ _; exact Nat.le_of_eq rfl) (hb hby dc44_77) (fun _ _ => ⟨rfl, e3, (by show (cells + 2) + 0 ≤ 14; omega), (by show (slots + 8) + 0 ≤ 64; omega)⟩)
  dsimp only [Pt.U, Pt.locs, Pt.cells, Pt.slots] at X8 l8 y8 z8 st8 hQ8

  have X8 := own_cs X8 (cells' := (cells + 2)) (slots' := (slots + 8)) y8 z8
  obtain ⟨h8, e8⟩ : ∃ z, T8.heap = z := ⟨_, rfl⟩
  rw [e8] at hQ8
  obtain ⟨rfl, N8q, K8, LE8, LD8, LZ8, LM8, EA8, EB8⟩ := hQ8
  have N8 := own_fr l8 (Fr.app N3 N8q)
  have Zs13 : n0 ≤ h8.size := Nat.le_trans Zs4 K8.1
  have KC13 : Keep h0 h8 [al, d] := KC4.trans K8 (allS (P := fun x => x ∈ [al, d] ∨ h0.size ≤ x) (Or.inl (List.mem_of_getElem? (i := 0) rfl)) (allS (P := fun x => x ∈ [al, d] ∨ h0.size ≤ x) (Or.inl (List.mem_of_getElem? (i := 1) rfl)) all0))
  have KL13 : Keep h3 h8 [al, d] := (Keep.refl h3 [al, d]).trans K8 (allS (P := fun x => x ∈ [al, d] ∨ h3.size ≤ x) (Or.inl (List.mem_of_getElem? (i := 0) rfl)) (allS (P := fun x => x ∈ [al, d] ∨ h3.size ≤ x) (Or.inl (List.mem_of_getElem? (i := 1) rfl)) all0))
  refine Go.tr st8 ?_
  refine Go.s (XS.pop X8.here hx rfl (hb hby dc44_80) rfl rfl) ?_
  refine g_iloadN X8 hx hby dc44_81 rfl ?_
  refine g_ifYes X8 hx hby dc44_82 ((if0 _ _).trans (teq rfl).1) (pc0 := 82) (pc' := 93) rfl (by decide) (by decide) ?_
  refine g_iload X8 hx hby dc44_93 rfl ?_
  refine g_iconst X8 hx hby dc44_95 (v := 1) rfl ?_
  refine g_iadd X8 hx hby dc44_96 rfl ?_
  show Go _ _ _ (T8.setTop (mkF mi 97 #[.val (.ref o), .val (.int 47), .val (.int (-1)), .val (.int 0), .val (.int u4), .val (.int (Int32.ofNat F)), .val (.int (Int32.ofNat T)), .val (.int 0), .val (.ref al), .val .null, .unset, .unset] [(.int ((Int32.ofNat T) + (1 : Int32)))])) _
  rw [own_ofS]
  show Go _ _ _ (T8.setTop (mkF mi 97 #[.val (.ref o), .val (.int 47), .val (.int (-1)), .val (.int 0), .val (.int u4), .val (.int (Int32.ofNat F)), .val (.int (Int32.ofNat T)), .val (.int 0), .val (.ref al), .val .null, .unset, .unset] [(.int (Int32.ofNat (T + 1)))])) _
  refine g_istore X8 hx hby dc44_97 (l' := #[.val (.ref o), .val (.int 47), .val (.int (-1)), .val (.int 0), .val (.int u4), .val (.int (Int32.ofNat (T + 1))), .val (.int (Int32.ofNat T)), .val (.int 0), .val (.ref al), .val .null, .unset, .unset]) rfl ?_
  refine g_iinc X8 hx hby dc44_99 rfl rfl (l' := #[.val (.ref o), .val (.int 47), .val (.int (-1)), .val (.int 0), .val (.int (u4 + (1 : Int32))), .val (.int (Int32.ofNat (T + 1))), .val (.int (Int32.ofNat T)), .val (.int 0), .val (.ref al), .val .null, .unset, .unset]) rfl ?_
  refine g_goto X8 hx hby dc44_102 (pc0 := 102) (pc' := 40) rfl (by decide) (by decide) ?_
  show Go _ _ _ (T8.setTop (mkF mi 40 #[.val (.ref o), .val (.int 47), .val (.int (-1)), .val (.int 0), .val (.int (u4 + (1 : Int32))), .val (.int (Int32.ofNat (T + 1))), .val (.int (Int32.ofNat T)), .val (.int 0), .val (.ref al), .val .null, .unset, .unset] [])) _
  have CR14 : CHr Z own_EL si.vm h0 T3.vm h8 := CS3.trans (CHr.keep KL13 (sfS sf3_al (sfS sf3_d sf0)) CS3.1)
  have f15 := (SE3.keep K8)
  have f16 := (SCo3.keep K8 (ninS ne_s3__al (ninS ne_s3__d nin0)))
  have f17 := (SVa3.keep K8 (ninS ne_s3__al (ninS ne_s3__d nin0)))
  have f18 := (SAr3.keep K8 (ninS ne_b3_al (ninS ne_b3_d nin0)))
  have f19 := (SEb3.keep K8)
  exact K2 T hT1 hT2 hT4 _ T3.vm _ _ s3_ X8 e8 N8 KC13 (own_snc hS3 (Nat.le_trans (own_leH e3) KL13.1)) hZ hown CR14 LE8 LD8 LZ8 LM8 EA8 EB8 ((HLa7.keep K8 nq7).snoc hPl (by omega) ⟨b3, kb3, (Int32.ofNat (T - F)), f15, f16, f17, f18, f19, (by rw [own_ofN (by omega), own_dtl (by omega)]), (by rw [own_dtl (by omega)]; omega)⟩)
theorem own_spL (l : Launch) (Z : State) (a0 : Array Value) (hw : Tb Z a0) {pg : Program} {ev : Env} {si : State} {mi : MethodId} {args : Array Value} {below : List Frame} {meth : Method} {ci : Code} (hx : pg.tables.exec = Jvm.exec) (hby : ci.code = zb44) (hml : ci.maxLocals = 12) (hZ : Z.Warmed39 si.vm) (hown : si.vm.findClass "java/lang/String" = some mi.cls) {P : State → Outcome → Prop} (o al d : Addr) (kd : ClassId) (b : Addr) (kb : ClassId) (n : Int32) (E : List Int32) (cz : Int32) (fm : Value) (hb : Heap) (n0 : Nat) (hEL : EW Z a0 own_EL) (hcz : ¬ (cz = (0 : Int32))) (hfm : fm.isRef = true) (OV : Ovr Z kd "java/lang/Object") (hE : E.length ≤ 4) (hn : n.toInt = E.length) (g_l : n0 ≤ al) (g_d : n0 ≤ d) (n_ld : al ≠ d) (n_ol : o ≠ al) (n_od : o ≠ d) (n_bl : b ≠ al) (n_bd : b ≠ d) (K : ∀ (T' : State) (vm' : Vm) (locs' : List Loc) (h' : Heap) (k F : Nat) (u4 u6 : Int32) (vs : List Value) (Ps : List (List Int32)), Stand pg l ev zR31 (si.setVm vm') mi args below meth ci T' locs' 10 45 → T'.heap = h' → Fr n0 locs' → Keep hb h' [al, d] → si.Since vm' h'.size → Z.Warmed39 vm' → vm'.findClass "java/lang/String" = some mi.cls → CHr Z own_EL si.vm hb vm' h' → F ≤ E.length → 1 ≤ F → 1 ≤ k → k ≤ F → E.getD (F - 1) 0 = 47 → Cv E Ps F → Ps.length = k → vs.length = 10 → Exa Z h' al "java/util/ArrayList" → Fld Z h' al "java/util/ArrayList" "elementData" "[Ljava/lang/Object;" (.ref d) → Fld Z h' al "java/util/ArrayList" "size" "I" (.int (Int32.ofNat k)) → Fld Z h' al "java/util/AbstractList" "modCount" "I" (.int (Int32.ofNat k)) → Arv Z h' d kd (.object "java/lang/Object") (10 : Int32) vs .null → Exa Z h' d "[Ljava/lang/Object;" → Lvs Z h' vs Ps → Go pg.tables ev below (T'.setTop (mkF mi 135 #[.val (.ref o), .val (.int 47), .val (.int (-1)), .val (.int 0), .val (.int u4), .val (.int (Int32.ofNat F)), .val (.int u6), .val (.int 0), .val (.ref al), .val .null, .unset, .unset] [])) P) :
  ∀ (r k F : Nat) (u4 u6 : Int32) (vs : List Value) (Ps : List (List Int32)) (vm : Vm) (s₁ : State) (locs : List Loc) (h0 : Heap) (cells slots : Nat), E.length ≤ F + r → cells + 2 * r ≤ 10 → slots + 8 * r ≤ 45 → F ≤ E.length → 1 ≤ F → 1 ≤ k → k ≤ F → E.getD (F - 1) 0 = 47 → Cv E Ps F → Ps.length = k → vs.length = 10 → Stand pg l ev zR31 (si.setVm vm) mi args below meth ci s₁ locs cells slots → n0 ≤ h0.size → s₁.heap = h0 → Fr n0 locs → Keep hb h0 [al, d] → si.Since vm h0.size → Z.Warmed39 vm → vm.findClass "java/lang/String" = some mi.cls → CHr Z own_EL si.vm hb vm h0 → Exa Z h0 o "java/lang/String" → Fld Z h0 o "java/lang/String" "coder" "B" (.int (0 : Int32)) → Fld Z h0 o "java/lang/String" "value" "[B" (.ref b) → Arv Z h0 b kb .byte n (E.map Value.int) (.int (0 : Int32)) → Exa Z h0 b "[B" → Sta Z h0 "java/lang/String" "COMPACT_STRINGS" "Z" (.int cz) → Sta Z h0 "jdk/internal/util/Preconditions" "SIOOBE_FORMATTER" "Ljava/util/function/BiFunction;" fm → Exa Z h0 al "java/util/ArrayList" → Fld Z h0 al "java/util/ArrayList" "elementData" "[Ljava/lang/Object;" (.ref d) → Fld Z h0 al "java/util/ArrayList" "size" "I" (.int (Int32.ofNat k)) → Fld Z h0 al "java/util/AbstractList" "modCount" "I" (.int (Int32.ofNat k)) → Arv Z h0 d kd (.object "java/lang/Object") (10 : Int32) vs .null → Exa Z h0 d "[Ljava/lang/Object;" → Lvs Z h0 vs Ps → Go pg.tables ev below (s₁.setTop (mkF mi 40 #[.val (.ref o), .val (.int 47), .val (.int (-1)), .val (.int 0), .val (.int u4), .val (.int (Int32.ofNat F)), .val (.int u6), .val (.int 0), .val (.ref al), .val .null, .unset, .unset] [])) P := by
 intro r
 induction r with
 | zero =>
  intro k F u4 u6 vs Ps vm s₁ locs h0 cells slots hr hc hs hF hF1 hk1 hkF hFc hCv hPl hvl X0 Z0 e0 N0 KB hS hZv hownv CR SE SCo SVa SAr SEb SC SF LE LD LZ LM EA EB HL
  exact own_sp40 l Z a0 hw X0 hx hby hml hZv hownv o u4 F u6 al d kd vs k Ps b kb n E cz fm h0 n0 Z0 e0 N0 hEL CR.1 SE SCo SVa SAr SEb SC hcz SF hfm LE LD LZ LM EA EB OV HL hPl hvl (by omega) hE hn hF hF1 g_l g_d n_ld n_ol n_od n_bl n_bd (by omega) (by omega) (fun hq T' L' X' e' N' => K T' vm L' h0 k F u4 _ vs Ps (Stand.more X' (by omega) (by omega)) e' N' KB hS hZv hownv CR hF hF1 hk1 hkF hFc hCv hPl hvl LE LD LZ LM EA EB HL) (fun T hT1 hT2 => absurd hT2 (by omega))
 | succ r ih =>
  intro k F u4 u6 vs Ps vm s₁ locs h0 cells slots hr hc hs hF hF1 hk1 hkF hFc hCv hPl hvl X0 Z0 e0 N0 KB hS hZv hownv CR SE SCo SVa SAr SEb SC SF LE LD LZ LM EA EB HL
  exact own_sp40 l Z a0 hw X0 hx hby hml hZv hownv o u4 F u6 al d kd vs k Ps b kb n E cz fm h0 n0 Z0 e0 N0 hEL CR.1 SE SCo SVa SAr SEb SC hcz SF hfm LE LD LZ LM EA EB OV HL hPl hvl (by omega) hE hn hF hF1 g_l g_d n_ld n_ol n_od n_bl n_bd (by omega) (by omega) (fun hq T' L' X' e' N' => K T' vm L' h0 k F u4 _ vs Ps (Stand.more X' (by omega) (by omega)) e' N' KB hS hZv hownv CR hF hF1 hk1 hkF hFc hCv hPl hvl LE LD LZ LM EA EB HL) (fun T hT1 hT2 hT4 T' vm' L' h' e X' e' N' K' S' Z' O' C' le ld lz lm ea eb HL' =>
   ih (k + 1) (T + 1) _ _ _ _ vm' T' L' h' _ _ (by omega) (by omega) (by omega) (by omega) (by omega) (by omega) (by omega) hT4 (hCv.step (Or.inr hFc) hT1 (by omega) (Or.inr hT4)) (by rw [List.length_append, hPl]; rfl) (by rw [List.length_set]; exact hvl) X' (Nat.le_trans Z0 K'.1) e' N' (KB.trans K' (fun x hx => Or.inl hx)) (hS.trans S' K'.1) Z' O' (CR.trans C') (SE.keep K') (SCo.keep K' (ninS n_ol (ninS n_od nin0))) (SVa.keep K' (ninS n_ol (ninS n_od nin0))) (SAr.keep K' (ninS n_bl (ninS n_bd nin0))) (SEb.keep K') (own_sta_keep SC K' (nsS LE.nostat (nsS EB.nostat ns0))) (own_sta_keep SF K' (nsS LE.nostat (nsS EB.nostat ns0))) le ld lz lm ea eb HL')
theorem own_cv1 {E : List Int32} : Cv E [E] (E.length + 1) := by
 have q := Cv.step (E := E) (Ps := []) (F := 0) (T := E.length) Cv.nil (Or.inl rfl) (Nat.zero_le _) (Nat.le_refl _) (Or.inl rfl)
 simpa using q
theorem Sx.exa {Z : State} {h : Heap} {s : Addr} {E : List Int32} (F : Sx Z h s E) : Exa Z h s "java/lang/String" := by obtain ⟨b, kb, n, f1, -⟩ := F; exact f1
theorem dc44_0 : Dk zb44 0 (.iconst 0) 1 := by decide +kernel
theorem dc44_1 : Dk zb44 1 (.istore 4) 2 := by decide +kernel
theorem dc44_3 : Dk zb44 3 (.iconst 0) 1 := by decide +kernel
theorem dc44_4 : Dk zb44 4 (.istore 5) 2 := by decide +kernel
theorem dc44_6 : Dk zb44 6 (.iload_n 2) 1 := by decide +kernel
theorem dc44_7 : Dk zb44 7 (.ifCond .le 7) 3 := by decide +kernel
theorem dc44_14 : Dk zb44 14 (.iconst 0) 1 := by decide +kernel
theorem dc44_15 : Dk zb44 15 (.istore 7) 2 := by decide +kernel
theorem dc44_17 : Dk zb44 17 (.new 777) 3 := by decide +kernel
theorem dc44_20 : Dk zb44 20 .dup 1 := by decide +kernel
theorem dc44_21 : Dk zb44 21 (.invokespecial 779) 3 := by decide +kernel
theorem dc44_24 : Dk zb44 24 (.astore 8) 2 := by decide +kernel
theorem dc44_26 : Dk zb44 26 (.iload_n 3) 1 := by decide +kernel
theorem dc44_27 : Dk zb44 27 (.ifCond .eq 10) 3 := by decide +kernel
theorem dc44_37 : Dk zb44 37 .aconst_null 1 := by decide +kernel
theorem dc44_38 : Dk zb44 38 (.astore 9) 2 := by decide +kernel
theorem dc44_135 : Dk zb44 135 (.iload 5) 2 := by decide +kernel
theorem dc44_137 : Dk zb44 137 (.ifCond .ne 12) 3 := by decide +kernel
theorem dc44_140 : Dk zb44 140 (.iconst 1) 1 := by decide +kernel
theorem dc44_141 : Dk zb44 141 (.anewarray 10) 3 := by decide +kernel
theorem dc44_144 : Dk zb44 144 .dup 1 := by decide +kernel
theorem dc44_145 : Dk zb44 145 (.iconst 0) 1 := by decide +kernel
theorem dc44_146 : Dk zb44 146 (.aload_n 0) 1 := by decide +kernel
theorem dc44_147 : Dk zb44 147 .aastore 1 := by decide +kernel
theorem dc44_148 : Dk zb44 148 .areturn 1 := by decide +kernel
theorem dc44_149 : Dk zb44 149 (.iload 7) 2 := by decide +kernel
theorem dc44_151 : Dk zb44 151 (.ifCond .eq 9) 3 := by decide +kernel
theorem dc44_160 : Dk zb44 160 (.aload 8) 2 := by decide +kernel
theorem dc44_162 : Dk zb44 162 (.aload_n 0) 1 := by decide +kernel
theorem dc44_163 : Dk zb44 163 (.iload 5) 2 := by decide +kernel
theorem dc44_165 : Dk zb44 165 (.aload_n 0) 1 := by decide +kernel
theorem dc44_166 : Dk zb44 166 (.invokevirtual 505) 3 := by decide +kernel
theorem dc44_169 : Dk zb44 169 (.invokevirtual 681) 3 := by decide +kernel
theorem dc44_172 : Dk zb44 172 (.invokevirtual 784) 3 := by decide +kernel
theorem dc44_175 : Dk zb44 175 .pop 1 := by decide +kernel
theorem dc44_176 : Dk zb44 176 (.aload 8) 2 := by decide +kernel
theorem dc44_178 : Dk zb44 178 (.invokevirtual 787) 3 := by decide +kernel
theorem dc44_181 : Dk zb44 181 (.istore 10) 2 := by decide +kernel
theorem dc44_183 : Dk zb44 183 (.iload_n 2) 1 := by decide +kernel
theorem dc44_184 : Dk zb44 184 (.ifCond .ne 32) 3 := by decide +kernel
theorem dc44_216 : Dk zb44 216 (.iload 10) 2 := by decide +kernel
theorem dc44_218 : Dk zb44 218 (.anewarray 10) 3 := by decide +kernel
theorem dc44_221 : Dk zb44 221 (.astore 11) 2 := by decide +kernel
theorem dc44_223 : Dk zb44 223 (.aload 8) 2 := by decide +kernel
theorem dc44_225 : Dk zb44 225 (.iconst 0) 1 := by decide +kernel
theorem dc44_226 : Dk zb44 226 (.iload 10) 2 := by decide +kernel
theorem dc44_228 : Dk zb44 228 (.invokevirtual 794) 3 := by decide +kernel
theorem pd_26 : parseMethodDescriptor "(II)Ljava/util/List;" = some ⟨[.int, .int], some (.object "java/util/List")⟩ := by decide +kernel
theorem dc44_231 : Dk zb44 231 (.aload 11) 2 := by decide +kernel
theorem dc44_233 : Dk zb44 233 (.invokeinterface 798 2) 5 := by decide +kernel
theorem pd_27 : parseMethodDescriptor "([Ljava/lang/Object;)[Ljava/lang/Object;" = some ⟨[(.array (.object "java/lang/Object"))], some (.array (.object "java/lang/Object"))⟩ := by decide +kernel
theorem dc44_238 : Dk zb44 238 (.checkcast 804) 3 := by decide +kernel
theorem dc44_241 : Dk zb44 241 .areturn 1 := by decide +kernel
theorem ef_rmSp (mi : MethodId) (o : Addr) : entryFrame mi #[(.ref o), (.int 47), (.int (-1)), (.int 0)] 12 = mkF mi 0 #[.val (.ref o), .val (.int 47), .val (.int (-1)), .val (.int 0), .unset, .unset, .unset, .unset, .unset, .unset, .unset, .unset] [] := by first | (simp [entryFrame, mkF, argsToLocals, Value.category]; done) | rfl
abbrev Q_rmSp (Z : State) (o : Addr) (b : Addr) (kb : ClassId) (n : Int32) (E : List Int32) (cz : Int32) (fm : Value) (de : Addr) (kde : ClassId) (h0 : Heap) (n0 : Nat) (vv_ : Option Value) (hh_ : Heap) (LL_ : List Loc) : Prop := ∃ (ar : Addr) (ka : ClassId) (vs : List Value) (Ps : List (List Int32)) (m : Nat), vv_ = some (.ref ar) ∧ Fr n0 LL_ ∧ Keep h0 hh_ [] ∧ Arv Z hh_ ar ka (.object "java/lang/String") (Int32.ofNat m) vs .null ∧ Exa Z hh_ ar "[Ljava/lang/String;" ∧ Lvs Z hh_ vs Ps ∧ Ps.length = m ∧ 1 ≤ m ∧ m ≤ 5 ∧ Cv E Ps (E.length + 1)
theorem rmSp (l : Launch) (Z : State) (a0 : Array Value) (hw : Tb Z a0) (ws : List Jvm.Cond) (o : Addr) (b : Addr) (kb : ClassId) (n : Int32) (E : List Int32) (cz : Int32) (fm : Value) (de : Addr) (kde : ClassId) (h0 : Heap) (n0 : Nat) (Z0 : n0 ≤ h0.size) (hEL : EW Z a0 own_EL) (SE : Exa Z h0 o "java/lang/String") (SCo : Fld Z h0 o "java/lang/String" "coder" "B" (.int (0 : Int32))) (SVa : Fld Z h0 o "java/lang/String" "value" "[B" (.ref b)) (SAr : Arv Z h0 b kb .byte n (E.map Value.int) (.int (0 : Int32))) (SEb : Exa Z h0 b "[B") (SC : Sta Z h0 "java/lang/String" "COMPACT_STRINGS" "Z" (.int cz)) (hcz : ¬ (cz = (0 : Int32))) (SF : Sta Z h0 "jdk/internal/util/Preconditions" "SIOOBE_FORMATTER" "Ljava/util/function/BiFunction;" fm) (hfm : fm.isRef = true) (SD : Sta Z h0 "java/util/ArrayList" "DEFAULTCAPACITY_EMPTY_ELEMENTDATA" "[Ljava/lang/Object;" (.ref de)) (DV : Arv Z h0 de kde (.object "java/lang/Object") (0 : Int32) [] .null) (DE : Exa Z h0 de "[Ljava/lang/Object;") (hE : E.length ≤ 4) (hn : n.toInt = E.length) :
  MtW l Z zy44 zb44 12 (some (.array (.object "java/lang/String"))) ws zR31 #[(.ref o), (.int 47), (.int (-1)), (.int 0)] h0 (Q_rmSp Z o b kb n E cz fm de kde h0 n0) := by
 refine MetFree.of_bodySF (plainFor_of_name pn_0) hisR ?_
 intro pg ev si mi args below meth ci s₁ Bd hml0 hP0 hK
 obtain ⟨rfl, hZ, hh, hCH⟩ := hP0
 have hx := Bd.exec
 have hby := Bd.bytes
 have hml : ci.maxLocals = 12 := hml0
 have hown : si.vm.findClass "java/lang/String" = some mi.cls := findClass_of_methodNamed Bd.named
 have hnm := (name_of_methodNamed Bd.named Bd.method).1
 have X0 : Stand pg l ev zR31 si mi #[(.ref o), (.int 47), (.int (-1)), (.int 0)] below meth ci s₁ [] 0 0 := Stand.of_body Bd
 have e0 : s₁.heap = h0 := by rw [← hh, Bd.state]; rfl
 have N0 := Fr.nil n0
 refine Go.start (fun P hP => ?_)
 refine Go.st (fun t_ k_ => castTop (ef_rmSp mi o) k_) (A := s₁.setTop (mkF mi 0 #[.val (.ref o), .val (.int 47), .val (.int (-1)), .val (.int 0), .unset, .unset, .unset, .unset, .unset, .unset, .unset, .unset] [])) ?_
 refine g_iconst X0 hx hby dc44_0 (v := 0) rfl ?_
 refine g_istore X0 hx hby dc44_1 (l' := #[.val (.ref o), .val (.int 47), .val (.int (-1)), .val (.int 0), .val (.int 0), .unset, .unset, .unset, .unset, .unset, .unset, .unset]) rfl ?_
 refine g_iconst X0 hx hby dc44_3 (v := 0) rfl ?_
 refine g_istore X0 hx hby dc44_4 (l' := #[.val (.ref o), .val (.int 47), .val (.int (-1)), .val (.int 0), .val (.int 0), .val (.int 0), .unset, .unset, .unset, .unset, .unset, .unset]) rfl ?_
 refine g_iloadN X0 hx hby dc44_6 rfl ?_
 refine g_ifYes X0 hx hby dc44_7 ((if0 _ _).trans (flt (by decide)).2.2.2) (pc0 := 7) (pc' := 14) rfl (by decide) (by decide) ?_
 refine g_iconst X0 hx hby dc44_14 (v := 0) rfl ?_
 refine g_istore X0 hx hby dc44_15 (l' := #[.val (.ref o), .val (.int 47), .val (.int (-1)), .val (.int 0), .val (.int 0), .val (.int 0), .unset, .val (.int 0), .unset, .unset, .unset, .unset]) rfl ?_
 obtain ⟨T1, h1, X1, e1, E1, A1, D1, -, st1⟩ := newO X0 hx hZ hown (hw _ (own_m 128 rfl)) (hw _ (own_m 129 rfl)) (hw _ (own_m 130 rfl)) e0 (g := (mkF mi 17 #[.val (.ref o), .val (.int 47), .val (.int (-1)), .val (.int 0), .val (.int 0), .val (.int 0), .unset, .val (.int 0), .unset, .unset, .unset, .unset] [])) rfl (hb hby dc44_17) (by decide) (by decide)
 obtain ⟨ob1, g1⟩ : ∃ z, z = h0.size := ⟨_, rfl⟩
 rw [← g1] at A1 D1 st1
 have Zs2 : n0 ≤ h1.size := Nat.le_trans Z0 E1.1
 have KC2 : Keep h0 h1 [] := (Keep.refl h0 []).ext E1
 have KL2 : Keep h0 h1 [] := (Keep.refl h0 []).ext E1
 have g_ob1 : n0 ≤ ob1 := Nat.le_trans Z0 (Nat.le_of_eq g1.symm)
 have sz_ob1 : h0.size ≤ ob1 := Nat.le_trans (Keep.refl h0 []).1 (Nat.le_of_eq g1.symm)
 have szl_ob1 : h0.size ≤ ob1 := Nat.le_trans (Keep.refl h0 []).1 (Nat.le_of_eq g1.symm)
 have F1_149 : Fld Z h1 ob1 "java/util/AbstractList" "modCount" "I" (.int 0) := D1 (Or.inl (hw _ (own_m 149 rfl))) (ty := .int) (by decide)
 have F1_152 : Fld Z h1 ob1 "java/util/ArrayList" "elementData" "[Ljava/lang/Object;" .null := D1 (Or.inl (hw _ (own_m 152 rfl))) (ty := (.array (.object "java/lang/Object"))) (by decide)
 have F1_176 : Fld Z h1 ob1 "java/util/ArrayList" "size" "I" (.int 0) := D1 (Or.inl (hw _ (own_m 176 rfl))) (ty := .int) (by decide)
 refine Go.st st1 ?_
 refine g_dup X1 hx hby dc44_20 rfl ?_
 have f4 := (SD.ext E1)
 obtain ⟨_, _, ⟨T3, L3, k3, n3⟩, -, X3, ⟨Lc3, hQ3, l3, y3, z3⟩, st3⟩ := X1.specialBack hx (y := zy33) rfl hown (mvT hZ (hw _ (own_m 131 rfl))) (mvT hZ (hw _ (own_m 132 rfl))) (mvT hZ (hw _ (own_m 134 rfl))) (by decide) (backOf (W := 1) (rmAI l Z a0 hw [] ob1 de h1 n0 Zs2 A1 F1_149 F1_152 F1_176 g_ob1 f4) hZ (hw _ (own_m 134 rfl)) (hw _ (own_m 130 rfl)) (by decide) (by decide)) (g := (mkF mi 21 #[.val (.ref o), .val (.int 47), .val (.int (-1)), .val (.int 0), .val (.int 0), .val (.int 0), .unset, .val (.int 0), .unset, .unset, .unset, .unset] [(.ref ob1), (.ref ob1)])) rfl (by rw [hml]; rfl) (Steps.refl _) (a := ob1) (argsL := []) (rest := [(.ref ob1)]) (lenOf pd_19 rfl) rfl (by show 2 * 0 + _ ≤ _; exact Nat.le_of_eq rfl) (hb hby dc44_21) (fun _ _ => ⟨rfl, e1, (by decide : 1 + 0 ≤ _), (by decide : 3 + 0 ≤ _)⟩)
 dsimp only [Pt.U, Pt.locs, Pt.cells, Pt.slots] at X3 l3 y3 z3 st3 hQ3
 subst y3 z3
 have X3 := own_cs X3 (cells' := 1) (slots' := 3) rfl rfl
 obtain ⟨h3, e3⟩ : ∃ z, T3.heap = z := ⟨_, rfl⟩
 rw [e3] at hQ3
 obtain ⟨rfl, N3q, K3, LE3, LD3, LZ3, LM3⟩ := hQ3
 have N3 := own_fr l3 (Fr.app N0 N3q)
 have Zs5 : n0 ≤ h3.size := Nat.le_trans Zs2 K3.1
 have KC5 : Keep h0 h3 [] := KC2.trans K3 (allS (P := fun x => x ∈ [] ∨ h0.size ≤ x) (Or.inr sz_ob1) all0)
 have KL5 : Keep h0 h3 [] := KL2.trans K3 (allS (P := fun x => x ∈ [] ∨ h0.size ≤ x) (Or.inr szl_ob1) all0)
 refine Go.tr st3 ?_
 refine g_astore X3 hx hby dc44_24 rfl (l' := #[.val (.ref o), .val (.int 47), .val (.int (-1)), .val (.int 0), .val (.int 0), .val (.int 0), .unset, .val (.int 0), .val (.ref ob1), .unset, .unset, .unset]) rfl ?_
 refine g_iloadN X3 hx hby dc44_26 rfl ?_
 refine g_ifYes X3 hx hby dc44_27 ((if0 _ _).trans (teq rfl).1) (pc0 := 27) (pc' := 37) rfl (by decide) (by decide) ?_
 refine Go.s (XS.aconstNull X3.here hx rfl (hb hby dc44_37)) ?_
 refine g_astore X3 hx hby dc44_38 rfl (l' := #[.val (.ref o), .val (.int 47), .val (.int (-1)), .val (.int 0), .val (.int 0), .val (.int 0), .unset, .val (.int 0), .val (.ref ob1), .val .null, .unset, .unset]) rfl ?_
 show Go _ _ _ (T3.setTop (mkF mi 40 #[.val (.ref o), .val (.int 47), .val (.int (-1)), .val (.int 0), .val (.int 0), .val (.int 0), .unset, .val (.int 0), .val (.ref ob1), .val .null, .unset, .unset] [])) _
 refine g_aloadN X3 hx hby dc44_40 rfl rfl ?_
 refine g_iloadN X3 hx hby dc44_41 rfl ?_
 refine g_iload X3 hx hby dc44_42 rfl ?_
 have f7 := ((SE.ext E1).keep K3)
 have ne_o_ob1 : o ≠ ob1 := Nat.ne_of_lt (Nat.lt_of_lt_of_le SE.lt (Nat.le_of_eq g1.symm))
 have f8 := ((SCo.ext E1).keep K3 (ninS ne_o_ob1 nin0))
 have f9 := ((SVa.ext E1).keep K3 (ninS ne_o_ob1 nin0))
 have ne_b_ob1 : b ≠ ob1 := Nat.ne_of_lt (Nat.lt_of_lt_of_le SEb.lt (Nat.le_of_eq g1.symm))
 have f10 := ((SAr.ext E1).keep K3 (ninS ne_b_ob1 nin0))
 have f11 := ((SEb.ext E1).keep K3)
 have f12 := (own_sta_keep (SC.ext E1) K3 (nsS A1.nostat ns0))
 obtain ⟨cq6, kq6, q6a, q6b, q6c⟩ := isOf hZ e3 f7
 obtain ⟨_, _, ⟨T6, L6, k6, n6⟩, -, X6, ⟨Lc6, hQ6, l6, y6, z6⟩, st6⟩ := X3.virtualBack hx (y := zy22) (z := zy22) hown (mvT hZ (hw _ (own_m 51 rfl))) (mvT hZ (hw _ (own_m 52 rfl))) (notFace_of_selects (args := #[]) (mvT hZ (hw _ (own_m 54 rfl)))) (mvT hZ (hw _ (own_m 54 rfl))) (mvT hZ (hw _ (own_m 53 rfl))) (by decide) (backOf (W := 0) (rmI2 l Z a0 hw [] o (47 : Int32) 0 b kb n E (47 : Int32) cz h3 n0 Zs5 f7 f8 f9 f10 f11 f12 hcz (by omega) hn (by decide) (by decide) (by decide) (Nat.zero_le _)) hZ (hw _ (own_m 55 rfl)) (hw _ (own_m 9 rfl)) (by decide) (by decide)) q6a q6c (g := (mkF mi 44 #[.val (.ref o), .val (.int 47), .val (.int (-1)), .val (.int 0), .val (.int 0), .val (.int 0), .unset, .val (.int 0), .val (.ref ob1), .val .null, .unset, .unset] [(.int 0), (.int 47), (.ref o)])) rfl (by rw [hml]; rfl) (Steps.refl _) (argsL := [(.int 47), (.int 0)]) (rest := []) (lenOf pd_11 rfl) rfl (by show 2 * 0 + _ ≤ _; exact Nat.le_of_eq rfl) (hb hby dc44_44) (fun _ _ => ⟨rfl, e3, (by decide : 1 + 0 ≤ _), (by decide : 3 + 0 ≤ _)⟩)
 dsimp only [Pt.U, Pt.locs, Pt.cells, Pt.slots] at X6 l6 y6 z6 st6 hQ6
 subst y6 z6
 have X6 := own_cs X6 (cells' := 1) (slots' := 3) rfl rfl
 obtain ⟨rfl, N6q, e6⟩ := hQ6
 have N6 := own_fr l6 (Fr.app N3 N6q)
 refine Go.tr st6 ?_
 refine g_dup X6 hx hby dc44_47 rfl ?_
 refine g_istore X6 hx hby dc44_48 (l' := #[.val (.ref o), .val (.int 47), .val (.int (-1)), .val (.int 0), .val (.int 0), .val (.int 0), .val (.int (ix E (47 : Int32) 0)), .val (.int 0), .val (.ref ob1), .val .null, .unset, .unset]) rfl ?_
 refine g_iconst X6 hx hby dc44_50 (v := (-1)) rfl ?_
 by_cases hc51_1 : (ix E (47 : Int32) 0) = (-1 : Int32)
 ·refine g_icmpYes X6 hx hby dc44_51 (teq hc51_1).1 (pc0 := 51) (pc' := 135) rfl (by decide) (by decide) ?_
  refine g_iload X6 hx hby dc44_135 rfl ?_
  refine g_ifNo X6 hx hby dc44_137 ((if0 _ _).trans (teq rfl).2) ?_
  refine g_iconst X6 hx hby dc44_140 (v := 1) rfl ?_
  obtain ⟨T13, h13, k13, X13, e13, E13, A13, EX13, O13, st13⟩ := own_newRE X6 hx hZ hown (hw _ (own_m 201 rfl)) (hw _ (own_m 202 rfl)) e6 (g := (mkF mi 141 #[.val (.ref o), .val (.int 47), .val (.int (-1)), .val (.int 0), .val (.int 0), .val (.int 0), .val (.int (ix E (47 : Int32) 0)), .val (.int 0), .val (.ref ob1), .val .null, .unset, .unset] [(.int 1)])) rfl (hb hby dc44_141) rfl (by decide) (cap := 1) (by decide) (by decide) (by decide) (by decide) (ad := "[Ljava/lang/String;") (by decide)
  obtain ⟨ob13, g13⟩ : ∃ z, z = h3.size := ⟨_, rfl⟩
  rw [← g13] at A13 EX13 st13
  have Zs14 : n0 ≤ h13.size := Nat.le_trans Zs5 E13.1
  have KC14 : Keep h0 h13 [] := KC5.ext E13
  have KL14 : Keep h0 h13 [] := KL5.ext E13
  have g_ob13 : n0 ≤ ob13 := Nat.le_trans Zs5 (Nat.le_of_eq g13.symm)
  have sz_ob13 : h0.size ≤ ob13 := Nat.le_trans KC5.1 (Nat.le_of_eq g13.symm)
  have szl_ob13 : h0.size ≤ ob13 := Nat.le_trans KL5.1 (Nat.le_of_eq g13.symm)
  have V13 : Arv Z h13 ob13 k13 (.object "java/lang/String") (1 : Int32) [.null] .null := (Arv.new A13 (by decide)).pad (pad_rep [] .null 1)
  refine Go.st st13 ?_
  refine g_dup X13 hx hby dc44_144 rfl ?_
  refine g_iconst X13 hx hby dc44_145 (v := 0) rfl ?_
  refine g_aloadN X13 hx hby dc44_146 rfl rfl ?_
  have ov15 := V13
  obtain ⟨cl15, Ar15, q15, S15, M15, H15, G15⟩ := ov15
  have hin15 : ¬ ((0 : Int32) < 0 ∨ cl15.slots.size ≤ ((0 : Int32)).toNatClampNeg) := inb_of S15 ⟨by decide, by decide⟩
  have f16 := (f7.ext E13)
  obtain ⟨T17, h17, X17, e17, W17, st17⟩ := stR X13 hx hZ e13 Ar15 (j := (0 : Int32)) hin15 rfl (Sto.ofV Ar15 q15 O13 (Ins.self f16)) (g := (mkF mi 147 #[.val (.ref o), .val (.int 47), .val (.int (-1)), .val (.int 0), .val (.int 0), .val (.int 0), .val (.int (ix E (47 : Int32) 0)), .val (.int 0), .val (.ref ob1), .val .null, .unset, .unset] [(.ref o), (.int 0), (.ref ob13), (.ref ob13)])) rfl rfl (hb hby dc44_147)
  have Zs18 : n0 ≤ h17.size := Nat.le_trans Zs14 (Keep.of_wr W17).1
  have KC18 : Keep h0 h17 [] := KC14.wr W17 (Or.inr sz_ob13)
  have KL18 : Keep h0 h17 [] := KL14.wr W17 (Or.inr szl_ob13)
  have N18 := Fr.snoc X17 N6 g_ob13
  have V17 : Arv Z h17 ob13 k13 (.object "java/lang/String") (1 : Int32) [(.ref o)] .null := Arv.set Ar15 q15 S15 M15 H15 G15 rfl W17 0 rfl (Nat.le_of_ble_eq_true rfl)
  refine Go.st st17 ?_
  show Go _ _ _ (T17.setTop (mkF mi 148 #[.val (.ref o), .val (.int 47), .val (.int (-1)), .val (.int 0), .val (.int 0), .val (.int 0), .val (.int (ix E (47 : Int32) 0)), .val (.int 0), .val (.ref ob1), .val .null, .unset, .unset] [(.ref ob13)])) _
  obtain ⟨fs, hr, hrun, hended, -, hW, hpr, hsame⟩ := Stand.leaveW (v := some (.ref ob13)) (own_rb X17) ((State.WarmedH.refl si).since h0.size) (own_leT e17 (Nat.le_trans (Nat.le_refl _) KL18.1)) (fun h => by rw [Bd.returns] at h; cases h) (BodyLoose.notSynchronized Bd)
  have f19 := (EX13.wr W17)
  have f20 := (f16.wr W17)
  have ne_o_ob13 : o ≠ ob13 := Nat.ne_of_lt (Nat.lt_of_lt_of_le f7.lt (Nat.le_of_eq g13.symm))
  have f21 := ((f8.ext E13).other W17 (Or.inl ne_o_ob13))
  have f22 := ((f9.ext E13).other W17 (Or.inl ne_o_ob13))
  have ne_b_ob13 : b ≠ ob13 := Nat.ne_of_lt (Nat.lt_of_lt_of_le f11.lt (Nat.le_of_eq g13.symm))
  have f23 := ((f10.ext E13).other W17 ne_b_ob13)
  have f24 := ((f11.ext E13).wr W17)
  refine ⟨_, _, ?_, hP _ _ ⟨hrun, hended, _, _, rfl, ?_, (show CHr Z own_EL si.vm si.heap T17.vm T17.heap from own_chr hh e17 (((CHr.refl hCH).trans (CHr.keep KL18 sf0 (CHr.refl hCH).1)).trans (CHv.at (own_rb X17) hZ hEL (CHr.keep KL18 sf0 (CHr.refl hCH).1).1))), ⟨_, rfl⟩, hW, hpr, hsame.mono (by decide) (by decide)⟩⟩
  ·exact retOut (own_rb X17) hx Bd.returns rfl (Or.inr (Or.inr (Or.inr (Or.inr ⟨rfl, rfl, rfl⟩)))) (hb hby dc44_148) hr
  ·show Q_rmSp _ _ _ _ _ _ _ _ _ _ _ _ _ T17.heap _
   rw [e17]
   exact ⟨ob13, k13, _, [E], 1, rfl, N18, KC18, V17, f19, Lvs.one ⟨b, kb, n, f20, f21, f22, f23, f24, hn, (by omega)⟩, rfl, by decide, by decide, own_cv1⟩
 ·refine g_icmpNo X6 hx hby dc44_51 (feq hc51_1).1 ?_
  show Go _ _ _ (T6.setTop (mkF mi 54 #[.val (.ref o), .val (.int 47), .val (.int (-1)), .val (.int 0), .val (.int 0), .val (.int 0), .val (.int (ix E (47 : Int32) 0)), .val (.int 0), .val (.ref ob1), .val .null, .unset, .unset] [])) _
  obtain ⟨T, hT1, hT2, hT3, hT4⟩ := own_ixk (Nat.zero_le _) hc51_1
  rw [hT3]
  show Go _ _ _ (T6.setTop (mkF mi 54 #[.val (.ref o), .val (.int 47), .val (.int (-1)), .val (.int 0), .val (.int 0), .val (.int 0), .val (.int (Int32.ofNat T)), .val (.int 0), .val (.ref ob1), .val .null, .unset, .unset] [])) _
  refine g_iload X6 hx hby dc44_54 rfl ?_
  refine g_ifYes X6 hx hby dc44_56 ((if0 _ _).trans (teq rfl).1) (pc0 := 56) (pc' := 67) rfl (by decide) (by decide) ?_
  refine g_aload X6 hx hby dc44_67 rfl rfl ?_
  refine g_aloadN X6 hx hby dc44_69 rfl rfl ?_
  refine g_iload X6 hx hby dc44_70 rfl ?_
  refine g_iload X6 hx hby dc44_72 rfl ?_
  show Go _ _ _ (T6.setTop (mkF mi 74 #[.val (.ref o), .val (.int 47), .val (.int (-1)), .val (.int 0), .val (.int 0), .val (.int 0), .val (.int (Int32.ofNat T)), .val (.int 0), .val (.ref ob1), .val .null, .unset, .unset] [(.int (Int32.ofNat T)), (.int 0), (.ref o), (.ref ob1)])) _
  have CR25 : CHr Z own_EL si.vm h0 si.vm h3 := (CHr.refl hCH).trans (CHr.keep KL5 sf0 (CHr.refl hCH).1)
  have f26 := (own_sta_keep (SF.ext E1) K3 (nsS A1.nostat ns0))
  obtain ⟨cq27, kq27, q27a, q27b, q27c⟩ := isOf hZ e6 f7
  obtain ⟨_, _, ⟨T27, L27, k27, n27⟩, -, X27, hS27', hG27, ⟨Lc27, hQ27, l27, y27, z27, hCr27⟩, st27⟩ := (own_rb X6).virtualBackS hx (y := zy30) (z := zy30) hown (mvT hZ (hw _ (own_m 153 rfl))) (mvT hZ (hw _ (own_m 154 rfl))) (notFace_of_selects (args := #[]) (mvT hZ (hw _ (own_m 156 rfl)))) (mvT hZ (hw _ (own_m 156 rfl))) (mvT hZ (hw _ (own_m 155 rfl))) (by decide) (backOfSH (s := si) (vm0 := si.vm) (EL := own_EL) (W := 1) (rmSu l Z a0 hw [] o 0 T b kb n E cz fm h3 n0 Zs5 hEL f7 f8 f9 f10 f11 f12 hcz f26 hfm hE hn (by omega) (Nat.zero_le _) (fun q => by have := q.2; omega)) hZ (hw _ (own_m 157 rfl)) (hw _ (own_m 9 rfl)) (by decide) (by decide) hEL CR25.1) q27a q27c (g := (mkF mi 74 #[.val (.ref o), .val (.int 47), .val (.int (-1)), .val (.int 0), .val (.int 0), .val (.int 0), .val (.int (Int32.ofNat T)), .val (.int 0), .val (.ref ob1), .val .null, .unset, .unset] [(.int (Int32.ofNat T)), (.int 0), (.ref o), (.ref ob1)])) rfl (by rw [hml]; rfl) (Steps.refl _) (argsL := [(.int 0), (.int (Int32.ofNat T))]) (rest := [(.ref ob1)]) (lenOf pd_24 rfl) rfl (by show 2 * 0 + _ ≤ _; exact Nat.le_of_eq rfl) (hb hby dc44_74) (fun _ _ => ⟨rfl, e6, (by decide : 1 + 2 ≤ _), (by decide : 3 + 8 ≤ _)⟩)
  dsimp only [Pt.U, Pt.locs, Pt.cells, Pt.slots] at X27 l27 y27 z27 st27 hQ27 hCr27 hS27' hG27
  subst y27 z27
  have X27 := own_cs X27 (cells' := 3) (slots' := 11) rfl rfl
  obtain ⟨X27, hS27, hZ, hown⟩ := rebS ((State.WarmedH.refl si).since h0.size) (own_leT e6 (Nat.le_trans (Nat.le_refl _) KL5.1)) X27 hS27' hG27 hZ hown
  obtain ⟨h27, e27⟩ : ∃ z, T27.heap = z := ⟨_, rfl⟩
  rw [e27] at hQ27
  obtain ⟨s27_, b27, kb27, rfl, N27q, K27, SE27, SCo27, SVa27, SAr27, SEb27⟩ := hQ27
  have N27 := own_fr l27 (Fr.app N6 N27q)
  have Zs28 : n0 ≤ h27.size := Nat.le_trans Zs5 K27.1
  have KC28 : Keep h0 h27 [] := KC5.trans K27 all0
  have KL28 : Keep h0 h27 [] := KL5.trans K27 all0
  have f29 := (LE3.keep K27)
  have ne_s27__ob1 : s27_ ≠ ob1 := Exa.ne SE27 f29 (by decide)
  have ne_b27_ob1 : b27 ≠ ob1 := Exa.ne SEb27 f29 (by decide)
  rw [e27] at hCr27
  have CS27 : CHr Z own_EL si.vm h0 T27.vm h27 := CR25.trans hCr27
  have sf27_ob1 : Safe Z own_EL T27.vm h27 ob1 := Safe.exa hZ.alike f29 (by decide) (by decide)
  refine Go.tr st27 ?_
  show Go _ _ _ (T27.setTop (mkF mi 77 #[.val (.ref o), .val (.int 47), .val (.int (-1)), .val (.int 0), .val (.int 0), .val (.int 0), .val (.int (Int32.ofNat T)), .val (.int 0), .val (.ref ob1), .val .null, .unset, .unset] [(.ref s27_), (.ref ob1)])) _
  have f31 := (LD3.keep K27 nin0)
  have f32 := (LZ3.keep K27 nin0)
  have f33 := (LM3.keep K27 nin0)
  have f34 := (own_sta_keep (own_sta_keep f4 K3 (nsS A1.nostat ns0)) K27 ns0)
  have ne_de_ob1 : de ≠ ob1 := Nat.ne_of_lt (Nat.lt_of_lt_of_le DE.lt (Nat.le_of_eq g1.symm))
  have f35 := (((DV.ext E1).keep K3 (ninS ne_de_ob1 nin0)).keep K27 nin0)
  have f36 := (((DE.ext E1).keep K3).keep K27)
  obtain ⟨cq30, kq30, q30a, q30b, q30c⟩ := isOf hZ e27 f29
  obtain ⟨_, _, ⟨T30, L30, k30, n30⟩, -, X30, ⟨Lc30, hQ30, l30, y30, z30⟩, st30⟩ := X27.virtualBack hx (y := zy37) (z := zy37) hown (mvT hZ (hw _ (own_m 168 rfl))) (mvT hZ (hw _ (own_m 169 rfl))) (notFace_of_selects (args := #[]) (mvT hZ (hw _ (own_m 171 rfl)))) (mvT hZ (hw _ (own_m 171 rfl))) (mvT hZ (hw _ (own_m 170 rfl))) (by decide) (backOf (W := 0) (rmA10 l Z a0 hw [] ob1 s27_ de kde h27 n0 Zs28 f29 f31 f32 f33 f34 f35 f36 g_ob1 ne_de_ob1 SE27 ne_s27__ob1) hZ (hw _ (own_m 172 rfl)) (hw _ (own_m 130 rfl)) (by decide) (by decide)) q30a q30c (g := (mkF mi 77 #[.val (.ref o), .val (.int 47), .val (.int (-1)), .val (.int 0), .val (.int 0), .val (.int 0), .val (.int (Int32.ofNat T)), .val (.int 0), .val (.ref ob1), .val .null, .unset, .unset] [(.ref s27_), (.ref ob1)])) rfl (by rw [hml]; rfl) (Steps.refl _) (argsL := [(.ref s27_)]) (rest := []) (lenOf pd_25 rfl) rfl (by show 2 * 0 + _ ≤ _; exact Nat.le_of_eq rfl) (hb hby dc44_77) (fun _ _ => ⟨rfl, e27, (by decide : 3 + 1 ≤ _), (by decide : 11 + 10 ≤ _)⟩)
  dsimp only [Pt.U, Pt.locs, Pt.cells, Pt.slots] at X30 l30 y30 z30 st30 hQ30
  subst y30 z30
  have X30 := own_cs X30 (cells' := 4) (slots' := 21) rfl rfl
  obtain ⟨h30, e30⟩ : ∃ z, T30.heap = z := ⟨_, rfl⟩
  rw [e30] at hQ30
  obtain ⟨rfl, N30q, K30, d30, kd30, z_d30, g_d30, LE30, LD30, LZ30, LM30, EA30, EB30, OV30⟩ := hQ30
  have N30 := own_fr l30 (Fr.app N27 N30q)
  have Zs37 : n0 ≤ h30.size := Nat.le_trans Zs28 K30.1
  have KC37 : Keep h0 h30 [] := KC28.trans K30 (allS (P := fun x => x ∈ [] ∨ h0.size ≤ x) (Or.inr sz_ob1) all0)
  have KL37 : Keep h27 h30 [ob1] := (Keep.refl h27 [ob1]).trans K30 (allS (P := fun x => x ∈ [ob1] ∨ h27.size ≤ x) (Or.inl (List.mem_of_getElem? (i := 0) rfl)) all0)
  have sz_d30 : h0.size ≤ d30 := Nat.le_trans KC28.1 z_d30
  have szl_d30 : h27.size ≤ d30 := Nat.le_trans (Keep.refl h27 [ob1]).1 z_d30
  refine Go.tr st30 ?_
  refine Go.s (XS.pop X30.here hx rfl (hb hby dc44_80) rfl rfl) ?_
  refine g_iloadN X30 hx hby dc44_81 rfl ?_
  refine g_ifYes X30 hx hby dc44_82 ((if0 _ _).trans (teq rfl).1) (pc0 := 82) (pc' := 93) rfl (by decide) (by decide) ?_
  refine g_iload X30 hx hby dc44_93 rfl ?_
  refine g_iconst X30 hx hby dc44_95 (v := 1) rfl ?_
  refine g_iadd X30 hx hby dc44_96 rfl ?_
  show Go _ _ _ (T30.setTop (mkF mi 97 #[.val (.ref o), .val (.int 47), .val (.int (-1)), .val (.int 0), .val (.int 0), .val (.int 0), .val (.int (Int32.ofNat T)), .val (.int 0), .val (.ref ob1), .val .null, .unset, .unset] [(.int ((Int32.ofNat T) + (1 : Int32)))])) _
  rw [own_ofS]
  show Go _ _ _ (T30.setTop (mkF mi 97 #[.val (.ref o), .val (.int 47), .val (.int (-1)), .val (.int 0), .val (.int 0), .val (.int 0), .val (.int (Int32.ofNat T)), .val (.int 0), .val (.ref ob1), .val .null, .unset, .unset] [(.int (Int32.ofNat (T + 1)))])) _
  refine g_istore X30 hx hby dc44_97 (l' := #[.val (.ref o), .val (.int 47), .val (.int (-1)), .val (.int 0), .val (.int 0), .val (.int (Int32.ofNat (T + 1))), .val (.int (Int32.ofNat T)), .val (.int 0), .val (.ref ob1), .val .null, .unset, .unset]) rfl ?_
  refine g_iinc X30 hx hby dc44_99 rfl (x' := 1) rfl (l' := #[.val (.ref o), .val (.int 47), .val (.int (-1)), .val (.int 0), .val (.int 1), .val (.int (Int32.ofNat (T + 1))), .val (.int (Int32.ofNat T)), .val (.int 0), .val (.ref ob1), .val .null, .unset, .unset]) rfl ?_
  refine g_goto X30 hx hby dc44_102 (pc0 := 102) (pc' := 40) rfl (by decide) (by decide) ?_
  show Go _ _ _ (T30.setTop (mkF mi 40 #[.val (.ref o), .val (.int 47), .val (.int (-1)), .val (.int 0), .val (.int 1), .val (.int (Int32.ofNat (T + 1))), .val (.int (Int32.ofNat T)), .val (.int 0), .val (.ref ob1), .val .null, .unset, .unset] [])) _
  have CR39 : CHr Z own_EL si.vm h0 T27.vm h30 := CS27.trans (CHr.keep KL37 (sfS sf27_ob1 sf0) CS27.1)
  have f40 := (SE27.keep K30)
  have f41 := (SCo27.keep K30 (ninS ne_s27__ob1 nin0))
  have f42 := (SVa27.keep K30 (ninS ne_s27__ob1 nin0))
  have f43 := (SAr27.keep K30 (ninS ne_b27_ob1 nin0))
  have f44 := (SEb27.keep K30)
  have HLe38 : Lvs Z h30 [(.ref s27_), .null, .null, .null, .null, .null, .null, .null, .null, .null] [((E.drop 0).take (T - 0))] := Lvs.one ⟨b27, kb27, (Int32.ofNat (T - 0)), f40, f41, f42, f43, f44, (by rw [own_ofN (by omega), own_dtl (by omega)]), (by rw [own_dtl (by omega)]; omega)⟩
  have ne_ob1_d30 : ob1 ≠ d30 := Nat.ne_of_lt (Nat.lt_of_lt_of_le f29.lt z_d30)
  have ne_o_d30 : o ≠ d30 := Nat.ne_of_lt (Nat.lt_of_lt_of_le (f7.keep K27).lt z_d30)
  have ne_b_d30 : b ≠ d30 := Nat.ne_of_lt (Nat.lt_of_lt_of_le (f11.keep K27).lt z_d30)
  have f45 := ((f7.keep K27).keep K30)
  have f46 := ((f8.keep K27 nin0).keep K30 (ninS ne_o_ob1 nin0))
  have f47 := ((f9.keep K27 nin0).keep K30 (ninS ne_o_ob1 nin0))
  have f48 := ((f10.keep K27 nin0).keep K30 (ninS ne_b_ob1 nin0))
  have f49 := ((f11.keep K27).keep K30)
  have f50 := (own_sta_keep (own_sta_keep f12 K27 ns0) K30 (nsS f29.nostat ns0))
  have f51 := (own_sta_keep (own_sta_keep f26 K27 ns0) K30 (nsS f29.nostat ns0))
  refine own_spL l Z a0 hw hx hby hml hZ hown o ob1 d30 kd30 b kb n E cz fm h30 n0 hEL hcz hfm OV30 hE hn g_ob1 g_d30 ne_ob1_d30 ne_o_ob1 ne_o_d30 ne_b_ob1 ne_b_d30 (fun T38 vm38 L38 h38 k F u4 u6 vs Ps X38 e38 N38 K38 S38 Z38 O38 C38 hF hF1 hk1 hkF hFc hCv hPl hvl LE38 LD38 LZ38 LM38 EA38 EB38 HLx38 => ?_) 3 1 (T + 1) (1 : Int32) (Int32.ofNat T) [(.ref s27_), .null, .null, .null, .null, .null, .null, .null, .null, .null] [((E.drop 0).take (T - 0))] T27.vm _ _ _ 4 21 (by omega) (by decide) (by decide) (by omega) (by omega) (by omega) (by omega) hT4 (Cv.step (Ps := []) Cv.nil (Or.inl rfl) (Nat.zero_le _) (by omega) (Or.inr hT4)) rfl rfl X30 Zs37 e30 N30 (Keep.refl _ _) ((State.WarmedH.refl _).since _) hZ hown (CHr.refl CR39.1) f45 f46 f47 f48 f49 f50 f51 LE30 LD30 LZ30 LM30 EA30 EB30 HLe38
  have Zs52 : n0 ≤ h38.size := Nat.le_trans Zs37 K38.1
  have KC52 : Keep h0 h38 [] := KC37.trans K38 (allS (P := fun x => x ∈ [] ∨ h0.size ≤ x) (Or.inr sz_ob1) (allS (P := fun x => x ∈ [] ∨ h0.size ≤ x) (Or.inr sz_d30) all0))
  have KL52 : Keep h27 h38 [ob1] := KL37.trans K38 (allS (P := fun x => x ∈ [ob1] ∨ h27.size ≤ x) (Or.inl (List.mem_of_getElem? (i := 0) rfl)) (allS (P := fun x => x ∈ [ob1] ∨ h27.size ≤ x) (Or.inr szl_d30) all0))
  have hZ : Z.Warmed39 (si.setVm vm38).vm := Z38
  have hown : (si.setVm vm38).vm.findClass "java/lang/String" = some mi.cls := O38
  have CS38 : CHr Z own_EL si.vm h0 vm38 h38 := CR39.trans C38
  have hS38 : si.Since vm38 h38.size := State.Since.trans hS27 S38 (Nat.le_trans (Nat.le_trans (own_leH e27) KL37.1) K38.1)
  have sf38_ob1 : Safe Z own_EL vm38 h38 ob1 := Safe.exa hZ.alike LE38 (by decide) (by decide)
  have sf38_d30 : Safe Z own_EL vm38 h38 d30 := Safe.exa hZ.alike EB38 (by decide) (by decide)
  show Go _ _ _ (T38.setTop (mkF mi 135 #[.val (.ref o), .val (.int 47), .val (.int (-1)), .val (.int 0), .val (.int u4), .val (.int (Int32.ofNat F)), .val (.int u6), .val (.int 0), .val (.ref ob1), .val .null, .unset, .unset] [])) _
  refine g_iload X38 hx hby dc44_135 rfl ?_
  refine g_ifYes X38 hx hby dc44_137 ((if0 _ _).trans (feq (fun q => absurd ((own_ofeq (n := F) (m := 0) (by omega) (by omega)).mp q) (by omega))).2) (pc0 := 137) (pc' := 149) rfl (by decide) (by decide) ?_
  refine g_iload X38 hx hby dc44_149 rfl ?_
  refine g_ifYes X38 hx hby dc44_151 ((if0 _ _).trans (teq rfl).1) (pc0 := 151) (pc' := 160) rfl (by decide) (by decide) ?_
  refine g_aload X38 hx hby dc44_160 rfl rfl ?_
  refine g_aloadN X38 hx hby dc44_162 rfl rfl ?_
  refine g_iload X38 hx hby dc44_163 rfl ?_
  refine g_aloadN X38 hx hby dc44_165 rfl rfl ?_
  have f54 := (f45.keep K38)
  have f55 := (f46.keep K38 (ninS ne_o_ob1 (ninS ne_o_d30 nin0)))
  have f56 := (f47.keep K38 (ninS ne_o_ob1 (ninS ne_o_d30 nin0)))
  have f57 := (f48.keep K38 (ninS ne_b_ob1 (ninS ne_b_d30 nin0)))
  have f58 := (f49.keep K38)
  have f59 := (own_sta_keep f50 K38 (nsS LE30.nostat (nsS EB30.nostat ns0)))
  obtain ⟨cq53, kq53, q53a, q53b, q53c⟩ := isOf hZ e38 f54
  obtain ⟨_, _, ⟨T53, L53, k53, n53⟩, -, X53, ⟨Lc53, hQ53, l53, y53, z53⟩, st53⟩ := X38.virtualBack hx (y := zy1) (z := zy1) hown (mvT hZ (hw _ (own_m 61 rfl))) (mvT hZ (hw _ (own_m 62 rfl))) (notFace_of_selects (args := #[]) (mvT hZ (hw _ (own_m 64 rfl)))) (mvT hZ (hw _ (own_m 64 rfl))) (mvT hZ (hw _ (own_m 63 rfl))) (by decide) (backOf (W := 3) (rmLn l Z a0 hw [] o b kb n E cz h38 n0 Zs52 f54 f55 f56 f57 f58 f59 hcz) hZ (hw _ (own_m 65 rfl)) (hw _ (own_m 9 rfl)) (by decide) (by decide)) q53a q53c (g := (mkF mi 166 #[.val (.ref o), .val (.int 47), .val (.int (-1)), .val (.int 0), .val (.int u4), .val (.int (Int32.ofNat F)), .val (.int u6), .val (.int 0), .val (.ref ob1), .val .null, .unset, .unset] [(.ref o), (.int (Int32.ofNat F)), (.ref o), (.ref ob1)])) rfl (by rw [hml]; rfl) (Steps.refl _) (argsL := []) (rest := [(.int (Int32.ofNat F)), (.ref o), (.ref ob1)]) (lenOf pd_13 rfl) rfl (by show 2 * 0 + _ ≤ _; exact Nat.le_of_eq rfl) (hb hby dc44_166) (fun _ _ => ⟨rfl, e38, (by decide : 10 + 0 ≤ _), (by decide : 45 + 0 ≤ _)⟩)
  dsimp only [Pt.U, Pt.locs, Pt.cells, Pt.slots] at X53 l53 y53 z53 st53 hQ53
  subst y53 z53
  have X53 := own_cs X53 (cells' := 10) (slots' := 45) rfl rfl
  obtain ⟨rfl, N53q, e53⟩ := hQ53
  have N53 := own_fr l53 (Fr.app N38 N53q)
  refine Go.tr st53 ?_
  show Go _ _ _ (T53.setTop (mkF mi 169 #[.val (.ref o), .val (.int 47), .val (.int (-1)), .val (.int 0), .val (.int u4), .val (.int (Int32.ofNat F)), .val (.int u6), .val (.int 0), .val (.ref ob1), .val .null, .unset, .unset] [(.int n), (.int (Int32.ofNat F)), (.ref o), (.ref ob1)])) _
  have hnE : n = Int32.ofNat E.length := by apply Int32.toInt_inj.mp; rw [own_ofN (by omega), hn]
  rw [hnE]
  show Go _ _ _ (T53.setTop (mkF mi 169 #[.val (.ref o), .val (.int 47), .val (.int (-1)), .val (.int 0), .val (.int u4), .val (.int (Int32.ofNat F)), .val (.int u6), .val (.int 0), .val (.ref ob1), .val .null, .unset, .unset] [(.int (Int32.ofNat E.length)), (.int (Int32.ofNat F)), (.ref o), (.ref ob1)])) _
  have CR60 : CHr Z own_EL si.vm h0 vm38 h38 := CS38.trans (CHr.keep (Keep.refl h38 [ob1, d30]) (sfS sf38_ob1 (sfS sf38_d30 sf0)) CS38.1)
  have f61 := (own_sta_keep f51 K38 (nsS LE30.nostat (nsS EB30.nostat ns0)))
  obtain ⟨cq62, kq62, q62a, q62b, q62c⟩ := isOf hZ e53 f54
  obtain ⟨_, _, ⟨T62, L62, k62, n62⟩, -, X62, hS62', hG62, ⟨Lc62, hQ62, l62, y62, z62, hCr62⟩, st62⟩ := X53.virtualBackS hx (y := zy30) (z := zy30) hown (mvT hZ (hw _ (own_m 153 rfl))) (mvT hZ (hw _ (own_m 154 rfl))) (notFace_of_selects (args := #[]) (mvT hZ (hw _ (own_m 156 rfl)))) (mvT hZ (hw _ (own_m 156 rfl))) (mvT hZ (hw _ (own_m 155 rfl))) (by decide) (backOfSH (s := si) (vm0 := vm38) (EL := own_EL) (W := 1) (rmSu l Z a0 hw [] o F E.length b kb n E cz fm h38 n0 Zs52 hEL f54 f55 f56 f57 f58 f59 hcz f61 hfm hE hn (Nat.le_refl _) hF (fun q => absurd q.1 (by omega))) hZ (hw _ (own_m 157 rfl)) (hw _ (own_m 9 rfl)) (by decide) (by decide) hEL CR60.1) q62a q62c (g := (mkF mi 169 #[.val (.ref o), .val (.int 47), .val (.int (-1)), .val (.int 0), .val (.int u4), .val (.int (Int32.ofNat F)), .val (.int u6), .val (.int 0), .val (.ref ob1), .val .null, .unset, .unset] [(.int (Int32.ofNat E.length)), (.int (Int32.ofNat F)), (.ref o), (.ref ob1)])) rfl (by rw [hml]; rfl) (Steps.refl _) (argsL := [(.int (Int32.ofNat F)), (.int (Int32.ofNat E.length))]) (rest := [(.ref ob1)]) (lenOf pd_24 rfl) rfl (by show 2 * 0 + _ ≤ _; exact Nat.le_of_eq rfl) (hb hby dc44_169) (fun _ _ => ⟨rfl, e53, (by decide : 10 + 2 ≤ _), (by decide : 45 + 8 ≤ _)⟩)
  dsimp only [Pt.U, Pt.locs, Pt.cells, Pt.slots] at X62 l62 y62 z62 st62 hQ62 hCr62 hS62' hG62
  subst y62 z62
  have X62 := own_cs X62 (cells' := 12) (slots' := 53) rfl rfl
  obtain ⟨X62, hS62, hZ, hown⟩ := rebS hS38 (own_leT e53 (Nat.le_trans (Nat.le_refl _) (Keep.refl h38 [ob1, d30]).1)) X62 hS62' hG62 hZ hown
  obtain ⟨h62, e62⟩ : ∃ z, T62.heap = z := ⟨_, rfl⟩
  rw [e62] at hQ62
  obtain ⟨s62_, b62, kb62, rfl, N62q, K62, SE62, SCo62, SVa62, SAr62, SEb62⟩ := hQ62
  have N62 := own_fr l62 (Fr.app N53 N62q)
  have Zs63 : n0 ≤ h62.size := Nat.le_trans Zs52 K62.1
  have KC63 : Keep h0 h62 [] := KC52.trans K62 all0
  have KL63 : Keep h38 h62 [ob1, d30] := (Keep.refl h38 [ob1, d30]).trans K62 all0
  have f64 := (LE38.keep K62)
  have ne_s62__ob1 : s62_ ≠ ob1 := Exa.ne SE62 f64 (by decide)
  have ne_b62_ob1 : b62 ≠ ob1 := Exa.ne SEb62 f64 (by decide)
  have f65 := (EB38.keep K62)
  have ne_s62__d30 : s62_ ≠ d30 := Exa.ne SE62 f65 (by decide)
  have ne_b62_d30 : b62 ≠ d30 := Exa.ne SEb62 f65 (by decide)
  rw [e62] at hCr62
  have CS62 : CHr Z own_EL si.vm h0 T62.vm h62 := CR60.trans hCr62
  have sf62_ob1 : Safe Z own_EL T62.vm h62 ob1 := Safe.exa hZ.alike f64 (by decide) (by decide)
  have sf62_d30 : Safe Z own_EL T62.vm h62 d30 := Safe.exa hZ.alike f65 (by decide) (by decide)
  refine Go.tr st62 ?_
  show Go _ _ _ (T62.setTop (mkF mi 172 #[.val (.ref o), .val (.int 47), .val (.int (-1)), .val (.int 0), .val (.int u4), .val (.int (Int32.ofNat F)), .val (.int u6), .val (.int 0), .val (.ref ob1), .val .null, .unset, .unset] [(.ref s62_), (.ref ob1)])) _
  have nq66 : ∀ x ∈ [ob1, d30], Nb Z h62 x := allS (own_isn f64 (by decide) (by decide)) (allS (own_isn f65 (by decide) (by decide)) all0)
  have f68 := (LD38.keep K62 nin0)
  have f69 := (LZ38.keep K62 nin0)
  have f70 := (LM38.keep K62 nin0)
  have f71 := (EA38.keep K62 nin0)
  obtain ⟨cq67, kq67, q67a, q67b, q67c⟩ := isOf hZ e62 f64
  obtain ⟨_, _, ⟨T67, L67, k67, n67⟩, -, X67, ⟨Lc67, hQ67, l67, y67, z67⟩, st67⟩ := X62.virtualBack hx (y := zy37) (z := zy37) hown (mvT hZ (hw _ (own_m 168 rfl))) (mvT hZ (hw _ (own_m 169 rfl))) (notFace_of_selects (args := #[]) (mvT hZ (hw _ (own_m 171 rfl)))) (mvT hZ (hw _ (own_m 171 rfl))) (mvT hZ (hw _ (own_m 170 rfl))) (by decide) (backOf (W := 0) (rmA1k l Z a0 hw [] ob1 s62_ d30 kd30 vs k h62 n0 Zs63 f64 f68 f69 f70 f71 f65 OV30 g_ob1 g_d30 ne_ob1_d30 SE62 ne_s62__ob1 ne_s62__d30 (by omega) hvl) hZ (hw _ (own_m 172 rfl)) (hw _ (own_m 130 rfl)) (by decide) (by decide)) q67a q67c (g := (mkF mi 172 #[.val (.ref o), .val (.int 47), .val (.int (-1)), .val (.int 0), .val (.int u4), .val (.int (Int32.ofNat F)), .val (.int u6), .val (.int 0), .val (.ref ob1), .val .null, .unset, .unset] [(.ref s62_), (.ref ob1)])) rfl (by rw [hml]; rfl) (Steps.refl _) (argsL := [(.ref s62_)]) (rest := []) (lenOf pd_25 rfl) rfl (by show 2 * 0 + _ ≤ _; exact Nat.le_of_eq rfl) (hb hby dc44_172) (fun _ _ => ⟨rfl, e62, (by decide : 12 + 0 ≤ _), (by decide : 53 + 0 ≤ _)⟩)
  dsimp only [Pt.U, Pt.locs, Pt.cells, Pt.slots] at X67 l67 y67 z67 st67 hQ67
  subst y67 z67
  have X67 := own_cs X67 (cells' := 12) (slots' := 53) rfl rfl
  obtain ⟨h67, e67⟩ : ∃ z, T67.heap = z := ⟨_, rfl⟩
  rw [e67] at hQ67
  obtain ⟨rfl, N67q, K67, LE67, LD67, LZ67, LM67, EA67, EB67⟩ := hQ67
  have N67 := own_fr l67 (Fr.app N62 N67q)
  have Zs72 : n0 ≤ h67.size := Nat.le_trans Zs63 K67.1
  have KC72 : Keep h0 h67 [] := KC63.trans K67 (allS (P := fun x => x ∈ [] ∨ h0.size ≤ x) (Or.inr sz_ob1) (allS (P := fun x => x ∈ [] ∨ h0.size ≤ x) (Or.inr sz_d30) all0))
  have KL72 : Keep h62 h67 [ob1, d30] := (Keep.refl h62 [ob1, d30]).trans K67 (allS (P := fun x => x ∈ [ob1, d30] ∨ h62.size ≤ x) (Or.inl (List.mem_of_getElem? (i := 0) rfl)) (allS (P := fun x => x ∈ [ob1, d30] ∨ h62.size ≤ x) (Or.inl (List.mem_of_getElem? (i := 1) rfl)) all0))
  refine Go.tr st67 ?_
  show Go _ _ _ (T67.setTop (mkF mi 175 #[.val (.ref o), .val (.int 47), .val (.int (-1)), .val (.int 0), .val (.int u4), .val (.int (Int32.ofNat F)), .val (.int u6), .val (.int 0), .val (.ref ob1), .val .null, .unset, .unset] [(.int 1)])) _
  have f74 := (SE62.keep K67)
  have f75 := (SCo62.keep K67 (ninS ne_s62__ob1 (ninS ne_s62__d30 nin0)))
  have f76 := (SVa62.keep K67 (ninS ne_s62__ob1 (ninS ne_s62__d30 nin0)))
  have f77 := (SAr62.keep K67 (ninS ne_b62_ob1 (ninS ne_b62_d30 nin0)))
  have f78 := (SEb62.keep K67)
  have HLs73 : Lvs Z h67 (vs.set k (.ref s62_)) (Ps ++ [((E.drop F).take (E.length - F))]) := ((HLx38.keep K62 all0).keep K67 nq66).snoc hPl (by omega) ⟨b62, kb62, (Int32.ofNat (E.length - F)), f74, f75, f76, f77, f78, (by rw [own_ofN (by omega), own_dtl (by omega)]), (by rw [own_dtl (by omega)]; omega)⟩
  have hPl2 : (Ps ++ [((E.drop F).take (E.length - F))]).length = k + 1 := by rw [List.length_append, hPl]; rfl
  refine Go.s (XS.pop X67.here hx rfl (hb hby dc44_175) rfl rfl) ?_
  refine g_aload X67 hx hby dc44_176 rfl rfl ?_
  obtain ⟨cq79, kq79, q79a, q79b, q79c⟩ := isOf hZ e67 LE67
  obtain ⟨_, _, ⟨T79, L79, k79, n79⟩, -, X79, ⟨Lc79, hQ79, l79, y79, z79⟩, st79⟩ := X67.virtualBack hx (y := zy38) (z := zy38) hown (mvT hZ (hw _ (own_m 196 rfl))) (mvT hZ (hw _ (own_m 197 rfl))) (notFace_of_selects (args := #[]) (mvT hZ (hw _ (own_m 199 rfl)))) (mvT hZ (hw _ (own_m 199 rfl))) (mvT hZ (hw _ (own_m 198 rfl))) (by decide) (backOf (W := 0) (rmSz l Z a0 hw [] ob1 (Int32.ofNat (k + 1)) h67 n0 Zs72 LZ67) hZ (hw _ (own_m 200 rfl)) (hw _ (own_m 130 rfl)) (by decide) (by decide)) q79a q79c (g := (mkF mi 178 #[.val (.ref o), .val (.int 47), .val (.int (-1)), .val (.int 0), .val (.int u4), .val (.int (Int32.ofNat F)), .val (.int u6), .val (.int 0), .val (.ref ob1), .val .null, .unset, .unset] [(.ref ob1)])) rfl (by rw [hml]; rfl) (Steps.refl _) (argsL := []) (rest := []) (lenOf pd_13 rfl) rfl (by show 2 * 0 + _ ≤ _; exact Nat.le_of_eq rfl) (hb hby dc44_178) (fun _ _ => ⟨rfl, e67, (by decide : 12 + 0 ≤ _), (by decide : 53 + 0 ≤ _)⟩)
  dsimp only [Pt.U, Pt.locs, Pt.cells, Pt.slots] at X79 l79 y79 z79 st79 hQ79
  subst y79 z79
  have X79 := own_cs X79 (cells' := 12) (slots' := 53) rfl rfl
  obtain ⟨rfl, N79q, e79⟩ := hQ79
  have N79 := own_fr l79 (Fr.app N67 N79q)
  refine Go.tr st79 ?_
  refine g_istore X79 hx hby dc44_181 (l' := #[.val (.ref o), .val (.int 47), .val (.int (-1)), .val (.int 0), .val (.int u4), .val (.int (Int32.ofNat F)), .val (.int u6), .val (.int 0), .val (.ref ob1), .val .null, .val (.int (Int32.ofNat (k + 1))), .unset]) rfl ?_
  refine g_iloadN X79 hx hby dc44_183 rfl ?_
  refine g_ifYes X79 hx hby dc44_184 ((if0 _ _).trans (feq (by decide)).2) (pc0 := 184) (pc' := 216) rfl (by decide) (by decide) ?_
  refine g_iload X79 hx hby dc44_216 rfl ?_
  show Go _ _ _ (T79.setTop (mkF mi 218 #[.val (.ref o), .val (.int 47), .val (.int (-1)), .val (.int 0), .val (.int u4), .val (.int (Int32.ofNat F)), .val (.int u6), .val (.int 0), .val (.ref ob1), .val .null, .val (.int (Int32.ofNat (k + 1))), .unset] [(.int (Int32.ofNat (k + 1)))])) _
  obtain ⟨T80, h80, k80, X80, e80, E80, A80, EX80, O80, st80⟩ := own_newRE X79 hx hZ hown (hw _ (own_m 201 rfl)) (hw _ (own_m 202 rfl)) e79 (g := (mkF mi 218 #[.val (.ref o), .val (.int 47), .val (.int (-1)), .val (.int 0), .val (.int u4), .val (.int (Int32.ofNat F)), .val (.int u6), .val (.int 0), .val (.ref ob1), .val .null, .val (.int (Int32.ofNat (k + 1))), .unset] [(.int (Int32.ofNat (k + 1)))])) rfl (hb hby dc44_218) rfl (own_ofN0 (by omega)) (cap := 5) (by rw [own_ofNn (by omega)]; omega) (by decide) (by decide) (by decide) (ad := "[Ljava/lang/String;") (by decide)
  obtain ⟨ob80, g80⟩ : ∃ z, z = h67.size := ⟨_, rfl⟩
  rw [← g80] at A80 EX80 st80
  have Zs81 : n0 ≤ h80.size := Nat.le_trans Zs72 E80.1
  have KC81 : Keep h0 h80 [] := KC72.ext E80
  have KL81 : Keep h62 h80 [ob1, d30] := KL72.ext E80
  have g_ob80 : n0 ≤ ob80 := Nat.le_trans Zs72 (Nat.le_of_eq g80.symm)
  have sz_ob80 : h0.size ≤ ob80 := Nat.le_trans KC72.1 (Nat.le_of_eq g80.symm)
  have szl_ob80 : h62.size ≤ ob80 := Nat.le_trans KL72.1 (Nat.le_of_eq g80.symm)
  have V80 : Arv Z h80 ob80 k80 (.object "java/lang/String") (Int32.ofNat (k + 1)) [] .null := Arv.new A80 (own_ofN0 (by omega))
  refine Go.st st80 ?_
  show Go _ _ _ (T80.setTop (mkF mi 221 #[.val (.ref o), .val (.int 47), .val (.int (-1)), .val (.int 0), .val (.int u4), .val (.int (Int32.ofNat F)), .val (.int u6), .val (.int 0), .val (.ref ob1), .val .null, .val (.int (Int32.ofNat (k + 1))), .unset] [(.ref ob80)])) _
  refine g_astore X80 hx hby dc44_221 rfl (l' := #[.val (.ref o), .val (.int 47), .val (.int (-1)), .val (.int 0), .val (.int u4), .val (.int (Int32.ofNat F)), .val (.int u6), .val (.int 0), .val (.ref ob1), .val .null, .val (.int (Int32.ofNat (k + 1))), .val (.ref ob80)]) rfl ?_
  refine g_aload X80 hx hby dc44_223 rfl rfl ?_
  refine g_iconst X80 hx hby dc44_225 (v := 0) rfl ?_
  refine g_iload X80 hx hby dc44_226 rfl ?_
  have f83 := (LE67.ext E80)
  have f84 := (LZ67.ext E80)
  have f85 := (LM67.ext E80)
  obtain ⟨cq82, kq82, q82a, q82b, q82c⟩ := isOf hZ e80 f83
  obtain ⟨_, _, ⟨T82, L82, k82, n82⟩, -, X82, ⟨Lc82, hQ82, l82, y82, z82⟩, st82⟩ := X80.virtualBack hx (y := zy41) (z := zy41) hown (mvT hZ (hw _ (own_m 203 rfl))) (mvT hZ (hw _ (own_m 204 rfl))) (notFace_of_selects (args := #[]) (mvT hZ (hw _ (own_m 206 rfl)))) (mvT hZ (hw _ (own_m 206 rfl))) (mvT hZ (hw _ (own_m 205 rfl))) (by decide) (backOf (W := 0) (rmSL l Z a0 hw [] ob1 (Int32.ofNat (k + 1)) h80 n0 Zs81 f83 f84 f85 (own_ofN0 (by omega))) hZ (hw _ (own_m 207 rfl)) (hw _ (own_m 130 rfl)) (by decide) (by decide)) q82a q82c (g := (mkF mi 228 #[.val (.ref o), .val (.int 47), .val (.int (-1)), .val (.int 0), .val (.int u4), .val (.int (Int32.ofNat F)), .val (.int u6), .val (.int 0), .val (.ref ob1), .val .null, .val (.int (Int32.ofNat (k + 1))), .val (.ref ob80)] [(.int (Int32.ofNat (k + 1))), (.int 0), (.ref ob1)])) rfl (by rw [hml]; rfl) (Steps.refl _) (argsL := [(.int 0), (.int (Int32.ofNat (k + 1)))]) (rest := []) (lenOf pd_26 rfl) rfl (by show 2 * 0 + _ ≤ _; exact Nat.le_of_eq rfl) (hb hby dc44_228) (fun _ _ => ⟨rfl, e80, (by decide : 13 + 1 ≤ _), (by decide : 58 + 5 ≤ _)⟩)
  dsimp only [Pt.U, Pt.locs, Pt.cells, Pt.slots] at X82 l82 y82 z82 st82 hQ82
  subst y82 z82
  have X82 := own_cs X82 (cells' := 14) (slots' := 63) rfl rfl
  obtain ⟨h82, e82⟩ : ∃ z, T82.heap = z := ⟨_, rfl⟩
  rw [e82] at hQ82
  obtain ⟨r82, rfl, N82q, K82, z_r82, g_r82, UE82, UR82, UO82, US82, UM82⟩ := hQ82
  have N82 := own_fr l82 (Fr.app N79 N82q)
  have Zs86 : n0 ≤ h82.size := Nat.le_trans Zs81 K82.1
  have KC86 : Keep h0 h82 [] := KC81.trans K82 all0
  have KL86 : Keep h62 h82 [ob1, d30] := KL81.trans K82 all0
  have sz_r82 : h0.size ≤ r82 := Nat.le_trans KC81.1 z_r82
  have szl_r82 : h62.size ≤ r82 := Nat.le_trans KL81.1 z_r82
  refine Go.tr st82 ?_
  refine g_aload X82 hx hby dc44_231 rfl rfl ?_
  show Go _ _ _ (T82.setTop (mkF mi 233 #[.val (.ref o), .val (.int 47), .val (.int (-1)), .val (.int 0), .val (.int u4), .val (.int (Int32.ofNat F)), .val (.int u6), .val (.int 0), .val (.ref ob1), .val .null, .val (.int (Int32.ofNat (k + 1))), .val (.ref ob80)] [(.ref ob80), (.ref r82)])) _
  have f88 := (EX80.keep K82)
  have nr87 : ∀ x ∈ [ob80], Nb Z h82 x := allS (own_isn f88 (by decide) (by decide)) all0
  have HLt87 := ((HLs73.ext E80).keep K82 all0)
  have f90 := (f83.keep K82)
  have f91 := ((LD67.ext E80).keep K82 nin0)
  have f92 := (f84.keep K82 nin0)
  have f93 := (f85.keep K82 nin0)
  have f94 := ((EA67.ext E80).keep K82 nin0)
  have f95 := ((EB67.ext E80).keep K82)
  have f96 := (V80.keep K82 nin0)
  have ne_ob80_r82 : ob80 ≠ r82 := Nat.ne_of_lt (Nat.lt_of_lt_of_le EX80.lt z_r82)
  have ne_ob1_ob80 : ob1 ≠ ob80 := Nat.ne_of_lt (Nat.lt_of_lt_of_le LE67.lt (Nat.le_of_eq g80.symm))
  have ne_d30_ob80 : d30 ≠ ob80 := Nat.ne_of_lt (Nat.lt_of_lt_of_le EB67.lt (Nat.le_of_eq g80.symm))
  obtain ⟨cq89, kq89, q89a, q89b, q89c⟩ := isOf hZ e82 UE82
  obtain ⟨_, _, ⟨T89, L89, k89, n89⟩, -, X89, ⟨Lc89, hQ89, l89, y89, z89⟩, st89⟩ := X82.interfaceBack hx (xi := (⟨"java/util/List", "toArray", "([Ljava/lang/Object;)[Ljava/lang/Object;"⟩ : MethodName)) (y := zy43) hown (mvT hZ (hw _ (own_m 234 rfl))) (mvT hZ (hw _ (own_m 235 rfl))) (mvT hZ (hw _ (own_m 236 rfl))) (mvT hZ (hw _ (own_m 237 rfl))) (mvT hZ (hw _ (own_m 238 rfl))) (mvT hZ (hw _ (own_m 239 rfl))) (mvT hZ (hw _ (own_m 240 rfl))) (mvT hZ (hw _ (own_m 241 rfl))) (by decide) (backOf (W := 0) (rmTA l Z a0 hw [] r82 ob80 ob1 d30 kd30 (vs.set k (.ref s62_)) k80 (k + 1) h82 n0 Zs86 UE82 UR82 UO82 US82 UM82 f90 f91 f92 f93 f94 f95 f96 f88 O80 g_ob80 (Ne.symm ne_ob80_r82) ne_ob1_ob80 ne_d30_ob80 (by omega) (fun i hi => by obtain ⟨s, a, b⟩ := HLt87 i (by rw [hPl2]; exact hi); exact ⟨s, a, b.exa⟩)) hZ (hw _ (own_m 242 rfl)) (hw _ (own_m 214 rfl)) (by decide) (by decide)) q89a q89b q89c (g := (mkF mi 233 #[.val (.ref o), .val (.int 47), .val (.int (-1)), .val (.int 0), .val (.int u4), .val (.int (Int32.ofNat F)), .val (.int u6), .val (.int 0), .val (.ref ob1), .val .null, .val (.int (Int32.ofNat (k + 1))), .val (.ref ob80)] [(.ref ob80), (.ref r82)])) rfl (by rw [hml]; rfl) (Steps.refl _) (argsL := [(.ref ob80)]) (rest := []) (lenOf pd_27 rfl) rfl (by show 2 * 0 + _ ≤ _; exact Nat.le_of_eq rfl) (hb hby dc44_233) (fun _ _ => ⟨rfl, e82, (by decide : 14 + 0 ≤ _), (by decide : 63 + 0 ≤ _)⟩)
  dsimp only [Pt.U, Pt.locs, Pt.cells, Pt.slots] at X89 l89 y89 z89 st89 hQ89
  subst y89 z89
  have X89 := own_cs X89 (cells' := 14) (slots' := 63) rfl rfl
  obtain ⟨h89, e89⟩ : ∃ z, T89.heap = z := ⟨_, rfl⟩
  rw [e89] at hQ89
  obtain ⟨rfl, N89q, K89, VR89, ER89⟩ := hQ89
  have N89 := own_fr l89 (Fr.app N82 N89q)
  have Zs97 : n0 ≤ h89.size := Nat.le_trans Zs86 K89.1
  have KC97 : Keep h0 h89 [] := KC86.trans K89 (allS (P := fun x => x ∈ [] ∨ h0.size ≤ x) (Or.inr sz_ob80) all0)
  have KL97 : Keep h62 h89 [ob1, d30] := KL86.trans K89 (allS (P := fun x => x ∈ [ob1, d30] ∨ h62.size ≤ x) (Or.inr szl_ob80) all0)
  refine Go.tr st89 ?_
  obtain ⟨T98, X98, e98, st98⟩ := castY X89 hx hZ hown (hw _ (own_m 253 rfl)) e89 (Ins.self ER89) (g := (mkF mi 238 #[.val (.ref o), .val (.int 47), .val (.int (-1)), .val (.int 0), .val (.int u4), .val (.int (Int32.ofNat F)), .val (.int u6), .val (.int 0), .val (.ref ob1), .val .null, .val (.int (Int32.ofNat (k + 1))), .val (.ref ob80)] [(.ref ob80)])) rfl rfl (hb hby dc44_238)
  refine Go.st st98 ?_
  show Go _ _ _ (T98.setTop (mkF mi 241 #[.val (.ref o), .val (.int 47), .val (.int (-1)), .val (.int 0), .val (.int u4), .val (.int (Int32.ofNat F)), .val (.int u6), .val (.int 0), .val (.ref ob1), .val .null, .val (.int (Int32.ofNat (k + 1))), .val (.ref ob80)] [(.ref ob80)])) _
  obtain ⟨fs, hr, hrun, hended, -, hW, hpr, hsame⟩ := Stand.leaveW (v := some (.ref ob80)) X98 hS62 (own_leT e98 (Nat.le_trans (own_leH e62) KL97.1)) (fun h => by rw [Bd.returns] at h; cases h) (BodyLoose.notSynchronized Bd)
  refine ⟨_, _, ?_, hP _ _ ⟨hrun, hended, _, _, rfl, ?_, (show CHr Z own_EL si.vm si.heap T98.vm T98.heap from own_chr hh e98 ((CS62.trans (CHr.keep KL97 (sfS sf62_ob1 (sfS sf62_d30 sf0)) CS62.1)).trans (CHv.at X98 hZ hEL (CHr.keep KL97 (sfS sf62_ob1 (sfS sf62_d30 sf0)) CS62.1).1))), ⟨_, rfl⟩, hW, hpr, hsame.mono (by decide) (by decide)⟩⟩
  ·exact retOut X98 hx Bd.returns rfl (Or.inr (Or.inr (Or.inr (Or.inr ⟨rfl, rfl, rfl⟩)))) (hb hby dc44_241) hr
  ·show Q_rmSp _ _ _ _ _ _ _ _ _ _ _ _ _ T98.heap _
   rw [e98]
   exact ⟨ob80, k80, _, _, k + 1, rfl, N89, KC97, VR89, ER89, ((HLt87.keep K89 nr87)).range hPl2, hPl2, by omega, by omega, hCv.step (Or.inr hFc) hF (Nat.le_refl _) (Or.inl rfl)⟩
theorem dc45_0 : Dk zb45 0 (.iconst 0) 1 := by decide +kernel
theorem dc45_1 : Dk zb45 1 (.istore 4) 2 := by decide +kernel
theorem dc45_3 : Dk zb45 3 (.aload_n 1) 1 := by decide +kernel
theorem dc45_4 : Dk zb45 4 (.invokevirtual 505) 3 := by decide +kernel
theorem dc45_7 : Dk zb45 7 (.iconst 1) 1 := by decide +kernel
theorem dc45_8 : Dk zb45 8 (.if_icmp .ne 21) 3 := by decide +kernel
theorem dc45_11 : Dk zb45 11 (.ldc_w 761) 3 := by decide +kernel
theorem dc45_14 : Dk zb45 14 (.aload_n 1) 1 := by decide +kernel
theorem dc45_15 : Dk zb45 15 (.iconst 0) 1 := by decide +kernel
theorem dc45_16 : Dk zb45 16 (.invokevirtual 656) 3 := by decide +kernel
theorem pd_28 : parseMethodDescriptor "(I)C" = some ⟨[.int], some .char⟩ := by decide +kernel
theorem dc45_19 : Dk zb45 19 .dup 1 := by decide +kernel
theorem dc45_20 : Dk zb45 20 (.istore 4) 2 := by decide +kernel
theorem dc45_22 : Dk zb45 22 (.invokevirtual 763) 3 := by decide +kernel
theorem pd_29 : parseMethodDescriptor "(I)I" = some ⟨[.int], some .int⟩ := by decide +kernel
theorem dc45_25 : Dk zb45 25 (.iconst (-1)) 1 := by decide +kernel
theorem dc45_26 : Dk zb45 26 (.if_icmp .eq 69) 3 := by decide +kernel
theorem dc45_95 : Dk zb45 95 (.iload 4) 2 := by decide +kernel
theorem dc45_97 : Dk zb45 97 (.ldc_w 766) 3 := by decide +kernel
theorem dc45_100 : Dk zb45 100 (.if_icmp .lt 11) 3 := by decide +kernel
theorem dc45_111 : Dk zb45 111 (.aload_n 0) 1 := by decide +kernel
theorem dc45_112 : Dk zb45 112 (.iload 4) 2 := by decide +kernel
theorem dc45_114 : Dk zb45 114 (.iload_n 2) 1 := by decide +kernel
theorem dc45_115 : Dk zb45 115 (.iload_n 3) 1 := by decide +kernel
theorem pd_30 : parseMethodDescriptor "(CIZ)[Ljava/lang/String;" = some ⟨[.char, .int, .boolean], some (.array (.object "java/lang/String"))⟩ := by decide +kernel
theorem dc45_116 : Dk zb45 116 (.invokevirtual 768) 3 := by decide +kernel
theorem dc45_119 : Dk zb45 119 .areturn 1 := by decide +kernel
theorem ef_rmS3 (mi : MethodId) (o : Addr) (p : Addr) : entryFrame mi #[(.ref o), (.ref p), (.int (-1)), (.int 0)] 6 = mkF mi 0 #[.val (.ref o), .val (.ref p), .val (.int (-1)), .val (.int 0), .unset, .unset] [] := by first | (simp [entryFrame, mkF, argsToLocals, Value.category]; done) | rfl
abbrev Q_rmS3 (Z : State) (o : Addr) (p : Addr) (bp : Addr) (kp : ClassId) (b : Addr) (kb : ClassId) (n : Int32) (E : List Int32) (cz : Int32) (fm : Value) (de : Addr) (kde : ClassId) (h0 : Heap) (n0 : Nat) (vv_ : Option Value) (hh_ : Heap) (LL_ : List Loc) : Prop := ∃ (ar : Addr) (ka : ClassId) (vs : List Value) (Ps : List (List Int32)) (m : Nat), vv_ = some (.ref ar) ∧ Fr n0 LL_ ∧ Keep h0 hh_ [] ∧ Arv Z hh_ ar ka (.object "java/lang/String") (Int32.ofNat m) vs .null ∧ Exa Z hh_ ar "[Ljava/lang/String;" ∧ Lvs Z hh_ vs Ps ∧ Ps.length = m ∧ 1 ≤ m ∧ m ≤ 5 ∧ Cv E Ps (E.length + 1)
theorem rmS3 (l : Launch) (Z : State) (a0 : Array Value) (hw : Tb Z a0) (ws : List Jvm.Cond) (o : Addr) (p : Addr) (bp : Addr) (kp : ClassId) (b : Addr) (kb : ClassId) (n : Int32) (E : List Int32) (cz : Int32) (fm : Value) (de : Addr) (kde : ClassId) (h0 : Heap) (n0 : Nat) (Z0 : n0 ≤ h0.size) (hEL : EW Z a0 own_EL) (SE : Exa Z h0 o "java/lang/String") (SCo : Fld Z h0 o "java/lang/String" "coder" "B" (.int (0 : Int32))) (SVa : Fld Z h0 o "java/lang/String" "value" "[B" (.ref b)) (SAr : Arv Z h0 b kb .byte n (E.map Value.int) (.int (0 : Int32))) (SEb : Exa Z h0 b "[B") (SC : Sta Z h0 "java/lang/String" "COMPACT_STRINGS" "Z" (.int cz)) (hcz : ¬ (cz = (0 : Int32))) (SF : Sta Z h0 "jdk/internal/util/Preconditions" "SIOOBE_FORMATTER" "Ljava/util/function/BiFunction;" fm) (hfm : fm.isRef = true) (SD : Sta Z h0 "java/util/ArrayList" "DEFAULTCAPACITY_EMPTY_ELEMENTDATA" "[Ljava/lang/Object;" (.ref de)) (DV : Arv Z h0 de kde (.object "java/lang/Object") (0 : Int32) [] .null) (DE : Exa Z h0 de "[Ljava/lang/Object;") (hE : E.length ≤ 4) (hn : n.toInt = E.length) (SEp : Exa Z h0 p "java/lang/String") (SCop : Fld Z h0 p "java/lang/String" "coder" "B" (.int (0 : Int32))) (SVap : Fld Z h0 p "java/lang/String" "value" "[B" (.ref bp)) (SArp : Arv Z h0 bp kp .byte (1 : Int32) (([47] : List Int32).map Value.int) (.int (0 : Int32))) (SEbp : Exa Z h0 bp "[B") :
  MtW l Z zy45 zb45 6 (some (.array (.object "java/lang/String"))) ws zR32 #[(.ref o), (.ref p), (.int (-1)), (.int 0)] h0 (Q_rmS3 Z o p bp kp b kb n E cz fm de kde h0 n0) := by
 refine MetFree.of_bodySF (plainFor_of_name pn_0) hisR ?_
 intro pg ev si mi args below meth ci s₁ Bd hml0 hP0 hK
 obtain ⟨rfl, hZ, hh, hCH⟩ := hP0
 have hx := Bd.exec
 have hby := Bd.bytes
 have hml : ci.maxLocals = 6 := hml0
 have hown : si.vm.findClass "java/lang/String" = some mi.cls := findClass_of_methodNamed Bd.named
 have hnm := (name_of_methodNamed Bd.named Bd.method).1
 have X0 : Stand pg l ev zR32 si mi #[(.ref o), (.ref p), (.int (-1)), (.int 0)] below meth ci s₁ [] 0 0 := Stand.of_body Bd
 have e0 : s₁.heap = h0 := by rw [← hh, Bd.state]; rfl
 have N0 := Fr.nil n0
 refine Go.start (fun P hP => ?_)
 refine Go.st (fun t_ k_ => castTop (ef_rmS3 mi o p) k_) (A := s₁.setTop (mkF mi 0 #[.val (.ref o), .val (.ref p), .val (.int (-1)), .val (.int 0), .unset, .unset] [])) ?_
 refine g_iconst X0 hx hby dc45_0 (v := 0) rfl ?_
 refine g_istore X0 hx hby dc45_1 (l' := #[.val (.ref o), .val (.ref p), .val (.int (-1)), .val (.int 0), .val (.int 0), .unset]) rfl ?_
 refine g_aloadN X0 hx hby dc45_3 rfl rfl ?_
 obtain ⟨cq1, kq1, q1a, q1b, q1c⟩ := isOf hZ e0 SEp
 obtain ⟨_, _, ⟨T1, L1, k1, n1⟩, -, X1, ⟨Lc1, hQ1, l1, y1, z1⟩, st1⟩ := X0.virtualBack hx (y := zy1) (z := zy1) hown (mvT hZ (hw _ (own_m 61 rfl))) (mvT hZ (hw _ (own_m 62 rfl))) (notFace_of_selects (args := #[]) (mvT hZ (hw _ (own_m 64 rfl)))) (mvT hZ (hw _ (own_m 64 rfl))) (mvT hZ (hw _ (own_m 63 rfl))) (by decide) (backOf (W := 0) (rmLn l Z a0 hw [] p bp kp (1 : Int32) ([47] : List Int32) cz h0 n0 Z0 SEp SCop SVap SArp SEbp SC hcz) hZ (hw _ (own_m 65 rfl)) (hw _ (own_m 9 rfl)) (by decide) (by decide)) q1a q1c (g := (mkF mi 4 #[.val (.ref o), .val (.ref p), .val (.int (-1)), .val (.int 0), .val (.int 0), .unset] [(.ref p)])) rfl (by rw [hml]; rfl) (Steps.refl _) (argsL := []) (rest := []) (lenOf pd_13 rfl) rfl (by show 2 * 0 + _ ≤ _; exact Nat.le_of_eq rfl) (hb hby dc45_4) (fun _ _ => ⟨rfl, e0, (by decide : 0 + 0 ≤ _), (by decide : 0 + 0 ≤ _)⟩)
 dsimp only [Pt.U, Pt.locs, Pt.cells, Pt.slots] at X1 l1 y1 z1 st1 hQ1
 subst y1 z1
 have X1 := own_cs X1 (cells' := 0) (slots' := 0) rfl rfl
 obtain ⟨rfl, N1q, e1⟩ := hQ1
 have N1 := own_fr l1 (Fr.app N0 N1q)
 refine Go.tr st1 ?_
 refine g_iconst X1 hx hby dc45_7 (v := 1) rfl ?_
 refine g_icmpNo X1 hx hby dc45_8 (teq rfl).2 ?_
 show Go _ _ _ (T1.setTop (mkF mi 11 #[.val (.ref o), .val (.ref p), .val (.int (-1)), .val (.int 0), .val (.int 0), .unset] [])) _
 have CR2 : CHr Z own_EL si.vm h0 si.vm h0 := (CHr.refl hCH).trans (CHr.keep (Keep.refl h0 []) sf0 (CHr.refl hCH).1)
 have hwS : ∀ a ∈ Bundle.stringAtoms, a.before a0 Z = true := fun d hd => hw d ((by decide +kernel : ∀ d ∈ Bundle.stringAtoms, d ∈ tables_1) d hd)
 obtain ⟨os3, T3, bs3, ks3, X3, E3, hSi3, hZ3, hown3, SE3, SCo3, SVa3, SA3, hCr3, hLi3, st3⟩ := own_ldcC (s := si) (vm0 := si.vm) (EL := own_EL) (own_rb X1) hx hZ hown (hw _ (own_m 104 rfl)) hwS e1 ((State.WarmedH.refl si).since h0.size) (Nat.le_trans (Nat.le_refl _) (Keep.refl h0 []).1) hEL (List.mem_of_getElem? (i := 3) rfl) CR2.1 (vs := [(.int 46), (.int 36), (.int 124), (.int 40), (.int 41), (.int 91), (.int 123), (.int 94), (.int 63), (.int 42), (.int 43), (.int 92)]) (z := (12 : Int32)) ⟨by decide +kernel, by decide +kernel⟩ (by decide) (by decide +kernel) (g := (mkF mi 11 #[.val (.ref o), .val (.ref p), .val (.int (-1)), .val (.int 0), .val (.int 0), .unset] [])) rfl (hb hby dc45_11) (n := 48) (by decide +kernel) (by decide) (by decide) (by decide)
 obtain ⟨h3, e3⟩ : ∃ z, T3.heap = z := ⟨_, rfl⟩
 rw [e3] at E3 hSi3 SE3 SCo3 SVa3 SA3 hCr3
 have hk13 := Nat.le_refl h3.size
 have SAr3 : Arv Z h3 bs3 ks3 .byte (12 : Int32) (([46, 36, 124, 40, 41, 91, 123, 94, 63, 42, 43, 92] : List Int32).map Value.int) (.int (0 : Int32)) := SA3
 have SEb3 : Exa Z h3 bs3 "[B" := own_exB (s := si) hZ3 (hw _ (own_m 104 rfl)) (EL := own_EL) (List.mem_of_getElem? (i := 3) rfl) hCr3.1 hLi3 SVa3 SA3
 have hZ : Z.Warmed39 (si.setVm T3.vm).vm := hZ3
 have hown : (si.setVm T3.vm).vm.findClass "java/lang/String" = some mi.cls := hown3
 have Zs4 : n0 ≤ h3.size := Nat.le_trans Z0 E3.1
 have KC4 : Keep h0 h3 [] := (Keep.refl h0 []).ext E3
 have KL4 : Keep h0 h3 [] := (Keep.refl h0 []).ext E3
 have CS3 : CHr Z own_EL si.vm h0 T3.vm h3 := CR2.trans hCr3
 refine Go.st st3 ?_
 show Go _ _ _ (T3.setTop (mkF mi 14 #[.val (.ref o), .val (.ref p), .val (.int (-1)), .val (.int 0), .val (.int 0), .unset] [(.ref os3)])) _
 refine g_aloadN X3 hx hby dc45_14 rfl rfl ?_
 refine g_iconst X3 hx hby dc45_15 (v := 0) rfl ?_
 have f6 := (SEp.ext E3)
 have f7 := (SCop.ext E3)
 have f8 := (SVap.ext E3)
 have f9 := (SArp.ext E3)
 have f10 := (SEbp.ext E3)
 have f11 := (SC.ext E3)
 have f12 := (SF.ext E3)
 obtain ⟨cq5, kq5, q5a, q5b, q5c⟩ := isOf hZ e3 f6
 obtain ⟨_, _, ⟨T5, L5, k5, n5⟩, -, X5, ⟨Lc5, hQ5, l5, y5, z5⟩, st5⟩ := X3.virtualBack hx (y := zy6) (z := zy6) hown (mvT hZ (hw _ (own_m 105 rfl))) (mvT hZ (hw _ (own_m 106 rfl))) (notFace_of_selects (args := #[]) (mvT hZ (hw _ (own_m 108 rfl)))) (mvT hZ (hw _ (own_m 108 rfl))) (mvT hZ (hw _ (own_m 107 rfl))) (by decide) (backOf (W := 1) (rmCA l Z a0 hw [] p (0 : Int32) bp kp (1 : Int32) ([47] : List Int32) cz fm h3 n0 Zs4 f6 f7 f8 f9 f10 f11 hcz f12 hfm (by decide) (by decide)) hZ (hw _ (own_m 109 rfl)) (hw _ (own_m 9 rfl)) (by decide) (by decide)) q5a q5c (g := (mkF mi 16 #[.val (.ref o), .val (.ref p), .val (.int (-1)), .val (.int 0), .val (.int 0), .unset] [(.int 0), (.ref p), (.ref os3)])) rfl (by rw [hml]; rfl) (Steps.refl _) (argsL := [(.int 0)]) (rest := [(.ref os3)]) (lenOf pd_28 rfl) rfl (by show 2 * 0 + _ ≤ _; exact Nat.le_of_eq rfl) (hb hby dc45_16) (fun _ _ => ⟨rfl, e3, (by decide : 2 + 0 ≤ _), (by decide : 52 + 0 ≤ _)⟩)
 dsimp only [Pt.U, Pt.locs, Pt.cells, Pt.slots] at X5 l5 y5 z5 st5 hQ5
 subst y5 z5
 have X5 := own_cs X5 (cells' := 2) (slots' := 52) rfl rfl
 obtain ⟨rfl, N5q, e5⟩ := hQ5
 have N5 := own_fr l5 (Fr.app N1 N5q)
 refine Go.tr st5 ?_
 show Go _ _ _ (T5.setTop (mkF mi 19 #[.val (.ref o), .val (.ref p), .val (.int (-1)), .val (.int 0), .val (.int 0), .unset] [(.int ((([47] : List Int32).getD (0 : Int32).toNatClampNeg 0) &&& (255 : Int32))), (.ref os3)])) _
 rw [show ((([47] : List Int32).getD (0 : Int32).toNatClampNeg 0) &&& (255 : Int32)) = (47 : Int32) from by decide +kernel]
 show Go _ _ _ (T5.setTop (mkF mi 19 #[.val (.ref o), .val (.ref p), .val (.int (-1)), .val (.int 0), .val (.int 0), .unset] [(.int 47), (.ref os3)])) _
 refine g_dup X5 hx hby dc45_19 rfl ?_
 refine g_istore X5 hx hby dc45_20 (l' := #[.val (.ref o), .val (.ref p), .val (.int (-1)), .val (.int 0), .val (.int 47), .unset]) rfl ?_
 obtain ⟨cq13, kq13, q13a, q13b, q13c⟩ := isOf hZ e5 SE3
 obtain ⟨_, _, ⟨T13, L13, k13, n13⟩, -, X13, ⟨Lc13, hQ13, l13, y13, z13⟩, st13⟩ := X5.virtualBack hx (y := zy23) (z := zy23) hown (mvT hZ (hw _ (own_m 121 rfl))) (mvT hZ (hw _ (own_m 47 rfl))) (notFace_of_selects (args := #[]) (mvT hZ (hw _ (own_m 49 rfl)))) (mvT hZ (hw _ (own_m 49 rfl))) (mvT hZ (hw _ (own_m 48 rfl))) (by decide) (backOf (W := 0) (rmI1 l Z a0 hw [] os3 (47 : Int32) bs3 ks3 (12 : Int32) ([46, 36, 124, 40, 41, 91, 123, 94, 63, 42, 43, 92] : List Int32) (47 : Int32) cz h3 n0 Zs4 SE3 SCo3 SVa3 SAr3 SEb3 f11 hcz (by decide) (by decide) (by decide) (by decide) (by decide)) hZ (hw _ (own_m 50 rfl)) (hw _ (own_m 9 rfl)) (by decide) (by decide)) q13a q13c (g := (mkF mi 22 #[.val (.ref o), .val (.ref p), .val (.int (-1)), .val (.int 0), .val (.int 47), .unset] [(.int 47), (.ref os3)])) rfl (by rw [hml]; rfl) (Steps.refl _) (argsL := [(.int 47)]) (rest := []) (lenOf pd_29 rfl) rfl (by show 2 * 0 + _ ≤ _; exact Nat.le_of_eq rfl) (hb hby dc45_22) (fun _ _ => ⟨rfl, e5, (by decide : 2 + 0 ≤ _), (by decide : 52 + 0 ≤ _)⟩)
 dsimp only [Pt.U, Pt.locs, Pt.cells, Pt.slots] at X13 l13 y13 z13 st13 hQ13
 subst y13 z13
 have X13 := own_cs X13 (cells' := 2) (slots' := 52) rfl rfl
 obtain ⟨rfl, N13q, e13⟩ := hQ13
 have N13 := own_fr l13 (Fr.app N5 N13q)
 refine Go.tr st13 ?_
 show Go _ _ _ (T13.setTop (mkF mi 25 #[.val (.ref o), .val (.ref p), .val (.int (-1)), .val (.int 0), .val (.int 47), .unset] [(.int (ix ([46, 36, 124, 40, 41, 91, 123, 94, 63, 42, 43, 92] : List Int32) (47 : Int32) 0))])) _
 rw [show ix ([46, 36, 124, 40, 41, 91, 123, 94, 63, 42, 43, 92] : List Int32) (47 : Int32) 0 = (-1 : Int32) from by decide +kernel]
 show Go _ _ _ (T13.setTop (mkF mi 25 #[.val (.ref o), .val (.ref p), .val (.int (-1)), .val (.int 0), .val (.int 47), .unset] [(.int (-1))])) _
 refine g_iconst X13 hx hby dc45_25 (v := (-1)) rfl ?_
 refine g_icmpYes X13 hx hby dc45_26 (teq rfl).1 (pc0 := 26) (pc' := 95) rfl (by decide) (by decide) ?_
 refine g_iload X13 hx hby dc45_95 rfl ?_
 refine Go.st (X13.ldcwInt hx hown (mvT hZ (hw _ (own_m 122 rfl))) (g := (mkF mi 97 #[.val (.ref o), .val (.ref p), .val (.int (-1)), .val (.int 0), .val (.int 47), .unset] [(.int 47)])) rfl (hb hby dc45_97)) ?_
 refine g_icmpYes X13 hx hby dc45_100 (tlt (by decide)).1 (pc0 := 100) (pc' := 111) rfl (by decide) (by decide) ?_
 refine g_aloadN X13 hx hby dc45_111 rfl rfl ?_
 refine g_iload X13 hx hby dc45_112 rfl ?_
 refine g_iloadN X13 hx hby dc45_114 rfl ?_
 refine g_iloadN X13 hx hby dc45_115 rfl ?_
 show Go _ _ _ (T13.setTop (mkF mi 116 #[.val (.ref o), .val (.ref p), .val (.int (-1)), .val (.int 0), .val (.int 47), .unset] [(.int 0), (.int (-1)), (.int 47), (.ref o)])) _
 have CR14 : CHr Z own_EL si.vm h0 T3.vm h3 := CS3.trans (CHr.keep (Keep.refl h3 []) sf0 CS3.1)
 have f15 := (SE.ext E3)
 have f16 := (SCo.ext E3)
 have f17 := (SVa.ext E3)
 have f18 := (SAr.ext E3)
 have f19 := (SEb.ext E3)
 have f20 := (SD.ext E3)
 have f21 := (DV.ext E3)
 have f22 := (DE.ext E3)
 obtain ⟨cq23, q23, q23'⟩ := f15.cell
 obtain ⟨_, _, ⟨T23, L23, k23, n23⟩, -, X23, hS23', hG23, ⟨Lc23, hQ23, l23, y23, z23, hCr23⟩, st23⟩ := X13.privateBackS hx (y := zy44) hown (mvT hZ (hw _ (own_m 123 rfl))) (mvT hZ (hw _ (own_m 124 rfl))) (mvT hZ (hw _ (own_m 126 rfl))) (Cond.privateMethod_at (mvP hZ (hw _ (own_m 125 rfl)) (args := #[]))) (mvT hZ (hw _ (own_m 127 rfl))) (by decide) (backOfSH (s := si) (vm0 := T3.vm) (EL := own_EL) (W := 0) (rmSp l Z a0 hw [] o b kb n E cz fm de kde h3 n0 Zs4 hEL f15 f16 f17 f18 f19 f11 hcz f12 hfm f20 f21 f22 hE hn) hZ (hw _ (own_m 127 rfl)) (hw _ (own_m 9 rfl)) (by decide) (by decide) hEL CR14.1) (g := (mkF mi 116 #[.val (.ref o), .val (.ref p), .val (.int (-1)), .val (.int 0), .val (.int 47), .unset] [(.int 0), (.int (-1)), (.int 47), (.ref o)])) rfl (by rw [hml]; rfl) (Steps.refl _) (a := o) (by rw [e13]; exact q23) q23' (argsL := [(.int 47), (.int (-1)), (.int 0)]) (rest := []) (lenOf pd_30 rfl) rfl (by show 2 * 0 + _ ≤ _; exact Nat.le_of_eq rfl) (hb hby dc45_116) (fun _ _ => ⟨rfl, e13, (by decide : 2 + 14 ≤ _), (by decide : 52 + 64 ≤ _)⟩)
 dsimp only [Pt.U, Pt.locs, Pt.cells, Pt.slots] at X23 l23 y23 z23 st23 hQ23 hCr23 hS23' hG23
 subst y23 z23
 have X23 := own_cs X23 (cells' := 16) (slots' := 116) rfl rfl
 obtain ⟨X23, hS23, hZ, hown⟩ := rebS hSi3 (own_leT e13 (Nat.le_trans hk13 (Keep.refl h3 []).1)) X23 hS23' hG23 hZ hown
 obtain ⟨h23, e23⟩ : ∃ z, T23.heap = z := ⟨_, rfl⟩
 rw [e23] at hQ23
 obtain ⟨ar23, ka23, vs23, Ps23, m23, rfl, N23q, K23, VA23, EA23, HL23, hP23, hm123, hm523, hCv23⟩ := hQ23
 have N23 := own_fr l23 (Fr.app N13 N23q)
 have Zs24 : n0 ≤ h23.size := Nat.le_trans Zs4 K23.1
 have KC24 : Keep h0 h23 [] := KC4.trans K23 all0
 have KL24 : Keep h3 h23 [] := (Keep.refl h3 []).trans K23 all0
 rw [e23] at hCr23
 have CS23 : CHr Z own_EL si.vm h0 T23.vm h23 := CR14.trans hCr23
 refine Go.tr st23 ?_
 show Go _ _ _ (T23.setTop (mkF mi 119 #[.val (.ref o), .val (.ref p), .val (.int (-1)), .val (.int 0), .val (.int 47), .unset] [(.ref ar23)])) _
 obtain ⟨fs, hr, hrun, hended, -, hW, hpr, hsame⟩ := Stand.leaveW (v := some (.ref ar23)) X23 hS23 (own_leT e23 (Nat.le_trans (own_leH e23) (Keep.refl h23 []).1)) (fun h => by rw [Bd.returns] at h; cases h) (BodyLoose.notSynchronized Bd)
 refine ⟨_, _, ?_, hP _ _ ⟨hrun, hended, _, _, rfl, ?_, (show CHr Z own_EL si.vm si.heap T23.vm T23.heap from own_chr hh e23 ((CS23.trans (CHr.keep (Keep.refl h23 []) sf0 CS23.1)).trans (CHv.at X23 hZ hEL (CHr.keep (Keep.refl h23 []) sf0 CS23.1).1))), ⟨_, rfl⟩, hW, hpr, hsame.mono (by decide) (by decide)⟩⟩
 ·exact retOut X23 hx Bd.returns rfl (Or.inr (Or.inr (Or.inr (Or.inr ⟨rfl, rfl, rfl⟩)))) (hb hby dc45_119) hr
 ·show Q_rmS3 _ _ _ _ _ _ _ _ _ _ _ _ _ _ _ _ T23.heap _
  rw [e23]
  exact ⟨ar23, ka23, vs23, Ps23, m23, rfl, N23, KC24, VA23, EA23, HL23, hP23, hm123, hm523, hCv23⟩
theorem dc46_0 : Dk zb46 0 (.aload_n 0) 1 := by decide +kernel
theorem dc46_1 : Dk zb46 1 (.aload_n 1) 1 := by decide +kernel
theorem dc46_2 : Dk zb46 2 (.iload_n 2) 1 := by decide +kernel
theorem dc46_3 : Dk zb46 3 (.iconst 0) 1 := by decide +kernel
theorem pd_31 : parseMethodDescriptor "(Ljava/lang/String;IZ)[Ljava/lang/String;" = some ⟨[(.object "java/lang/String"), .int, .boolean], some (.array (.object "java/lang/String"))⟩ := by decide +kernel
theorem dc46_4 : Dk zb46 4 (.invokevirtual 757) 3 := by decide +kernel
theorem dc46_7 : Dk zb46 7 .areturn 1 := by decide +kernel
theorem ef_rmS2 (mi : MethodId) (o : Addr) (p : Addr) : entryFrame mi #[(.ref o), (.ref p), (.int (-1))] 3 = mkF mi 0 #[.val (.ref o), .val (.ref p), .val (.int (-1))] [] := by first | (simp [entryFrame, mkF, argsToLocals, Value.category]; done) | rfl
abbrev Q_rmS2 (Z : State) (o : Addr) (p : Addr) (bp : Addr) (kp : ClassId) (b : Addr) (kb : ClassId) (n : Int32) (E : List Int32) (cz : Int32) (fm : Value) (de : Addr) (kde : ClassId) (h0 : Heap) (n0 : Nat) (vv_ : Option Value) (hh_ : Heap) (LL_ : List Loc) : Prop := ∃ (ar : Addr) (ka : ClassId) (vs : List Value) (Ps : List (List Int32)) (m : Nat), vv_ = some (.ref ar) ∧ Fr n0 LL_ ∧ Keep h0 hh_ [] ∧ Arv Z hh_ ar ka (.object "java/lang/String") (Int32.ofNat m) vs .null ∧ Exa Z hh_ ar "[Ljava/lang/String;" ∧ Lvs Z hh_ vs Ps ∧ Ps.length = m ∧ 1 ≤ m ∧ m ≤ 5 ∧ Cv E Ps (E.length + 1)
theorem rmS2 (l : Launch) (Z : State) (a0 : Array Value) (hw : Tb Z a0) (ws : List Jvm.Cond) (o : Addr) (p : Addr) (bp : Addr) (kp : ClassId) (b : Addr) (kb : ClassId) (n : Int32) (E : List Int32) (cz : Int32) (fm : Value) (de : Addr) (kde : ClassId) (h0 : Heap) (n0 : Nat) (Z0 : n0 ≤ h0.size) (hEL : EW Z a0 own_EL) (SE : Exa Z h0 o "java/lang/String") (SCo : Fld Z h0 o "java/lang/String" "coder" "B" (.int (0 : Int32))) (SVa : Fld Z h0 o "java/lang/String" "value" "[B" (.ref b)) (SAr : Arv Z h0 b kb .byte n (E.map Value.int) (.int (0 : Int32))) (SEb : Exa Z h0 b "[B") (SC : Sta Z h0 "java/lang/String" "COMPACT_STRINGS" "Z" (.int cz)) (hcz : ¬ (cz = (0 : Int32))) (SF : Sta Z h0 "jdk/internal/util/Preconditions" "SIOOBE_FORMATTER" "Ljava/util/function/BiFunction;" fm) (hfm : fm.isRef = true) (SD : Sta Z h0 "java/util/ArrayList" "DEFAULTCAPACITY_EMPTY_ELEMENTDATA" "[Ljava/lang/Object;" (.ref de)) (DV : Arv Z h0 de kde (.object "java/lang/Object") (0 : Int32) [] .null) (DE : Exa Z h0 de "[Ljava/lang/Object;") (hE : E.length ≤ 4) (hn : n.toInt = E.length) (SEp : Exa Z h0 p "java/lang/String") (SCop : Fld Z h0 p "java/lang/String" "coder" "B" (.int (0 : Int32))) (SVap : Fld Z h0 p "java/lang/String" "value" "[B" (.ref bp)) (SArp : Arv Z h0 bp kp .byte (1 : Int32) (([47] : List Int32).map Value.int) (.int (0 : Int32))) (SEbp : Exa Z h0 bp "[B") :
  MtW l Z zy46 zb46 3 (some (.array (.object "java/lang/String"))) ws zR33 #[(.ref o), (.ref p), (.int (-1))] h0 (Q_rmS2 Z o p bp kp b kb n E cz fm de kde h0 n0) := by
 refine MetFree.of_bodySF (plainFor_of_name pn_0) hisR ?_
 intro pg ev si mi args below meth ci s₁ Bd hml0 hP0 hK
 obtain ⟨rfl, hZ, hh, hCH⟩ := hP0
 have hx := Bd.exec
 have hby := Bd.bytes
 have hml : ci.maxLocals = 3 := hml0
 have hown : si.vm.findClass "java/lang/String" = some mi.cls := findClass_of_methodNamed Bd.named
 have hnm := (name_of_methodNamed Bd.named Bd.method).1
 have X0 : Stand pg l ev zR33 si mi #[(.ref o), (.ref p), (.int (-1))] below meth ci s₁ [] 0 0 := Stand.of_body Bd
 have e0 : s₁.heap = h0 := by rw [← hh, Bd.state]; rfl
 have N0 := Fr.nil n0
 refine Go.start (fun P hP => ?_)
 refine Go.st (fun t_ k_ => castTop (ef_rmS2 mi o p) k_) (A := s₁.setTop (mkF mi 0 #[.val (.ref o), .val (.ref p), .val (.int (-1))] [])) ?_
 refine g_aloadN X0 hx hby dc46_0 rfl rfl ?_
 refine g_aloadN X0 hx hby dc46_1 rfl rfl ?_
 refine g_iloadN X0 hx hby dc46_2 rfl ?_
 refine g_iconst X0 hx hby dc46_3 (v := 0) rfl ?_
 show Go _ _ _ (s₁.setTop (mkF mi 4 #[.val (.ref o), .val (.ref p), .val (.int (-1))] [(.int 0), (.int (-1)), (.ref p), (.ref o)])) _
 have CR1 : CHr Z own_EL si.vm h0 si.vm h0 := (CHr.refl hCH).trans (CHr.keep (Keep.refl h0 []) sf0 (CHr.refl hCH).1)
 obtain ⟨cq2, q2, q2'⟩ := SE.cell
 obtain ⟨_, _, ⟨T2, L2, k2, n2⟩, -, X2, hS2', hG2, ⟨Lc2, hQ2, l2, y2, z2, hCr2⟩, st2⟩ := (own_rb X0).privateBackS hx (y := zy45) hown (mvT hZ (hw _ (own_m 99 rfl))) (mvT hZ (hw _ (own_m 100 rfl))) (mvT hZ (hw _ (own_m 102 rfl))) (Cond.privateMethod_at (mvP hZ (hw _ (own_m 101 rfl)) (args := #[]))) (mvT hZ (hw _ (own_m 103 rfl))) (by decide) (backOfSH (s := si) (vm0 := si.vm) (EL := own_EL) (W := 0) (rmS3 l Z a0 hw [] o p bp kp b kb n E cz fm de kde h0 n0 Z0 hEL SE SCo SVa SAr SEb SC hcz SF hfm SD DV DE hE hn SEp SCop SVap SArp SEbp) hZ (hw _ (own_m 103 rfl)) (hw _ (own_m 9 rfl)) (by decide) (by decide) hEL CR1.1) (g := (mkF mi 4 #[.val (.ref o), .val (.ref p), .val (.int (-1))] [(.int 0), (.int (-1)), (.ref p), (.ref o)])) rfl (by rw [hml]; rfl) (Steps.refl _) (a := o) (by rw [e0]; exact q2) q2' (argsL := [(.ref p), (.int (-1)), (.int 0)]) (rest := []) (lenOf pd_31 rfl) rfl (by show 2 * 0 + _ ≤ _; exact Nat.le_of_eq rfl) (hb hby dc46_4) (fun _ _ => ⟨rfl, e0, (by decide : 0 + 16 ≤ _), (by decide : 0 + 116 ≤ _)⟩)
 dsimp only [Pt.U, Pt.locs, Pt.cells, Pt.slots] at X2 l2 y2 z2 st2 hQ2 hCr2 hS2' hG2
 subst y2 z2
 have X2 := own_cs X2 (cells' := 16) (slots' := 116) rfl rfl
 obtain ⟨X2, hS2, hZ, hown⟩ := rebS ((State.WarmedH.refl si).since h0.size) (own_leT e0 (Nat.le_trans (Nat.le_refl _) (Keep.refl h0 []).1)) X2 hS2' hG2 hZ hown
 obtain ⟨h2, e2⟩ : ∃ z, T2.heap = z := ⟨_, rfl⟩
 rw [e2] at hQ2
 obtain ⟨ar2, ka2, vs2, Ps2, m2, rfl, N2q, K2, VA2, EA2, HL2, hP2, hm12, hm52, hCv2⟩ := hQ2
 have N2 := own_fr l2 (Fr.app N0 N2q)
 have Zs3 : n0 ≤ h2.size := Nat.le_trans Z0 K2.1
 have KC3 : Keep h0 h2 [] := (Keep.refl h0 []).trans K2 all0
 have KL3 : Keep h0 h2 [] := (Keep.refl h0 []).trans K2 all0
 rw [e2] at hCr2
 have CS2 : CHr Z own_EL si.vm h0 T2.vm h2 := CR1.trans hCr2
 refine Go.tr st2 ?_
 show Go _ _ _ (T2.setTop (mkF mi 7 #[.val (.ref o), .val (.ref p), .val (.int (-1))] [(.ref ar2)])) _
 obtain ⟨fs, hr, hrun, hended, -, hW, hpr, hsame⟩ := Stand.leaveW (v := some (.ref ar2)) X2 hS2 (own_leT e2 (Nat.le_trans (own_leH e2) (Keep.refl h2 []).1)) (fun h => by rw [Bd.returns] at h; cases h) (BodyLoose.notSynchronized Bd)
 refine ⟨_, _, ?_, hP _ _ ⟨hrun, hended, _, _, rfl, ?_, (show CHr Z own_EL si.vm si.heap T2.vm T2.heap from own_chr hh e2 ((CS2.trans (CHr.keep (Keep.refl h2 []) sf0 CS2.1)).trans (CHv.at X2 hZ hEL (CHr.keep (Keep.refl h2 []) sf0 CS2.1).1))), ⟨_, rfl⟩, hW, hpr, hsame.mono (by decide) (by decide)⟩⟩
 ·exact retOut X2 hx Bd.returns rfl (Or.inr (Or.inr (Or.inr (Or.inr ⟨rfl, rfl, rfl⟩)))) (hb hby dc46_7) hr
 ·show Q_rmS2 _ _ _ _ _ _ _ _ _ _ _ _ _ _ _ _ T2.heap _
  rw [e2]
  exact ⟨ar2, ka2, vs2, Ps2, m2, rfl, N2, KC3, VA2, EA2, HL2, hP2, hm12, hm52, hCv2⟩
theorem dc47_0 : Dk zb47 0 (.aload_n 0) 1 := by decide +kernel
theorem dc47_1 : Dk zb47 1 (.ldc 7) 2 := by decide +kernel
theorem dc47_3 : Dk zb47 3 (.iconst (-1)) 1 := by decide +kernel
theorem pd_32 : parseMethodDescriptor "(Ljava/lang/String;I)[Ljava/lang/String;" = some ⟨[(.object "java/lang/String"), .int], some (.array (.object "java/lang/String"))⟩ := by decide +kernel
theorem dc47_4 : Dk zb47 4 (.invokevirtual 9) 3 := by decide +kernel
theorem dc47_7 : Dk zb47 7 .areturn 1 := by decide +kernel
theorem pn_10 : plainName "com/example/corduroy/corduroy/Topics" = true := by first | (simp [plainName, overriddenIn]; done) | decide +kernel
theorem ef_rmLv (mi : MethodId) (o : Addr) : entryFrame mi #[(.ref o)] 1 = mkF mi 0 #[.val (.ref o)] [] := by first | (simp [entryFrame, mkF, argsToLocals, Value.category]; done) | rfl
abbrev Q_rmLv (Z : State) (o : Addr) (b : Addr) (kb : ClassId) (n : Int32) (E : List Int32) (cz : Int32) (fm : Value) (de : Addr) (kde : ClassId) (h0 : Heap) (n0 : Nat) (vv_ : Option Value) (hh_ : Heap) (LL_ : List Loc) : Prop := ∃ (ar : Addr) (ka : ClassId) (vs : List Value) (Ps : List (List Int32)) (m : Nat), vv_ = some (.ref ar) ∧ Fr n0 LL_ ∧ Keep h0 hh_ [] ∧ Arv Z hh_ ar ka (.object "java/lang/String") (Int32.ofNat m) vs .null ∧ Exa Z hh_ ar "[Ljava/lang/String;" ∧ Lvs Z hh_ vs Ps ∧ Ps.length = m ∧ 1 ≤ m ∧ m ≤ 5 ∧ Cv E Ps (E.length + 1)
theorem rmLv (l : Launch) (Z : State) (a0 : Array Value) (hw : Tb Z a0) (ws : List Jvm.Cond) (o : Addr) (b : Addr) (kb : ClassId) (n : Int32) (E : List Int32) (cz : Int32) (fm : Value) (de : Addr) (kde : ClassId) (h0 : Heap) (n0 : Nat) (Z0 : n0 ≤ h0.size) (hEL : EW Z a0 own_EL) (SE : Exa Z h0 o "java/lang/String") (SCo : Fld Z h0 o "java/lang/String" "coder" "B" (.int (0 : Int32))) (SVa : Fld Z h0 o "java/lang/String" "value" "[B" (.ref b)) (SAr : Arv Z h0 b kb .byte n (E.map Value.int) (.int (0 : Int32))) (SEb : Exa Z h0 b "[B") (SC : Sta Z h0 "java/lang/String" "COMPACT_STRINGS" "Z" (.int cz)) (hcz : ¬ (cz = (0 : Int32))) (SF : Sta Z h0 "jdk/internal/util/Preconditions" "SIOOBE_FORMATTER" "Ljava/util/function/BiFunction;" fm) (hfm : fm.isRef = true) (SD : Sta Z h0 "java/util/ArrayList" "DEFAULTCAPACITY_EMPTY_ELEMENTDATA" "[Ljava/lang/Object;" (.ref de)) (DV : Arv Z h0 de kde (.object "java/lang/Object") (0 : Int32) [] .null) (DE : Exa Z h0 de "[Ljava/lang/Object;") (hE : E.length ≤ 4) (hn : n.toInt = E.length) :
  MtW l Z zy47 zb47 1 (some (.array (.object "java/lang/String"))) ws zR34 #[(.ref o)] h0 (Q_rmLv Z o b kb n E cz fm de kde h0 n0) := by
 refine MetFree.of_bodySF (plainFor_of_name pn_10) hisR ?_
 intro pg ev si mi args below meth ci s₁ Bd hml0 hP0 hK
 obtain ⟨rfl, hZ, hh, hCH⟩ := hP0
 have hx := Bd.exec
 have hby := Bd.bytes
 have hml : ci.maxLocals = 1 := hml0
 have hown : si.vm.findClass "com/example/corduroy/corduroy/Topics" = some mi.cls := findClass_of_methodNamed Bd.named
 have hnm := (name_of_methodNamed Bd.named Bd.method).1
 have X0 : Stand pg l ev zR34 si mi #[(.ref o)] below meth ci s₁ [] 0 0 := Stand.of_body Bd
 have e0 : s₁.heap = h0 := by rw [← hh, Bd.state]; rfl
 have N0 := Fr.nil n0
 refine Go.start (fun P hP => ?_)
 refine Go.st (fun t_ k_ => castTop (ef_rmLv mi o) k_) (A := s₁.setTop (mkF mi 0 #[.val (.ref o)] [])) ?_
 refine g_aloadN X0 hx hby dc47_0 rfl rfl ?_
 show Go _ _ _ (s₁.setTop (mkF mi 1 #[.val (.ref o)] [(.ref o)])) _
 have CR1 : CHr Z own_EL si.vm h0 si.vm h0 := (CHr.refl hCH).trans (CHr.keep (Keep.refl h0 []) sf0 (CHr.refl hCH).1)
 have hwS : ∀ a ∈ Bundle.stringAtoms, a.before a0 Z = true := fun d hd => hw d ((by decide +kernel : ∀ d ∈ Bundle.stringAtoms, d ∈ tables_1) d hd)
 obtain ⟨os2, T2, h2, k12, bs2, ks2, X2, e2, E2, hSi2, hk12, hZ2, hown2, SE2, SCo2, SVa2, SA2, -, -, hCr2, hLi2, -, st2⟩ := ldcCH (s := si) (vm0 := si.vm) (EL := own_EL) (own_rb X0) hx hZ hown (hw _ (own_m 91 rfl)) hwS e0 ((State.WarmedH.refl si).since h0.size) (Nat.le_trans (Nat.le_refl _) (Keep.refl h0 []).1) hEL (List.mem_of_getElem? (i := 0) rfl) CR1.1 (vs := [(.int 47)]) (z := (1 : Int32)) ⟨by decide +kernel, by decide +kernel⟩ (by decide) (by decide +kernel) (g := (mkF mi 1 #[.val (.ref o)] [(.ref o)])) rfl (hb hby dc47_1) (n := 4) (by decide +kernel) (by decide) (by decide) (by decide)
 have SAr2 : Arv Z h2 bs2 ks2 .byte (1 : Int32) (([47] : List Int32).map Value.int) (.int (0 : Int32)) := SA2
 have SEb2 : Exa Z h2 bs2 "[B" := own_exB (s := si) hZ2 (hw _ (own_m 91 rfl)) (EL := own_EL) (List.mem_of_getElem? (i := 0) rfl) hCr2.1 hLi2 SVa2 SA2
 have hZ : Z.Warmed39 (si.setVm T2.vm).vm := hZ2
 have hown : (si.setVm T2.vm).vm.findClass "com/example/corduroy/corduroy/Topics" = some mi.cls := hown2
 have Zs3 : n0 ≤ h2.size := Nat.le_trans Z0 E2.1
 have KC3 : Keep h0 h2 [] := (Keep.refl h0 []).ext E2
 have KL3 : Keep h0 h2 [] := (Keep.refl h0 []).ext E2
 have CS2 : CHr Z own_EL si.vm h0 T2.vm h2 := CR1.trans hCr2
 refine Go.st st2 ?_
 show Go _ _ _ (T2.setTop (mkF mi 3 #[.val (.ref o)] [(.ref os2), (.ref o)])) _
 refine g_iconst X2 hx hby dc47_3 (v := (-1)) rfl ?_
 show Go _ _ _ (T2.setTop (mkF mi 4 #[.val (.ref o)] [(.int (-1)), (.ref os2), (.ref o)])) _
 have CR4 : CHr Z own_EL si.vm h0 T2.vm h2 := CS2.trans (CHr.keep (Keep.refl h2 []) sf0 CS2.1)
 have f5 := (SE.ext E2)
 have f6 := (SCo.ext E2)
 have f7 := (SVa.ext E2)
 have f8 := (SAr.ext E2)
 have f9 := (SEb.ext E2)
 have f10 := (SC.ext E2)
 have f11 := (SF.ext E2)
 have f12 := (SD.ext E2)
 have f13 := (DV.ext E2)
 have f14 := (DE.ext E2)
 obtain ⟨cq15, kq15, q15a, q15b, q15c⟩ := isOf hZ e2 f5
 obtain ⟨_, _, ⟨T15, L15, k15, n15⟩, -, X15, hS15', hG15, ⟨Lc15, hQ15, l15, y15, z15, hCr15⟩, st15⟩ := X2.virtualBackS hx (y := zy46) (z := zy46) hown (mvT hZ (hw _ (own_m 94 rfl))) (mvT hZ (hw _ (own_m 95 rfl))) (notFace_of_selects (args := #[]) (mvT hZ (hw _ (own_m 97 rfl)))) (mvT hZ (hw _ (own_m 97 rfl))) (mvT hZ (hw _ (own_m 96 rfl))) (by decide) (backOfSH (s := si) (vm0 := T2.vm) (EL := own_EL) (W := 0) (rmS2 l Z a0 hw [] o os2 bs2 ks2 b kb n E cz fm de kde h2 n0 Zs3 hEL f5 f6 f7 f8 f9 f10 hcz f11 hfm f12 f13 f14 hE hn SE2 SCo2 SVa2 SAr2 SEb2) hZ (hw _ (own_m 98 rfl)) (hw _ (own_m 9 rfl)) (by decide) (by decide) hEL CR4.1) q15a q15c (g := (mkF mi 4 #[.val (.ref o)] [(.int (-1)), (.ref os2), (.ref o)])) rfl (by rw [hml]; rfl) (Steps.refl _) (argsL := [(.ref os2), (.int (-1))]) (rest := []) (lenOf pd_32 rfl) rfl (by show 2 * 0 + _ ≤ _; exact Nat.le_of_eq rfl) (hb hby dc47_4) (fun _ _ => ⟨rfl, e2, (by decide : 2 + 16 ≤ _), (by decide : 8 + 116 ≤ _)⟩)
 dsimp only [Pt.U, Pt.locs, Pt.cells, Pt.slots] at X15 l15 y15 z15 st15 hQ15 hCr15 hS15' hG15
 subst y15 z15
 have X15 := own_cs X15 (cells' := 18) (slots' := 124) rfl rfl
 obtain ⟨X15, hS15, hZ, hown⟩ := rebS hSi2 (own_leT e2 (Nat.le_trans hk12 (Keep.refl h2 []).1)) X15 hS15' hG15 hZ hown
 obtain ⟨h15, e15⟩ : ∃ z, T15.heap = z := ⟨_, rfl⟩
 rw [e15] at hQ15
 obtain ⟨ar15, ka15, vs15, Ps15, m15, rfl, N15q, K15, VA15, EA15, HL15, hP15, hm115, hm515, hCv15⟩ := hQ15
 have N15 := own_fr l15 (Fr.app N0 N15q)
 have Zs16 : n0 ≤ h15.size := Nat.le_trans Zs3 K15.1
 have KC16 : Keep h0 h15 [] := KC3.trans K15 all0
 have KL16 : Keep h2 h15 [] := (Keep.refl h2 []).trans K15 all0
 rw [e15] at hCr15
 have CS15 : CHr Z own_EL si.vm h0 T15.vm h15 := CR4.trans hCr15
 refine Go.tr st15 ?_
 show Go _ _ _ (T15.setTop (mkF mi 7 #[.val (.ref o)] [(.ref ar15)])) _
 obtain ⟨fs, hr, hrun, hended, -, hW, hpr, hsame⟩ := Stand.leaveW (v := some (.ref ar15)) X15 hS15 (own_leT e15 (Nat.le_trans (own_leH e15) (Keep.refl h15 []).1)) (fun h => by rw [Bd.returns] at h; cases h) (BodyLoose.notSynchronized Bd)
 refine ⟨_, _, ?_, hP _ _ ⟨hrun, hended, _, _, rfl, ?_, (show CHr Z own_EL si.vm si.heap T15.vm T15.heap from own_chr hh e15 ((CS15.trans (CHr.keep (Keep.refl h15 []) sf0 CS15.1)).trans (CHv.at X15 hZ hEL (CHr.keep (Keep.refl h15 []) sf0 CS15.1).1))), ⟨_, rfl⟩, hW, hpr, hsame.mono (by decide) (by decide)⟩⟩
 ·exact retOut X15 hx Bd.returns rfl (Or.inr (Or.inr (Or.inr (Or.inr ⟨rfl, rfl, rfl⟩)))) (hb hby dc47_7) hr
 ·show Q_rmLv _ _ _ _ _ _ _ _ _ _ _ _ _ T15.heap _
  rw [e15]
  exact ⟨ar15, ka15, vs15, Ps15, m15, rfl, N15, KC16, VA15, EA15, HL15, hP15, hm115, hm515, hCv15⟩
theorem own_e1 {E : List Int32} {c : Int32} (h : E.length = 1) (q : E.getD (0 : Int32).toNatClampNeg 0 = c) : E = [c] := by
 rw [show (0 : Int32).toNatClampNeg = 0 from by decide +kernel] at q
 match E, h with
 | [x], _ => exact congrArg (fun z => [z]) q
theorem own_e2 {E : List Int32} {c : Int32} (q : ¬ (E.getD (0 : Int32).toNatClampNeg 0 = c)) : ¬ (E = [c]) := fun u => q (by rw [u, show (0 : Int32).toNatClampNeg = 0 from by decide +kernel]; rfl)
theorem own_e3 {E : List Int32} {c n : Int32} (hn : n.toInt = E.length) (q : ¬ (n = (1 : Int32))) : ¬ (E = [c]) := fun u => q (by apply Int32.toInt_inj.mp; rw [hn, u]; rfl)
theorem own_e4 {E : List Int32} {n : Int32} (hn : n.toInt = E.length) (q : n = (1 : Int32)) : E.length = 1 := by
 have l : (1 : Int32).toInt = 1 := rfl
 rw [q, l] at hn; omega
theorem own_e5 {Z : State} {h : Heap} {o b b2 : Addr} {kb k2 : ClassId} {n c : Int32} {E : List Int32} (hn : n.toInt = E.length) (A : Fld Z h o "java/lang/String" "value" "[B" (.ref b)) (B : Fld Z h o "java/lang/String" "value" "[B" (.ref b2)) (SA : Arv Z h b kb .byte n (E.map Value.int) (.int (0 : Int32))) (SB : Arv Z h b2 k2 .byte (1 : Int32) (([c] : List Int32).map Value.int) (.int (0 : Int32))) : E = [c] := by
 have hb : b = b2 := Decidable.byContradiction fun q => Fld.ne A B (fun u => q (Value.ref.inj u)) rfl
 subst hb
 have l1 : (1 : Int32).toNatClampNeg = 1 := by decide +kernel
 have h1 : n.toNatClampNeg = (1 : Int32).toNatClampNeg := Decidable.byContradiction fun q => arv_ne SA SB (Or.inl q) rfl
 have h2 : (E.map Value.int).getD 0 (.int (0 : Int32)) = .int c := Decidable.byContradiction fun q => arv_ne SA SB (Or.inr ⟨0, by omega, q⟩) rfl
 rw [own_gm] at h2
 have hl : E.length = 1 := by simp only [Int32.toNatClampNeg] at h1 l1; omega
 match E, hl with
 | [x], _ => exact congrArg (fun z => [z]) (Value.int.inj h2)
theorem dc48_0 : Dk zb48 0 (.aload_n 0) 1 := by decide +kernel
theorem dc48_1 : Dk zb48 1 .arraylength 1 := by decide +kernel
theorem dc48_2 : Dk zb48 2 (.aload_n 1) 1 := by decide +kernel
theorem dc48_3 : Dk zb48 3 .arraylength 1 := by decide +kernel
theorem dc48_4 : Dk zb48 4 (.if_icmp .ne 30) 3 := by decide +kernel
theorem dc48_7 : Dk zb48 7 (.iconst 0) 1 := by decide +kernel
theorem dc48_8 : Dk zb48 8 (.istore_n 2) 1 := by decide +kernel
theorem dc48_9 : Dk zb48 9 (.iload_n 2) 1 := by decide +kernel
theorem dc48_10 : Dk zb48 10 (.aload_n 0) 1 := by decide +kernel
theorem dc48_11 : Dk zb48 11 .arraylength 1 := by decide +kernel
theorem dc48_12 : Dk zb48 12 (.if_icmp .ge 20) 3 := by decide +kernel
theorem dc48_15 : Dk zb48 15 (.aload_n 0) 1 := by decide +kernel
theorem dc48_16 : Dk zb48 16 (.iload_n 2) 1 := by decide +kernel
theorem dc48_17 : Dk zb48 17 .baload 1 := by decide +kernel
theorem dc48_18 : Dk zb48 18 (.aload_n 1) 1 := by decide +kernel
theorem dc48_19 : Dk zb48 19 (.iload_n 2) 1 := by decide +kernel
theorem dc48_20 : Dk zb48 20 .baload 1 := by decide +kernel
theorem dc48_21 : Dk zb48 21 (.if_icmp .eq 5) 3 := by decide +kernel
theorem dc48_26 : Dk zb48 26 (.iinc 2 1) 3 := by decide +kernel
theorem dc48_29 : Dk zb48 29 (.goto (-20)) 3 := by decide +kernel
theorem dc48_32 : Dk zb48 32 (.iconst 1) 1 := by decide +kernel
theorem dc48_33 : Dk zb48 33 .ireturn 1 := by decide +kernel
theorem dc48_24 : Dk zb48 24 (.iconst 0) 1 := by decide +kernel
theorem dc48_25 : Dk zb48 25 .ireturn 1 := by decide +kernel
theorem dc48_34 : Dk zb48 34 (.iconst 0) 1 := by decide +kernel
theorem dc48_35 : Dk zb48 35 .ireturn 1 := by decide +kernel
theorem ef_rmLE (mi : MethodId) (b : Addr) (b2 : Addr) : entryFrame mi #[(.ref b), (.ref b2)] 3 = mkF mi 0 #[.val (.ref b), .val (.ref b2), .unset] [] := by first | (simp [entryFrame, mkF, argsToLocals, Value.category]; done) | rfl
theorem rmLE (l : Launch) (Z : State) (a0 : Array Value) (hw : Tb Z a0) (ws : List Jvm.Cond) (b : Addr) (b2 : Addr) (kb : ClassId) (kb2 : ClassId) (n : Int32) (E : List Int32) (c : Int32) (h0 : Heap) (n0 : Nat) (Z0 : n0 ≤ h0.size) (SAr : Arv Z h0 b kb .byte n (E.map Value.int) (.int (0 : Int32))) (SAr2 : Arv Z h0 b2 kb2 .byte (1 : Int32) (([c] : List Int32).map Value.int) (.int (0 : Int32))) (hn : n.toInt = E.length) :
  Mt l Z zy48 zb48 3 (some .boolean) ws zR0 #[(.ref b), (.ref b2)] h0 (QP (some (.int (if E = [c] then (1 : Int32) else (0 : Int32)))) h0 n0) := by
 refine MetFree.of_bodySF (plainFor_of_name pn_2) hisR ?_
 intro pg ev si mi args below meth ci s₁ Bd hml0 hP0 hK
 obtain ⟨rfl, hZ, hh⟩ := hP0
 have hx := Bd.exec
 have hby := Bd.bytes
 have hml : ci.maxLocals = 3 := hml0
 have hown : si.vm.findClass "java/lang/StringLatin1" = some mi.cls := findClass_of_methodNamed Bd.named
 have hnm := (name_of_methodNamed Bd.named Bd.method).1
 have X0 : Stand pg l ev zR0 si mi #[(.ref b), (.ref b2)] below meth ci s₁ [] 0 0 := Stand.of_body Bd
 have e0 : s₁.heap = h0 := by rw [← hh, Bd.state]; rfl
 have N0 := Fr.nil n0
 refine Go.start (fun P hP => ?_)
 refine Go.st (fun t_ k_ => castTop (ef_rmLE mi b b2) k_) (A := s₁.setTop (mkF mi 0 #[.val (.ref b), .val (.ref b2), .unset] [])) ?_
 refine g_aloadN X0 hx hby dc48_0 rfl rfl ?_
 have ov1 := SAr
 obtain ⟨cl1, Ar1, q1, S1, M1, H1, G1⟩ := ov1
 refine Go.st (X0.arraylength hx (by rw [e0]; exact Ar1.1) (State.isArrayOf_alike hZ.alike Ar1.2.1) (g := (mkF mi 1 #[.val (.ref b), .val (.ref b2), .unset] [(.ref b)])) rfl rfl (hb hby dc48_1)) ?_
 rw [len_of S1 M1]
 refine g_aloadN X0 hx hby dc48_2 rfl rfl ?_
 have ov2 := SAr2
 obtain ⟨cl2, Ar2, q2, S2, M2, H2, G2⟩ := ov2
 refine Go.st (X0.arraylength hx (by rw [e0]; exact Ar2.1) (State.isArrayOf_alike hZ.alike Ar2.2.1) (g := (mkF mi 3 #[.val (.ref b), .val (.ref b2), .unset] [(.ref b2), (.int n)])) rfl rfl (hb hby dc48_3)) ?_
 rw [len_of S2 M2]
 by_cases hc4_1 : n = (1 : Int32)
 ·refine g_icmpNo X0 hx hby dc48_4 (teq hc4_1).2 ?_
  show Go _ _ _ (s₁.setTop (mkF mi 7 #[.val (.ref b), .val (.ref b2), .unset] [])) _
  have SA1 := SAr
  rw [hc4_1] at SA1
  have hl1 := own_e4 hn hc4_1
  refine g_iconst X0 hx hby dc48_7 (v := 0) rfl ?_
  refine g_istoreN X0 hx hby dc48_8 (l' := #[.val (.ref b), .val (.ref b2), .val (.int 0)]) rfl ?_
  refine g_iloadN X0 hx hby dc48_9 rfl ?_
  refine g_aloadN X0 hx hby dc48_10 rfl rfl ?_
  have ov3 := SA1
  obtain ⟨cl3, Ar3, q3, S3, M3, H3, G3⟩ := ov3
  refine Go.st (X0.arraylength hx (by rw [e0]; exact Ar3.1) (State.isArrayOf_alike hZ.alike Ar3.2.1) (g := (mkF mi 11 #[.val (.ref b), .val (.ref b2), .val (.int 0)] [(.ref b), (.int 0)])) rfl rfl (hb hby dc48_11)) ?_
  rw [len_of S3 M3]
  refine g_icmpNo X0 hx hby dc48_12 (tlt (by decide)).2.1 ?_
  refine g_aloadN X0 hx hby dc48_15 rfl rfl ?_
  refine g_iloadN X0 hx hby dc48_16 rfl ?_
  have ov4 := SA1
  obtain ⟨cl4, Ar4, q4, S4, M4, H4, G4⟩ := ov4
  have hin4 : ¬ ((0 : Int32) < 0 ∨ cl4.slots.size ≤ ((0 : Int32)).toNatClampNeg) := inb_of S4 ⟨by decide, by decide⟩
  have hat4 : cl4.slots[((0 : Int32)).toNatClampNeg]? = some (.int (E.getD ((0 : Int32)).toNatClampNeg 0)) := Has.at H4 hin4 (own_gm E _)
  refine Go.st (X0.baloadBytes hx (j := (0 : Int32)) (v := (.int (E.getD (0 : Int32).toNatClampNeg 0))) (by rw [e0]; exact Ar4.1) (State.isArrayOf_alike hZ.alike Ar4.2.1) Ar4.2.2 hin4 hat4 (g := (mkF mi 17 #[.val (.ref b), .val (.ref b2), .val (.int 0)] [(.int 0), (.ref b)])) rfl rfl (hb hby dc48_17)) ?_
  refine g_aloadN X0 hx hby dc48_18 rfl rfl ?_
  refine g_iloadN X0 hx hby dc48_19 rfl ?_
  have ov5 := SAr2
  obtain ⟨cl5, Ar5, q5, S5, M5, H5, G5⟩ := ov5
  have hin5 : ¬ ((0 : Int32) < 0 ∨ cl5.slots.size ≤ ((0 : Int32)).toNatClampNeg) := inb_of S5 ⟨by decide, by decide⟩
  have hat5 : cl5.slots[((0 : Int32)).toNatClampNeg]? = some (.int c) := Has.at H5 hin5 ((own_gm ([c] : List Int32) _).trans (by rw [show (0 : Int32).toNatClampNeg = 0 from by decide +kernel]; rfl))
  refine Go.st (X0.baloadBytes hx (j := (0 : Int32)) (v := (.int c)) (by rw [e0]; exact Ar5.1) (State.isArrayOf_alike hZ.alike Ar5.2.1) Ar5.2.2 hin5 hat5 (g := (mkF mi 20 #[.val (.ref b), .val (.ref b2), .val (.int 0)] [(.int 0), (.ref b2), (.int (E.getD (0 : Int32).toNatClampNeg 0))])) rfl rfl (hb hby dc48_20)) ?_
  by_cases hc21_2 : (E.getD (0 : Int32).toNatClampNeg 0) = c
  ·refine g_icmpYes X0 hx hby dc48_21 (teq hc21_2).1 (pc0 := 21) (pc' := 26) rfl (by decide) (by decide) ?_
   refine g_iinc X0 hx hby dc48_26 rfl (x' := 1) rfl (l' := #[.val (.ref b), .val (.ref b2), .val (.int 1)]) rfl ?_
   refine g_goto X0 hx hby dc48_29 (pc0 := 29) (pc' := 9) rfl (by decide) (by decide) ?_
   refine g_iloadN X0 hx hby dc48_9 rfl ?_
   refine g_aloadN X0 hx hby dc48_10 rfl rfl ?_
   have ov6 := SA1
   obtain ⟨cl6, Ar6, q6, S6, M6, H6, G6⟩ := ov6
   refine Go.st (X0.arraylength hx (by rw [e0]; exact Ar6.1) (State.isArrayOf_alike hZ.alike Ar6.2.1) (g := (mkF mi 11 #[.val (.ref b), .val (.ref b2), .val (.int 1)] [(.ref b), (.int 1)])) rfl rfl (hb hby dc48_11)) ?_
   rw [len_of S6 M6]
   refine g_icmpYes X0 hx hby dc48_12 (flt (by decide)).2.1 (pc0 := 12) (pc' := 32) rfl (by decide) (by decide) ?_
   refine g_iconst X0 hx hby dc48_32 (v := 1) rfl ?_
   obtain ⟨fs, hr, hrun, hended, hW, hsame⟩ := X0.leave (v := some (.int 1)) (fun h => by rw [Bd.returns] at h; cases h) (BodyLoose.notSynchronized Bd)
   refine ⟨_, _, ?_, hP _ _ ⟨hrun, hended, _, _, rfl, ?_, ⟨_, rfl⟩, hW, hsame.mono (by decide) (by decide)⟩⟩
   ·exact retN X0 hx (t := .boolean) Bd.returns (by simp) (hb hby dc48_33) hr
   ·exact ⟨by rw [if_pos (own_e1 hl1 hc21_2)], N0, e0⟩
  ·refine g_icmpNo X0 hx hby dc48_21 (feq hc21_2).1 ?_
   refine g_iconst X0 hx hby dc48_24 (v := 0) rfl ?_
   obtain ⟨fs, hr, hrun, hended, hW, hsame⟩ := X0.leave (v := some (.int 0)) (fun h => by rw [Bd.returns] at h; cases h) (BodyLoose.notSynchronized Bd)
   refine ⟨_, _, ?_, hP _ _ ⟨hrun, hended, _, _, rfl, ?_, ⟨_, rfl⟩, hW, hsame.mono (by decide) (by decide)⟩⟩
   ·exact retN X0 hx (t := .boolean) Bd.returns (by simp) (hb hby dc48_25) hr
   ·exact ⟨by rw [if_neg (own_e2 hc21_2)], N0, e0⟩
 ·refine g_icmpYes X0 hx hby dc48_4 (feq hc4_1).2 (pc0 := 4) (pc' := 34) rfl (by decide) (by decide) ?_
  refine g_iconst X0 hx hby dc48_34 (v := 0) rfl ?_
  obtain ⟨fs, hr, hrun, hended, hW, hsame⟩ := X0.leave (v := some (.int 0)) (fun h => by rw [Bd.returns] at h; cases h) (BodyLoose.notSynchronized Bd)
  refine ⟨_, _, ?_, hP _ _ ⟨hrun, hended, _, _, rfl, ?_, ⟨_, rfl⟩, hW, hsame.mono (by decide) (by decide)⟩⟩
  ·exact retN X0 hx (t := .boolean) Bd.returns (by simp) (hb hby dc48_35) hr
  ·exact ⟨by rw [if_neg (own_e3 hn hc4_1)], N0, e0⟩
theorem dc49_0 : Dk zb49 0 (.aload_n 0) 1 := by decide +kernel
theorem dc49_1 : Dk zb49 1 (.aload_n 1) 1 := by decide +kernel
theorem dc49_2 : Dk zb49 2 (.if_acmp .ne 5) 3 := by decide +kernel
theorem dc49_5 : Dk zb49 5 (.iconst 1) 1 := by decide +kernel
theorem dc49_6 : Dk zb49 6 .ireturn 1 := by decide +kernel
theorem dc49_7 : Dk zb49 7 (.aload_n 1) 1 := by decide +kernel
theorem dc49_8 : Dk zb49 8 (.instanceof 10) 3 := by decide +kernel
theorem dc49_11 : Dk zb49 11 (.ifCond .eq 43) 3 := by decide +kernel
theorem dc49_14 : Dk zb49 14 (.aload_n 1) 1 := by decide +kernel
theorem dc49_15 : Dk zb49 15 (.checkcast 10) 3 := by decide +kernel
theorem dc49_18 : Dk zb49 18 (.astore_n 2) 1 := by decide +kernel
theorem dc49_19 : Dk zb49 19 (.getstatic 38) 3 := by decide +kernel
theorem dc49_22 : Dk zb49 22 (.ifCond .eq 14) 3 := by decide +kernel
theorem dc49_25 : Dk zb49 25 (.aload_n 0) 1 := by decide +kernel
theorem dc49_26 : Dk zb49 26 (.getfield 15) 3 := by decide +kernel
theorem dc49_29 : Dk zb49 29 (.aload_n 2) 1 := by decide +kernel
theorem dc49_30 : Dk zb49 30 (.getfield 15) 3 := by decide +kernel
theorem dc49_33 : Dk zb49 33 (.if_icmp .ne 21) 3 := by decide +kernel
theorem dc49_36 : Dk zb49 36 (.aload_n 0) 1 := by decide +kernel
theorem dc49_37 : Dk zb49 37 (.getfield 9) 3 := by decide +kernel
theorem dc49_40 : Dk zb49 40 (.aload_n 2) 1 := by decide +kernel
theorem dc49_41 : Dk zb49 41 (.getfield 9) 3 := by decide +kernel
theorem dc49_44 : Dk zb49 44 (.invokestatic 541) 3 := by decide +kernel
theorem pd_33 : parseMethodDescriptor "([B[B)Z" = some ⟨[(.array .byte), (.array .byte)], some .boolean⟩ := by decide +kernel
theorem dc49_47 : Dk zb49 47 (.ifCond .eq 7) 3 := by decide +kernel
theorem dc49_50 : Dk zb49 50 (.iconst 1) 1 := by decide +kernel
theorem dc49_51 : Dk zb49 51 (.goto 4) 3 := by decide +kernel
theorem dc49_54 : Dk zb49 54 (.iconst 0) 1 := by decide +kernel
theorem dc49_55 : Dk zb49 55 .ireturn 1 := by decide +kernel
theorem ef_rmEq (mi : MethodId) (o : Addr) (t : Addr) : entryFrame mi #[(.ref o), (.ref t)] 3 = mkF mi 0 #[.val (.ref o), .val (.ref t), .unset] [] := by first | (simp [entryFrame, mkF, argsToLocals, Value.category]; done) | rfl
theorem rmEq (l : Launch) (Z : State) (a0 : Array Value) (hw : Tb Z a0) (ws : List Jvm.Cond) (o : Addr) (t : Addr) (b : Addr) (kb : ClassId) (n : Int32) (E : List Int32) (b2 : Addr) (kb2 : ClassId) (c : Int32) (cz : Int32) (h0 : Heap) (n0 : Nat) (Z0 : n0 ≤ h0.size) (SE : Exa Z h0 o "java/lang/String") (SCo : Fld Z h0 o "java/lang/String" "coder" "B" (.int (0 : Int32))) (SVa : Fld Z h0 o "java/lang/String" "value" "[B" (.ref b)) (SAr : Arv Z h0 b kb .byte n (E.map Value.int) (.int (0 : Int32))) (SEb : Exa Z h0 b "[B") (SEt : Exa Z h0 t "java/lang/String") (SCot : Fld Z h0 t "java/lang/String" "coder" "B" (.int (0 : Int32))) (SVat : Fld Z h0 t "java/lang/String" "value" "[B" (.ref b2)) (SArt : Arv Z h0 b2 kb2 .byte (1 : Int32) (([c] : List Int32).map Value.int) (.int (0 : Int32))) (SEbt : Exa Z h0 b2 "[B") (SC : Sta Z h0 "java/lang/String" "COMPACT_STRINGS" "Z" (.int cz)) (hcz : ¬ (cz = (0 : Int32))) (hn : n.toInt = E.length) :
  Mt l Z zy49 zb49 3 (some .boolean) ws zR2 #[(.ref o), (.ref t)] h0 (QP (some (.int (if E = [c] then (1 : Int32) else (0 : Int32)))) h0 n0) := by
 refine MetFree.of_bodySF (plainFor_of_name pn_0) hisR ?_
 intro pg ev si mi args below meth ci s₁ Bd hml0 hP0 hK
 obtain ⟨rfl, hZ, hh⟩ := hP0
 have hx := Bd.exec
 have hby := Bd.bytes
 have hml : ci.maxLocals = 3 := hml0
 have hown : si.vm.findClass "java/lang/String" = some mi.cls := findClass_of_methodNamed Bd.named
 have hnm := (name_of_methodNamed Bd.named Bd.method).1
 have X0 : Stand pg l ev zR2 si mi #[(.ref o), (.ref t)] below meth ci s₁ [] 0 0 := Stand.of_body Bd
 have e0 : s₁.heap = h0 := by rw [← hh, Bd.state]; rfl
 have N0 := Fr.nil n0
 refine Go.start (fun P hP => ?_)
 refine Go.st (fun t_ k_ => castTop (ef_rmEq mi o t) k_) (A := s₁.setTop (mkF mi 0 #[.val (.ref o), .val (.ref t), .unset] [])) ?_
 refine g_aloadN X0 hx hby dc49_0 rfl rfl ?_
 refine g_aloadN X0 hx hby dc49_1 rfl rfl ?_
 show Go _ _ _ (s₁.setTop (mkF mi 2 #[.val (.ref o), .val (.ref t), .unset] [(.ref t), (.ref o)])) _
 by_cases hot : o = t
 ·
  refine Go.st (fun t_ k_ => Jvm.RoadKit.acmp (g := (mkF mi 2 #[.val (.ref o), .val (.ref t), .unset] [(.ref t), (.ref o)])) X0 hx rfl rfl rfl (pc0 := 2) (pc' := 5) (same := true) rfl (hb hby dc49_2) rfl (decide_eq_true (by rw [hot])) (by decide) (by decide) k_) ?_
  show Go _ _ _ (s₁.setTop (mkF mi 5 #[.val (.ref o), .val (.ref t), .unset] [])) _
  refine g_iconst X0 hx hby dc49_5 (v := 1) rfl ?_
  obtain ⟨fs, hr, hrun, hended, hW, hsame⟩ := X0.leave (v := some (.int 1)) (fun h => by rw [Bd.returns] at h; cases h) (BodyLoose.notSynchronized Bd)
  refine ⟨_, _, ?_, hP _ _ ⟨hrun, hended, _, _, rfl, ?_, ⟨_, rfl⟩, hW, hsame.mono (by decide) (by decide)⟩⟩
  ·exact retN X0 hx (t := .boolean) Bd.returns (by simp) (hb hby dc49_6) hr
  ·exact ⟨by rw [if_pos (own_e5 hn SVa (hot ▸ SVat) SAr SArt)], N0, e0⟩
 ·
  refine Go.st (fun t_ k_ => Jvm.RoadKit.acmp (g := (mkF mi 2 #[.val (.ref o), .val (.ref t), .unset] [(.ref t), (.ref o)])) X0 hx rfl rfl rfl (pc0 := 2) (pc' := 7) (same := false) rfl (hb hby dc49_2) rfl (decide_eq_false fun q => hot (Value.ref.inj q)) (by decide) (by decide) k_) ?_
  show Go _ _ _ (s₁.setTop (mkF mi 7 #[.val (.ref o), .val (.ref t), .unset] [])) _
  refine g_aloadN X0 hx hby dc49_7 rfl rfl ?_
  obtain ⟨T1, X1, e1, st1⟩ := instY X0 hx hZ hown (hw _ (own_m 201 rfl)) e0 (Ins.self SEt) (g := (mkF mi 8 #[.val (.ref o), .val (.ref t), .unset] [(.ref t)])) rfl rfl (hb hby dc49_8)
  refine Go.st st1 ?_
  refine g_ifNo X1 hx hby dc49_11 ((if0 _ _).trans (feq (by decide)).1) ?_
  refine g_aloadN X1 hx hby dc49_14 rfl rfl ?_
  obtain ⟨T2, X2, e2, st2⟩ := castY X1 hx hZ hown (hw _ (own_m 201 rfl)) e1 (Ins.self SEt) (g := (mkF mi 15 #[.val (.ref o), .val (.ref t), .unset] [(.ref t)])) rfl rfl (hb hby dc49_15)
  refine Go.st st2 ?_
  refine g_astoreN X2 hx hby dc49_18 rfl (l' := #[.val (.ref o), .val (.ref t), .val (.ref t)]) rfl ?_
  obtain ⟨T3, X3, e3, st3⟩ := getS2 X2 hx hZ hown (host := "") (Or.inl (hw _ (own_m 21 rfl))) Via.refl e2 SC (g := (mkF mi 19 #[.val (.ref o), .val (.ref t), .val (.ref t)] [])) rfl (hb hby dc49_19)
  refine Go.st st3 ?_
  refine g_ifNo X3 hx hby dc49_22 ((if0 _ _).trans (feq hcz).1) ?_
  refine g_aloadN X3 hx hby dc49_25 rfl rfl ?_
  obtain ⟨T4, X4, e4, st4⟩ := getF X3 hx hZ hown (host := "") (Or.inl (hw _ (own_m 33 rfl))) Via.refl e3 SCo (g := (mkF mi 26 #[.val (.ref o), .val (.ref t), .val (.ref t)] [(.ref o)])) rfl rfl (hb hby dc49_26)
  refine Go.st st4 ?_
  refine g_aloadN X4 hx hby dc49_29 rfl rfl ?_
  obtain ⟨T5, X5, e5, st5⟩ := getF X4 hx hZ hown (host := "") (Or.inl (hw _ (own_m 33 rfl))) Via.refl e4 SCot (g := (mkF mi 30 #[.val (.ref o), .val (.ref t), .val (.ref t)] [(.ref t), (.int 0)])) rfl rfl (hb hby dc49_30)
  refine Go.st st5 ?_
  refine g_icmpNo X5 hx hby dc49_33 (teq rfl).2 ?_
  refine g_aloadN X5 hx hby dc49_36 rfl rfl ?_
  obtain ⟨T6, X6, e6, st6⟩ := getF X5 hx hZ hown (host := "") (Or.inl (hw _ (own_m 35 rfl))) Via.refl e5 SVa (g := (mkF mi 37 #[.val (.ref o), .val (.ref t), .val (.ref t)] [(.ref o)])) rfl rfl (hb hby dc49_37)
  refine Go.st st6 ?_
  refine g_aloadN X6 hx hby dc49_40 rfl rfl ?_
  obtain ⟨T7, X7, e7, st7⟩ := getF X6 hx hZ hown (host := "") (Or.inl (hw _ (own_m 35 rfl))) Via.refl e6 SVat (g := (mkF mi 41 #[.val (.ref o), .val (.ref t), .val (.ref t)] [(.ref t), (.ref b)])) rfl rfl (hb hby dc49_41)
  refine Go.st st7 ?_
  obtain ⟨_, _, ⟨T8, L8, k8, n8⟩, -, X8, ⟨Lc8, hQ8, l8, y8, z8⟩, st8⟩ := Jvm.LawKit.callS X7 hx (y := zy48) hown (mvT hZ (hw _ (own_m 309 rfl))) (mvT hZ (hw _ (own_m 310 rfl))) (mvT hZ (hw _ (own_m 73 rfl))) (mvT hZ (hw _ (own_m 311 rfl))) (by decide) (backOf (W := 0) (rmLE l Z a0 hw [] b b2 kb kb2 n E c h0 n0 Z0 SAr SArt hn) hZ (hw _ (own_m 311 rfl)) (hw _ (own_m 73 rfl)) (by decide) (by decide)) (g := (mkF mi 44 #[.val (.ref o), .val (.ref t), .val (.ref t)] [(.ref b2), (.ref b)])) rfl (by rw [hml]; rfl) (argsL := [(.ref b), (.ref b2)]) (rest := []) (lenOf pd_33 rfl) rfl (by show 2 * 0 + _ ≤ _; exact Nat.le_of_eq rfl) (hb hby dc49_44) (fun _ _ => ⟨rfl, e7, (by decide : 0 + 0 ≤ _), (by decide : 0 + 0 ≤ _)⟩)
  dsimp only [Pt.U, Pt.locs, Pt.cells, Pt.slots] at X8 l8 y8 z8 st8 hQ8
  subst y8 z8
  have X8 := own_cs X8 (cells' := 0) (slots' := 0) rfl rfl
  obtain ⟨rfl, N8q, e8⟩ := hQ8
  have N8 := own_fr l8 (Fr.app N0 N8q)
  refine Go.st st8 ?_
  have dm9 : ∀ t_, Steps pg.tables ev below (T8.setTop (mkF mi 55 #[.val (.ref o), .val (.ref t), .val (.ref t)] [(.int (if E = [c] then (1 : Int32) else (0 : Int32)))])) t_ → Steps pg.tables ev below (T8.setTop (mkF mi 47 #[.val (.ref o), .val (.ref t), .val (.ref t)] [(.int (if E = [c] then (1 : Int32) else (0 : Int32)))])) t_ := by
   intro t_ k_
   by_cases hd : E = [c]
   ·refine XS.ifNo X8.here hx rfl (hb hby dc49_47) rfl ((if0 _ _).trans (feq (show ¬ ((if E = [c] then (1 : Int32) else (0 : Int32)) = (0 : Int32)) from (by rw [if_pos hd] <;> decide))).1) ?_
    refine XS.iconst X8.here hx rfl (hb hby dc49_50) ?_
    refine XS.goto X8.here hx rfl (pc0 := 51) (pc' := 55) rfl (hb hby dc49_51) (by decide) (by decide) ?_
    show Steps _ _ _ (T8.setTop (mkF mi 55 #[.val (.ref o), .val (.ref t), .val (.ref t)] [(.int 1)])) t_
    exact own_cst (if_pos hd) k_
   ·refine XS.ifYes X8.here hx rfl (pc0 := 47) (pc' := 54) rfl (hb hby dc49_47) rfl ((if0 _ _).trans (teq (show (if E = [c] then (1 : Int32) else (0 : Int32)) = (0 : Int32) from (by rw [if_neg hd] <;> decide))).1) (by decide) (by decide) ?_
    refine XS.iconst X8.here hx rfl (hb hby dc49_54) ?_
    show Steps _ _ _ (T8.setTop (mkF mi 55 #[.val (.ref o), .val (.ref t), .val (.ref t)] [(.int 0)])) t_
    exact own_cst (if_neg hd) k_
  refine Go.st dm9 ?_
  show Go _ _ _ (T8.setTop (mkF mi 55 #[.val (.ref o), .val (.ref t), .val (.ref t)] [(.int (if E = [c] then (1 : Int32) else (0 : Int32)))])) _
  obtain ⟨fs, hr, hrun, hended, hW, hsame⟩ := X8.leave (v := some (.int (if E = [c] then (1 : Int32) else (0 : Int32)))) (fun h => by rw [Bd.returns] at h; cases h) (BodyLoose.notSynchronized Bd)
  refine ⟨_, _, ?_, hP _ _ ⟨hrun, hended, _, _, rfl, ?_, ⟨_, rfl⟩, hW, hsame.mono (by decide) (by decide)⟩⟩
  ·exact own_retN X8 hx (t := .boolean) Bd.returns (by simp) (own_nb rfl rfl) (hb hby dc49_55) hr
  ·exact ⟨rfl, N8, e8⟩
theorem own_nin {P : List Int32} {c : Int32} (hl : P.length ≤ 100) (h : ix P c 0 < (0 : Int32)) : c ∉ P := fun hm => by
 obtain ⟨j, hj, e⟩ := List.getElem_of_mem hm
 exact (ix_neg hl).mp h j hj (by rw [List.getD_eq_getElem?_getD, List.getElem?_eq_getElem hj, e]; rfl)
def Okl (P : List Int32) : Prop := ((35 : Int32) ∉ P ∨ P = [(35 : Int32)]) ∧ ((43 : Int32) ∉ P ∨ P = [(43 : Int32)])
def VF (E : List Int32) : Prop := ∀ i, i < E.length → Wc (E.getD i 0) → (i = 0 ∨ E.getD (i - 1) 0 = 47) ∧ (i + 1 = E.length ∨ E.getD (i + 1) 0 = 47)
theorem own_vf {E : List Int32} {Ps : List (List Int32)} (hC : Cv E Ps (E.length + 1)) (hO : ∀ j, j < Ps.length → Okl (Ps.getD j [])) : VF E := fun i hi hw => by
 obtain ⟨P, hP, hx, h1⟩ := hC i (by omega) hi hw
 obtain ⟨j, hj, e⟩ := List.getElem_of_mem hP
 have ho := hO j hj
 rw [List.getD_eq_getElem?_getD, List.getElem?_eq_getElem hj, e] at ho
 rcases hw with q | q
 ·rw [q] at hx
  rcases ho.2 with u | u
  ·exact absurd hx u
  ·exact h1 (by rw [show P = [43] from u]; rfl)
 ·rw [q] at hx
  rcases ho.1 with u | u
  ·exact absurd hx u
  ·exact h1 (by rw [show P = [35] from u]; rfl)
theorem own_m1 {m : Nat} (h : 1 ≤ m) (h5 : m ≤ 5) : Int32.ofNat m - (1 : Int32) = Int32.ofNat (m - 1) := own_sub (m := 1) (by omega) h
theorem dc50_24 : Dk zb50 24 (.iload_n 2) 1 := by decide +kernel
theorem dc50_25 : Dk zb50 25 (.aload_n 1) 1 := by decide +kernel
theorem dc50_26 : Dk zb50 26 .arraylength 1 := by decide +kernel
theorem dc50_27 : Dk zb50 27 (.if_icmp .ge 73) 3 := by decide +kernel
theorem dc50_30 : Dk zb50 30 (.aload_n 1) 1 := by decide +kernel
theorem dc50_31 : Dk zb50 31 (.iload_n 2) 1 := by decide +kernel
theorem dc50_32 : Dk zb50 32 .aaload 1 := by decide +kernel
theorem dc50_33 : Dk zb50 33 (.astore_n 3) 1 := by decide +kernel
theorem dc50_34 : Dk zb50 34 (.iload_n 2) 1 := by decide +kernel
theorem dc50_35 : Dk zb50 35 (.aload_n 1) 1 := by decide +kernel
theorem dc50_36 : Dk zb50 36 .arraylength 1 := by decide +kernel
theorem dc50_37 : Dk zb50 37 (.iconst 1) 1 := by decide +kernel
theorem dc50_38 : Dk zb50 38 .isub 1 := by decide +kernel
theorem dc50_39 : Dk zb50 39 (.if_icmp .ne 7) 3 := by decide +kernel
theorem dc50_42 : Dk zb50 42 (.iconst 1) 1 := by decide +kernel
theorem dc50_43 : Dk zb50 43 (.goto 4) 3 := by decide +kernel
theorem dc50_47 : Dk zb50 47 (.istore 4) 2 := by decide +kernel
theorem dc50_49 : Dk zb50 49 (.aload_n 3) 1 := by decide +kernel
theorem dc50_50 : Dk zb50 50 (.bipush 35) 2 := by decide +kernel
theorem dc50_52 : Dk zb50 52 (.invokevirtual 33) 3 := by decide +kernel
theorem dc50_55 : Dk zb50 55 (.ifCond .lt 19) 3 := by decide +kernel
theorem dc50_58 : Dk zb50 58 (.iload 4) 2 := by decide +kernel
theorem dc50_60 : Dk zb50 60 (.ifCond .eq 12) 3 := by decide +kernel
theorem dc50_63 : Dk zb50 63 (.aload_n 3) 1 := by decide +kernel
theorem dc50_64 : Dk zb50 64 (.ldc 42) 2 := by decide +kernel
theorem dc50_66 : Dk zb50 66 (.invokevirtual 44) 3 := by decide +kernel
theorem dc50_69 : Dk zb50 69 (.ifCond .ne 5) 3 := by decide +kernel
theorem dc50_46 : Dk zb50 46 (.iconst 0) 1 := by decide +kernel
theorem own_iv24 (l : Launch) (Z : State) (a0 : Array Value) (hw : Tb Z a0) {pg : Program} {ev : Env} {si : State} {mi : MethodId} {args : Array Value} {below : List Frame} {meth : Method} {ci : Code} {s₁ : State} {locs : List Loc} {cells slots : Nat} (X0 : Stand pg l ev zR35 si mi args below meth ci s₁ locs cells slots) (hx : pg.tables.exec = Jvm.exec) (hby : ci.code = zb50) (hml : ci.maxLocals = 5) (hZ : Z.Warmed39 si.vm) (hown : si.vm.findClass "com/example/corduroy/corduroy/Topics" = some mi.cls) {P : State → Outcome → Prop} (o : Addr) (ar : Addr) (i : Nat) (s3 : Slot) (s4 : Slot) (ka : ClassId) (vs : List Value) (Ps : List (List Int32)) (m : Nat) (cz : Int32) (h0 : Heap) (n0 : Nat) (Z0 : n0 ≤ h0.size) (e0 : s₁.heap = h0) (N0 : Fr n0 locs) (hEL : EW Z a0 own_EL) (hCH : CHv Z own_EL si.vm h0) (SC : Sta Z h0 "java/lang/String" "COMPACT_STRINGS" "Z" (.int cz)) (hcz : ¬ (cz = (0 : Int32))) (VA : Arv Z h0 ar ka (.object "java/lang/String") (Int32.ofNat m) vs .null) (HL : Lvs Z h0 vs Ps) (hPl : Ps.length = m) (hm5 : m ≤ 5) (hi : i < m) (hcs : cells + 2 ≤ 30) (hss : slots + 8 ≤ 172) (h34 : (s3 = .unset ∧ s4 = .unset) ∨ ∃ (u3 : Addr) (u4 : Int32), s3 = .val (.ref u3) ∧ s4 = .val (.int u4)) (K1 : ¬ (i + 1 = m) → (35 : Int32) ∉ (Ps.getD i []) → ∀ (sv : Addr), vs.getD i .null = .ref sv → ∀ (T' : State) (locs' : List Loc), Stand pg l ev zR35 si mi args below meth ci T' locs' cells slots → T'.heap = h0 → Fr n0 locs' → Go pg.tables ev below (T'.setTop (mkF mi 74 #[.val (.ref o), .val (.ref ar), .val (.int (Int32.ofNat i)), (.val (.ref sv)), (.val (.int 0))] [])) P) (K2 : i + 1 = m → ((35 : Int32) ∉ (Ps.getD i []) ∨ (Ps.getD i []) = [(35 : Int32)]) → ∀ (sv : Addr), vs.getD i .null = .ref sv → ∀ (T' : State) (vm' : Vm) (locs' : List Loc) (h' : Heap), Stand pg l ev zR35 (si.setVm vm') mi args below meth ci T' locs' (cells + 2) (slots + 8) → T'.heap = h' → Fr n0 locs' → Keep h0 h' [] → si.Since vm' h'.size → Z.Warmed39 vm' → vm'.findClass "com/example/corduroy/corduroy/Topics" = some mi.cls → CHr Z own_EL si.vm h0 vm' h' → Go pg.tables ev below (T'.setTop (mkF mi 74 #[.val (.ref o), .val (.ref ar), .val (.int (Int32.ofNat i)), (.val (.ref sv)), (.val (.int 1))] [])) P) (K0 : ∀ (sv : Addr) (u4 : Int32), ∀ (T' : State) (vm' : Vm) (locs' : List Loc) (h' : Heap), Stand pg l ev zR35 (si.setVm vm') mi args below meth ci T' locs' (cells + 2) (slots + 8) → T'.heap = h' → Fr n0 locs' → Keep h0 h' [] → si.Since vm' h'.size → Z.Warmed39 vm' → vm'.findClass "com/example/corduroy/corduroy/Topics" = some mi.cls → CHr Z own_EL si.vm h0 vm' h' → Go pg.tables ev below (T'.setTop (mkF mi 72 #[.val (.ref o), .val (.ref ar), .val (.int (Int32.ofNat i)), (.val (.ref sv)), (.val (.int u4))] [])) P) :
  Go pg.tables ev below (s₁.setTop (mkF mi 24 #[.val (.ref o), .val (.ref ar), .val (.int (Int32.ofNat i)), s3, s4] [])) P := by
 obtain ⟨sv, hsv, bv, kbv, nv, SEv, SCov, SVav, SArv, SEbv, hnv, hlv⟩ := HL i (by omega)
 refine g_iloadN X0 hx hby dc50_24 rfl ?_
 refine g_aloadN X0 hx hby dc50_25 rfl rfl ?_
 have ov1 := VA
 obtain ⟨cl1, Ar1, q1, S1, M1, H1, G1⟩ := ov1
 refine Go.st (X0.arraylength hx (by rw [e0]; exact Ar1.1) (State.isArrayOf_alike hZ.alike Ar1.2.1) (g := (mkF mi 26 #[.val (.ref o), .val (.ref ar), .val (.int (Int32.ofNat i)), s3, s4] [(.ref ar), (.int (Int32.ofNat i))])) rfl rfl (hb hby dc50_26)) ?_
 rw [len_of S1 M1]
 refine g_icmpNo X0 hx hby dc50_27 (tlt ((own_oflt (n := i) (m := m) (by omega) (by omega)).mpr hi)).2.1 ?_
 refine g_aloadN X0 hx hby dc50_30 rfl rfl ?_
 refine g_iloadN X0 hx hby dc50_31 rfl ?_
 have ov2 := VA
 obtain ⟨cl2, Ar2, q2, S2, M2, H2, G2⟩ := ov2
 have hin2 : ¬ ((Int32.ofNat i) < 0 ∨ cl2.slots.size ≤ ((Int32.ofNat i)).toNatClampNeg) := inb_of S2 ⟨own_ofN0 (n := i) (by omega), (own_oflt (n := i) (m := m) (by omega) (by omega)).mpr hi⟩
 have hat2 : cl2.slots[((Int32.ofNat i)).toNatClampNeg]? = some (.ref sv) := Has.at H2 hin2 (by rw [own_ofNn (by omega)]; exact hsv)
 refine Go.st (X0.aaload hx (j := (Int32.ofNat i)) (v := (.ref sv)) (by rw [e0]; exact Ar2.1) (State.isArrayOf_alike hZ.alike Ar2.2.1) rfl Ar2.2.2 hin2 hat2 (g := (mkF mi 32 #[.val (.ref o), .val (.ref ar), .val (.int (Int32.ofNat i)), s3, s4] [(.int (Int32.ofNat i)), (.ref ar)])) rfl rfl (hb hby dc50_32)) ?_
 show Go _ _ _ (s₁.setTop (mkF mi 33 #[.val (.ref o), .val (.ref ar), .val (.int (Int32.ofNat i)), s3, s4] [(.ref sv)])) _
 refine g_astoreN X0 hx hby dc50_33 rfl (l' := #[.val (.ref o), .val (.ref ar), .val (.int (Int32.ofNat i)), .val (.ref sv), s4]) (by rcases h34 with ⟨rfl, rfl⟩ | ⟨_, _, rfl, rfl⟩ <;> rfl) ?_
 show Go _ _ _ (s₁.setTop (mkF mi 34 #[.val (.ref o), .val (.ref ar), .val (.int (Int32.ofNat i)), .val (.ref sv), s4] [])) _
 refine g_iloadN X0 hx hby dc50_34 rfl ?_
 refine g_aloadN X0 hx hby dc50_35 rfl rfl ?_
 have ov3 := VA
 obtain ⟨cl3, Ar3, q3, S3, M3, H3, G3⟩ := ov3
 refine Go.st (X0.arraylength hx (by rw [e0]; exact Ar3.1) (State.isArrayOf_alike hZ.alike Ar3.2.1) (g := (mkF mi 36 #[.val (.ref o), .val (.ref ar), .val (.int (Int32.ofNat i)), .val (.ref sv), s4] [(.ref ar), (.int (Int32.ofNat i))])) rfl rfl (hb hby dc50_36)) ?_
 rw [len_of S3 M3]
 refine g_iconst X0 hx hby dc50_37 (v := 1) rfl ?_
 refine g_isub X0 hx hby dc50_38 rfl ?_
 show Go _ _ _ (s₁.setTop (mkF mi 39 #[.val (.ref o), .val (.ref ar), .val (.int (Int32.ofNat i)), .val (.ref sv), s4] [(.int ((Int32.ofNat m) - (1 : Int32))), (.int (Int32.ofNat i))])) _
 rw [own_m1 (by omega) hm5]
 show Go _ _ _ (s₁.setTop (mkF mi 39 #[.val (.ref o), .val (.ref ar), .val (.int (Int32.ofNat i)), .val (.ref sv), s4] [(.int (Int32.ofNat (m - 1))), (.int (Int32.ofNat i))])) _
 by_cases hc39_1 : (Int32.ofNat i) = (Int32.ofNat (m - 1))
 ·refine g_icmpNo X0 hx hby dc50_39 (teq hc39_1).2 ?_
  refine g_iconst X0 hx hby dc50_42 (v := 1) rfl ?_
  refine g_goto X0 hx hby dc50_43 (pc0 := 43) (pc' := 47) rfl (by decide) (by decide) ?_
  show Go _ _ _ (s₁.setTop (mkF mi 47 #[.val (.ref o), .val (.ref ar), .val (.int (Int32.ofNat i)), .val (.ref sv), s4] [(.int 1)])) _
  refine g_istore X0 hx hby dc50_47 (l' := #[.val (.ref o), .val (.ref ar), .val (.int (Int32.ofNat i)), .val (.ref sv), .val (.int 1)]) (by rcases h34 with ⟨rfl, rfl⟩ | ⟨_, _, rfl, rfl⟩ <;> rfl) ?_
  show Go _ _ _ (s₁.setTop (mkF mi 49 #[.val (.ref o), .val (.ref ar), .val (.int (Int32.ofNat i)), .val (.ref sv), .val (.int 1)] [])) _
  refine g_aloadN X0 hx hby dc50_49 rfl rfl ?_
  refine g_bipush X0 hx hby dc50_50 (v := 35) rfl ?_
  obtain ⟨cq4, kq4, q4a, q4b, q4c⟩ := isOf hZ e0 SEv
  obtain ⟨_, _, ⟨T4, L4, k4, n4⟩, -, X4, ⟨Lc4, hQ4, l4, y4, z4⟩, st4⟩ := X0.virtualBack hx (y := zy23) (z := zy23) hown (mvT hZ (hw _ (own_m 46 rfl))) (mvT hZ (hw _ (own_m 47 rfl))) (notFace_of_selects (args := #[]) (mvT hZ (hw _ (own_m 49 rfl)))) (mvT hZ (hw _ (own_m 49 rfl))) (mvT hZ (hw _ (own_m 48 rfl))) (by decide) (backOf (W := 0) (rmI1 l Z a0 hw [] sv (35 : Int32) bv kbv nv (Ps.getD i []) (35 : Int32) cz h0 n0 Z0 SEv SCov SVav SArv SEbv SC hcz hlv hnv (by decide) (by decide) (by decide)) hZ (hw _ (own_m 50 rfl)) (hw _ (own_m 9 rfl)) (by decide) (by decide)) q4a q4c (g := (mkF mi 52 #[.val (.ref o), .val (.ref ar), .val (.int (Int32.ofNat i)), .val (.ref sv), .val (.int 1)] [(.int 35), (.ref sv)])) rfl (by rw [hml]; rfl) (Steps.refl _) (argsL := [(.int 35)]) (rest := []) (lenOf pd_29 rfl) rfl (by show 2 * 0 + _ ≤ _; exact Nat.le_of_eq rfl) (hb hby dc50_52) (fun _ _ => ⟨rfl, e0, (by show (cells + 0) + 0 ≤ 30; omega), (by show (slots + 0) + 0 ≤ 172; omega)⟩)
  dsimp only [Pt.U, Pt.locs, Pt.cells, Pt.slots] at X4 l4 y4 z4 st4 hQ4

  have X4 := own_cs X4 (cells' := (cells + 0)) (slots' := (slots + 0)) y4 z4
  obtain ⟨rfl, N4q, e4⟩ := hQ4
  have N4 := own_fr l4 (Fr.app N0 N4q)
  refine Go.tr st4 ?_
  by_cases hc55_2 : (ix (Ps.getD i []) (35 : Int32) 0) < (0 : Int32)
  ·refine g_ifYes X4 hx hby dc50_55 ((if0 _ _).trans (tlt hc55_2).1) (pc0 := 55) (pc' := 74) rfl (by decide) (by decide) ?_
   show Go _ _ _ (T4.setTop (mkF mi 74 #[.val (.ref o), .val (.ref ar), .val (.int (Int32.ofNat i)), .val (.ref sv), .val (.int 1)] [])) _
   have CR5 : CHr Z own_EL si.vm h0 si.vm h0 := (CHr.refl hCH).trans (CHr.keep (Keep.refl h0 []) sf0 (CHr.refl hCH).1)
   exact K2 (by have := (own_ofeq (n := i) (m := m - 1) (by omega) (by omega)).mp hc39_1; omega) (Or.inl (own_nin hlv hc55_2)) sv hsv _ si.vm _ _ (Stand.more (own_rb X4) (by omega) (by omega)) e4 N4 (Keep.refl h0 []) (own_snc ((State.WarmedH.refl si).since h0.size) (Nat.le_trans (Nat.le_refl _) (Keep.refl h0 []).1)) hZ hown CR5
  ·refine g_ifNo X4 hx hby dc50_55 ((if0 _ _).trans (flt hc55_2).1) ?_
   refine g_iload X4 hx hby dc50_58 rfl ?_
   refine g_ifNo X4 hx hby dc50_60 ((if0 _ _).trans (feq (by decide)).1) ?_
   refine g_aloadN X4 hx hby dc50_63 rfl rfl ?_
   show Go _ _ _ (T4.setTop (mkF mi 64 #[.val (.ref o), .val (.ref ar), .val (.int (Int32.ofNat i)), .val (.ref sv), .val (.int 1)] [(.ref sv)])) _
   have CR6 : CHr Z own_EL si.vm h0 si.vm h0 := (CHr.refl hCH).trans (CHr.keep (Keep.refl h0 []) sf0 (CHr.refl hCH).1)
   have hwS : ∀ a ∈ Bundle.stringAtoms, a.before a0 Z = true := fun d hd => hw d ((by decide +kernel : ∀ d ∈ Bundle.stringAtoms, d ∈ tables_1) d hd)
   obtain ⟨os7, T7, h7, k17, bs7, ks7, X7, e7, E7, hSi7, hk17, hZ7, hown7, SE7, SCo7, SVa7, SA7, -, -, hCr7, hLi7, -, st7⟩ := ldcCH (s := si) (vm0 := si.vm) (EL := own_EL) (own_rb X4) hx hZ hown (hw _ (own_m 287 rfl)) hwS e4 ((State.WarmedH.refl si).since h0.size) (Nat.le_trans (Nat.le_refl _) (Keep.refl h0 []).1) hEL (List.mem_of_getElem? (i := 1) rfl) CR6.1 (vs := [(.int 35)]) (z := (1 : Int32)) ⟨by decide +kernel, by decide +kernel⟩ (by decide) (by decide +kernel) (g := (mkF mi 64 #[.val (.ref o), .val (.ref ar), .val (.int (Int32.ofNat i)), .val (.ref sv), .val (.int 1)] [(.ref sv)])) rfl (hb hby dc50_64) (n := 4) (by decide +kernel) (by decide) (by show _ ≤ 30; omega) (by show _ ≤ 172; omega)
   have SAr7 : Arv Z h7 bs7 ks7 .byte (1 : Int32) (([35] : List Int32).map Value.int) (.int (0 : Int32)) := SA7
   have SEb7 : Exa Z h7 bs7 "[B" := own_exB (s := si) hZ7 (hw _ (own_m 287 rfl)) (EL := own_EL) (List.mem_of_getElem? (i := 1) rfl) hCr7.1 hLi7 SVa7 SA7
   have hZ : Z.Warmed39 (si.setVm T7.vm).vm := hZ7
   have hown : (si.setVm T7.vm).vm.findClass "com/example/corduroy/corduroy/Topics" = some mi.cls := hown7
   have Zs8 : n0 ≤ h7.size := Nat.le_trans Z0 E7.1
   have KC8 : Keep h0 h7 [] := (Keep.refl h0 []).ext E7
   have KL8 : Keep h0 h7 [] := (Keep.refl h0 []).ext E7
   have CS7 : CHr Z own_EL si.vm h0 T7.vm h7 := CR6.trans hCr7
   refine Go.st st7 ?_
   show Go _ _ _ (T7.setTop (mkF mi 66 #[.val (.ref o), .val (.ref ar), .val (.int (Int32.ofNat i)), .val (.ref sv), .val (.int 1)] [(.ref os7), (.ref sv)])) _
   have f10 := (SEv.ext E7)
   have f11 := (SCov.ext E7)
   have f12 := (SVav.ext E7)
   have f13 := (SArv.ext E7)
   have f14 := (SEbv.ext E7)
   have f15 := (SC.ext E7)
   obtain ⟨cq9, kq9, q9a, q9b, q9c⟩ := isOf hZ e7 f10
   obtain ⟨_, _, ⟨T9, L9, k9, n9⟩, -, X9, ⟨Lc9, hQ9, l9, y9, z9⟩, st9⟩ := X7.virtualBack hx (y := zy49) (z := zy49) hown (mvT hZ (hw _ (own_m 304 rfl))) (mvT hZ (hw _ (own_m 305 rfl))) (notFace_of_selects (args := #[]) (mvT hZ (hw _ (own_m 307 rfl)))) (mvT hZ (hw _ (own_m 307 rfl))) (mvT hZ (hw _ (own_m 306 rfl))) (by decide) (backOf (W := 0) (rmEq l Z a0 hw [] sv os7 bv kbv nv (Ps.getD i []) bs7 ks7 (35 : Int32) cz h7 n0 Zs8 f10 f11 f12 f13 f14 SE7 SCo7 SVa7 SAr7 SEb7 f15 hcz hnv) hZ (hw _ (own_m 308 rfl)) (hw _ (own_m 9 rfl)) (by decide) (by decide)) q9a q9c (g := (mkF mi 66 #[.val (.ref o), .val (.ref ar), .val (.int (Int32.ofNat i)), .val (.ref sv), .val (.int 1)] [(.ref os7), (.ref sv)])) rfl (by rw [hml]; rfl) (Steps.refl _) (argsL := [(.ref os7)]) (rest := []) (lenOf pd_25 rfl) rfl (by show 2 * 0 + _ ≤ _; exact Nat.le_of_eq rfl) (hb hby dc50_66) (fun _ _ => ⟨rfl, e7, (by show (cells + 2) + 0 ≤ 30; omega), (by show (slots + 8) + 0 ≤ 172; omega)⟩)
   dsimp only [Pt.U, Pt.locs, Pt.cells, Pt.slots] at X9 l9 y9 z9 st9 hQ9

   have X9 := own_cs X9 (cells' := (cells + 2)) (slots' := (slots + 8)) y9 z9
   obtain ⟨rfl, N9q, e9⟩ := hQ9
   have N9 := own_fr l9 (Fr.app N4 N9q)
   refine Go.tr st9 ?_
   by_cases hc69_3 : (Ps.getD i []) = [(35 : Int32)]
   ·refine g_ifYes X9 hx hby dc50_69 ((if0 _ _).trans (feq (show ¬ ((if (Ps.getD i []) = [(35 : Int32)] then (1 : Int32) else (0 : Int32)) = (0 : Int32)) from (by rw [if_pos hc69_3] <;> decide))).2) (pc0 := 69) (pc' := 74) rfl (by decide) (by decide) ?_
    show Go _ _ _ (T9.setTop (mkF mi 74 #[.val (.ref o), .val (.ref ar), .val (.int (Int32.ofNat i)), .val (.ref sv), .val (.int 1)] [])) _
    have CR16 : CHr Z own_EL si.vm h0 T7.vm h7 := CS7.trans (CHr.keep (Keep.refl h7 []) sf0 CS7.1)
    exact K2 (by have := (own_ofeq (n := i) (m := m - 1) (by omega) (by omega)).mp hc39_1; omega) (Or.inr hc69_3) sv hsv _ T7.vm _ _ X9 e9 N9 KC8 (own_snc hSi7 (Nat.le_trans hk17 (Keep.refl h7 []).1)) hZ hown CR16
   ·refine g_ifNo X9 hx hby dc50_69 ((if0 _ _).trans (teq (show (if (Ps.getD i []) = [(35 : Int32)] then (1 : Int32) else (0 : Int32)) = (0 : Int32) from (by rw [if_neg hc69_3] <;> decide))).2) ?_
    show Go _ _ _ (T9.setTop (mkF mi 72 #[.val (.ref o), .val (.ref ar), .val (.int (Int32.ofNat i)), .val (.ref sv), .val (.int 1)] [])) _
    have CR17 : CHr Z own_EL si.vm h0 T7.vm h7 := CS7.trans (CHr.keep (Keep.refl h7 []) sf0 CS7.1)
    exact K0 sv _ _ T7.vm _ _ X9 e9 N9 KC8 (own_snc hSi7 (Nat.le_trans hk17 (Keep.refl h7 []).1)) hZ hown CR17
 ·refine g_icmpYes X0 hx hby dc50_39 (feq hc39_1).2 (pc0 := 39) (pc' := 46) rfl (by decide) (by decide) ?_
  refine g_iconst X0 hx hby dc50_46 (v := 0) rfl ?_
  show Go _ _ _ (s₁.setTop (mkF mi 47 #[.val (.ref o), .val (.ref ar), .val (.int (Int32.ofNat i)), .val (.ref sv), s4] [(.int 0)])) _
  refine g_istore X0 hx hby dc50_47 (l' := #[.val (.ref o), .val (.ref ar), .val (.int (Int32.ofNat i)), .val (.ref sv), .val (.int 0)]) (by rcases h34 with ⟨rfl, rfl⟩ | ⟨_, _, rfl, rfl⟩ <;> rfl) ?_
  show Go _ _ _ (s₁.setTop (mkF mi 49 #[.val (.ref o), .val (.ref ar), .val (.int (Int32.ofNat i)), .val (.ref sv), .val (.int 0)] [])) _
  refine g_aloadN X0 hx hby dc50_49 rfl rfl ?_
  refine g_bipush X0 hx hby dc50_50 (v := 35) rfl ?_
  obtain ⟨cq18, kq18, q18a, q18b, q18c⟩ := isOf hZ e0 SEv
  obtain ⟨_, _, ⟨T18, L18, k18, n18⟩, -, X18, ⟨Lc18, hQ18, l18, y18, z18⟩, st18⟩ := X0.virtualBack hx (y := zy23) (z := zy23) hown (mvT hZ (hw _ (own_m 46 rfl))) (mvT hZ (hw _ (own_m 47 rfl))) (notFace_of_selects (args := #[]) (mvT hZ (hw _ (own_m 49 rfl)))) (mvT hZ (hw _ (own_m 49 rfl))) (mvT hZ (hw _ (own_m 48 rfl))) (by decide) (backOf (W := 0) (rmI1 l Z a0 hw [] sv (35 : Int32) bv kbv nv (Ps.getD i []) (35 : Int32) cz h0 n0 Z0 SEv SCov SVav SArv SEbv SC hcz hlv hnv (by decide) (by decide) (by decide)) hZ (hw _ (own_m 50 rfl)) (hw _ (own_m 9 rfl)) (by decide) (by decide)) q18a q18c (g := (mkF mi 52 #[.val (.ref o), .val (.ref ar), .val (.int (Int32.ofNat i)), .val (.ref sv), .val (.int 0)] [(.int 35), (.ref sv)])) rfl (by rw [hml]; rfl) (Steps.refl _) (argsL := [(.int 35)]) (rest := []) (lenOf pd_29 rfl) rfl (by show 2 * 0 + _ ≤ _; exact Nat.le_of_eq rfl) (hb hby dc50_52) (fun _ _ => ⟨rfl, e0, (by show (cells + 0) + 0 ≤ 30; omega), (by show (slots + 0) + 0 ≤ 172; omega)⟩)
  dsimp only [Pt.U, Pt.locs, Pt.cells, Pt.slots] at X18 l18 y18 z18 st18 hQ18

  have X18 := own_cs X18 (cells' := (cells + 0)) (slots' := (slots + 0)) y18 z18
  obtain ⟨rfl, N18q, e18⟩ := hQ18
  have N18 := own_fr l18 (Fr.app N0 N18q)
  refine Go.tr st18 ?_
  by_cases hc55_4 : (ix (Ps.getD i []) (35 : Int32) 0) < (0 : Int32)
  ·refine g_ifYes X18 hx hby dc50_55 ((if0 _ _).trans (tlt hc55_4).1) (pc0 := 55) (pc' := 74) rfl (by decide) (by decide) ?_
   show Go _ _ _ (T18.setTop (mkF mi 74 #[.val (.ref o), .val (.ref ar), .val (.int (Int32.ofNat i)), .val (.ref sv), .val (.int 0)] [])) _
   exact K1 (fun q => hc39_1 ((own_ofeq (n := i) (m := m - 1) (by omega) (by omega)).mpr (by omega))) (own_nin hlv hc55_4) sv hsv _ _ X18 e18 N18
  ·refine g_ifNo X18 hx hby dc50_55 ((if0 _ _).trans (flt hc55_4).1) ?_
   refine g_iload X18 hx hby dc50_58 rfl ?_
   refine g_ifYes X18 hx hby dc50_60 ((if0 _ _).trans (teq rfl).1) (pc0 := 60) (pc' := 72) rfl (by decide) (by decide) ?_
   show Go _ _ _ (T18.setTop (mkF mi 72 #[.val (.ref o), .val (.ref ar), .val (.int (Int32.ofNat i)), .val (.ref sv), .val (.int 0)] [])) _
   have CR19 : CHr Z own_EL si.vm h0 si.vm h0 := (CHr.refl hCH).trans (CHr.keep (Keep.refl h0 []) sf0 (CHr.refl hCH).1)
   exact K0 sv _ _ si.vm _ _ (Stand.more (own_rb X18) (by omega) (by omega)) e18 N18 (Keep.refl h0 []) (own_snc ((State.WarmedH.refl si).since h0.size) (Nat.le_trans (Nat.le_refl _) (Keep.refl h0 []).1)) hZ hown CR19
theorem dc50_74 : Dk zb50 74 (.aload_n 3) 1 := by decide +kernel
theorem dc50_75 : Dk zb50 75 (.bipush 43) 2 := by decide +kernel
theorem dc50_77 : Dk zb50 77 (.invokevirtual 33) 3 := by decide +kernel
theorem dc50_80 : Dk zb50 80 (.ifCond .lt 14) 3 := by decide +kernel
theorem dc50_94 : Dk zb50 94 (.iinc 2 1) 3 := by decide +kernel
theorem dc50_97 : Dk zb50 97 (.goto (-73)) 3 := by decide +kernel
theorem dc50_83 : Dk zb50 83 (.aload_n 3) 1 := by decide +kernel
theorem dc50_84 : Dk zb50 84 (.ldc 48) 2 := by decide +kernel
theorem dc50_86 : Dk zb50 86 (.invokevirtual 44) 3 := by decide +kernel
theorem dc50_89 : Dk zb50 89 (.ifCond .ne 5) 3 := by decide +kernel
theorem own_iv74 (l : Launch) (Z : State) (a0 : Array Value) (hw : Tb Z a0) {pg : Program} {ev : Env} {si : State} {mi : MethodId} {args : Array Value} {below : List Frame} {meth : Method} {ci : Code} {s₁ : State} {locs : List Loc} {cells slots : Nat} (X0 : Stand pg l ev zR35 si mi args below meth ci s₁ locs cells slots) (hx : pg.tables.exec = Jvm.exec) (hby : ci.code = zb50) (hml : ci.maxLocals = 5) (hZ : Z.Warmed39 si.vm) (hown : si.vm.findClass "com/example/corduroy/corduroy/Topics" = some mi.cls) {P : State → Outcome → Prop} (o : Addr) (ar : Addr) (i : Nat) (sv : Addr) (u4 : Int32) (ka : ClassId) (vs : List Value) (Ps : List (List Int32)) (m : Nat) (cz : Int32) (h0 : Heap) (n0 : Nat) (Z0 : n0 ≤ h0.size) (e0 : s₁.heap = h0) (N0 : Fr n0 locs) (hEL : EW Z a0 own_EL) (hCH : CHv Z own_EL si.vm h0) (SC : Sta Z h0 "java/lang/String" "COMPACT_STRINGS" "Z" (.int cz)) (hcz : ¬ (cz = (0 : Int32))) (VA : Arv Z h0 ar ka (.object "java/lang/String") (Int32.ofNat m) vs .null) (HL : Lvs Z h0 vs Ps) (hPl : Ps.length = m) (hm5 : m ≤ 5) (hi : i < m) (hcs : cells + 2 ≤ 30) (hss : slots + 8 ≤ 172) (hsv : vs.getD i .null = .ref sv) (K1 : ((43 : Int32) ∉ (Ps.getD i []) ∨ (Ps.getD i []) = [(43 : Int32)]) → ∀ (T' : State) (vm' : Vm) (locs' : List Loc) (h' : Heap), Stand pg l ev zR35 (si.setVm vm') mi args below meth ci T' locs' (cells + 2) (slots + 8) → T'.heap = h' → Fr n0 locs' → Keep h0 h' [] → si.Since vm' h'.size → Z.Warmed39 vm' → vm'.findClass "com/example/corduroy/corduroy/Topics" = some mi.cls → CHr Z own_EL si.vm h0 vm' h' → Go pg.tables ev below (T'.setTop (mkF mi 24 #[.val (.ref o), .val (.ref ar), .val (.int ((Int32.ofNat i) + (1 : Int32))), (.val (.ref sv)), (.val (.int u4))] [])) P) (K0 : ∀ (T' : State) (vm' : Vm) (locs' : List Loc) (h' : Heap), Stand pg l ev zR35 (si.setVm vm') mi args below meth ci T' locs' (cells + 2) (slots + 8) → T'.heap = h' → Fr n0 locs' → Keep h0 h' [] → si.Since vm' h'.size → Z.Warmed39 vm' → vm'.findClass "com/example/corduroy/corduroy/Topics" = some mi.cls → CHr Z own_EL si.vm h0 vm' h' → Go pg.tables ev below (T'.setTop (mkF mi 92 #[.val (.ref o), .val (.ref ar), .val (.int (Int32.ofNat i)), (.val (.ref sv)), (.val (.int u4))] [])) P) :
  Go pg.tables ev below (s₁.setTop (mkF mi 74 #[.val (.ref o), .val (.ref ar), .val (.int (Int32.ofNat i)), .val (.ref sv), .val (.int u4)] [])) P := by
 obtain ⟨sw, hsv0, bv, kbv, nv, SEv, SCov, SVav, SArv, SEbv, hnv, hlv⟩ := HL i (by omega)
 have hsw : sw = sv := Value.ref.inj (hsv0.symm.trans hsv)
 rw [hsw] at SEv SCov SVav
 refine g_aloadN X0 hx hby dc50_74 rfl rfl ?_
 refine g_bipush X0 hx hby dc50_75 (v := 43) rfl ?_
 obtain ⟨cq1, kq1, q1a, q1b, q1c⟩ := isOf hZ e0 SEv
 obtain ⟨_, _, ⟨T1, L1, k1, n1⟩, -, X1, ⟨Lc1, hQ1, l1, y1, z1⟩, st1⟩ := X0.virtualBack hx (y := zy23) (z := zy23) hown (mvT hZ (hw _ (own_m 46 rfl))) (mvT hZ (hw _ (own_m 47 rfl))) (notFace_of_selects (args := #[]) (mvT hZ (hw _ (own_m 49 rfl)))) (mvT hZ (hw _ (own_m 49 rfl))) (mvT hZ (hw _ (own_m 48 rfl))) (by decide) (backOf (W := 0) (rmI1 l Z a0 hw [] sv (43 : Int32) bv kbv nv (Ps.getD i []) (43 : Int32) cz h0 n0 Z0 SEv SCov SVav SArv SEbv SC hcz hlv hnv (by decide) (by decide) (by decide)) hZ (hw _ (own_m 50 rfl)) (hw _ (own_m 9 rfl)) (by decide) (by decide)) q1a q1c (g := (mkF mi 77 #[.val (.ref o), .val (.ref ar), .val (.int (Int32.ofNat i)), .val (.ref sv), .val (.int u4)] [(.int 43), (.ref sv)])) rfl (by rw [hml]; rfl) (Steps.refl _) (argsL := [(.int 43)]) (rest := []) (lenOf pd_29 rfl) rfl (by show 2 * 0 + _ ≤ _; exact Nat.le_of_eq rfl) (hb hby dc50_77) (fun _ _ => ⟨rfl, e0, (by show (cells + 0) + 0 ≤ 30; omega), (by show (slots + 0) + 0 ≤ 172; omega)⟩)
 dsimp only [Pt.U, Pt.locs, Pt.cells, Pt.slots] at X1 l1 y1 z1 st1 hQ1

 have X1 := own_cs X1 (cells' := (cells + 0)) (slots' := (slots + 0)) y1 z1
 obtain ⟨rfl, N1q, e1⟩ := hQ1
 have N1 := own_fr l1 (Fr.app N0 N1q)
 refine Go.tr st1 ?_
 by_cases hc80_1 : (ix (Ps.getD i []) (43 : Int32) 0) < (0 : Int32)
 ·refine g_ifYes X1 hx hby dc50_80 ((if0 _ _).trans (tlt hc80_1).1) (pc0 := 80) (pc' := 94) rfl (by decide) (by decide) ?_
  refine g_iinc X1 hx hby dc50_94 rfl rfl (l' := #[.val (.ref o), .val (.ref ar), .val (.int ((Int32.ofNat i) + (1 : Int32))), .val (.ref sv), .val (.int u4)]) rfl ?_
  refine g_goto X1 hx hby dc50_97 (pc0 := 97) (pc' := 24) rfl (by decide) (by decide) ?_
  show Go _ _ _ (T1.setTop (mkF mi 24 #[.val (.ref o), .val (.ref ar), .val (.int ((Int32.ofNat i) + (1 : Int32))), .val (.ref sv), .val (.int u4)] [])) _
  have CR2 : CHr Z own_EL si.vm h0 si.vm h0 := (CHr.refl hCH).trans (CHr.keep (Keep.refl h0 []) sf0 (CHr.refl hCH).1)
  exact K1 (Or.inl (own_nin hlv hc80_1)) _ si.vm _ _ (Stand.more (own_rb X1) (by omega) (by omega)) e1 N1 (Keep.refl h0 []) (own_snc ((State.WarmedH.refl si).since h0.size) (Nat.le_trans (Nat.le_refl _) (Keep.refl h0 []).1)) hZ hown CR2
 ·refine g_ifNo X1 hx hby dc50_80 ((if0 _ _).trans (flt hc80_1).1) ?_
  refine g_aloadN X1 hx hby dc50_83 rfl rfl ?_
  show Go _ _ _ (T1.setTop (mkF mi 84 #[.val (.ref o), .val (.ref ar), .val (.int (Int32.ofNat i)), .val (.ref sv), .val (.int u4)] [(.ref sv)])) _
  have CR3 : CHr Z own_EL si.vm h0 si.vm h0 := (CHr.refl hCH).trans (CHr.keep (Keep.refl h0 []) sf0 (CHr.refl hCH).1)
  have hwS : ∀ a ∈ Bundle.stringAtoms, a.before a0 Z = true := fun d hd => hw d ((by decide +kernel : ∀ d ∈ Bundle.stringAtoms, d ∈ tables_1) d hd)
  obtain ⟨os4, T4, h4, k14, bs4, ks4, X4, e4, E4, hSi4, hk14, hZ4, hown4, SE4, SCo4, SVa4, SA4, -, -, hCr4, hLi4, -, st4⟩ := ldcCH (s := si) (vm0 := si.vm) (EL := own_EL) (own_rb X1) hx hZ hown (hw _ (own_m 261 rfl)) hwS e1 ((State.WarmedH.refl si).since h0.size) (Nat.le_trans (Nat.le_refl _) (Keep.refl h0 []).1) hEL (List.mem_of_getElem? (i := 2) rfl) CR3.1 (vs := [(.int 43)]) (z := (1 : Int32)) ⟨by decide +kernel, by decide +kernel⟩ (by decide) (by decide +kernel) (g := (mkF mi 84 #[.val (.ref o), .val (.ref ar), .val (.int (Int32.ofNat i)), .val (.ref sv), .val (.int u4)] [(.ref sv)])) rfl (hb hby dc50_84) (n := 4) (by decide +kernel) (by decide) (by show _ ≤ 30; omega) (by show _ ≤ 172; omega)
  have SAr4 : Arv Z h4 bs4 ks4 .byte (1 : Int32) (([43] : List Int32).map Value.int) (.int (0 : Int32)) := SA4
  have SEb4 : Exa Z h4 bs4 "[B" := own_exB (s := si) hZ4 (hw _ (own_m 261 rfl)) (EL := own_EL) (List.mem_of_getElem? (i := 2) rfl) hCr4.1 hLi4 SVa4 SA4
  have hZ : Z.Warmed39 (si.setVm T4.vm).vm := hZ4
  have hown : (si.setVm T4.vm).vm.findClass "com/example/corduroy/corduroy/Topics" = some mi.cls := hown4
  have Zs5 : n0 ≤ h4.size := Nat.le_trans Z0 E4.1
  have KC5 : Keep h0 h4 [] := (Keep.refl h0 []).ext E4
  have KL5 : Keep h0 h4 [] := (Keep.refl h0 []).ext E4
  have CS4 : CHr Z own_EL si.vm h0 T4.vm h4 := CR3.trans hCr4
  refine Go.st st4 ?_
  show Go _ _ _ (T4.setTop (mkF mi 86 #[.val (.ref o), .val (.ref ar), .val (.int (Int32.ofNat i)), .val (.ref sv), .val (.int u4)] [(.ref os4), (.ref sv)])) _
  have f7 := (SEv.ext E4)
  have f8 := (SCov.ext E4)
  have f9 := (SVav.ext E4)
  have f10 := (SArv.ext E4)
  have f11 := (SEbv.ext E4)
  have f12 := (SC.ext E4)
  obtain ⟨cq6, kq6, q6a, q6b, q6c⟩ := isOf hZ e4 f7
  obtain ⟨_, _, ⟨T6, L6, k6, n6⟩, -, X6, ⟨Lc6, hQ6, l6, y6, z6⟩, st6⟩ := X4.virtualBack hx (y := zy49) (z := zy49) hown (mvT hZ (hw _ (own_m 304 rfl))) (mvT hZ (hw _ (own_m 305 rfl))) (notFace_of_selects (args := #[]) (mvT hZ (hw _ (own_m 307 rfl)))) (mvT hZ (hw _ (own_m 307 rfl))) (mvT hZ (hw _ (own_m 306 rfl))) (by decide) (backOf (W := 0) (rmEq l Z a0 hw [] sv os4 bv kbv nv (Ps.getD i []) bs4 ks4 (43 : Int32) cz h4 n0 Zs5 f7 f8 f9 f10 f11 SE4 SCo4 SVa4 SAr4 SEb4 f12 hcz hnv) hZ (hw _ (own_m 308 rfl)) (hw _ (own_m 9 rfl)) (by decide) (by decide)) q6a q6c (g := (mkF mi 86 #[.val (.ref o), .val (.ref ar), .val (.int (Int32.ofNat i)), .val (.ref sv), .val (.int u4)] [(.ref os4), (.ref sv)])) rfl (by rw [hml]; rfl) (Steps.refl _) (argsL := [(.ref os4)]) (rest := []) (lenOf pd_25 rfl) rfl (by show 2 * 0 + _ ≤ _; exact Nat.le_of_eq rfl) (hb hby dc50_86) (fun _ _ => ⟨rfl, e4, (by show (cells + 2) + 0 ≤ 30; omega), (by show (slots + 8) + 0 ≤ 172; omega)⟩)
  dsimp only [Pt.U, Pt.locs, Pt.cells, Pt.slots] at X6 l6 y6 z6 st6 hQ6

  have X6 := own_cs X6 (cells' := (cells + 2)) (slots' := (slots + 8)) y6 z6
  obtain ⟨rfl, N6q, e6⟩ := hQ6
  have N6 := own_fr l6 (Fr.app N1 N6q)
  refine Go.tr st6 ?_
  by_cases hc89_2 : (Ps.getD i []) = [(43 : Int32)]
  ·refine g_ifYes X6 hx hby dc50_89 ((if0 _ _).trans (feq (show ¬ ((if (Ps.getD i []) = [(43 : Int32)] then (1 : Int32) else (0 : Int32)) = (0 : Int32)) from (by rw [if_pos hc89_2] <;> decide))).2) (pc0 := 89) (pc' := 94) rfl (by decide) (by decide) ?_
   refine g_iinc X6 hx hby dc50_94 rfl rfl (l' := #[.val (.ref o), .val (.ref ar), .val (.int ((Int32.ofNat i) + (1 : Int32))), .val (.ref sv), .val (.int u4)]) rfl ?_
   refine g_goto X6 hx hby dc50_97 (pc0 := 97) (pc' := 24) rfl (by decide) (by decide) ?_
   show Go _ _ _ (T6.setTop (mkF mi 24 #[.val (.ref o), .val (.ref ar), .val (.int ((Int32.ofNat i) + (1 : Int32))), .val (.ref sv), .val (.int u4)] [])) _
   have CR13 : CHr Z own_EL si.vm h0 T4.vm h4 := CS4.trans (CHr.keep (Keep.refl h4 []) sf0 CS4.1)
   exact K1 (Or.inr hc89_2) _ T4.vm _ _ X6 e6 N6 KC5 (own_snc hSi4 (Nat.le_trans hk14 (Keep.refl h4 []).1)) hZ hown CR13
  ·refine g_ifNo X6 hx hby dc50_89 ((if0 _ _).trans (teq (show (if (Ps.getD i []) = [(43 : Int32)] then (1 : Int32) else (0 : Int32)) = (0 : Int32) from (by rw [if_neg hc89_2] <;> decide))).2) ?_
   show Go _ _ _ (T6.setTop (mkF mi 92 #[.val (.ref o), .val (.ref ar), .val (.int (Int32.ofNat i)), .val (.ref sv), .val (.int u4)] [])) _
   have CR14 : CHr Z own_EL si.vm h0 T4.vm h4 := CS4.trans (CHr.keep (Keep.refl h4 []) sf0 CS4.1)
   exact K0 _ T4.vm _ _ X6 e6 N6 KC5 (own_snc hSi4 (Nat.le_trans hk14 (Keep.refl h4 []).1)) hZ hown CR14
theorem own_ivL (l : Launch) (Z : State) (a0 : Array Value) (hw : Tb Z a0) {pg : Program} {ev : Env} {si : State} {mi : MethodId} {args : Array Value} {below : List Frame} {meth : Method} {ci : Code} (hx : pg.tables.exec = Jvm.exec) (hby : ci.code = zb50) (hml : ci.maxLocals = 5) (hZ : Z.Warmed39 si.vm) (hown : si.vm.findClass "com/example/corduroy/corduroy/Topics" = some mi.cls) {P : State → Outcome → Prop} (o ar : Addr) (ka : ClassId) (vs : List Value) (Ps : List (List Int32)) (m : Nat) (cz : Int32) (hb : Heap) (n0 : Nat) (hEL : EW Z a0 own_EL) (hcz : ¬ (cz = (0 : Int32))) (hPl : Ps.length = m) (hm5 : m ≤ 5) (KX : ∀ (T' : State) (vm' : Vm) (locs' : List Loc) (h' : Heap) (s3 s4 : Slot), Stand pg l ev zR35 (si.setVm vm') mi args below meth ci T' locs' 30 172 → T'.heap = h' → Fr n0 locs' → Keep hb h' [] → si.Since vm' h'.size → Z.Warmed39 vm' → vm'.findClass "com/example/corduroy/corduroy/Topics" = some mi.cls → CHr Z own_EL si.vm hb vm' h' → (∀ j, j < m → Okl (Ps.getD j [])) → Arv Z h' ar ka (.object "java/lang/String") (Int32.ofNat m) vs .null → Go pg.tables ev below (T'.setTop (mkF mi 24 #[.val (.ref o), .val (.ref ar), .val (.int (Int32.ofNat m)), s3, s4] [])) P) (KA : ∀ (ii : Int32), ∀ (T' : State) (vm' : Vm) (locs' : List Loc) (h' : Heap) (s3 s4 : Slot), Stand pg l ev zR35 (si.setVm vm') mi args below meth ci T' locs' 30 172 → T'.heap = h' → Fr n0 locs' → Keep hb h' [] → si.Since vm' h'.size → Z.Warmed39 vm' → vm'.findClass "com/example/corduroy/corduroy/Topics" = some mi.cls → CHr Z own_EL si.vm hb vm' h' → Go pg.tables ev below (T'.setTop (mkF mi 72 #[.val (.ref o), .val (.ref ar), .val (.int ii), s3, s4] [])) P) (KB : ∀ (ii : Int32), ∀ (T' : State) (vm' : Vm) (locs' : List Loc) (h' : Heap) (s3 s4 : Slot), Stand pg l ev zR35 (si.setVm vm') mi args below meth ci T' locs' 30 172 → T'.heap = h' → Fr n0 locs' → Keep hb h' [] → si.Since vm' h'.size → Z.Warmed39 vm' → vm'.findClass "com/example/corduroy/corduroy/Topics" = some mi.cls → CHr Z own_EL si.vm hb vm' h' → Go pg.tables ev below (T'.setTop (mkF mi 92 #[.val (.ref o), .val (.ref ar), .val (.int ii), s3, s4] [])) P) :
  ∀ (r i : Nat) (s3 s4 : Slot) (vm : Vm) (s₁ : State) (locs : List Loc) (h0 : Heap) (cells slots : Nat), i + r = m → cells + 2 * r + 2 ≤ 30 → slots + 8 * r + 8 ≤ 172 → ((s3 = .unset ∧ s4 = .unset) ∨ ∃ (u3 : Addr) (u4 : Int32), s3 = .val (.ref u3) ∧ s4 = .val (.int u4)) → (∀ j, j < i → Okl (Ps.getD j [])) → Stand pg l ev zR35 (si.setVm vm) mi args below meth ci s₁ locs cells slots → n0 ≤ h0.size → s₁.heap = h0 → Fr n0 locs → Keep hb h0 [] → si.Since vm h0.size → Z.Warmed39 vm → vm.findClass "com/example/corduroy/corduroy/Topics" = some mi.cls → CHr Z own_EL si.vm hb vm h0 → Sta Z h0 "java/lang/String" "COMPACT_STRINGS" "Z" (.int cz) → Arv Z h0 ar ka (.object "java/lang/String") (Int32.ofNat m) vs .null → Lvs Z h0 vs Ps → Go pg.tables ev below (s₁.setTop (mkF mi 24 #[.val (.ref o), .val (.ref ar), .val (.int (Int32.ofNat i)), s3, s4] [])) P := by
 intro r
 induction r with
 | zero =>
  intro i s3 s4 vm s₁ locs h0 cells slots hr hc hs h34 hO X0 Z0 e0 N0 KB0 hS hZv hownv CR SC VA HL
  obtain rfl : i = m := by omega
  exact KX _ vm _ _ s3 s4 (Stand.more X0 (by omega) (by omega)) e0 N0 KB0 hS hZv hownv CR hO VA
 | succ r ih =>
  intro i s3 s4 vm s₁ locs h0 cells slots hr hc hs h34 hO X0 Z0 e0 N0 KB0 hS hZv hownv CR SC VA HL
  have hi : i < m := by omega
  have hOs : ∀ {q : ((35 : Int32) ∉ (Ps.getD i []) ∨ (Ps.getD i []) = [(35 : Int32)])} {q2 : ((43 : Int32) ∉ (Ps.getD i []) ∨ (Ps.getD i []) = [(43 : Int32)])}, ∀ j, j < i + 1 → Okl (Ps.getD j []) := fun {q q2} j hj => by
   by_cases e : j = i
   ·subst e; exact ⟨q, q2⟩
   ·exact hO j (by omega)
  refine own_iv24 l Z a0 hw X0 hx hby hml hZv hownv o ar i s3 s4 ka vs Ps m cz h0 n0 Z0 e0 N0 hEL CR.1 SC hcz VA HL hPl hm5 hi (by omega) (by omega) h34 (fun hl hp sv hsv T' L' X' e' N' => ?_) (fun hl hp sv hsv T' vm' L' h' X' e' N' K' S' Z' O' C' => ?_) (fun sv u4 T' vm' L' h' X' e' N' K' S' Z' O' C' => ?_)
  ·refine own_iv74 l Z a0 hw X' hx hby hml hZv hownv o ar i sv (0 : Int32) ka vs Ps m cz h0 n0 Z0 e' N' hEL CR.1 SC hcz VA HL hPl hm5 hi (by omega) (by omega) hsv (fun hq T2 vm2 L2 h2 X2 e2 N2 K2 S2 Z2 O2 C2 => ?_) (fun T2 vm2 L2 h2 X2 e2 N2 K2 S2 Z2 O2 C2 => ?_)
   ·rw [own_ofS]
    exact ih (i + 1) _ _ vm2 T2 L2 h2 _ _ (by omega) (by omega) (by omega) (Or.inr ⟨_, _, rfl, rfl⟩) (hOs (q := Or.inl hp) (q2 := hq)) X2 (Nat.le_trans Z0 K2.1) e2 N2 (KB0.trans K2 (fun x hx => Or.inl hx)) (hS.trans S2 K2.1) Z2 O2 (CR.trans C2) (own_sta_keep SC K2 ns0) (VA.keep K2 nin0) (HL.keep K2 all0)
   ·exact KB _ T2 vm2 L2 h2 _ _ (Stand.more X2 (by omega) (by omega)) e2 N2 (KB0.trans K2 (fun x hx => Or.inl hx)) (hS.trans S2 K2.1) Z2 O2 (CR.trans C2)
  ·have CR' := CR.trans C'
   have hS' := hS.trans S' K'.1
   have KB' := KB0.trans K' (fun x hx => Or.inl hx)
   refine own_iv74 l Z a0 hw X' hx hby hml Z' O' o ar i sv (1 : Int32) ka vs Ps m cz h' n0 (Nat.le_trans Z0 K'.1) e' N' hEL CR'.1 (own_sta_keep SC K' ns0) hcz (VA.keep K' nin0) (HL.keep K' all0) hPl hm5 hi (by omega) (by omega) hsv (fun hq T2 vm2 L2 h2 X2 e2 N2 K2 S2 Z2 O2 C2 => ?_) (fun T2 vm2 L2 h2 X2 e2 N2 K2 S2 Z2 O2 C2 => ?_)
   ·rw [own_ofS, hl]
    exact KX T2 vm2 L2 h2 _ _ (Stand.more X2 (by omega) (by omega)) e2 N2 (KB'.trans K2 (fun x hx => Or.inl hx)) (hS'.trans S2 K2.1) Z2 O2 (CR'.trans C2) (by rw [← hl]; exact hOs (q := hp) (q2 := hq)) ((VA.keep K' nin0).keep K2 nin0)
   ·exact KB _ T2 vm2 L2 h2 _ _ (Stand.more X2 (by omega) (by omega)) e2 N2 (KB'.trans K2 (fun x hx => Or.inl hx)) (hS'.trans S2 K2.1) Z2 O2 (CR'.trans C2)
  ·exact KA _ T' vm' L' h' _ _ (Stand.more X' (by omega) (by omega)) e' N' (KB0.trans K' (fun x hx => Or.inl hx)) (hS.trans S' K'.1) Z' O' (CR.trans C')
theorem dc50_0 : Dk zb50 0 (.aload_n 0) 1 := by decide +kernel
theorem dc50_1 : Dk zb50 1 (.invokevirtual 29) 3 := by decide +kernel
theorem dc50_4 : Dk zb50 4 (.ifCond .ne 11) 3 := by decide +kernel
theorem dc50_7 : Dk zb50 7 (.aload_n 0) 1 := by decide +kernel
theorem dc50_8 : Dk zb50 8 (.iconst 0) 1 := by decide +kernel
theorem dc50_9 : Dk zb50 9 (.invokevirtual 33) 3 := by decide +kernel
theorem dc50_12 : Dk zb50 12 (.ifCond .lt 5) 3 := by decide +kernel
theorem dc50_17 : Dk zb50 17 (.aload_n 0) 1 := by decide +kernel
theorem pd_34 : parseMethodDescriptor "(Ljava/lang/String;)[Ljava/lang/String;" = some ⟨[(.object "java/lang/String")], some (.array (.object "java/lang/String"))⟩ := by decide +kernel
theorem dc50_18 : Dk zb50 18 (.invokestatic 36) 3 := by decide +kernel
theorem dc50_21 : Dk zb50 21 (.astore_n 1) 1 := by decide +kernel
theorem dc50_22 : Dk zb50 22 (.iconst 0) 1 := by decide +kernel
theorem dc50_23 : Dk zb50 23 (.istore_n 2) 1 := by decide +kernel
theorem dc50_100 : Dk zb50 100 (.iconst 1) 1 := by decide +kernel
theorem dc50_101 : Dk zb50 101 .ireturn 1 := by decide +kernel
theorem dc50_72 : Dk zb50 72 (.iconst 0) 1 := by decide +kernel
theorem dc50_73 : Dk zb50 73 .ireturn 1 := by decide +kernel
theorem dc50_92 : Dk zb50 92 (.iconst 0) 1 := by decide +kernel
theorem dc50_93 : Dk zb50 93 .ireturn 1 := by decide +kernel
theorem dc50_15 : Dk zb50 15 (.iconst 0) 1 := by decide +kernel
theorem dc50_16 : Dk zb50 16 .ireturn 1 := by decide +kernel
theorem ef_rmV (mi : MethodId) (o : Addr) : entryFrame mi #[(.ref o)] 5 = mkF mi 0 #[.val (.ref o), .unset, .unset, .unset, .unset] [] := by first | (simp [entryFrame, mkF, argsToLocals, Value.category]; done) | rfl
abbrev Q_rmV (Z : State) (o : Addr) (b : Addr) (kb : ClassId) (n : Int32) (E : List Int32) (cz : Int32) (fm : Value) (de : Addr) (kde : ClassId) (h0 : Heap) (n0 : Nat) (vv_ : Option Value) (hh_ : Heap) (LL_ : List Loc) : Prop := ∃ v : Int32, vv_ = some (.int v) ∧ Fr n0 LL_ ∧ Keep h0 hh_ [] ∧ (v = 0 ∨ (v = 1 ∧ VF E))
theorem rmV (l : Launch) (Z : State) (a0 : Array Value) (hw : Tb Z a0) (ws : List Jvm.Cond) (o : Addr) (b : Addr) (kb : ClassId) (n : Int32) (E : List Int32) (cz : Int32) (fm : Value) (de : Addr) (kde : ClassId) (h0 : Heap) (n0 : Nat) (Z0 : n0 ≤ h0.size) (hEL : EW Z a0 own_EL) (SE : Exa Z h0 o "java/lang/String") (SCo : Fld Z h0 o "java/lang/String" "coder" "B" (.int (0 : Int32))) (SVa : Fld Z h0 o "java/lang/String" "value" "[B" (.ref b)) (SAr : Arv Z h0 b kb .byte n (E.map Value.int) (.int (0 : Int32))) (SEb : Exa Z h0 b "[B") (SC : Sta Z h0 "java/lang/String" "COMPACT_STRINGS" "Z" (.int cz)) (hcz : ¬ (cz = (0 : Int32))) (SF : Sta Z h0 "jdk/internal/util/Preconditions" "SIOOBE_FORMATTER" "Ljava/util/function/BiFunction;" fm) (hfm : fm.isRef = true) (SD : Sta Z h0 "java/util/ArrayList" "DEFAULTCAPACITY_EMPTY_ELEMENTDATA" "[Ljava/lang/Object;" (.ref de)) (DV : Arv Z h0 de kde (.object "java/lang/Object") (0 : Int32) [] .null) (DE : Exa Z h0 de "[Ljava/lang/Object;") (hE : E.length ≤ 4) (hn : n.toInt = E.length) (hn0 : ¬ (n = (0 : Int32))) :
  MtW l Z zy50 zb50 5 (some .boolean) ws zR35 #[(.ref o)] h0 (Q_rmV Z o b kb n E cz fm de kde h0 n0) := by
 refine MetFree.of_bodySF (plainFor_of_name pn_10) hisR ?_
 intro pg ev si mi args below meth ci s₁ Bd hml0 hP0 hK
 obtain ⟨rfl, hZ, hh, hCH⟩ := hP0
 have hx := Bd.exec
 have hby := Bd.bytes
 have hml : ci.maxLocals = 5 := hml0
 have hown : si.vm.findClass "com/example/corduroy/corduroy/Topics" = some mi.cls := findClass_of_methodNamed Bd.named
 have hnm := (name_of_methodNamed Bd.named Bd.method).1
 have X0 : Stand pg l ev zR35 si mi #[(.ref o)] below meth ci s₁ [] 0 0 := Stand.of_body Bd
 have e0 : s₁.heap = h0 := by rw [← hh, Bd.state]; rfl
 have N0 := Fr.nil n0
 refine Go.start (fun P hP => ?_)
 refine Go.st (fun t_ k_ => castTop (ef_rmV mi o) k_) (A := s₁.setTop (mkF mi 0 #[.val (.ref o), .unset, .unset, .unset, .unset] [])) ?_
 refine g_aloadN X0 hx hby dc50_0 rfl rfl ?_
 obtain ⟨cq1, kq1, q1a, q1b, q1c⟩ := isOf hZ e0 SE
 obtain ⟨_, _, ⟨T1, L1, k1, n1⟩, -, X1, ⟨Lc1, hQ1, l1, y1, z1⟩, st1⟩ := X0.virtualBack hx (y := zy19) (z := zy19) hown (mvT hZ (hw _ (own_m 41 rfl))) (mvT hZ (hw _ (own_m 42 rfl))) (notFace_of_selects (args := #[]) (mvT hZ (hw _ (own_m 44 rfl)))) (mvT hZ (hw _ (own_m 44 rfl))) (mvT hZ (hw _ (own_m 43 rfl))) (by decide) (backOf (W := 0) (rmIE l Z a0 hw [] o b kb n E h0 n0 Z0 SE SCo SVa SAr SEb hn0) hZ (hw _ (own_m 45 rfl)) (hw _ (own_m 9 rfl)) (by decide) (by decide)) q1a q1c (g := (mkF mi 1 #[.val (.ref o), .unset, .unset, .unset, .unset] [(.ref o)])) rfl (by rw [hml]; rfl) (Steps.refl _) (argsL := []) (rest := []) (lenOf pd_3 rfl) rfl (by show 2 * 0 + _ ≤ _; exact Nat.le_of_eq rfl) (hb hby dc50_1) (fun _ _ => ⟨rfl, e0, (by decide : 0 + 0 ≤ _), (by decide : 0 + 0 ≤ _)⟩)
 dsimp only [Pt.U, Pt.locs, Pt.cells, Pt.slots] at X1 l1 y1 z1 st1 hQ1
 subst y1 z1
 have X1 := own_cs X1 (cells' := 0) (slots' := 0) rfl rfl
 obtain ⟨rfl, N1q, e1⟩ := hQ1
 have N1 := own_fr l1 (Fr.app N0 N1q)
 refine Go.tr st1 ?_
 refine g_ifNo X1 hx hby dc50_4 ((if0 _ _).trans (teq rfl).2) ?_
 refine g_aloadN X1 hx hby dc50_7 rfl rfl ?_
 refine g_iconst X1 hx hby dc50_8 (v := 0) rfl ?_
 obtain ⟨cq2, kq2, q2a, q2b, q2c⟩ := isOf hZ e1 SE
 obtain ⟨_, _, ⟨T2, L2, k2, n2⟩, -, X2, ⟨Lc2, hQ2, l2, y2, z2⟩, st2⟩ := X1.virtualBack hx (y := zy23) (z := zy23) hown (mvT hZ (hw _ (own_m 46 rfl))) (mvT hZ (hw _ (own_m 47 rfl))) (notFace_of_selects (args := #[]) (mvT hZ (hw _ (own_m 49 rfl)))) (mvT hZ (hw _ (own_m 49 rfl))) (mvT hZ (hw _ (own_m 48 rfl))) (by decide) (backOf (W := 0) (rmI1 l Z a0 hw [] o (0 : Int32) b kb n E (0 : Int32) cz h0 n0 Z0 SE SCo SVa SAr SEb SC hcz (by omega) hn (by decide) (by decide) (by decide)) hZ (hw _ (own_m 50 rfl)) (hw _ (own_m 9 rfl)) (by decide) (by decide)) q2a q2c (g := (mkF mi 9 #[.val (.ref o), .unset, .unset, .unset, .unset] [(.int 0), (.ref o)])) rfl (by rw [hml]; rfl) (Steps.refl _) (argsL := [(.int 0)]) (rest := []) (lenOf pd_29 rfl) rfl (by show 2 * 0 + _ ≤ _; exact Nat.le_of_eq rfl) (hb hby dc50_9) (fun _ _ => ⟨rfl, e1, (by decide : 0 + 0 ≤ _), (by decide : 0 + 0 ≤ _)⟩)
 dsimp only [Pt.U, Pt.locs, Pt.cells, Pt.slots] at X2 l2 y2 z2 st2 hQ2
 subst y2 z2
 have X2 := own_cs X2 (cells' := 0) (slots' := 0) rfl rfl
 obtain ⟨rfl, N2q, e2⟩ := hQ2
 have N2 := own_fr l2 (Fr.app N1 N2q)
 refine Go.tr st2 ?_
 by_cases hc12_1 : (ix E (0 : Int32) 0) < (0 : Int32)
 ·refine g_ifYes X2 hx hby dc50_12 ((if0 _ _).trans (tlt hc12_1).1) (pc0 := 12) (pc' := 17) rfl (by decide) (by decide) ?_
  refine g_aloadN X2 hx hby dc50_17 rfl rfl ?_
  show Go _ _ _ (T2.setTop (mkF mi 18 #[.val (.ref o), .unset, .unset, .unset, .unset] [(.ref o)])) _
  have CR3 : CHr Z own_EL si.vm h0 si.vm h0 := (CHr.refl hCH).trans (CHr.keep (Keep.refl h0 []) sf0 (CHr.refl hCH).1)
  obtain ⟨_, _, ⟨T4, L4, k4, n4⟩, -, X4, hS4', hG4, ⟨Lc4, hQ4, l4, y4, z4, hCr4⟩, st4⟩ := callSS (own_rb X2) hx (y := zy47) hown (mvT hZ (hw _ (own_m 88 rfl))) (mvT hZ (hw _ (own_m 89 rfl))) (mvT hZ (hw _ (own_m 39 rfl))) (mvT hZ (hw _ (own_m 90 rfl))) (by decide) (backOfSH (s := si) (vm0 := si.vm) (EL := own_EL) (W := 0) (rmLv l Z a0 hw [] o b kb n E cz fm de kde h0 n0 Z0 hEL SE SCo SVa SAr SEb SC hcz SF hfm SD DV DE hE hn) hZ (hw _ (own_m 90 rfl)) (hw _ (own_m 39 rfl)) (by decide) (by decide) hEL CR3.1) (g := (mkF mi 18 #[.val (.ref o), .unset, .unset, .unset, .unset] [(.ref o)])) rfl (by rw [hml]; rfl) (argsL := [(.ref o)]) (rest := []) (lenOf pd_34 rfl) rfl (by show 2 * 0 + _ ≤ _; exact Nat.le_of_eq rfl) (hb hby dc50_18) (fun _ _ => ⟨rfl, e2, (by decide : 0 + 18 ≤ _), (by decide : 0 + 124 ≤ _)⟩)
  dsimp only [Pt.U, Pt.locs, Pt.cells, Pt.slots] at X4 l4 y4 z4 st4 hQ4 hCr4 hS4' hG4
  subst y4 z4
  have X4 := own_cs X4 (cells' := 18) (slots' := 124) rfl rfl
  obtain ⟨X4, hS4, hZ, hown⟩ := rebS ((State.WarmedH.refl si).since h0.size) (own_leT e2 (Nat.le_trans (Nat.le_refl _) (Keep.refl h0 []).1)) X4 hS4' hG4 hZ hown
  obtain ⟨h4, e4⟩ : ∃ z, T4.heap = z := ⟨_, rfl⟩
  rw [e4] at hQ4
  obtain ⟨ar4, ka4, vs4, Ps4, m4, rfl, N4q, K4, VA4, EA4, HL4, hP4, hm14, hm54, hCv4⟩ := hQ4
  have N4 := own_fr l4 (Fr.app N2 N4q)
  have Zs5 : n0 ≤ h4.size := Nat.le_trans Z0 K4.1
  have KC5 : Keep h0 h4 [] := (Keep.refl h0 []).trans K4 all0
  have KL5 : Keep h0 h4 [] := (Keep.refl h0 []).trans K4 all0
  rw [e4] at hCr4
  have CS4 : CHr Z own_EL si.vm h0 T4.vm h4 := CR3.trans hCr4
  refine Go.tr st4 ?_
  show Go _ _ _ (T4.setTop (mkF mi 21 #[.val (.ref o), .unset, .unset, .unset, .unset] [(.ref ar4)])) _
  refine g_astoreN X4 hx hby dc50_21 rfl (l' := #[.val (.ref o), .val (.ref ar4), .unset, .unset, .unset]) rfl ?_
  refine g_iconst X4 hx hby dc50_22 (v := 0) rfl ?_
  refine g_istoreN X4 hx hby dc50_23 (l' := #[.val (.ref o), .val (.ref ar4), .val (.int 0), .unset, .unset]) rfl ?_
  show Go _ _ _ (T4.setTop (mkF mi 24 #[.val (.ref o), .val (.ref ar4), .val (.int 0), .unset, .unset] [])) _
  have CR7 : CHr Z own_EL si.vm h0 T4.vm h4 := CS4.trans (CHr.keep (Keep.refl h4 []) sf0 CS4.1)
  have f8 := (own_sta_keep SC K4 ns0)
  refine own_ivL l Z a0 hw hx hby hml hZ hown o ar4 ka4 vs4 Ps4 m4 cz h4 n0 hEL hcz hP4 hm54 (fun T6a vm6a L6a h6a s3 s4 X6a e6a N6a K6a S6a Z6a O6a C6a hOk VAx => ?_) (fun ii T6b vm6b L6b h6b s3 s4 X6b e6b N6b K6b S6b Z6b O6b C6b => ?_) (fun ii T6c vm6c L6c h6c s3 s4 X6c e6c N6c K6c S6c Z6c O6c C6c => ?_) m4 0 .unset .unset T4.vm _ _ _ 18 124 (Nat.zero_add _) (by omega) (by omega) (Or.inl ⟨rfl, rfl⟩) (fun j hj => absurd hj (Nat.not_lt_zero _)) X4 Zs5 e4 N4 (Keep.refl _ _) ((State.WarmedH.refl _).since _) hZ hown (CHr.refl CR7.1) f8 VA4 HL4
  ·
   have Zs9 : n0 ≤ h6a.size := Nat.le_trans Zs5 K6a.1
   have KC9 : Keep h0 h6a [] := KC5.trans K6a all0
   have KL9 : Keep h4 h6a [] := (Keep.refl h4 []).trans K6a all0
   have hZ : Z.Warmed39 (si.setVm vm6a).vm := Z6a
   have hown : (si.setVm vm6a).vm.findClass "com/example/corduroy/corduroy/Topics" = some mi.cls := O6a
   have CS6a : CHr Z own_EL si.vm h0 vm6a h6a := CR7.trans C6a
   have hS6a : si.Since vm6a h6a.size := State.Since.trans hS4 S6a (Nat.le_trans (Nat.le_trans (own_leH e4) (Keep.refl h4 []).1) K6a.1)
   have X6a : Stand pg l ev zR35 (si.setVm vm6a) mi #[(.ref o)] below meth ci T6a L6a 30 172 := X6a
   show Go _ _ _ (T6a.setTop (mkF mi 24 #[.val (.ref o), .val (.ref ar4), .val (.int (Int32.ofNat m4)), s3, s4] [])) _
   refine g_iloadN X6a hx hby dc50_24 rfl ?_
   refine g_aloadN X6a hx hby dc50_25 rfl rfl ?_
   have ov10 := VAx
   obtain ⟨cl10, Ar10, q10, S10, M10, H10, G10⟩ := ov10
   refine Go.st (X6a.arraylength hx (by rw [e6a]; exact Ar10.1) (State.isArrayOf_alike hZ.alike Ar10.2.1) (g := (mkF mi 26 #[.val (.ref o), .val (.ref ar4), .val (.int (Int32.ofNat m4)), s3, s4] [(.ref ar4), (.int (Int32.ofNat m4))])) rfl rfl (hb hby dc50_26)) ?_
   rw [len_of S10 M10]
   refine g_icmpYes X6a hx hby dc50_27 (flt Int32.lt_irrefl).2.1 (pc0 := 27) (pc' := 100) rfl (by decide) (by decide) ?_
   refine g_iconst X6a hx hby dc50_100 (v := 1) rfl ?_
   show Go _ _ _ (T6a.setTop (mkF mi 101 #[.val (.ref o), .val (.ref ar4), .val (.int (Int32.ofNat m4)), s3, s4] [(.int 1)])) _
   obtain ⟨fs, hr, hrun, hended, -, hW, hpr, hsame⟩ := Stand.leaveW (v := some (.int 1)) X6a hS6a (own_leT e6a (Nat.le_trans (Nat.le_refl _) (Keep.refl h6a []).1)) (fun h => by rw [Bd.returns] at h; cases h) (BodyLoose.notSynchronized Bd)
   refine ⟨_, _, ?_, hP _ _ ⟨hrun, hended, _, _, rfl, ?_, (show CHr Z own_EL si.vm si.heap T6a.vm T6a.heap from own_chr hh e6a ((CS6a.trans (CHr.keep (Keep.refl h6a []) sf0 CS6a.1)).trans (CHv.at X6a hZ hEL (CHr.keep (Keep.refl h6a []) sf0 CS6a.1).1))), ⟨_, rfl⟩, hW, hpr, hsame.mono (by decide) (by decide)⟩⟩
   ·exact retN X6a hx (t := .boolean) Bd.returns (by simp) (hb hby dc50_101) hr
   ·show Q_rmV _ _ _ _ _ _ _ _ _ _ _ _ _ T6a.heap _
    rw [e6a]
    exact ⟨1, rfl, N6a, KC9, Or.inr ⟨rfl, own_vf hCv4 (by rw [hP4]; exact hOk)⟩⟩
  ·
   have Zs11 : n0 ≤ h6b.size := Nat.le_trans Zs5 K6b.1
   have KC11 : Keep h0 h6b [] := KC5.trans K6b all0
   have KL11 : Keep h4 h6b [] := (Keep.refl h4 []).trans K6b all0
   have hZ : Z.Warmed39 (si.setVm vm6b).vm := Z6b
   have hown : (si.setVm vm6b).vm.findClass "com/example/corduroy/corduroy/Topics" = some mi.cls := O6b
   have CS6b : CHr Z own_EL si.vm h0 vm6b h6b := CR7.trans C6b
   have hS6b : si.Since vm6b h6b.size := State.Since.trans hS4 S6b (Nat.le_trans (Nat.le_trans (own_leH e4) (Keep.refl h4 []).1) K6b.1)
   have X6b : Stand pg l ev zR35 (si.setVm vm6b) mi #[(.ref o)] below meth ci T6b L6b 30 172 := X6b
   show Go _ _ _ (T6b.setTop (mkF mi 72 #[.val (.ref o), .val (.ref ar4), .val (.int ii), s3, s4] [])) _
   refine g_iconst X6b hx hby dc50_72 (v := 0) rfl ?_
   show Go _ _ _ (T6b.setTop (mkF mi 73 #[.val (.ref o), .val (.ref ar4), .val (.int ii), s3, s4] [(.int 0)])) _
   obtain ⟨fs, hr, hrun, hended, -, hW, hpr, hsame⟩ := Stand.leaveW (v := some (.int 0)) X6b hS6b (own_leT e6b (Nat.le_trans (Nat.le_refl _) (Keep.refl h6b []).1)) (fun h => by rw [Bd.returns] at h; cases h) (BodyLoose.notSynchronized Bd)
   refine ⟨_, _, ?_, hP _ _ ⟨hrun, hended, _, _, rfl, ?_, (show CHr Z own_EL si.vm si.heap T6b.vm T6b.heap from own_chr hh e6b ((CS6b.trans (CHr.keep (Keep.refl h6b []) sf0 CS6b.1)).trans (CHv.at X6b hZ hEL (CHr.keep (Keep.refl h6b []) sf0 CS6b.1).1))), ⟨_, rfl⟩, hW, hpr, hsame.mono (by decide) (by decide)⟩⟩
   ·exact retN X6b hx (t := .boolean) Bd.returns (by simp) (hb hby dc50_73) hr
   ·show Q_rmV _ _ _ _ _ _ _ _ _ _ _ _ _ T6b.heap _
    rw [e6b]
    exact ⟨0, rfl, N6b, KC11, Or.inl rfl⟩
  ·
   have Zs12 : n0 ≤ h6c.size := Nat.le_trans Zs5 K6c.1
   have KC12 : Keep h0 h6c [] := KC5.trans K6c all0
   have KL12 : Keep h4 h6c [] := (Keep.refl h4 []).trans K6c all0
   have hZ : Z.Warmed39 (si.setVm vm6c).vm := Z6c
   have hown : (si.setVm vm6c).vm.findClass "com/example/corduroy/corduroy/Topics" = some mi.cls := O6c
   have CS6c : CHr Z own_EL si.vm h0 vm6c h6c := CR7.trans C6c
   have hS6c : si.Since vm6c h6c.size := State.Since.trans hS4 S6c (Nat.le_trans (Nat.le_trans (own_leH e4) (Keep.refl h4 []).1) K6c.1)
   have X6c : Stand pg l ev zR35 (si.setVm vm6c) mi #[(.ref o)] below meth ci T6c L6c 30 172 := X6c
   show Go _ _ _ (T6c.setTop (mkF mi 92 #[.val (.ref o), .val (.ref ar4), .val (.int ii), s3, s4] [])) _
   refine g_iconst X6c hx hby dc50_92 (v := 0) rfl ?_
   show Go _ _ _ (T6c.setTop (mkF mi 93 #[.val (.ref o), .val (.ref ar4), .val (.int ii), s3, s4] [(.int 0)])) _
   obtain ⟨fs, hr, hrun, hended, -, hW, hpr, hsame⟩ := Stand.leaveW (v := some (.int 0)) X6c hS6c (own_leT e6c (Nat.le_trans (Nat.le_refl _) (Keep.refl h6c []).1)) (fun h => by rw [Bd.returns] at h; cases h) (BodyLoose.notSynchronized Bd)
   refine ⟨_, _, ?_, hP _ _ ⟨hrun, hended, _, _, rfl, ?_, (show CHr Z own_EL si.vm si.heap T6c.vm T6c.heap from own_chr hh e6c ((CS6c.trans (CHr.keep (Keep.refl h6c []) sf0 CS6c.1)).trans (CHv.at X6c hZ hEL (CHr.keep (Keep.refl h6c []) sf0 CS6c.1).1))), ⟨_, rfl⟩, hW, hpr, hsame.mono (by decide) (by decide)⟩⟩
   ·exact retN X6c hx (t := .boolean) Bd.returns (by simp) (hb hby dc50_93) hr
   ·show Q_rmV _ _ _ _ _ _ _ _ _ _ _ _ _ T6c.heap _
    rw [e6c]
    exact ⟨0, rfl, N6c, KC12, Or.inl rfl⟩
 ·refine g_ifNo X2 hx hby dc50_12 ((if0 _ _).trans (flt hc12_1).1) ?_
  refine g_iconst X2 hx hby dc50_15 (v := 0) rfl ?_
  show Go _ _ _ (T2.setTop (mkF mi 16 #[.val (.ref o), .unset, .unset, .unset, .unset] [(.int 0)])) _
  obtain ⟨fs, hr, hrun, hended, -, hW, hpr, hsame⟩ := Stand.leaveW (v := some (.int 0)) (own_rb X2) ((State.WarmedH.refl si).since h0.size) (own_leT e2 (Nat.le_trans (Nat.le_refl _) (Keep.refl h0 []).1)) (fun h => by rw [Bd.returns] at h; cases h) (BodyLoose.notSynchronized Bd)
  refine ⟨_, _, ?_, hP _ _ ⟨hrun, hended, _, _, rfl, ?_, (show CHr Z own_EL si.vm si.heap T2.vm T2.heap from own_chr hh e2 (((CHr.refl hCH).trans (CHr.keep (Keep.refl h0 []) sf0 (CHr.refl hCH).1)).trans (CHv.at (own_rb X2) hZ hEL (CHr.keep (Keep.refl h0 []) sf0 (CHr.refl hCH).1).1))), ⟨_, rfl⟩, hW, hpr, hsame.mono (by decide) (by decide)⟩⟩
  ·exact retN (own_rb X2) hx (t := .boolean) Bd.returns (by simp) (hb hby dc50_16) hr
  ·show Q_rmV _ _ _ _ _ _ _ _ _ _ _ _ _ T2.heap _
   rw [e2]
   exact ⟨0, rfl, N2, (Keep.refl h0 []), Or.inl rfl⟩
theorem own_n1 {E : List Int32} {n : Int32} (hE : E.length ≤ 100) (hn : n.toInt = E.length) (h1 : 1 ≤ E.length) : n - (1 : Int32) = Int32.ofNat (E.length - 1) := by
 have en : n = Int32.ofNat E.length := by apply Int32.toInt_inj.mp; rw [own_ofN (by omega), hn]
 rw [en]; exact own_sub (m := 1) (by omega) h1
theorem own_ltn {E : List Int32} {n : Int32} {k : Nat} (hE : E.length ≤ 100) (hn : n.toInt = E.length) (hk : k < E.length) : Int32.ofNat k < n := by rw [Int32.lt_iff_toInt_lt, own_ofN (by omega), hn]; omega
theorem own_lt2 {E : List Int32} (hE : E.length ≤ 100) : Int32.ofNat (E.length - 1) < Int32.ofNat (E.length + 1) := by rw [Int32.lt_iff_toInt_lt, Int32.toInt_ofNat_small (by omega), Int32.toInt_ofNat_small (by omega)]; omega
theorem own_as (x : Int32) : x + (1 : Int32) - (1 : Int32) = x := by
 have e1 := c_iadd x 1
 have e2 := c_isub (x + 1) 1
 have l : (1 : Int32).toInt = 1 := rfl
 have b1 := Int32.le_toInt x
 have b2 := Int32.toInt_lt x
 have b3 := Int32.le_toInt (x + 1 - 1)
 have b4 := Int32.toInt_lt (x + 1 - 1)
 apply Int32.toInt_inj.mp; omega
theorem own_ix0 {E : List Int32} {c : Int32} (h1 : 1 ≤ E.length) (h : E.getD 0 0 = c) : ix E c 0 = Int32.ofNat 0 := by
 unfold ix; rw [show E.length - 0 = (E.length - 1) + 1 from by omega]; exact if_pos h
theorem own_ix1 {E : List Int32} {c : Int32} (h1 : 1 ≤ E.length) (h : ¬ (E.getD 0 0 = c)) : ix E c 0 = ixF E c (E.length - 1) (0 + 1) := by
 unfold ix; rw [show E.length - 0 = (E.length - 1) + 1 from by omega]; exact if_neg h
theorem own_nz {E : List Int32} {n : Int32} (hn : n.toInt = E.length) (h1 : 1 ≤ E.length) : ¬ (n = (0 : Int32)) := fun q => by rw [q, own_z0] at hn; omega
theorem dc51_30 : Dk zb51 30 (.iinc 7 1) 3 := by decide +kernel
theorem dc51_33 : Dk zb51 33 (.iload 7) 2 := by decide +kernel
theorem dc51_35 : Dk zb51 35 (.iload 6) 2 := by decide +kernel
theorem dc51_37 : Dk zb51 37 (.if_icmp .gt 15) 3 := by decide +kernel
theorem dc51_40 : Dk zb51 40 (.aload_n 0) 1 := by decide +kernel
theorem dc51_41 : Dk zb51 41 (.iload 7) 2 := by decide +kernel
theorem dc51_43 : Dk zb51 43 .baload 1 := by decide +kernel
theorem dc51_44 : Dk zb51 44 (.iload 5) 2 := by decide +kernel
theorem dc51_46 : Dk zb51 46 (.if_icmp .eq 6) 3 := by decide +kernel
theorem dc51_49 : Dk zb51 49 (.goto (-19)) 3 := by decide +kernel
theorem own_ii30 (l : Launch) (Z : State) (a0 : Array Value) (hw : Tb Z a0) {pg : Program} {ev : Env} {si : State} {mi : MethodId} {args : Array Value} {below : List Frame} {meth : Method} {ci : Code} {s₁ : State} {locs : List Loc} (X0 : Stand pg l ev zR0 si mi args below meth ci s₁ locs 0 0) (hx : pg.tables.exec = Jvm.exec) (hby : ci.code = zb51) (hml : ci.maxLocals = 11) (hZ : Z.Warmed39 si.vm) (hown : si.vm.findClass "java/lang/StringLatin1" = some mi.cls) {P : State → Outcome → Prop} (b : Addr) (n : Int32) (b2 : Addr) (c : Int32) (k : Nat) (kb : ClassId) (E : List Int32) (h0 : Heap) (n0 : Nat) (Z0 : n0 ≤ h0.size) (e0 : s₁.heap = h0) (N0 : Fr n0 locs) (SAr : Arv Z h0 b kb .byte n (E.map Value.int) (.int (0 : Int32))) (hE : E.length ≤ 100) (hn : n.toInt = E.length) (hk : k < E.length) (KN : ¬ (k + 1 < E.length) → ∀ (T' : State) (locs' : List Loc), Stand pg l ev zR0 si mi args below meth ci T' locs' 0 0 → T'.heap = h0 → Fr n0 locs' → Go pg.tables ev below (T'.setTop (mkF mi 52 #[.val (.ref b), .val (.int n), .val (.ref b2), .val (.int 1), .val (.int 0), .val (.int c), .val (.int (Int32.ofNat (E.length - 1))), .val (.int (Int32.ofNat (k + 1))), .unset, .unset, .unset] [])) P) (KF : k + 1 < E.length → (E.getD (k + 1) 0) = c → ∀ (T' : State) (locs' : List Loc), Stand pg l ev zR0 si mi args below meth ci T' locs' 0 0 → T'.heap = h0 → Fr n0 locs' → Go pg.tables ev below (T'.setTop (mkF mi 52 #[.val (.ref b), .val (.int n), .val (.ref b2), .val (.int 1), .val (.int 0), .val (.int c), .val (.int (Int32.ofNat (E.length - 1))), .val (.int (Int32.ofNat (k + 1))), .unset, .unset, .unset] [])) P) (KL : k + 1 < E.length → ¬ ((E.getD (k + 1) 0) = c) → ∀ (T' : State) (locs' : List Loc), Stand pg l ev zR0 si mi args below meth ci T' locs' 0 0 → T'.heap = h0 → Fr n0 locs' → Go pg.tables ev below (T'.setTop (mkF mi 30 #[.val (.ref b), .val (.int n), .val (.ref b2), .val (.int 1), .val (.int 0), .val (.int c), .val (.int (Int32.ofNat (E.length - 1))), .val (.int (Int32.ofNat (k + 1))), .unset, .unset, .unset] [])) P) :
  Go pg.tables ev below (s₁.setTop (mkF mi 30 #[.val (.ref b), .val (.int n), .val (.ref b2), .val (.int 1), .val (.int 0), .val (.int c), .val (.int (Int32.ofNat (E.length - 1))), .val (.int (Int32.ofNat k)), .unset, .unset, .unset] [])) P := by
 refine g_iinc X0 hx hby dc51_30 rfl rfl (l' := #[.val (.ref b), .val (.int n), .val (.ref b2), .val (.int 1), .val (.int 0), .val (.int c), .val (.int (Int32.ofNat (E.length - 1))), .val (.int ((Int32.ofNat k) + (1 : Int32))), .unset, .unset, .unset]) rfl ?_
 show Go _ _ _ (s₁.setTop (mkF mi 33 #[.val (.ref b), .val (.int n), .val (.ref b2), .val (.int 1), .val (.int 0), .val (.int c), .val (.int (Int32.ofNat (E.length - 1))), .val (.int ((Int32.ofNat k) + (1 : Int32))), .unset, .unset, .unset] [])) _
 rw [own_ofS]
 show Go _ _ _ (s₁.setTop (mkF mi 33 #[.val (.ref b), .val (.int n), .val (.ref b2), .val (.int 1), .val (.int 0), .val (.int c), .val (.int (Int32.ofNat (E.length - 1))), .val (.int (Int32.ofNat (k + 1))), .unset, .unset, .unset] [])) _
 refine g_iload X0 hx hby dc51_33 rfl ?_
 refine g_iload X0 hx hby dc51_35 rfl ?_
 by_cases hc37_1 : (Int32.ofNat (E.length - 1)) < (Int32.ofNat (k + 1))
 ·refine g_icmpYes X0 hx hby dc51_37 (tlt hc37_1).2.2.1 (pc0 := 37) (pc' := 52) rfl (by decide) (by decide) ?_
  show Go _ _ _ (s₁.setTop (mkF mi 52 #[.val (.ref b), .val (.int n), .val (.ref b2), .val (.int 1), .val (.int 0), .val (.int c), .val (.int (Int32.ofNat (E.length - 1))), .val (.int (Int32.ofNat (k + 1))), .unset, .unset, .unset] [])) _
  exact KN (fun u => absurd ((own_oflt (n := E.length - 1) (m := k + 1) (by omega) (by omega)).mp hc37_1) (by omega)) _ _ X0 e0 N0
 ·refine g_icmpNo X0 hx hby dc51_37 (flt hc37_1).2.2.1 ?_
  show Go _ _ _ (s₁.setTop (mkF mi 40 #[.val (.ref b), .val (.int n), .val (.ref b2), .val (.int 1), .val (.int 0), .val (.int c), .val (.int (Int32.ofNat (E.length - 1))), .val (.int (Int32.ofNat (k + 1))), .unset, .unset, .unset] [])) _
  have hk1 : k + 1 < E.length := by have q : ¬ (E.length - 1 < k + 1) := fun u => hc37_1 ((own_oflt (n := E.length - 1) (m := k + 1) (by omega) (by omega)).mpr u); omega
  refine g_aloadN X0 hx hby dc51_40 rfl rfl ?_
  refine g_iload X0 hx hby dc51_41 rfl ?_
  have ov1 := SAr
  obtain ⟨cl1, Ar1, q1, S1, M1, H1, G1⟩ := ov1
  have hin1 : ¬ ((Int32.ofNat (k + 1)) < 0 ∨ cl1.slots.size ≤ ((Int32.ofNat (k + 1))).toNatClampNeg) := inb_of S1 ⟨own_ofN0 (n := (k + 1)) (by omega), own_ltn hE hn hk1⟩
  have hat1 : cl1.slots[((Int32.ofNat (k + 1))).toNatClampNeg]? = some (.int (E.getD (k + 1) 0)) := Has.at H1 hin1 (by rw [own_ofNn (by omega)]; exact own_gm E _)
  refine Go.st (X0.baloadBytes hx (j := (Int32.ofNat (k + 1))) (v := (.int (E.getD (k + 1) 0))) (by rw [e0]; exact Ar1.1) (State.isArrayOf_alike hZ.alike Ar1.2.1) Ar1.2.2 hin1 hat1 (g := (mkF mi 43 #[.val (.ref b), .val (.int n), .val (.ref b2), .val (.int 1), .val (.int 0), .val (.int c), .val (.int (Int32.ofNat (E.length - 1))), .val (.int (Int32.ofNat (k + 1))), .unset, .unset, .unset] [(.int (Int32.ofNat (k + 1))), (.ref b)])) rfl rfl (hb hby dc51_43)) ?_
  refine g_iload X0 hx hby dc51_44 rfl ?_
  by_cases hc46_2 : (E.getD (k + 1) 0) = c
  ·refine g_icmpYes X0 hx hby dc51_46 (teq hc46_2).1 (pc0 := 46) (pc' := 52) rfl (by decide) (by decide) ?_
   show Go _ _ _ (s₁.setTop (mkF mi 52 #[.val (.ref b), .val (.int n), .val (.ref b2), .val (.int 1), .val (.int 0), .val (.int c), .val (.int (Int32.ofNat (E.length - 1))), .val (.int (Int32.ofNat (k + 1))), .unset, .unset, .unset] [])) _
   exact KF hk1 hc46_2 _ _ X0 e0 N0
  ·refine g_icmpNo X0 hx hby dc51_46 (feq hc46_2).1 ?_
   refine g_goto X0 hx hby dc51_49 (pc0 := 49) (pc' := 30) rfl (by decide) (by decide) ?_
   show Go _ _ _ (s₁.setTop (mkF mi 30 #[.val (.ref b), .val (.int n), .val (.ref b2), .val (.int 1), .val (.int 0), .val (.int c), .val (.int (Int32.ofNat (E.length - 1))), .val (.int (Int32.ofNat (k + 1))), .unset, .unset, .unset] [])) _
   exact KL hk1 hc46_2 _ _ X0 e0 N0
theorem own_iiL (l : Launch) (Z : State) (a0 : Array Value) (hw : Tb Z a0) {pg : Program} {ev : Env} {si : State} {mi : MethodId} {args : Array Value} {below : List Frame} {meth : Method} {ci : Code} (hx : pg.tables.exec = Jvm.exec) (hby : ci.code = zb51) (hml : ci.maxLocals = 11) (hZ : Z.Warmed39 si.vm) (hown : si.vm.findClass "java/lang/StringLatin1" = some mi.cls) {P : State → Outcome → Prop} (b : Addr) (n : Int32) (b2 : Addr) (c : Int32) (kb : ClassId) (E : List Int32) (h0 : Heap) (n0 : Nat) (Z0 : n0 ≤ h0.size) (SAr : Arv Z h0 b kb .byte n (E.map Value.int) (.int (0 : Int32))) (hE : E.length ≤ 100) (hn : n.toInt = E.length) (v : Int32)
  (Kf : ∀ (k : Nat), v = Int32.ofNat k → k < E.length → ∀ (T' : State) (locs' : List Loc), Stand pg l ev zR0 si mi args below meth ci T' locs' 0 0 → T'.heap = h0 → Fr n0 locs' → Go pg.tables ev below (T'.setTop (mkF mi 52 #[.val (.ref b), .val (.int n), .val (.ref b2), .val (.int 1), .val (.int 0), .val (.int c), .val (.int (Int32.ofNat (E.length - 1))), .val (.int (Int32.ofNat k)), .unset, .unset, .unset] [])) P) (Kn : v = -1 → ∀ (T' : State) (locs' : List Loc), Stand pg l ev zR0 si mi args below meth ci T' locs' 0 0 → T'.heap = h0 → Fr n0 locs' → Go pg.tables ev below (T'.setTop (mkF mi 52 #[.val (.ref b), .val (.int n), .val (.ref b2), .val (.int 1), .val (.int 0), .val (.int c), .val (.int (Int32.ofNat (E.length - 1))), .val (.int (Int32.ofNat E.length)), .unset, .unset, .unset] [])) P) :
  ∀ (r k : Nat) (s₁ : State) (locs : List Loc), k + 1 + r = E.length → v = ixF E c r (k + 1) → Stand pg l ev zR0 si mi args below meth ci s₁ locs 0 0 → s₁.heap = h0 → Fr n0 locs → Go pg.tables ev below (s₁.setTop (mkF mi 30 #[.val (.ref b), .val (.int n), .val (.ref b2), .val (.int 1), .val (.int 0), .val (.int c), .val (.int (Int32.ofNat (E.length - 1))), .val (.int (Int32.ofNat k)), .unset, .unset, .unset] [])) P := by
 intro r
 induction r with
 | zero =>
  intro k s₁ locs hk hv X0 e0 N0
  refine own_ii30 l Z a0 hw X0 hx hby hml hZ hown b n b2 c k kb E h0 n0 Z0 e0 N0 SAr hE hn (by omega) (fun _ T' L' X' e' N' => ?_) (fun hq => absurd hq (by omega)) (fun hq => absurd hq (by omega))
  rw [show k + 1 = E.length from hk]
  exact Kn hv _ _ X' e' N'
 | succ r ih =>
  intro k s₁ locs hk hv X0 e0 N0
  refine own_ii30 l Z a0 hw X0 hx hby hml hZ hown b n b2 c k kb E h0 n0 Z0 e0 N0 SAr hE hn (by omega) (fun hq => absurd hq (by omega)) (fun hq he T' L' X' e' N' => ?_) (fun hq he T' L' X' e' N' => ?_)
  ·exact Kf (k + 1) (hv.trans (if_pos he)) hq _ _ X' e' N'
  ·exact ih (k + 1) T' L' (by omega) (hv.trans (if_neg he)) X' e' N'
theorem dc51_0 : Dk zb51 0 (.aload_n 2) 1 := by decide +kernel
theorem dc51_1 : Dk zb51 1 (.iconst 0) 1 := by decide +kernel
theorem dc51_2 : Dk zb51 2 .baload 1 := by decide +kernel
theorem dc51_3 : Dk zb51 3 (.istore 5) 2 := by decide +kernel
theorem dc51_5 : Dk zb51 5 (.iload_n 1) 1 := by decide +kernel
theorem dc51_6 : Dk zb51 6 (.iload_n 3) 1 := by decide +kernel
theorem dc51_7 : Dk zb51 7 .isub 1 := by decide +kernel
theorem dc51_8 : Dk zb51 8 (.istore 6) 2 := by decide +kernel
theorem dc51_10 : Dk zb51 10 (.iload 4) 2 := by decide +kernel
theorem dc51_12 : Dk zb51 12 (.istore 7) 2 := by decide +kernel
theorem dc51_14 : Dk zb51 14 (.iload 7) 2 := by decide +kernel
theorem dc51_16 : Dk zb51 16 (.iload 6) 2 := by decide +kernel
theorem dc51_18 : Dk zb51 18 (.if_icmp .gt 101) 3 := by decide +kernel
theorem dc51_21 : Dk zb51 21 (.aload_n 0) 1 := by decide +kernel
theorem dc51_22 : Dk zb51 22 (.iload 7) 2 := by decide +kernel
theorem dc51_24 : Dk zb51 24 .baload 1 := by decide +kernel
theorem dc51_25 : Dk zb51 25 (.iload 5) 2 := by decide +kernel
theorem dc51_27 : Dk zb51 27 (.if_icmp .eq 25) 3 := by decide +kernel
theorem dc51_52 : Dk zb51 52 (.iload 7) 2 := by decide +kernel
theorem dc51_54 : Dk zb51 54 (.iload 6) 2 := by decide +kernel
theorem dc51_56 : Dk zb51 56 (.if_icmp .gt 57) 3 := by decide +kernel
theorem dc51_59 : Dk zb51 59 (.iload 7) 2 := by decide +kernel
theorem dc51_61 : Dk zb51 61 (.iconst 1) 1 := by decide +kernel
theorem dc51_62 : Dk zb51 62 .iadd 1 := by decide +kernel
theorem dc51_63 : Dk zb51 63 (.istore 8) 2 := by decide +kernel
theorem dc51_65 : Dk zb51 65 (.iload 8) 2 := by decide +kernel
theorem dc51_67 : Dk zb51 67 (.iload_n 3) 1 := by decide +kernel
theorem dc51_68 : Dk zb51 68 .iadd 1 := by decide +kernel
theorem dc51_69 : Dk zb51 69 (.iconst 1) 1 := by decide +kernel
theorem dc51_70 : Dk zb51 70 .isub 1 := by decide +kernel
theorem dc51_71 : Dk zb51 71 (.istore 9) 2 := by decide +kernel
theorem dc51_73 : Dk zb51 73 (.iconst 1) 1 := by decide +kernel
theorem dc51_74 : Dk zb51 74 (.istore 10) 2 := by decide +kernel
theorem dc51_76 : Dk zb51 76 (.iload 8) 2 := by decide +kernel
theorem dc51_78 : Dk zb51 78 (.iload 9) 2 := by decide +kernel
theorem dc51_80 : Dk zb51 80 (.if_icmp .ge 23) 3 := by decide +kernel
theorem dc51_103 : Dk zb51 103 (.iload 8) 2 := by decide +kernel
theorem dc51_105 : Dk zb51 105 (.iload 9) 2 := by decide +kernel
theorem dc51_107 : Dk zb51 107 (.if_icmp .ne 6) 3 := by decide +kernel
theorem dc51_110 : Dk zb51 110 (.iload 7) 2 := by decide +kernel
theorem dc51_112 : Dk zb51 112 .ireturn 1 := by decide +kernel
theorem dc51_113 : Dk zb51 113 (.iinc 7 1) 3 := by decide +kernel
theorem dc51_116 : Dk zb51 116 (.goto (-102)) 3 := by decide +kernel
theorem dc51_119 : Dk zb51 119 (.iconst (-1)) 1 := by decide +kernel
theorem dc51_120 : Dk zb51 120 .ireturn 1 := by decide +kernel
theorem ef_rmJI (mi : MethodId) (b : Addr) (n : Int32) (b2 : Addr) : entryFrame mi #[(.ref b), (.int n), (.ref b2), (.int 1), (.int 0)] 11 = mkF mi 0 #[.val (.ref b), .val (.int n), .val (.ref b2), .val (.int 1), .val (.int 0), .unset, .unset, .unset, .unset, .unset, .unset] [] := by first | (simp [entryFrame, mkF, argsToLocals, Value.category]; done) | rfl
theorem rmJI (l : Launch) (Z : State) (a0 : Array Value) (hw : Tb Z a0) (ws : List Jvm.Cond) (b : Addr) (n : Int32) (b2 : Addr) (c : Int32) (kb : ClassId) (kb2 : ClassId) (E : List Int32) (h0 : Heap) (n0 : Nat) (Z0 : n0 ≤ h0.size) (SAr : Arv Z h0 b kb .byte n (E.map Value.int) (.int (0 : Int32))) (SAr2 : Arv Z h0 b2 kb2 .byte (1 : Int32) (([c] : List Int32).map Value.int) (.int (0 : Int32))) (hE : E.length ≤ 100) (hn : n.toInt = E.length) (h1 : 1 ≤ E.length) :
  Mt l Z zy51 zb51 11 (some .int) ws zR0 #[(.ref b), (.int n), (.ref b2), (.int 1), (.int 0)] h0 (QP (some (.int (ix E c 0))) h0 n0) := by
 refine MetFree.of_bodySF (plainFor_of_name pn_2) hisR ?_
 intro pg ev si mi args below meth ci s₁ Bd hml0 hP0 hK
 obtain ⟨rfl, hZ, hh⟩ := hP0
 have hx := Bd.exec
 have hby := Bd.bytes
 have hml : ci.maxLocals = 11 := hml0
 have hown : si.vm.findClass "java/lang/StringLatin1" = some mi.cls := findClass_of_methodNamed Bd.named
 have hnm := (name_of_methodNamed Bd.named Bd.method).1
 have X0 : Stand pg l ev zR0 si mi #[(.ref b), (.int n), (.ref b2), (.int 1), (.int 0)] below meth ci s₁ [] 0 0 := Stand.of_body Bd
 have e0 : s₁.heap = h0 := by rw [← hh, Bd.state]; rfl
 have N0 := Fr.nil n0
 refine Go.start (fun P hP => ?_)
 refine Go.st (fun t_ k_ => castTop (ef_rmJI mi b n b2) k_) (A := s₁.setTop (mkF mi 0 #[.val (.ref b), .val (.int n), .val (.ref b2), .val (.int 1), .val (.int 0), .unset, .unset, .unset, .unset, .unset, .unset] [])) ?_
 refine g_aloadN X0 hx hby dc51_0 rfl rfl ?_
 refine g_iconst X0 hx hby dc51_1 (v := 0) rfl ?_
 have ov1 := SAr2
 obtain ⟨cl1, Ar1, q1, S1, M1, H1, G1⟩ := ov1
 have hin1 : ¬ ((0 : Int32) < 0 ∨ cl1.slots.size ≤ ((0 : Int32)).toNatClampNeg) := inb_of S1 ⟨by decide, by decide⟩
 have hat1 : cl1.slots[((0 : Int32)).toNatClampNeg]? = some (.int c) := Has.at H1 hin1 ((own_gm ([c] : List Int32) _).trans (by rw [show (0 : Int32).toNatClampNeg = 0 from by decide +kernel]; rfl))
 refine Go.st (X0.baloadBytes hx (j := (0 : Int32)) (v := (.int c)) (by rw [e0]; exact Ar1.1) (State.isArrayOf_alike hZ.alike Ar1.2.1) Ar1.2.2 hin1 hat1 (g := (mkF mi 2 #[.val (.ref b), .val (.int n), .val (.ref b2), .val (.int 1), .val (.int 0), .unset, .unset, .unset, .unset, .unset, .unset] [(.int 0), (.ref b2)])) rfl rfl (hb hby dc51_2)) ?_
 refine g_istore X0 hx hby dc51_3 (l' := #[.val (.ref b), .val (.int n), .val (.ref b2), .val (.int 1), .val (.int 0), .val (.int c), .unset, .unset, .unset, .unset, .unset]) rfl ?_
 refine g_iloadN X0 hx hby dc51_5 rfl ?_
 refine g_iloadN X0 hx hby dc51_6 rfl ?_
 refine g_isub X0 hx hby dc51_7 rfl ?_
 show Go _ _ _ (s₁.setTop (mkF mi 8 #[.val (.ref b), .val (.int n), .val (.ref b2), .val (.int 1), .val (.int 0), .val (.int c), .unset, .unset, .unset, .unset, .unset] [(.int (n - (1 : Int32)))])) _
 rw [own_n1 hE hn h1]
 show Go _ _ _ (s₁.setTop (mkF mi 8 #[.val (.ref b), .val (.int n), .val (.ref b2), .val (.int 1), .val (.int 0), .val (.int c), .unset, .unset, .unset, .unset, .unset] [(.int (Int32.ofNat (E.length - 1)))])) _
 refine g_istore X0 hx hby dc51_8 (l' := #[.val (.ref b), .val (.int n), .val (.ref b2), .val (.int 1), .val (.int 0), .val (.int c), .val (.int (Int32.ofNat (E.length - 1))), .unset, .unset, .unset, .unset]) rfl ?_
 refine g_iload X0 hx hby dc51_10 rfl ?_
 refine g_istore X0 hx hby dc51_12 (l' := #[.val (.ref b), .val (.int n), .val (.ref b2), .val (.int 1), .val (.int 0), .val (.int c), .val (.int (Int32.ofNat (E.length - 1))), .val (.int 0), .unset, .unset, .unset]) rfl ?_
 show Go _ _ _ (s₁.setTop (mkF mi 14 #[.val (.ref b), .val (.int n), .val (.ref b2), .val (.int 1), .val (.int 0), .val (.int c), .val (.int (Int32.ofNat (E.length - 1))), .val (.int 0), .unset, .unset, .unset] [])) _
 show Go _ _ _ (s₁.setTop (mkF mi 14 #[.val (.ref b), .val (.int n), .val (.ref b2), .val (.int 1), .val (.int 0), .val (.int c), .val (.int (Int32.ofNat (E.length - 1))), .val (.int (Int32.ofNat 0)), .unset, .unset, .unset] [])) _
 refine g_iload X0 hx hby dc51_14 rfl ?_
 refine g_iload X0 hx hby dc51_16 rfl ?_
 refine g_icmpNo X0 hx hby dc51_18 (flt (fun q => absurd ((own_oflt (n := E.length - 1) (m := 0) (by omega) (by omega)).mp q) (by omega))).2.2.1 ?_
 refine g_aloadN X0 hx hby dc51_21 rfl rfl ?_
 refine g_iload X0 hx hby dc51_22 rfl ?_
 have ov2 := SAr
 obtain ⟨cl2, Ar2, q2, S2, M2, H2, G2⟩ := ov2
 have hin2 : ¬ ((Int32.ofNat 0) < 0 ∨ cl2.slots.size ≤ ((Int32.ofNat 0)).toNatClampNeg) := inb_of S2 ⟨own_ofN0 (n := 0) (by omega), own_ltn hE hn h1⟩
 have hat2 : cl2.slots[((Int32.ofNat 0)).toNatClampNeg]? = some (.int (E.getD 0 0)) := Has.at H2 hin2 (by rw [own_ofNn (by omega)]; exact own_gm E _)
 refine Go.st (X0.baloadBytes hx (j := (Int32.ofNat 0)) (v := (.int (E.getD 0 0))) (by rw [e0]; exact Ar2.1) (State.isArrayOf_alike hZ.alike Ar2.2.1) Ar2.2.2 hin2 hat2 (g := (mkF mi 24 #[.val (.ref b), .val (.int n), .val (.ref b2), .val (.int 1), .val (.int 0), .val (.int c), .val (.int (Int32.ofNat (E.length - 1))), .val (.int (Int32.ofNat 0)), .unset, .unset, .unset] [(.int (Int32.ofNat 0)), (.ref b)])) rfl rfl (hb hby dc51_24)) ?_
 refine g_iload X0 hx hby dc51_25 rfl ?_
 by_cases hc27_1 : (E.getD 0 0) = c
 ·refine g_icmpYes X0 hx hby dc51_27 (teq hc27_1).1 (pc0 := 27) (pc' := 52) rfl (by decide) (by decide) ?_
  refine g_iload X0 hx hby dc51_52 rfl ?_
  refine g_iload X0 hx hby dc51_54 rfl ?_
  refine g_icmpNo X0 hx hby dc51_56 (flt (fun q => absurd ((own_oflt (n := E.length - 1) (m := 0) (by omega) (by omega)).mp q) (by omega))).2.2.1 ?_
  refine g_iload X0 hx hby dc51_59 rfl ?_
  refine g_iconst X0 hx hby dc51_61 (v := 1) rfl ?_
  refine g_iadd X0 hx hby dc51_62 rfl ?_
  refine g_istore X0 hx hby dc51_63 (l' := #[.val (.ref b), .val (.int n), .val (.ref b2), .val (.int 1), .val (.int 0), .val (.int c), .val (.int (Int32.ofNat (E.length - 1))), .val (.int (Int32.ofNat 0)), .val (.int ((Int32.ofNat 0) + (1 : Int32))), .unset, .unset]) rfl ?_
  refine g_iload X0 hx hby dc51_65 rfl ?_
  refine g_iloadN X0 hx hby dc51_67 rfl ?_
  refine g_iadd X0 hx hby dc51_68 rfl ?_
  refine g_iconst X0 hx hby dc51_69 (v := 1) rfl ?_
  refine g_isub X0 hx hby dc51_70 rfl ?_
  show Go _ _ _ (s₁.setTop (mkF mi 71 #[.val (.ref b), .val (.int n), .val (.ref b2), .val (.int 1), .val (.int 0), .val (.int c), .val (.int (Int32.ofNat (E.length - 1))), .val (.int (Int32.ofNat 0)), .val (.int ((Int32.ofNat 0) + (1 : Int32))), .unset, .unset] [(.int ((((Int32.ofNat 0) + (1 : Int32)) + (1 : Int32)) - (1 : Int32)))])) _
  rw [own_as]
  show Go _ _ _ (s₁.setTop (mkF mi 71 #[.val (.ref b), .val (.int n), .val (.ref b2), .val (.int 1), .val (.int 0), .val (.int c), .val (.int (Int32.ofNat (E.length - 1))), .val (.int (Int32.ofNat 0)), .val (.int ((Int32.ofNat 0) + (1 : Int32))), .unset, .unset] [(.int ((Int32.ofNat 0) + (1 : Int32)))])) _
  refine g_istore X0 hx hby dc51_71 (l' := #[.val (.ref b), .val (.int n), .val (.ref b2), .val (.int 1), .val (.int 0), .val (.int c), .val (.int (Int32.ofNat (E.length - 1))), .val (.int (Int32.ofNat 0)), .val (.int ((Int32.ofNat 0) + (1 : Int32))), .val (.int ((Int32.ofNat 0) + (1 : Int32))), .unset]) rfl ?_
  refine g_iconst X0 hx hby dc51_73 (v := 1) rfl ?_
  refine g_istore X0 hx hby dc51_74 (l' := #[.val (.ref b), .val (.int n), .val (.ref b2), .val (.int 1), .val (.int 0), .val (.int c), .val (.int (Int32.ofNat (E.length - 1))), .val (.int (Int32.ofNat 0)), .val (.int ((Int32.ofNat 0) + (1 : Int32))), .val (.int ((Int32.ofNat 0) + (1 : Int32))), .val (.int 1)]) rfl ?_
  refine g_iload X0 hx hby dc51_76 rfl ?_
  refine g_iload X0 hx hby dc51_78 rfl ?_
  refine g_icmpYes X0 hx hby dc51_80 (flt Int32.lt_irrefl).2.1 (pc0 := 80) (pc' := 103) rfl (by decide) (by decide) ?_
  refine g_iload X0 hx hby dc51_103 rfl ?_
  refine g_iload X0 hx hby dc51_105 rfl ?_
  refine g_icmpNo X0 hx hby dc51_107 (teq rfl).2 ?_
  refine g_iload X0 hx hby dc51_110 rfl ?_
  obtain ⟨fs, hr, hrun, hended, hW, hsame⟩ := X0.leave (v := some (.int (Int32.ofNat 0))) (fun h => by rw [Bd.returns] at h; cases h) (BodyLoose.notSynchronized Bd)
  refine ⟨_, _, ?_, hP _ _ ⟨hrun, hended, _, _, rfl, ?_, ⟨_, rfl⟩, hW, hsame.mono (by decide) (by decide)⟩⟩
  ·exact retI X0 hx Bd.returns (hb hby dc51_112) hr
  ·exact ⟨by rw [own_ix0 h1 hc27_1], N0, e0⟩
 ·refine g_icmpNo X0 hx hby dc51_27 (feq hc27_1).1 ?_
  show Go _ _ _ (s₁.setTop (mkF mi 30 #[.val (.ref b), .val (.int n), .val (.ref b2), .val (.int 1), .val (.int 0), .val (.int c), .val (.int (Int32.ofNat (E.length - 1))), .val (.int (Int32.ofNat 0)), .unset, .unset, .unset] [])) _
  refine own_iiL l Z a0 hw hx hby hml hZ hown b n b2 c kb E h0 n0 Z0 SAr hE hn (ix E c 0) (fun k hv hk T' L' X' e' N' => ?_) (fun hv T' L' X' e' N' => ?_) (E.length - 1) 0 _ _ (by omega) (own_ix1 h1 hc27_1) X0 e0 N0
  ·
   show Go _ _ _ (T'.setTop (mkF mi 52 #[.val (.ref b), .val (.int n), .val (.ref b2), .val (.int 1), .val (.int 0), .val (.int c), .val (.int (Int32.ofNat (E.length - 1))), .val (.int (Int32.ofNat k)), .unset, .unset, .unset] [])) _
   refine g_iload X' hx hby dc51_52 rfl ?_
   refine g_iload X' hx hby dc51_54 rfl ?_
   refine g_icmpNo X' hx hby dc51_56 (flt (fun q => absurd ((own_oflt (n := E.length - 1) (m := k) (by omega) (by omega)).mp q) (by omega))).2.2.1 ?_
   refine g_iload X' hx hby dc51_59 rfl ?_
   refine g_iconst X' hx hby dc51_61 (v := 1) rfl ?_
   refine g_iadd X' hx hby dc51_62 rfl ?_
   refine g_istore X' hx hby dc51_63 (l' := #[.val (.ref b), .val (.int n), .val (.ref b2), .val (.int 1), .val (.int 0), .val (.int c), .val (.int (Int32.ofNat (E.length - 1))), .val (.int (Int32.ofNat k)), .val (.int ((Int32.ofNat k) + (1 : Int32))), .unset, .unset]) rfl ?_
   refine g_iload X' hx hby dc51_65 rfl ?_
   refine g_iloadN X' hx hby dc51_67 rfl ?_
   refine g_iadd X' hx hby dc51_68 rfl ?_
   refine g_iconst X' hx hby dc51_69 (v := 1) rfl ?_
   refine g_isub X' hx hby dc51_70 rfl ?_
   show Go _ _ _ (T'.setTop (mkF mi 71 #[.val (.ref b), .val (.int n), .val (.ref b2), .val (.int 1), .val (.int 0), .val (.int c), .val (.int (Int32.ofNat (E.length - 1))), .val (.int (Int32.ofNat k)), .val (.int ((Int32.ofNat k) + (1 : Int32))), .unset, .unset] [(.int ((((Int32.ofNat k) + (1 : Int32)) + (1 : Int32)) - (1 : Int32)))])) _
   rw [own_as]
   show Go _ _ _ (T'.setTop (mkF mi 71 #[.val (.ref b), .val (.int n), .val (.ref b2), .val (.int 1), .val (.int 0), .val (.int c), .val (.int (Int32.ofNat (E.length - 1))), .val (.int (Int32.ofNat k)), .val (.int ((Int32.ofNat k) + (1 : Int32))), .unset, .unset] [(.int ((Int32.ofNat k) + (1 : Int32)))])) _
   refine g_istore X' hx hby dc51_71 (l' := #[.val (.ref b), .val (.int n), .val (.ref b2), .val (.int 1), .val (.int 0), .val (.int c), .val (.int (Int32.ofNat (E.length - 1))), .val (.int (Int32.ofNat k)), .val (.int ((Int32.ofNat k) + (1 : Int32))), .val (.int ((Int32.ofNat k) + (1 : Int32))), .unset]) rfl ?_
   refine g_iconst X' hx hby dc51_73 (v := 1) rfl ?_
   refine g_istore X' hx hby dc51_74 (l' := #[.val (.ref b), .val (.int n), .val (.ref b2), .val (.int 1), .val (.int 0), .val (.int c), .val (.int (Int32.ofNat (E.length - 1))), .val (.int (Int32.ofNat k)), .val (.int ((Int32.ofNat k) + (1 : Int32))), .val (.int ((Int32.ofNat k) + (1 : Int32))), .val (.int 1)]) rfl ?_
   refine g_iload X' hx hby dc51_76 rfl ?_
   refine g_iload X' hx hby dc51_78 rfl ?_
   refine g_icmpYes X' hx hby dc51_80 (flt Int32.lt_irrefl).2.1 (pc0 := 80) (pc' := 103) rfl (by decide) (by decide) ?_
   refine g_iload X' hx hby dc51_103 rfl ?_
   refine g_iload X' hx hby dc51_105 rfl ?_
   refine g_icmpNo X' hx hby dc51_107 (teq rfl).2 ?_
   refine g_iload X' hx hby dc51_110 rfl ?_
   obtain ⟨fs, hr, hrun, hended, hW, hsame⟩ := X'.leave (v := some (.int (Int32.ofNat k))) (fun h => by rw [Bd.returns] at h; cases h) (BodyLoose.notSynchronized Bd)
   refine ⟨_, _, ?_, hP _ _ ⟨hrun, hended, _, _, rfl, ?_, ⟨_, rfl⟩, hW, hsame.mono (by decide) (by decide)⟩⟩
   ·exact retI X' hx Bd.returns (hb hby dc51_112) hr
   ·exact ⟨by rw [hv], N', e'⟩
  ·
   show Go _ _ _ (T'.setTop (mkF mi 52 #[.val (.ref b), .val (.int n), .val (.ref b2), .val (.int 1), .val (.int 0), .val (.int c), .val (.int (Int32.ofNat (E.length - 1))), .val (.int (Int32.ofNat E.length)), .unset, .unset, .unset] [])) _
   refine g_iload X' hx hby dc51_52 rfl ?_
   refine g_iload X' hx hby dc51_54 rfl ?_
   refine g_icmpYes X' hx hby dc51_56 (tlt ((own_oflt (n := E.length - 1) (m := E.length) (by omega) (by omega)).mpr (by omega))).2.2.1 (pc0 := 56) (pc' := 113) rfl (by decide) (by decide) ?_
   refine g_iinc X' hx hby dc51_113 rfl rfl (l' := #[.val (.ref b), .val (.int n), .val (.ref b2), .val (.int 1), .val (.int 0), .val (.int c), .val (.int (Int32.ofNat (E.length - 1))), .val (.int ((Int32.ofNat E.length) + (1 : Int32))), .unset, .unset, .unset]) rfl ?_
   refine g_goto X' hx hby dc51_116 (pc0 := 116) (pc' := 14) rfl (by decide) (by decide) ?_
   show Go _ _ _ (T'.setTop (mkF mi 14 #[.val (.ref b), .val (.int n), .val (.ref b2), .val (.int 1), .val (.int 0), .val (.int c), .val (.int (Int32.ofNat (E.length - 1))), .val (.int ((Int32.ofNat E.length) + (1 : Int32))), .unset, .unset, .unset] [])) _
   rw [own_ofS]
   show Go _ _ _ (T'.setTop (mkF mi 14 #[.val (.ref b), .val (.int n), .val (.ref b2), .val (.int 1), .val (.int 0), .val (.int c), .val (.int (Int32.ofNat (E.length - 1))), .val (.int (Int32.ofNat (E.length + 1))), .unset, .unset, .unset] [])) _
   refine g_iload X' hx hby dc51_14 rfl ?_
   refine g_iload X' hx hby dc51_16 rfl ?_
   refine g_icmpYes X' hx hby dc51_18 (tlt (own_lt2 hE)).2.2.1 (pc0 := 18) (pc' := 119) rfl (by decide) (by decide) ?_
   refine g_iconst X' hx hby dc51_119 (v := (-1)) rfl ?_
   obtain ⟨fs, hr, hrun, hended, hW, hsame⟩ := X'.leave (v := some (.int (-1))) (fun h => by rw [Bd.returns] at h; cases h) (BodyLoose.notSynchronized Bd)
   refine ⟨_, _, ?_, hP _ _ ⟨hrun, hended, _, _, rfl, ?_, ⟨_, rfl⟩, hW, hsame.mono (by decide) (by decide)⟩⟩
   ·exact retI X' hx Bd.returns (hb hby dc51_120) hr
   ·exact ⟨by rw [hv], N', e'⟩
theorem dc52_0 : Dk zb52 0 (.aload_n 1) 1 := by decide +kernel
theorem dc52_1 : Dk zb52 1 .arraylength 1 := by decide +kernel
theorem dc52_2 : Dk zb52 2 (.ifCond .ne 5) 3 := by decide +kernel
theorem dc52_7 : Dk zb52 7 (.aload_n 0) 1 := by decide +kernel
theorem dc52_8 : Dk zb52 8 .arraylength 1 := by decide +kernel
theorem dc52_9 : Dk zb52 9 (.ifCond .ne 5) 3 := by decide +kernel
theorem dc52_14 : Dk zb52 14 (.aload_n 0) 1 := by decide +kernel
theorem dc52_15 : Dk zb52 15 (.aload_n 0) 1 := by decide +kernel
theorem dc52_16 : Dk zb52 16 .arraylength 1 := by decide +kernel
theorem dc52_17 : Dk zb52 17 (.aload_n 1) 1 := by decide +kernel
theorem dc52_18 : Dk zb52 18 (.aload_n 1) 1 := by decide +kernel
theorem dc52_19 : Dk zb52 19 .arraylength 1 := by decide +kernel
theorem dc52_20 : Dk zb52 20 (.iconst 0) 1 := by decide +kernel
theorem dc52_21 : Dk zb52 21 (.invokestatic 99) 3 := by decide +kernel
theorem pd_35 : parseMethodDescriptor "([BI[BII)I" = some ⟨[(.array .byte), .int, (.array .byte), .int, .int], some .int⟩ := by decide +kernel
theorem dc52_24 : Dk zb52 24 .ireturn 1 := by decide +kernel
theorem ef_rmJB (mi : MethodId) (b : Addr) (b2 : Addr) : entryFrame mi #[(.ref b), (.ref b2)] 2 = mkF mi 0 #[.val (.ref b), .val (.ref b2)] [] := by first | (simp [entryFrame, mkF, argsToLocals, Value.category]; done) | rfl
theorem rmJB (l : Launch) (Z : State) (a0 : Array Value) (hw : Tb Z a0) (ws : List Jvm.Cond) (b : Addr) (b2 : Addr) (n : Int32) (c : Int32) (kb : ClassId) (kb2 : ClassId) (E : List Int32) (h0 : Heap) (n0 : Nat) (Z0 : n0 ≤ h0.size) (SAr : Arv Z h0 b kb .byte n (E.map Value.int) (.int (0 : Int32))) (SAr2 : Arv Z h0 b2 kb2 .byte (1 : Int32) (([c] : List Int32).map Value.int) (.int (0 : Int32))) (hE : E.length ≤ 100) (hn : n.toInt = E.length) (h1 : 1 ≤ E.length) :
  Mt l Z zy52 zb52 2 (some .int) ws zR36 #[(.ref b), (.ref b2)] h0 (QP (some (.int (ix E c 0))) h0 n0) := by
 refine MetFree.of_bodySF (plainFor_of_name pn_2) hisR ?_
 intro pg ev si mi args below meth ci s₁ Bd hml0 hP0 hK
 obtain ⟨rfl, hZ, hh⟩ := hP0
 have hx := Bd.exec
 have hby := Bd.bytes
 have hml : ci.maxLocals = 2 := hml0
 have hown : si.vm.findClass "java/lang/StringLatin1" = some mi.cls := findClass_of_methodNamed Bd.named
 have hnm := (name_of_methodNamed Bd.named Bd.method).1
 have X0 : Stand pg l ev zR36 si mi #[(.ref b), (.ref b2)] below meth ci s₁ [] 0 0 := Stand.of_body Bd
 have e0 : s₁.heap = h0 := by rw [← hh, Bd.state]; rfl
 have N0 := Fr.nil n0
 refine Go.start (fun P hP => ?_)
 refine Go.st (fun t_ k_ => castTop (ef_rmJB mi b b2) k_) (A := s₁.setTop (mkF mi 0 #[.val (.ref b), .val (.ref b2)] [])) ?_
 have hnz := own_nz hn h1
 show Go _ _ _ (s₁.setTop (mkF mi 0 #[.val (.ref b), .val (.ref b2)] [])) _
 refine g_aloadN X0 hx hby dc52_0 rfl rfl ?_
 have ov1 := SAr2
 obtain ⟨cl1, Ar1, q1, S1, M1, H1, G1⟩ := ov1
 refine Go.st (X0.arraylength hx (by rw [e0]; exact Ar1.1) (State.isArrayOf_alike hZ.alike Ar1.2.1) (g := (mkF mi 1 #[.val (.ref b), .val (.ref b2)] [(.ref b2)])) rfl rfl (hb hby dc52_1)) ?_
 rw [len_of S1 M1]
 refine g_ifYes X0 hx hby dc52_2 ((if0 _ _).trans (feq (by decide)).2) (pc0 := 2) (pc' := 7) rfl (by decide) (by decide) ?_
 refine g_aloadN X0 hx hby dc52_7 rfl rfl ?_
 have ov2 := SAr
 obtain ⟨cl2, Ar2, q2, S2, M2, H2, G2⟩ := ov2
 refine Go.st (X0.arraylength hx (by rw [e0]; exact Ar2.1) (State.isArrayOf_alike hZ.alike Ar2.2.1) (g := (mkF mi 8 #[.val (.ref b), .val (.ref b2)] [(.ref b)])) rfl rfl (hb hby dc52_8)) ?_
 rw [len_of S2 M2]
 refine g_ifYes X0 hx hby dc52_9 ((if0 _ _).trans (feq hnz).2) (pc0 := 9) (pc' := 14) rfl (by decide) (by decide) ?_
 refine g_aloadN X0 hx hby dc52_14 rfl rfl ?_
 refine g_aloadN X0 hx hby dc52_15 rfl rfl ?_
 have ov3 := SAr
 obtain ⟨cl3, Ar3, q3, S3, M3, H3, G3⟩ := ov3
 refine Go.st (X0.arraylength hx (by rw [e0]; exact Ar3.1) (State.isArrayOf_alike hZ.alike Ar3.2.1) (g := (mkF mi 16 #[.val (.ref b), .val (.ref b2)] [(.ref b), (.ref b)])) rfl rfl (hb hby dc52_16)) ?_
 rw [len_of S3 M3]
 refine g_aloadN X0 hx hby dc52_17 rfl rfl ?_
 refine g_aloadN X0 hx hby dc52_18 rfl rfl ?_
 have ov4 := SAr2
 obtain ⟨cl4, Ar4, q4, S4, M4, H4, G4⟩ := ov4
 refine Go.st (X0.arraylength hx (by rw [e0]; exact Ar4.1) (State.isArrayOf_alike hZ.alike Ar4.2.1) (g := (mkF mi 19 #[.val (.ref b), .val (.ref b2)] [(.ref b2), (.ref b2), (.int n), (.ref b)])) rfl rfl (hb hby dc52_19)) ?_
 rw [len_of S4 M4]
 refine g_iconst X0 hx hby dc52_20 (v := 0) rfl ?_
 obtain ⟨_, _, ⟨T5, L5, k5, n5⟩, -, X5, ⟨Lc5, hQ5, l5, y5, z5⟩, st5⟩ := Jvm.LawKit.callS X0 hx (y := zy51) hown (mvT hZ (hw _ (own_m 284 rfl))) (mvT hZ (hw _ (own_m 285 rfl))) (mvT hZ (hw _ (own_m 73 rfl))) (mvT hZ (hw _ (own_m 286 rfl))) (by decide) (backOf (W := 0) (rmJI l Z a0 hw [] b n b2 c kb kb2 E h0 n0 Z0 SAr SAr2 hE hn h1) hZ (hw _ (own_m 286 rfl)) (hw _ (own_m 73 rfl)) (by decide) (by decide)) (g := (mkF mi 21 #[.val (.ref b), .val (.ref b2)] [(.int 0), (.int 1), (.ref b2), (.int n), (.ref b)])) rfl (by rw [hml]; rfl) (argsL := [(.ref b), (.int n), (.ref b2), (.int 1), (.int 0)]) (rest := []) (lenOf pd_35 rfl) rfl (by show 2 * 0 + _ ≤ _; exact Nat.le_of_eq rfl) (hb hby dc52_21) (fun _ _ => ⟨rfl, e0, (by decide : 0 + 0 ≤ _), (by decide : 0 + 0 ≤ _)⟩)
 dsimp only [Pt.U, Pt.locs, Pt.cells, Pt.slots] at X5 l5 y5 z5 st5 hQ5
 subst y5 z5
 have X5 := own_cs X5 (cells' := 0) (slots' := 0) rfl rfl
 obtain ⟨rfl, N5q, e5⟩ := hQ5
 have N5 := own_fr l5 (Fr.app N0 N5q)
 refine Go.st st5 ?_
 obtain ⟨fs, hr, hrun, hended, hW, hsame⟩ := X5.leave (v := some (.int (ix E c 0))) (fun h => by rw [Bd.returns] at h; cases h) (BodyLoose.notSynchronized Bd)
 refine ⟨_, _, ?_, hP _ _ ⟨hrun, hended, _, _, rfl, ?_, ⟨_, rfl⟩, hW, hsame.mono (by decide) (by decide)⟩⟩
 ·exact retI X5 hx Bd.returns (hb hby dc52_24) hr
 ·exact ⟨rfl, N5, e5⟩
theorem dc53_0 : Dk zb53 0 (.aload_n 0) 1 := by decide +kernel
theorem dc53_1 : Dk zb53 1 (.invokevirtual 335) 3 := by decide +kernel
theorem dc53_4 : Dk zb53 4 (.istore_n 2) 1 := by decide +kernel
theorem dc53_5 : Dk zb53 5 (.iload_n 2) 1 := by decide +kernel
theorem dc53_6 : Dk zb53 6 (.aload_n 1) 1 := by decide +kernel
theorem dc53_7 : Dk zb53 7 (.invokevirtual 335) 3 := by decide +kernel
theorem dc53_10 : Dk zb53 10 (.if_icmp .ne 36) 3 := by decide +kernel
theorem dc53_13 : Dk zb53 13 (.aload_n 0) 1 := by decide +kernel
theorem dc53_14 : Dk zb53 14 (.invokevirtual 492) 3 := by decide +kernel
theorem dc53_17 : Dk zb53 17 (.ifCond .eq 17) 3 := by decide +kernel
theorem dc53_20 : Dk zb53 20 (.aload_n 0) 1 := by decide +kernel
theorem dc53_21 : Dk zb53 21 (.getfield 9) 3 := by decide +kernel
theorem dc53_24 : Dk zb53 24 (.aload_n 1) 1 := by decide +kernel
theorem dc53_25 : Dk zb53 25 (.getfield 9) 3 := by decide +kernel
theorem dc53_28 : Dk zb53 28 (.invokestatic 647) 3 := by decide +kernel
theorem pd_36 : parseMethodDescriptor "([B[B)I" = some ⟨[(.array .byte), (.array .byte)], some .int⟩ := by decide +kernel
theorem dc53_31 : Dk zb53 31 (.goto 14) 3 := by decide +kernel
theorem dc53_45 : Dk zb53 45 .ireturn 1 := by decide +kernel
theorem ef_rmJS (mi : MethodId) (o : Addr) (t : Addr) : entryFrame mi #[(.ref o), (.ref t)] 3 = mkF mi 0 #[.val (.ref o), .val (.ref t), .unset] [] := by first | (simp [entryFrame, mkF, argsToLocals, Value.category]; done) | rfl
theorem rmJS (l : Launch) (Z : State) (a0 : Array Value) (hw : Tb Z a0) (ws : List Jvm.Cond) (o : Addr) (t : Addr) (b : Addr) (kb : ClassId) (n : Int32) (E : List Int32) (b2 : Addr) (kb2 : ClassId) (c : Int32) (cz : Int32) (h0 : Heap) (n0 : Nat) (Z0 : n0 ≤ h0.size) (SE : Exa Z h0 o "java/lang/String") (SCo : Fld Z h0 o "java/lang/String" "coder" "B" (.int (0 : Int32))) (SVa : Fld Z h0 o "java/lang/String" "value" "[B" (.ref b)) (SAr : Arv Z h0 b kb .byte n (E.map Value.int) (.int (0 : Int32))) (SEb : Exa Z h0 b "[B") (SEt : Exa Z h0 t "java/lang/String") (SCot : Fld Z h0 t "java/lang/String" "coder" "B" (.int (0 : Int32))) (SVat : Fld Z h0 t "java/lang/String" "value" "[B" (.ref b2)) (SArt : Arv Z h0 b2 kb2 .byte (1 : Int32) (([c] : List Int32).map Value.int) (.int (0 : Int32))) (SEbt : Exa Z h0 b2 "[B") (SC : Sta Z h0 "java/lang/String" "COMPACT_STRINGS" "Z" (.int cz)) (hcz : ¬ (cz = (0 : Int32))) (hE : E.length ≤ 100) (hn : n.toInt = E.length) (h1 : 1 ≤ E.length) :
  Mt l Z zy53 zb53 3 (some .int) ws zR37 #[(.ref o), (.ref t)] h0 (QP (some (.int (ix E c 0))) h0 n0) := by
 refine MetFree.of_bodySF (plainFor_of_name pn_0) hisR ?_
 intro pg ev si mi args below meth ci s₁ Bd hml0 hP0 hK
 obtain ⟨rfl, hZ, hh⟩ := hP0
 have hx := Bd.exec
 have hby := Bd.bytes
 have hml : ci.maxLocals = 3 := hml0
 have hown : si.vm.findClass "java/lang/String" = some mi.cls := findClass_of_methodNamed Bd.named
 have hnm := (name_of_methodNamed Bd.named Bd.method).1
 have X0 : Stand pg l ev zR37 si mi #[(.ref o), (.ref t)] below meth ci s₁ [] 0 0 := Stand.of_body Bd
 have e0 : s₁.heap = h0 := by rw [← hh, Bd.state]; rfl
 have N0 := Fr.nil n0
 refine Go.start (fun P hP => ?_)
 refine Go.st (fun t_ k_ => castTop (ef_rmJS mi o t) k_) (A := s₁.setTop (mkF mi 0 #[.val (.ref o), .val (.ref t), .unset] [])) ?_
 refine g_aloadN X0 hx hby dc53_0 rfl rfl ?_
 obtain ⟨cq1, kq1, q1a, q1b, q1c⟩ := isOf hZ e0 SE
 obtain ⟨_, _, ⟨T1, L1, k1, n1⟩, -, X1, ⟨Lc1, hQ1, l1, y1, z1⟩, st1⟩ := X0.virtualBack hx (y := zy0) (z := zy0) hown (mvT hZ (hw _ (own_m 66 rfl))) (mvT hZ (hw _ (own_m 67 rfl))) (notFace_of_selects (args := #[]) (mvT hZ (hw _ (own_m 69 rfl)))) (mvT hZ (hw _ (own_m 69 rfl))) (mvT hZ (hw _ (own_m 68 rfl))) (by decide) (backOf (W := 0) (rmCd l Z a0 hw [] o cz h0 n0 Z0 SCo SC hcz) hZ (hw _ (own_m 70 rfl)) (hw _ (own_m 9 rfl)) (by decide) (by decide)) q1a q1c (g := (mkF mi 1 #[.val (.ref o), .val (.ref t), .unset] [(.ref o)])) rfl (by rw [hml]; rfl) (Steps.refl _) (argsL := []) (rest := []) (lenOf pd_0 rfl) rfl (by show 2 * 0 + _ ≤ _; exact Nat.le_of_eq rfl) (hb hby dc53_1) (fun _ _ => ⟨rfl, e0, (by decide : 0 + 0 ≤ _), (by decide : 0 + 0 ≤ _)⟩)
 dsimp only [Pt.U, Pt.locs, Pt.cells, Pt.slots] at X1 l1 y1 z1 st1 hQ1
 subst y1 z1
 have X1 := own_cs X1 (cells' := 0) (slots' := 0) rfl rfl
 obtain ⟨rfl, N1q, e1⟩ := hQ1
 have N1 := own_fr l1 (Fr.app N0 N1q)
 refine Go.tr st1 ?_
 refine g_istoreN X1 hx hby dc53_4 (l' := #[.val (.ref o), .val (.ref t), .val (.int 0)]) rfl ?_
 refine g_iloadN X1 hx hby dc53_5 rfl ?_
 refine g_aloadN X1 hx hby dc53_6 rfl rfl ?_
 obtain ⟨cq2, kq2, q2a, q2b, q2c⟩ := isOf hZ e1 SEt
 obtain ⟨_, _, ⟨T2, L2, k2, n2⟩, -, X2, ⟨Lc2, hQ2, l2, y2, z2⟩, st2⟩ := X1.virtualBack hx (y := zy0) (z := zy0) hown (mvT hZ (hw _ (own_m 66 rfl))) (mvT hZ (hw _ (own_m 67 rfl))) (notFace_of_selects (args := #[]) (mvT hZ (hw _ (own_m 69 rfl)))) (mvT hZ (hw _ (own_m 69 rfl))) (mvT hZ (hw _ (own_m 68 rfl))) (by decide) (backOf (W := 1) (rmCd l Z a0 hw [] t cz h0 n0 Z0 SCot SC hcz) hZ (hw _ (own_m 70 rfl)) (hw _ (own_m 9 rfl)) (by decide) (by decide)) q2a q2c (g := (mkF mi 7 #[.val (.ref o), .val (.ref t), .val (.int 0)] [(.ref t), (.int 0)])) rfl (by rw [hml]; rfl) (Steps.refl _) (argsL := []) (rest := [(.int 0)]) (lenOf pd_0 rfl) rfl (by show 2 * 0 + _ ≤ _; exact Nat.le_of_eq rfl) (hb hby dc53_7) (fun _ _ => ⟨rfl, e1, (by decide : 0 + 0 ≤ _), (by decide : 0 + 0 ≤ _)⟩)
 dsimp only [Pt.U, Pt.locs, Pt.cells, Pt.slots] at X2 l2 y2 z2 st2 hQ2
 subst y2 z2
 have X2 := own_cs X2 (cells' := 0) (slots' := 0) rfl rfl
 obtain ⟨rfl, N2q, e2⟩ := hQ2
 have N2 := own_fr l2 (Fr.app N1 N2q)
 refine Go.tr st2 ?_
 refine g_icmpNo X2 hx hby dc53_10 (teq rfl).2 ?_
 refine g_aloadN X2 hx hby dc53_13 rfl rfl ?_
 obtain ⟨cq3, kq3, q3a, q3b, q3c⟩ := isOf hZ e2 SE
 obtain ⟨_, _, ⟨T3, L3, k3, n3⟩, -, X3, ⟨Lc3, hQ3, l3, y3, z3⟩, st3⟩ := X2.virtualBack hx (y := zy2) (z := zy2) hown (mvT hZ (hw _ (own_m 56 rfl))) (mvT hZ (hw _ (own_m 57 rfl))) (notFace_of_selects (args := #[]) (mvT hZ (hw _ (own_m 59 rfl)))) (mvT hZ (hw _ (own_m 59 rfl))) (mvT hZ (hw _ (own_m 58 rfl))) (by decide) (backOf (W := 0) (rmL1 l Z a0 hw [] o cz h0 n0 Z0 SCo SC hcz) hZ (hw _ (own_m 60 rfl)) (hw _ (own_m 9 rfl)) (by decide) (by decide)) q3a q3c (g := (mkF mi 14 #[.val (.ref o), .val (.ref t), .val (.int 0)] [(.ref o)])) rfl (by rw [hml]; rfl) (Steps.refl _) (argsL := []) (rest := []) (lenOf pd_3 rfl) rfl (by show 2 * 0 + _ ≤ _; exact Nat.le_of_eq rfl) (hb hby dc53_14) (fun _ _ => ⟨rfl, e2, (by decide : 0 + 0 ≤ _), (by decide : 0 + 0 ≤ _)⟩)
 dsimp only [Pt.U, Pt.locs, Pt.cells, Pt.slots] at X3 l3 y3 z3 st3 hQ3
 subst y3 z3
 have X3 := own_cs X3 (cells' := 0) (slots' := 0) rfl rfl
 obtain ⟨rfl, N3q, e3⟩ := hQ3
 have N3 := own_fr l3 (Fr.app N2 N3q)
 refine Go.tr st3 ?_
 refine g_ifNo X3 hx hby dc53_17 ((if0 _ _).trans (feq (by decide)).1) ?_
 refine g_aloadN X3 hx hby dc53_20 rfl rfl ?_
 obtain ⟨T4, X4, e4, st4⟩ := getF X3 hx hZ hown (host := "") (Or.inl (hw _ (own_m 35 rfl))) Via.refl e3 SVa (g := (mkF mi 21 #[.val (.ref o), .val (.ref t), .val (.int 0)] [(.ref o)])) rfl rfl (hb hby dc53_21)
 refine Go.st st4 ?_
 refine g_aloadN X4 hx hby dc53_24 rfl rfl ?_
 obtain ⟨T5, X5, e5, st5⟩ := getF X4 hx hZ hown (host := "") (Or.inl (hw _ (own_m 35 rfl))) Via.refl e4 SVat (g := (mkF mi 25 #[.val (.ref o), .val (.ref t), .val (.int 0)] [(.ref t), (.ref b)])) rfl rfl (hb hby dc53_25)
 refine Go.st st5 ?_
 obtain ⟨_, _, ⟨T6, L6, k6, n6⟩, -, X6, ⟨Lc6, hQ6, l6, y6, z6⟩, st6⟩ := Jvm.LawKit.callS X5 hx (y := zy52) hown (mvT hZ (hw _ (own_m 281 rfl))) (mvT hZ (hw _ (own_m 282 rfl))) (mvT hZ (hw _ (own_m 73 rfl))) (mvT hZ (hw _ (own_m 283 rfl))) (by decide) (backOf (W := 0) (rmJB l Z a0 hw [] b b2 n c kb kb2 E h0 n0 Z0 SAr SArt hE hn h1) hZ (hw _ (own_m 283 rfl)) (hw _ (own_m 73 rfl)) (by decide) (by decide)) (g := (mkF mi 28 #[.val (.ref o), .val (.ref t), .val (.int 0)] [(.ref b2), (.ref b)])) rfl (by rw [hml]; rfl) (argsL := [(.ref b), (.ref b2)]) (rest := []) (lenOf pd_36 rfl) rfl (by show 2 * 0 + _ ≤ _; exact Nat.le_of_eq rfl) (hb hby dc53_28) (fun _ _ => ⟨rfl, e5, (by decide : 0 + 0 ≤ _), (by decide : 0 + 0 ≤ _)⟩)
 dsimp only [Pt.U, Pt.locs, Pt.cells, Pt.slots] at X6 l6 y6 z6 st6 hQ6
 subst y6 z6
 have X6 := own_cs X6 (cells' := 0) (slots' := 0) rfl rfl
 obtain ⟨rfl, N6q, e6⟩ := hQ6
 have N6 := own_fr l6 (Fr.app N3 N6q)
 refine Go.st st6 ?_
 refine g_goto X6 hx hby dc53_31 (pc0 := 31) (pc' := 45) rfl (by decide) (by decide) ?_
 obtain ⟨fs, hr, hrun, hended, hW, hsame⟩ := X6.leave (v := some (.int (ix E c 0))) (fun h => by rw [Bd.returns] at h; cases h) (BodyLoose.notSynchronized Bd)
 refine ⟨_, _, ?_, hP _ _ ⟨hrun, hended, _, _, rfl, ?_, ⟨_, rfl⟩, hW, hsame.mono (by decide) (by decide)⟩⟩
 ·exact retI X6 hx Bd.returns (hb hby dc53_45) hr
 ·exact ⟨rfl, N6, e6⟩
theorem dc54_0 : Dk zb54 0 (.aload_n 0) 1 := by decide +kernel
theorem dc54_1 : Dk zb54 1 .areturn 1 := by decide +kernel
theorem ef_rmTo (mi : MethodId) (o : Addr) : entryFrame mi #[(.ref o)] 1 = mkF mi 0 #[.val (.ref o)] [] := by first | (simp [entryFrame, mkF, argsToLocals, Value.category]; done) | rfl
theorem rmTo (l : Launch) (Z : State) (a0 : Array Value) (hw : Tb Z a0) (ws : List Jvm.Cond) (o : Addr) (h0 : Heap) (n0 : Nat) (Z0 : n0 ≤ h0.size) :
  Mt l Z zy54 zb54 1 (some (.object "java/lang/String")) ws zR0 #[(.ref o)] h0 (QP (some (.ref o)) h0 n0) := by
 refine MetFree.of_bodySF (plainFor_of_name pn_0) hisR ?_
 intro pg ev si mi args below meth ci s₁ Bd hml0 hP0 hK
 obtain ⟨rfl, hZ, hh⟩ := hP0
 have hx := Bd.exec
 have hby := Bd.bytes
 have hml : ci.maxLocals = 1 := hml0
 have hown : si.vm.findClass "java/lang/String" = some mi.cls := findClass_of_methodNamed Bd.named
 have hnm := (name_of_methodNamed Bd.named Bd.method).1
 have X0 : Stand pg l ev zR0 si mi #[(.ref o)] below meth ci s₁ [] 0 0 := Stand.of_body Bd
 have e0 : s₁.heap = h0 := by rw [← hh, Bd.state]; rfl
 have N0 := Fr.nil n0
 refine Go.start (fun P hP => ?_)
 refine Go.st (fun t_ k_ => castTop (ef_rmTo mi o) k_) (A := s₁.setTop (mkF mi 0 #[.val (.ref o)] [])) ?_
 refine g_aloadN X0 hx hby dc54_0 rfl rfl ?_
 obtain ⟨fs, hr, hrun, hended, hW, hsame⟩ := X0.leave (v := some (.ref o)) (fun h => by rw [Bd.returns] at h; cases h) (BodyLoose.notSynchronized Bd)
 refine ⟨_, _, ?_, hP _ _ ⟨hrun, hended, _, _, rfl, ?_, ⟨_, rfl⟩, hW, hsame.mono (by decide) (by decide)⟩⟩
 ·exact retOut X0 hx Bd.returns rfl (Or.inr (Or.inr (Or.inr (Or.inr ⟨rfl, rfl, rfl⟩)))) (hb hby dc54_1) hr
 ·exact ⟨rfl, N0, e0⟩
theorem dc55_0 : Dk zb55 0 (.aload_n 0) 1 := by decide +kernel
theorem dc55_1 : Dk zb55 1 (.aload_n 1) 1 := by decide +kernel
theorem dc55_2 : Dk zb55 2 (.invokeinterface 710 1) 5 := by decide +kernel
theorem pd_37 : parseMethodDescriptor "()Ljava/lang/String;" = some ⟨[], some (.object "java/lang/String")⟩ := by decide +kernel
theorem dc55_7 : Dk zb55 7 (.invokevirtual 711) 3 := by decide +kernel
theorem pd_38 : parseMethodDescriptor "(Ljava/lang/String;)I" = some ⟨[(.object "java/lang/String")], some .int⟩ := by decide +kernel
theorem dc55_10 : Dk zb55 10 (.ifCond .lt 7) 3 := by decide +kernel
theorem dc55_17 : Dk zb55 17 (.iconst 0) 1 := by decide +kernel
theorem dc55_13 : Dk zb55 13 (.iconst 1) 1 := by decide +kernel
theorem dc55_14 : Dk zb55 14 (.goto 4) 3 := by decide +kernel
theorem dc55_18 : Dk zb55 18 .ireturn 1 := by decide +kernel
theorem ef_rmCt (mi : MethodId) (o : Addr) (t : Addr) : entryFrame mi #[(.ref o), (.ref t)] 2 = mkF mi 0 #[.val (.ref o), .val (.ref t)] [] := by first | (simp [entryFrame, mkF, argsToLocals, Value.category]; done) | rfl
theorem rmCt (l : Launch) (Z : State) (a0 : Array Value) (hw : Tb Z a0) (ws : List Jvm.Cond) (o : Addr) (t : Addr) (b : Addr) (kb : ClassId) (n : Int32) (E : List Int32) (b2 : Addr) (kb2 : ClassId) (c : Int32) (cz : Int32) (h0 : Heap) (n0 : Nat) (Z0 : n0 ≤ h0.size) (SE : Exa Z h0 o "java/lang/String") (SCo : Fld Z h0 o "java/lang/String" "coder" "B" (.int (0 : Int32))) (SVa : Fld Z h0 o "java/lang/String" "value" "[B" (.ref b)) (SAr : Arv Z h0 b kb .byte n (E.map Value.int) (.int (0 : Int32))) (SEb : Exa Z h0 b "[B") (SEt : Exa Z h0 t "java/lang/String") (SCot : Fld Z h0 t "java/lang/String" "coder" "B" (.int (0 : Int32))) (SVat : Fld Z h0 t "java/lang/String" "value" "[B" (.ref b2)) (SArt : Arv Z h0 b2 kb2 .byte (1 : Int32) (([c] : List Int32).map Value.int) (.int (0 : Int32))) (SEbt : Exa Z h0 b2 "[B") (SC : Sta Z h0 "java/lang/String" "COMPACT_STRINGS" "Z" (.int cz)) (hcz : ¬ (cz = (0 : Int32))) (hE : E.length ≤ 100) (hn : n.toInt = E.length) (h1 : 1 ≤ E.length) :
  Mt l Z zy55 zb55 2 (some .boolean) ws zR38 #[(.ref o), (.ref t)] h0 (QP (some (.int (if (ix E c 0) < (0 : Int32) then (0 : Int32) else (1 : Int32)))) h0 n0) := by
 refine MetFree.of_bodySF (plainFor_of_name pn_0) hisR ?_
 intro pg ev si mi args below meth ci s₁ Bd hml0 hP0 hK
 obtain ⟨rfl, hZ, hh⟩ := hP0
 have hx := Bd.exec
 have hby := Bd.bytes
 have hml : ci.maxLocals = 2 := hml0
 have hown : si.vm.findClass "java/lang/String" = some mi.cls := findClass_of_methodNamed Bd.named
 have hnm := (name_of_methodNamed Bd.named Bd.method).1
 have X0 : Stand pg l ev zR38 si mi #[(.ref o), (.ref t)] below meth ci s₁ [] 0 0 := Stand.of_body Bd
 have e0 : s₁.heap = h0 := by rw [← hh, Bd.state]; rfl
 have N0 := Fr.nil n0
 refine Go.start (fun P hP => ?_)
 refine Go.st (fun t_ k_ => castTop (ef_rmCt mi o t) k_) (A := s₁.setTop (mkF mi 0 #[.val (.ref o), .val (.ref t)] [])) ?_
 refine g_aloadN X0 hx hby dc55_0 rfl rfl ?_
 refine g_aloadN X0 hx hby dc55_1 rfl rfl ?_
 obtain ⟨cq1, kq1, q1a, q1b, q1c⟩ := isOf hZ e0 SEt
 obtain ⟨_, _, ⟨T1, L1, k1, n1⟩, -, X1, ⟨Lc1, hQ1, l1, y1, z1⟩, st1⟩ := X0.interfaceBack hx (xi := (⟨"java/lang/CharSequence", "toString", "()Ljava/lang/String;"⟩ : MethodName)) (y := zy54) hown (mvT hZ (hw _ (own_m 267 rfl))) (mvT hZ (hw _ (own_m 268 rfl))) (mvT hZ (hw _ (own_m 269 rfl))) (mvT hZ (hw _ (own_m 270 rfl))) (mvT hZ (hw _ (own_m 271 rfl))) (mvT hZ (hw _ (own_m 272 rfl))) (mvT hZ (hw _ (own_m 273 rfl))) (mvT hZ (hw _ (own_m 274 rfl))) (by decide) (backOf (W := 1) (rmTo l Z a0 hw [] t h0 n0 Z0) hZ (hw _ (own_m 275 rfl)) (hw _ (own_m 9 rfl)) (by decide) (by decide)) q1a q1b q1c (g := (mkF mi 2 #[.val (.ref o), .val (.ref t)] [(.ref t), (.ref o)])) rfl (by rw [hml]; rfl) (Steps.refl _) (argsL := []) (rest := [(.ref o)]) (lenOf pd_37 rfl) rfl (by show 2 * 0 + _ ≤ _; exact Nat.le_of_eq rfl) (hb hby dc55_2) (fun _ _ => ⟨rfl, e0, (by decide : 0 + 0 ≤ _), (by decide : 0 + 0 ≤ _)⟩)
 dsimp only [Pt.U, Pt.locs, Pt.cells, Pt.slots] at X1 l1 y1 z1 st1 hQ1
 subst y1 z1
 have X1 := own_cs X1 (cells' := 0) (slots' := 0) rfl rfl
 obtain ⟨rfl, N1q, e1⟩ := hQ1
 have N1 := own_fr l1 (Fr.app N0 N1q)
 refine Go.tr st1 ?_
 obtain ⟨cq2, kq2, q2a, q2b, q2c⟩ := isOf hZ e1 SE
 obtain ⟨_, _, ⟨T2, L2, k2, n2⟩, -, X2, ⟨Lc2, hQ2, l2, y2, z2⟩, st2⟩ := X1.virtualBack hx (y := zy53) (z := zy53) hown (mvT hZ (hw _ (own_m 276 rfl))) (mvT hZ (hw _ (own_m 277 rfl))) (notFace_of_selects (args := #[]) (mvT hZ (hw _ (own_m 279 rfl)))) (mvT hZ (hw _ (own_m 279 rfl))) (mvT hZ (hw _ (own_m 278 rfl))) (by decide) (backOf (W := 0) (rmJS l Z a0 hw [] o t b kb n E b2 kb2 c cz h0 n0 Z0 SE SCo SVa SAr SEb SEt SCot SVat SArt SEbt SC hcz hE hn h1) hZ (hw _ (own_m 280 rfl)) (hw _ (own_m 9 rfl)) (by decide) (by decide)) q2a q2c (g := (mkF mi 7 #[.val (.ref o), .val (.ref t)] [(.ref t), (.ref o)])) rfl (by rw [hml]; rfl) (Steps.refl _) (argsL := [(.ref t)]) (rest := []) (lenOf pd_38 rfl) rfl (by show 2 * 0 + _ ≤ _; exact Nat.le_of_eq rfl) (hb hby dc55_7) (fun _ _ => ⟨rfl, e1, (by decide : 0 + 0 ≤ _), (by decide : 0 + 0 ≤ _)⟩)
 dsimp only [Pt.U, Pt.locs, Pt.cells, Pt.slots] at X2 l2 y2 z2 st2 hQ2
 subst y2 z2
 have X2 := own_cs X2 (cells' := 0) (slots' := 0) rfl rfl
 obtain ⟨rfl, N2q, e2⟩ := hQ2
 have N2 := own_fr l2 (Fr.app N1 N2q)
 refine Go.tr st2 ?_
 have dm3 : ∀ t_, Steps pg.tables ev below (T2.setTop (mkF mi 18 #[.val (.ref o), .val (.ref t)] [(.int (if (ix E c 0) < (0 : Int32) then (0 : Int32) else (1 : Int32)))])) t_ → Steps pg.tables ev below (T2.setTop (mkF mi 10 #[.val (.ref o), .val (.ref t)] [(.int (ix E c 0))])) t_ := by
  intro t_ k_
  by_cases hd : (ix E c 0) < (0 : Int32)
  ·refine XS.ifYes X2.here hx rfl (pc0 := 10) (pc' := 17) rfl (hb hby dc55_10) rfl ((if0 _ _).trans (tlt hd).1) (by decide) (by decide) ?_
   refine XS.iconst X2.here hx rfl (hb hby dc55_17) ?_
   show Steps _ _ _ (T2.setTop (mkF mi 18 #[.val (.ref o), .val (.ref t)] [(.int 0)])) t_
   exact own_cst (if_pos hd) k_
  ·refine XS.ifNo X2.here hx rfl (hb hby dc55_10) rfl ((if0 _ _).trans (flt hd).1) ?_
   refine XS.iconst X2.here hx rfl (hb hby dc55_13) ?_
   refine XS.goto X2.here hx rfl (pc0 := 14) (pc' := 18) rfl (hb hby dc55_14) (by decide) (by decide) ?_
   show Steps _ _ _ (T2.setTop (mkF mi 18 #[.val (.ref o), .val (.ref t)] [(.int 1)])) t_
   exact own_cst (if_neg hd) k_
 refine Go.st dm3 ?_
 show Go _ _ _ (T2.setTop (mkF mi 18 #[.val (.ref o), .val (.ref t)] [(.int (if (ix E c 0) < (0 : Int32) then (0 : Int32) else (1 : Int32)))])) _
 obtain ⟨fs, hr, hrun, hended, hW, hsame⟩ := X2.leave (v := some (.int (if (ix E c 0) < (0 : Int32) then (0 : Int32) else (1 : Int32)))) (fun h => by rw [Bd.returns] at h; cases h) (BodyLoose.notSynchronized Bd)
 refine ⟨_, _, ?_, hP _ _ ⟨hrun, hended, _, _, rfl, ?_, ⟨_, rfl⟩, hW, hsame.mono (by decide) (by decide)⟩⟩
 ·exact own_retN X2 hx (t := .boolean) Bd.returns (by simp) (own_nb rfl rfl) (hb hby dc55_18) hr
 ·exact ⟨rfl, N2, e2⟩
theorem dc56_0 : Dk zb56 0 (.aload_n 0) 1 := by decide +kernel
theorem dc56_1 : Dk zb56 1 (.ldc 48) 2 := by decide +kernel
theorem dc56_3 : Dk zb56 3 (.invokevirtual 106) 3 := by decide +kernel
theorem pd_39 : parseMethodDescriptor "(Ljava/lang/CharSequence;)Z" = some ⟨[(.object "java/lang/CharSequence")], some .boolean⟩ := by decide +kernel
theorem dc56_6 : Dk zb56 6 (.ifCond .ne 12) 3 := by decide +kernel
theorem dc56_9 : Dk zb56 9 (.aload_n 0) 1 := by decide +kernel
theorem dc56_10 : Dk zb56 10 (.ldc 42) 2 := by decide +kernel
theorem dc56_12 : Dk zb56 12 (.invokevirtual 106) 3 := by decide +kernel
theorem dc56_15 : Dk zb56 15 (.ifCond .eq 7) 3 := by decide +kernel
theorem dc56_22 : Dk zb56 22 (.iconst 0) 1 := by decide +kernel
theorem dc56_23 : Dk zb56 23 .ireturn 1 := by decide +kernel
theorem dc56_18 : Dk zb56 18 (.iconst 1) 1 := by decide +kernel
theorem dc56_19 : Dk zb56 19 (.goto 4) 3 := by decide +kernel
theorem ef_rmHw (mi : MethodId) (o : Addr) : entryFrame mi #[(.ref o)] 1 = mkF mi 0 #[.val (.ref o)] [] := by first | (simp [entryFrame, mkF, argsToLocals, Value.category]; done) | rfl
abbrev Q_rmHw (Z : State) (o : Addr) (b : Addr) (kb : ClassId) (n : Int32) (E : List Int32) (cz : Int32) (h0 : Heap) (n0 : Nat) (vv_ : Option Value) (hh_ : Heap) (LL_ : List Loc) : Prop := ∃ v : Int32, vv_ = some (.int v) ∧ Fr n0 LL_ ∧ Keep h0 hh_ [] ∧ ((v = 1 ∧ (¬ ((ix E (43 : Int32) 0) < (0 : Int32)) ∨ ¬ ((ix E (35 : Int32) 0) < (0 : Int32)))) ∨ (v = 0 ∧ (ix E (43 : Int32) 0) < (0 : Int32) ∧ (ix E (35 : Int32) 0) < (0 : Int32)))
theorem rmHw (l : Launch) (Z : State) (a0 : Array Value) (hw : Tb Z a0) (ws : List Jvm.Cond) (o : Addr) (b : Addr) (kb : ClassId) (n : Int32) (E : List Int32) (cz : Int32) (h0 : Heap) (n0 : Nat) (Z0 : n0 ≤ h0.size) (hEL : EW Z a0 own_EL) (SE : Exa Z h0 o "java/lang/String") (SCo : Fld Z h0 o "java/lang/String" "coder" "B" (.int (0 : Int32))) (SVa : Fld Z h0 o "java/lang/String" "value" "[B" (.ref b)) (SAr : Arv Z h0 b kb .byte n (E.map Value.int) (.int (0 : Int32))) (SEb : Exa Z h0 b "[B") (SC : Sta Z h0 "java/lang/String" "COMPACT_STRINGS" "Z" (.int cz)) (hcz : ¬ (cz = (0 : Int32))) (hE : E.length ≤ 4) (hn : n.toInt = E.length) (h1 : 1 ≤ E.length) :
  MtW l Z zy56 zb56 1 (some .boolean) ws zR39 #[(.ref o)] h0 (Q_rmHw Z o b kb n E cz h0 n0) := by
 refine MetFree.of_bodySF (plainFor_of_name pn_10) hisR ?_
 intro pg ev si mi args below meth ci s₁ Bd hml0 hP0 hK
 obtain ⟨rfl, hZ, hh, hCH⟩ := hP0
 have hx := Bd.exec
 have hby := Bd.bytes
 have hml : ci.maxLocals = 1 := hml0
 have hown : si.vm.findClass "com/example/corduroy/corduroy/Topics" = some mi.cls := findClass_of_methodNamed Bd.named
 have hnm := (name_of_methodNamed Bd.named Bd.method).1
 have X0 : Stand pg l ev zR39 si mi #[(.ref o)] below meth ci s₁ [] 0 0 := Stand.of_body Bd
 have e0 : s₁.heap = h0 := by rw [← hh, Bd.state]; rfl
 have N0 := Fr.nil n0
 refine Go.start (fun P hP => ?_)
 refine Go.st (fun t_ k_ => castTop (ef_rmHw mi o) k_) (A := s₁.setTop (mkF mi 0 #[.val (.ref o)] [])) ?_
 refine g_aloadN X0 hx hby dc56_0 rfl rfl ?_
 show Go _ _ _ (s₁.setTop (mkF mi 1 #[.val (.ref o)] [(.ref o)])) _
 have CR1 : CHr Z own_EL si.vm h0 si.vm h0 := (CHr.refl hCH).trans (CHr.keep (Keep.refl h0 []) sf0 (CHr.refl hCH).1)
 have hwS : ∀ a ∈ Bundle.stringAtoms, a.before a0 Z = true := fun d hd => hw d ((by decide +kernel : ∀ d ∈ Bundle.stringAtoms, d ∈ tables_1) d hd)
 obtain ⟨os2, T2, h2, k12, bs2, ks2, X2, e2, E2, hSi2, hk12, hZ2, hown2, SE2, SCo2, SVa2, SA2, -, -, hCr2, hLi2, -, st2⟩ := ldcCH (s := si) (vm0 := si.vm) (EL := own_EL) (own_rb X0) hx hZ hown (hw _ (own_m 261 rfl)) hwS e0 ((State.WarmedH.refl si).since h0.size) (Nat.le_trans (Nat.le_refl _) (Keep.refl h0 []).1) hEL (List.mem_of_getElem? (i := 2) rfl) CR1.1 (vs := [(.int 43)]) (z := (1 : Int32)) ⟨by decide +kernel, by decide +kernel⟩ (by decide) (by decide +kernel) (g := (mkF mi 1 #[.val (.ref o)] [(.ref o)])) rfl (hb hby dc56_1) (n := 4) (by decide +kernel) (by decide) (by decide) (by decide)
 have SAr2 : Arv Z h2 bs2 ks2 .byte (1 : Int32) (([43] : List Int32).map Value.int) (.int (0 : Int32)) := SA2
 have SEb2 : Exa Z h2 bs2 "[B" := own_exB (s := si) hZ2 (hw _ (own_m 261 rfl)) (EL := own_EL) (List.mem_of_getElem? (i := 2) rfl) hCr2.1 hLi2 SVa2 SA2
 have hZ : Z.Warmed39 (si.setVm T2.vm).vm := hZ2
 have hown : (si.setVm T2.vm).vm.findClass "com/example/corduroy/corduroy/Topics" = some mi.cls := hown2
 have Zs3 : n0 ≤ h2.size := Nat.le_trans Z0 E2.1
 have KC3 : Keep h0 h2 [] := (Keep.refl h0 []).ext E2
 have KL3 : Keep h0 h2 [] := (Keep.refl h0 []).ext E2
 have CS2 : CHr Z own_EL si.vm h0 T2.vm h2 := CR1.trans hCr2
 refine Go.st st2 ?_
 show Go _ _ _ (T2.setTop (mkF mi 3 #[.val (.ref o)] [(.ref os2), (.ref o)])) _
 have f5 := (SE.ext E2)
 have f6 := (SCo.ext E2)
 have f7 := (SVa.ext E2)
 have f8 := (SAr.ext E2)
 have f9 := (SEb.ext E2)
 have f10 := (SC.ext E2)
 obtain ⟨cq4, kq4, q4a, q4b, q4c⟩ := isOf hZ e2 f5
 obtain ⟨_, _, ⟨T4, L4, k4, n4⟩, -, X4, ⟨Lc4, hQ4, l4, y4, z4⟩, st4⟩ := X2.virtualBack hx (y := zy55) (z := zy55) hown (mvT hZ (hw _ (own_m 262 rfl))) (mvT hZ (hw _ (own_m 263 rfl))) (notFace_of_selects (args := #[]) (mvT hZ (hw _ (own_m 265 rfl)))) (mvT hZ (hw _ (own_m 265 rfl))) (mvT hZ (hw _ (own_m 264 rfl))) (by decide) (backOf (W := 0) (rmCt l Z a0 hw [] o os2 b kb n E bs2 ks2 (43 : Int32) cz h2 n0 Zs3 f5 f6 f7 f8 f9 SE2 SCo2 SVa2 SAr2 SEb2 f10 hcz (by omega) hn h1) hZ (hw _ (own_m 266 rfl)) (hw _ (own_m 9 rfl)) (by decide) (by decide)) q4a q4c (g := (mkF mi 3 #[.val (.ref o)] [(.ref os2), (.ref o)])) rfl (by rw [hml]; rfl) (Steps.refl _) (argsL := [(.ref os2)]) (rest := []) (lenOf pd_39 rfl) rfl (by show 2 * 0 + _ ≤ _; exact Nat.le_of_eq rfl) (hb hby dc56_3) (fun _ _ => ⟨rfl, e2, (by decide : 2 + 0 ≤ _), (by decide : 8 + 0 ≤ _)⟩)
 dsimp only [Pt.U, Pt.locs, Pt.cells, Pt.slots] at X4 l4 y4 z4 st4 hQ4
 subst y4 z4
 have X4 := own_cs X4 (cells' := 2) (slots' := 8) rfl rfl
 obtain ⟨rfl, N4q, e4⟩ := hQ4
 have N4 := own_fr l4 (Fr.app N0 N4q)
 refine Go.tr st4 ?_
 by_cases hc6_1 : (ix E (43 : Int32) 0) < (0 : Int32)
 ·refine g_ifNo X4 hx hby dc56_6 ((if0 _ _).trans (teq (show (if (ix E (43 : Int32) 0) < (0 : Int32) then (0 : Int32) else (1 : Int32)) = (0 : Int32) from (by rw [if_pos hc6_1] <;> decide))).2) ?_
  refine g_aloadN X4 hx hby dc56_9 rfl rfl ?_
  show Go _ _ _ (T4.setTop (mkF mi 10 #[.val (.ref o)] [(.ref o)])) _
  have CR11 : CHr Z own_EL si.vm h0 T2.vm h2 := CS2.trans (CHr.keep (Keep.refl h2 []) sf0 CS2.1)
  obtain ⟨os12, T12, h12, k112, bs12, ks12, X12, e12, E12, hSi12, hk112, hZ12, hown12, SE12, SCo12, SVa12, SA12, -, -, hCr12, hLi12, -, st12⟩ := ldcCH (s := si) (vm0 := T2.vm) (EL := own_EL) X4 hx hZ hown (hw _ (own_m 287 rfl)) hwS e4 hSi2 (Nat.le_trans hk12 (Keep.refl h2 []).1) hEL (List.mem_of_getElem? (i := 1) rfl) CR11.1 (vs := [(.int 35)]) (z := (1 : Int32)) ⟨by decide +kernel, by decide +kernel⟩ (by decide) (by decide +kernel) (g := (mkF mi 10 #[.val (.ref o)] [(.ref o)])) rfl (hb hby dc56_10) (n := 4) (by decide +kernel) (by decide) (by decide) (by decide)
  have SAr12 : Arv Z h12 bs12 ks12 .byte (1 : Int32) (([35] : List Int32).map Value.int) (.int (0 : Int32)) := SA12
  have SEb12 : Exa Z h12 bs12 "[B" := own_exB (s := si) hZ12 (hw _ (own_m 287 rfl)) (EL := own_EL) (List.mem_of_getElem? (i := 1) rfl) hCr12.1 hLi12 SVa12 SA12
  have hZ : Z.Warmed39 (si.setVm T12.vm).vm := hZ12
  have hown : (si.setVm T12.vm).vm.findClass "com/example/corduroy/corduroy/Topics" = some mi.cls := hown12
  have Zs13 : n0 ≤ h12.size := Nat.le_trans Zs3 E12.1
  have KC13 : Keep h0 h12 [] := KC3.ext E12
  have KL13 : Keep h2 h12 [] := (Keep.refl h2 []).ext E12
  have CS12 : CHr Z own_EL si.vm h0 T12.vm h12 := CR11.trans hCr12
  refine Go.st st12 ?_
  show Go _ _ _ (T12.setTop (mkF mi 12 #[.val (.ref o)] [(.ref os12), (.ref o)])) _
  have f15 := (f5.ext E12)
  have f16 := (f6.ext E12)
  have f17 := (f7.ext E12)
  have f18 := (f8.ext E12)
  have f19 := (f9.ext E12)
  have f20 := (f10.ext E12)
  obtain ⟨cq14, kq14, q14a, q14b, q14c⟩ := isOf hZ e12 f15
  obtain ⟨_, _, ⟨T14, L14, k14, n14⟩, -, X14, ⟨Lc14, hQ14, l14, y14, z14⟩, st14⟩ := X12.virtualBack hx (y := zy55) (z := zy55) hown (mvT hZ (hw _ (own_m 262 rfl))) (mvT hZ (hw _ (own_m 263 rfl))) (notFace_of_selects (args := #[]) (mvT hZ (hw _ (own_m 265 rfl)))) (mvT hZ (hw _ (own_m 265 rfl))) (mvT hZ (hw _ (own_m 264 rfl))) (by decide) (backOf (W := 0) (rmCt l Z a0 hw [] o os12 b kb n E bs12 ks12 (35 : Int32) cz h12 n0 Zs13 f15 f16 f17 f18 f19 SE12 SCo12 SVa12 SAr12 SEb12 f20 hcz (by omega) hn h1) hZ (hw _ (own_m 266 rfl)) (hw _ (own_m 9 rfl)) (by decide) (by decide)) q14a q14c (g := (mkF mi 12 #[.val (.ref o)] [(.ref os12), (.ref o)])) rfl (by rw [hml]; rfl) (Steps.refl _) (argsL := [(.ref os12)]) (rest := []) (lenOf pd_39 rfl) rfl (by show 2 * 0 + _ ≤ _; exact Nat.le_of_eq rfl) (hb hby dc56_12) (fun _ _ => ⟨rfl, e12, (by decide : 4 + 0 ≤ _), (by decide : 16 + 0 ≤ _)⟩)
  dsimp only [Pt.U, Pt.locs, Pt.cells, Pt.slots] at X14 l14 y14 z14 st14 hQ14
  subst y14 z14
  have X14 := own_cs X14 (cells' := 4) (slots' := 16) rfl rfl
  obtain ⟨rfl, N14q, e14⟩ := hQ14
  have N14 := own_fr l14 (Fr.app N4 N14q)
  refine Go.tr st14 ?_
  by_cases hc15_2 : (ix E (35 : Int32) 0) < (0 : Int32)
  ·refine g_ifYes X14 hx hby dc56_15 ((if0 _ _).trans (teq (show (if (ix E (35 : Int32) 0) < (0 : Int32) then (0 : Int32) else (1 : Int32)) = (0 : Int32) from (by rw [if_pos hc15_2] <;> decide))).1) (pc0 := 15) (pc' := 22) rfl (by decide) (by decide) ?_
   refine g_iconst X14 hx hby dc56_22 (v := 0) rfl ?_
   show Go _ _ _ (T14.setTop (mkF mi 23 #[.val (.ref o)] [(.int 0)])) _
   obtain ⟨fs, hr, hrun, hended, -, hW, hpr, hsame⟩ := Stand.leaveW (v := some (.int 0)) X14 hSi12 (own_leT e14 (Nat.le_trans hk112 (Keep.refl h12 []).1)) (fun h => by rw [Bd.returns] at h; cases h) (BodyLoose.notSynchronized Bd)
   refine ⟨_, _, ?_, hP _ _ ⟨hrun, hended, _, _, rfl, ?_, (show CHr Z own_EL si.vm si.heap T14.vm T14.heap from own_chr hh e14 ((CS12.trans (CHr.keep (Keep.refl h12 []) sf0 CS12.1)).trans (CHv.at X14 hZ hEL (CHr.keep (Keep.refl h12 []) sf0 CS12.1).1))), ⟨_, rfl⟩, hW, hpr, hsame.mono (by decide) (by decide)⟩⟩
   ·exact retN X14 hx (t := .boolean) Bd.returns (by simp) (hb hby dc56_23) hr
   ·show Q_rmHw _ _ _ _ _ _ _ _ _ _ T14.heap _
    rw [e14]
    exact ⟨0, rfl, N14, KC13, Or.inr ⟨rfl, hc6_1, hc15_2⟩⟩
  ·refine g_ifNo X14 hx hby dc56_15 ((if0 _ _).trans (feq (show ¬ ((if (ix E (35 : Int32) 0) < (0 : Int32) then (0 : Int32) else (1 : Int32)) = (0 : Int32)) from (by rw [if_neg hc15_2] <;> decide))).1) ?_
   refine g_iconst X14 hx hby dc56_18 (v := 1) rfl ?_
   refine g_goto X14 hx hby dc56_19 (pc0 := 19) (pc' := 23) rfl (by decide) (by decide) ?_
   show Go _ _ _ (T14.setTop (mkF mi 23 #[.val (.ref o)] [(.int 1)])) _
   obtain ⟨fs, hr, hrun, hended, -, hW, hpr, hsame⟩ := Stand.leaveW (v := some (.int 1)) X14 hSi12 (own_leT e14 (Nat.le_trans hk112 (Keep.refl h12 []).1)) (fun h => by rw [Bd.returns] at h; cases h) (BodyLoose.notSynchronized Bd)
   refine ⟨_, _, ?_, hP _ _ ⟨hrun, hended, _, _, rfl, ?_, (show CHr Z own_EL si.vm si.heap T14.vm T14.heap from own_chr hh e14 ((CS12.trans (CHr.keep (Keep.refl h12 []) sf0 CS12.1)).trans (CHv.at X14 hZ hEL (CHr.keep (Keep.refl h12 []) sf0 CS12.1).1))), ⟨_, rfl⟩, hW, hpr, hsame.mono (by decide) (by decide)⟩⟩
   ·exact retN X14 hx (t := .boolean) Bd.returns (by simp) (hb hby dc56_23) hr
   ·show Q_rmHw _ _ _ _ _ _ _ _ _ _ T14.heap _
    rw [e14]
    exact ⟨1, rfl, N14, KC13, Or.inl ⟨rfl, Or.inr hc15_2⟩⟩
 ·refine g_ifYes X4 hx hby dc56_6 ((if0 _ _).trans (feq (show ¬ ((if (ix E (43 : Int32) 0) < (0 : Int32) then (0 : Int32) else (1 : Int32)) = (0 : Int32)) from (by rw [if_neg hc6_1] <;> decide))).2) (pc0 := 6) (pc' := 18) rfl (by decide) (by decide) ?_
  refine g_iconst X4 hx hby dc56_18 (v := 1) rfl ?_
  refine g_goto X4 hx hby dc56_19 (pc0 := 19) (pc' := 23) rfl (by decide) (by decide) ?_
  show Go _ _ _ (T4.setTop (mkF mi 23 #[.val (.ref o)] [(.int 1)])) _
  obtain ⟨fs, hr, hrun, hended, -, hW, hpr, hsame⟩ := Stand.leaveW (v := some (.int 1)) X4 hSi2 (own_leT e4 (Nat.le_trans hk12 (Keep.refl h2 []).1)) (fun h => by rw [Bd.returns] at h; cases h) (BodyLoose.notSynchronized Bd)
  refine ⟨_, _, ?_, hP _ _ ⟨hrun, hended, _, _, rfl, ?_, (show CHr Z own_EL si.vm si.heap T4.vm T4.heap from own_chr hh e4 ((CS2.trans (CHr.keep (Keep.refl h2 []) sf0 CS2.1)).trans (CHv.at X4 hZ hEL (CHr.keep (Keep.refl h2 []) sf0 CS2.1).1))), ⟨_, rfl⟩, hW, hpr, hsame.mono (by decide) (by decide)⟩⟩
  ·exact retN X4 hx (t := .boolean) Bd.returns (by simp) (hb hby dc56_23) hr
  ·show Q_rmHw _ _ _ _ _ _ _ _ _ _ T4.heap _
   rw [e4]
   exact ⟨1, rfl, N4, KC3, Or.inl ⟨rfl, Or.inl hc6_1⟩⟩
theorem own_pk (a : Int32) : 0 ≤ (fPk a).toInt ∧ (fPk a).toInt ≤ 255 := by
 unfold fPk
 generalize (a.toUInt32 >>> ((3 : Int32) &&& 31).toUInt32).toInt32 = w
 have e1 := c_mask w 255 8 (by decide) (by decide)
 have e2 := c_i2c (w &&& 255)
 have e3 := c_i2c ((w &&& 255).toUInt32.toUInt16.toUInt32.toInt32)
 have l1 : (47 : Int32).toInt = 47 := rfl
 have l2 : (43 : Int32).toInt = 43 := rfl
 have l3 : (35 : Int32).toInt = 35 := rfl
 have l4 : (97 : Int32).toInt = 97 := rfl
 split
 ·omega
 split
 ·omega
 split
 ·omega
 split
 ·omega
 omega
theorem own_len4 (x : Int32) : (x &&& (3 : Int32)) + (1 : Int32) = 1 ∨ (x &&& (3 : Int32)) + (1 : Int32) = 2 ∨ (x &&& (3 : Int32)) + (1 : Int32) = 3 ∨ (x &&& (3 : Int32)) + (1 : Int32) = 4 := by
 have e1 := c_mask x 3 2 (by decide) (by decide)
 have e2 := c_iadd (x &&& 3) 1
 have b1 := Int32.le_toInt ((x &&& 3) + 1)
 have b2 := Int32.toInt_lt ((x &&& 3) + 1)
 have l1 : (1 : Int32).toInt = 1 := rfl
 have l2 : (2 : Int32).toInt = 2 := rfl
 have l3 : (3 : Int32).toInt = 3 := rfl
 have l4 : (4 : Int32).toInt = 4 := rfl
 have q : ((x &&& 3) + 1).toInt = 1 ∨ ((x &&& 3) + 1).toInt = 2 ∨ ((x &&& 3) + 1).toInt = 3 ∨ ((x &&& 3) + 1).toInt = 4 := by omega
 rcases q with q | q | q | q
 ·exact Or.inl (Int32.toInt_inj.mp (q.trans l1.symm))
 ·exact Or.inr (Or.inl (Int32.toInt_inj.mp (q.trans l2.symm)))
 ·exact Or.inr (Or.inr (Or.inl (Int32.toInt_inj.mp (q.trans l3.symm))))
 ·exact Or.inr (Or.inr (Or.inr (Int32.toInt_inj.mp (q.trans l4.symm))))
theorem own_wi (n i x y z : Int32) : ¬ (fWi n i x y z = (0 : Int32)) ↔ i < n ∧ (y = 43 ∨ y = 35) ∧ (i = 0 ∨ x = 47) ∧ (i = n - 1 ∨ z = 47) := by
 have l1 : ((1 : Int32) = (0 : Int32)) = False := eq_false (by decide)
 unfold fWi
 rcases Classical.propComplete (i < n) with a1 | a1
 ·rcases Classical.propComplete (y = 43) with a2 | a2 <;> rcases Classical.propComplete (y = 35) with a3 | a3 <;> rcases Classical.propComplete (i = 0) with a4 | a4 <;> rcases Classical.propComplete (x = 47) with a5 | a5 <;> rcases Classical.propComplete (i = n - 1) with a6 | a6 <;> rcases Classical.propComplete (z = 47) with a7 | a7 <;> simp only [a1, a2, a3, a4, a5, a6, a7, l1, if_true, if_false, true_and, and_true, and_false, false_and, or_true, true_or, or_false, false_or, not_true_eq_false, not_false_eq_true, or_self, and_self]
 ·simp only [a1, if_false, not_true_eq_false, false_and]
theorem own_b8 {x c : Int32} (h1 : 0 ≤ x.toInt) (h2 : x.toInt ≤ 255) (c1 : 0 ≤ c.toInt) (c2 : c.toInt ≤ 127) (h : x.toInt8.toInt32 = c) : x = c := by
 have e := c_i2b x
 rw [h] at e
 apply Int32.toInt_inj.mp; omega
theorem own_fa {E : List Int32} {ln x y z : Int32} {i : Nat} (hE : E.length ≤ 4) (hn : ln.toInt = E.length) (hV : VF E) (hx1 : 0 ≤ x.toInt) (hx2 : x.toInt ≤ 255) (hy1 : 0 ≤ y.toInt) (hy2 : y.toInt ≤ 255) (hz1 : 0 ≤ z.toInt) (hz2 : z.toInt ≤ 255) (ex : i ≠ 0 → E.getD (i - 1) 0 = x.toInt8.toInt32) (ey : E.getD i 0 = y.toInt8.toInt32) (ez : i + 1 < E.length → E.getD (i + 1) 0 = z.toInt8.toInt32) (hi : i < E.length) (hc : Wc (E.getD i 0)) : ¬ (fWi ln (Int32.ofNat i) x y z = (0 : Int32)) := by
 obtain ⟨v1, v2⟩ := hV i hi hc
 rw [own_wi]
 refine ⟨own_ltn (by omega) hn hi, ?_, ?_, ?_⟩
 ·rw [ey] at hc
  exact hc.imp (fun q => own_b8 hy1 hy2 (by decide) (by decide) q) (fun q => own_b8 hy1 hy2 (by decide) (by decide) q)
 ·by_cases q : i = 0
  ·exact Or.inl (by rw [q]; rfl)
  ·rcases v1 with u | u
   ·exact absurd u q
   ·rw [ex q] at u; exact Or.inr (own_b8 hx1 hx2 (by decide) (by decide) u)
 ·by_cases q : i + 1 < E.length
  ·rcases v2 with u | u
   ·exact absurd u (by omega)
   ·rw [ez q] at u; exact Or.inr (own_b8 hz1 hz2 (by decide) (by decide) u)
  ·exact Or.inl (by rw [own_n1 (by omega) hn (by omega), show E.length - 1 = i from by omega])
theorem own_fb {E : List Int32} {ln x y z : Int32} {i : Nat} (hn : ln.toInt = E.length) (h4 : i < 4) (ey : i < E.length → E.getD i 0 = y.toInt8.toInt32) (h : ¬ (fWi ln (Int32.ofNat i) x y z = (0 : Int32))) : ∃ j, j < E.length ∧ Wc (E.getD j 0) := by
 rw [own_wi] at h
 obtain ⟨h1, h2, -⟩ := h
 have hi : i < E.length := by rw [Int32.lt_iff_toInt_lt, own_ofN (by omega), hn] at h1; omega
 refine ⟨i, hi, ?_⟩
 rw [ey hi]
 rcases h2 with q | q
 ·rw [q]; exact Or.inl (by decide +kernel)
 ·rw [q]; exact Or.inr (by decide +kernel)
theorem own_tg {ln a b c d : Int32} {E : List Int32} (hEd : E = List.take ln.toNatClampNeg [a, b, c, d]) {j : Nat} (hj : j < E.length) : E.getD j 0 = [a, b, c, d].getD j 0 := by
 subst hEd
 rw [List.length_take] at hj
 rw [List.getD_eq_getElem?_getD, List.getD_eq_getElem?_getD, List.getElem?_take, if_pos (by omega)]
theorem own_tl {ln a b c d : Int32} {E : List Int32} (hl : ln = 1 ∨ ln = 2 ∨ ln = 3 ∨ ln = 4) (hEd : E = List.take ln.toNatClampNeg [a, b, c, d]) : ln.toInt = E.length ∧ E.length ≤ 4 ∧ 1 ≤ E.length := by
 rcases hl with q | q | q | q
 ·rw [hEd, q, own_tk1]; exact ⟨rfl, Nat.le_of_ble_eq_true rfl, Nat.le_of_ble_eq_true rfl⟩
 ·rw [hEd, q, own_tk2]; exact ⟨rfl, Nat.le_of_ble_eq_true rfl, Nat.le_of_ble_eq_true rfl⟩
 ·rw [hEd, q, own_tk3]; exact ⟨rfl, Nat.le_of_ble_eq_true rfl, Nat.le_of_ble_eq_true rfl⟩
 ·rw [hEd, q, own_tk4]; exact ⟨rfl, Nat.le_of_ble_eq_true rfl, Nat.le_of_ble_eq_true rfl⟩
theorem own_ixm {E : List Int32} (hE : E.length ≤ 4) : (∃ j, j < E.length ∧ Wc (E.getD j 0)) ↔ (¬ (ix E (43 : Int32) 0 < (0 : Int32)) ∨ ¬ (ix E (35 : Int32) 0 < (0 : Int32))) := by
 rw [ix_neg (by omega), ix_neg (by omega)]
 constructor
 ·rintro ⟨j, hj, q | q⟩
  ·exact Or.inl fun u => u j hj q
  ·exact Or.inr fun u => u j hj q
 ·intro u
  refine Classical.byContradiction fun q => ?_
  rcases u with u | u
  ·exact u fun j hj e => q ⟨j, hj, Or.inl e⟩
  ·exact u fun j hj e => q ⟨j, hj, Or.inr e⟩
theorem own_fin {E : List Int32} {ln x y z u v ex : Int32} (hE : E.length ≤ 4) (hn : ln.toInt = E.length) (hEd : E = (List.take ln.toNatClampNeg [(x.toInt8.toInt32), (y.toInt8.toInt32), (z.toInt8.toInt32), (u.toInt8.toInt32)])) (hV : VF E) (hx1 : 0 ≤ x.toInt) (hx2 : x.toInt ≤ 255) (hy1 : 0 ≤ y.toInt) (hy2 : y.toInt ≤ 255) (hz1 : 0 ≤ z.toInt) (hz2 : z.toInt ≤ 255) (hu1 : 0 ≤ u.toInt) (hu2 : u.toInt ≤ 255) (hv : ((v = 1 ∧ (¬ ((ix E (43 : Int32) 0) < (0 : Int32)) ∨ ¬ ((ix E (35 : Int32) 0) < (0 : Int32)))) ∨ (v = 0 ∧ (ix E (43 : Int32) 0) < (0 : Int32) ∧ (ix E (35 : Int32) 0) < (0 : Int32)))) (hex : ((ex = 1 ∧ (¬ ((fWi ln (0 : Int32) (47 : Int32) x y) = (0 : Int32)) ∨ ¬ ((fWi ln (1 : Int32) x y z) = (0 : Int32)) ∨ ¬ ((fWi ln (2 : Int32) y z u) = (0 : Int32)) ∨ ¬ ((fWi ln (3 : Int32) z u (47 : Int32)) = (0 : Int32)))) ∨ (ex = 0 ∧ (fWi ln (0 : Int32) (47 : Int32) x y) = (0 : Int32) ∧ (fWi ln (1 : Int32) x y z) = (0 : Int32) ∧ (fWi ln (2 : Int32) y z u) = (0 : Int32) ∧ (fWi ln (3 : Int32) z u (47 : Int32)) = (0 : Int32)))) : v = ex := by
 have l1 : 0 ≤ (47 : Int32).toInt := by decide
 have l2 : (47 : Int32).toInt ≤ 255 := by decide
 have t0 : 0 < E.length → E.getD 0 0 = x.toInt8.toInt32 := fun q => own_tg hEd q
 have t1 : 1 < E.length → E.getD 1 0 = y.toInt8.toInt32 := fun q => own_tg hEd q
 have t2 : 2 < E.length → E.getD 2 0 = z.toInt8.toInt32 := fun q => own_tg hEd q
 have t3 : 3 < E.length → E.getD 3 0 = u.toInt8.toInt32 := fun q => own_tg hEd q
 have hv' : (v = 1 ∧ ∃ j, j < E.length ∧ Wc (E.getD j 0)) ∨ (v = 0 ∧ ¬ ∃ j, j < E.length ∧ Wc (E.getD j 0)) := by
  rw [own_ixm hE]
  rcases hv with ⟨a, b⟩ | ⟨a, b, c⟩
  ·exact Or.inl ⟨a, b⟩
  ·exact Or.inr ⟨a, fun q => q.elim (fun q => q b) (fun q => q c)⟩
 have hex' : (ex = 1 ∧ ∃ j, j < E.length ∧ Wc (E.getD j 0)) ∨ (ex = 0 ∧ ¬ ∃ j, j < E.length ∧ Wc (E.getD j 0)) := by
  rcases hex with ⟨a, b⟩ | ⟨a, b0, b1, b2, b3⟩
  ·refine Or.inl ⟨a, ?_⟩
   rcases b with b | b | b | b
   ·exact own_fb (i := 0) hn (by decide) t0 b
   ·exact own_fb (i := 1) hn (by decide) t1 b
   ·exact own_fb (i := 2) hn (by decide) t2 b
   ·exact own_fb (i := 3) hn (by decide) t3 b
  ·refine Or.inr ⟨a, fun ⟨j, hj, hc⟩ => ?_⟩
   obtain rfl | rfl | rfl | rfl : j = 0 ∨ j = 1 ∨ j = 2 ∨ j = 3 := by omega
   ·exact own_fa (i := 0) hE hn hV l1 l2 hx1 hx2 hy1 hy2 (fun q => absurd rfl q) (t0 hj) t1 hj hc b0
   ·exact own_fa (i := 1) hE hn hV hx1 hx2 hy1 hy2 hz1 hz2 (fun _ => t0 (by omega)) (t1 hj) t2 hj hc b1
   ·exact own_fa (i := 2) hE hn hV hy1 hy2 hz1 hz2 hu1 hu2 (fun _ => t1 (by omega)) (t2 hj) t3 hj hc b2
   ·exact own_fa (i := 3) hE hn hV hz1 hz2 hu1 hu2 l1 l2 (fun _ => t2 (by omega)) (t3 hj) (fun q => absurd q (by omega)) hj hc b3
 rcases hv' with ⟨a, b⟩ | ⟨a, b⟩ <;> rcases hex' with ⟨c, d⟩ | ⟨c, d⟩
 ·rw [a, c]
 ·exact absurd b d
 ·exact absurd d b
 ·rw [a, c]
theorem pd_40 : parseMethodDescriptor "(ICCCC)Ljava/lang/String;" = some ⟨[.int, .char, .char, .char, .char], some (.object "java/lang/String")⟩ := by decide +kernel
theorem pd_41 : parseMethodDescriptor "(Ljava/lang/String;)Z" = some ⟨[(.object "java/lang/String")], some .boolean⟩ := by decide +kernel
theorem pd_42 : parseMethodDescriptor "(IICCC)Z" = some ⟨[.int, .int, .char, .char, .char], some .boolean⟩ := by decide +kernel
theorem ef_rm0 (mi : MethodId) (pa : Int32) (pb : Int32) (pc : Int32) (pd : Int32) (pn : Int32) : entryFrame mi #[(.int pa), (.int pb), (.int pc), (.int pd), (.int pn)] maxLocals = mkF mi 0 #[.val (.int pa), .val (.int pb), .val (.int pc), .val (.int pd), .val (.int pn), .unset, .unset, .unset, .unset, .unset, .unset, .unset] [] := by first | (simp [entryFrame, mkF, argsToLocals, Value.category, maxLocals]; done) | rfl
abbrev Q_rm0 (Z : State) (pa : Int32) (pb : Int32) (pc : Int32) (pd : Int32) (pn : Int32) (cz : Int32) (fm : Value) (de : Addr) (kde : ClassId) (h0 : Heap) (n0 : Nat) (vv_ : Option Value) (hh_ : Heap) (LL_ : List Loc) : Prop := vv_ = some (.int 1) ∧ Fr n0 LL_
theorem rm0 (l : Launch) (Z : State) (a0 : Array Value) (hw : Tb Z a0) (ws : List Jvm.Cond) (pa : Int32) (pb : Int32) (pc : Int32) (pd : Int32) (pn : Int32) (cz : Int32) (fm : Value) (de : Addr) (kde : ClassId) (h0 : Heap) (n0 : Nat) (Z0 : n0 ≤ h0.size) (hEL : EW Z a0 own_EL) (SC : Sta Z h0 "java/lang/String" "COMPACT_STRINGS" "Z" (.int cz)) (hcz : ¬ (cz = (0 : Int32))) (SF : Sta Z h0 "jdk/internal/util/Preconditions" "SIOOBE_FORMATTER" "Ljava/util/function/BiFunction;" fm) (hfm : fm.isRef = true) (SD : Sta Z h0 "java/util/ArrayList" "DEFAULTCAPACITY_EMPTY_ELEMENTDATA" "[Ljava/lang/Object;" (.ref de)) (DV : Arv Z h0 de kde (.object "java/lang/Object") (0 : Int32) [] .null) (DE : Exa Z h0 de "[Ljava/lang/Object;") :
  MetFree l x (head1 (Jvm.Cond.code x code maxLocals ret :: ws) room_1) (fun aa_ U => aa_ = #[(.int pa), (.int pb), (.int pc), (.int pd), (.int pn)] ∧ Z.Warmed39 U.vm ∧ U.heap = h0 ∧ CHv Z own_EL U.vm h0) (fun _ _ _ _ _ => True) (fun _ U oo_ UV_ => ∃ vv_ LL_, oo_ = .returned vv_ ∧ Q_rm0 Z pa pb pc pd pn cz fm de kde h0 n0 vv_ UV_.heap LL_ ∧ ReturnedEndW U oo_ UV_ LL_ room_1.cells room_1.slots) := by
 refine MetFree.of_bodySF (plainFor_of_name pn_3) hisR ?_
 intro pg ev si mi args below meth ci s₁ Bd hml0 hP0 hK
 obtain ⟨rfl, hZ, hh, hCH⟩ := hP0
 have hx := Bd.exec
 have hby := Bd.bytes
 have hml : ci.maxLocals = 12 := hml0
 have hown : si.vm.findClass "com/example/corduroy/corduroy/TopicsHasWildcardPinLaw" = some mi.cls := findClass_of_methodNamed Bd.named
 have hnm := (name_of_methodNamed Bd.named Bd.method).1
 have X0 : Stand pg l ev room_1 si mi #[(.int pa), (.int pb), (.int pc), (.int pd), (.int pn)] below meth ci s₁ [] 0 0 := Stand.of_body Bd
 have e0 : s₁.heap = h0 := by rw [← hh, Bd.state]; rfl
 have N0 := Fr.nil n0
 refine Go.start (fun P hP => ?_)
 refine Go.st (fun t_ k_ => castTop (ef_rm0 mi pa pb pc pd pn) k_) (A := s₁.setTop (mkF mi 0 #[.val (.int pa), .val (.int pb), .val (.int pc), .val (.int pd), .val (.int pn), .unset, .unset, .unset, .unset, .unset, .unset, .unset] [])) ?_
 refine g_iload X0 hx hby at_0 rfl ?_
 refine g_iconst X0 hx hby at_2 (v := 3) rfl ?_
 refine g_iand X0 hx hby at_3 rfl ?_
 refine g_iconst X0 hx hby at_4 (v := 1) rfl ?_
 refine g_iadd X0 hx hby at_5 rfl ?_
 show Go _ _ _ (s₁.setTop (mkF mi 6 #[.val (.int pa), .val (.int pb), .val (.int pc), .val (.int pd), .val (.int pn), .unset, .unset, .unset, .unset, .unset, .unset, .unset] [(.int ((pn &&& (3 : Int32)) + (1 : Int32)))])) _
 obtain ⟨ln, hd_ln⟩ : ∃ z : Int32, z = ((pn &&& (3 : Int32)) + (1 : Int32)) := ⟨_, rfl⟩
 rw [← hd_ln]
 have hl := own_len4 pn
 rw [← hd_ln] at hl
 clear hd_ln
 show Go _ _ _ (s₁.setTop (mkF mi 6 #[.val (.int pa), .val (.int pb), .val (.int pc), .val (.int pd), .val (.int pn), .unset, .unset, .unset, .unset, .unset, .unset, .unset] [(.int ln)])) _
 refine g_istore X0 hx hby at_6 (l' := #[.val (.int pa), .val (.int pb), .val (.int pc), .val (.int pd), .val (.int pn), .val (.int ln), .unset, .unset, .unset, .unset, .unset, .unset]) rfl ?_
 refine g_iloadN X0 hx hby at_8 rfl ?_
 obtain ⟨_, _, ⟨T1, L1, k1, n1⟩, -, X1, ⟨Lc1, hQ1, l1, y1, z1⟩, st1⟩ := Jvm.LawKit.callS X0 hx (y := zy10) hown (mvT hZ (hw _ (own_m 0 rfl))) (mvT hZ (hw _ (own_m 1 rfl))) (mvT hZ (hw _ (own_m 2 rfl))) (mvT hZ (hw _ (own_m 3 rfl))) (by decide) (backOf (W := 0) (rmPk l Z a0 hw [] pa h0 n0 Z0) hZ (hw _ (own_m 3 rfl)) (hw _ (own_m 2 rfl)) (by decide) (by decide)) (g := (mkF mi 9 #[.val (.int pa), .val (.int pb), .val (.int pc), .val (.int pd), .val (.int pn), .val (.int ln), .unset, .unset, .unset, .unset, .unset, .unset] [(.int pa)])) rfl (by rw [hml]; rfl) (argsL := [(.int pa)]) (rest := []) (lenOf pd_28 rfl) rfl (by show 2 * 0 + _ ≤ _; exact Nat.le_of_eq rfl) (hb hby at_9) (fun _ _ => ⟨rfl, e0, (by decide : 0 + 0 ≤ _), (by decide : 0 + 0 ≤ _)⟩)
 dsimp only [Pt.U, Pt.locs, Pt.cells, Pt.slots] at X1 l1 y1 z1 st1 hQ1
 subst y1 z1
 have X1 := own_cs X1 (cells' := 0) (slots' := 0) rfl rfl
 obtain ⟨rfl, N1q, e1⟩ := hQ1
 have N1 := own_fr l1 (Fr.app N0 N1q)
 refine Go.st st1 ?_
 show Go _ _ _ (T1.setTop (mkF mi 12 #[.val (.int pa), .val (.int pb), .val (.int pc), .val (.int pd), .val (.int pn), .val (.int ln), .unset, .unset, .unset, .unset, .unset, .unset] [(.int (fPk pa))])) _
 obtain ⟨x, hd_x⟩ : ∃ z : Int32, z = (fPk pa) := ⟨_, rfl⟩
 rw [← hd_x]
 have hx1 : 0 ≤ x.toInt := by rw [hd_x]; exact (own_pk pa).1
 have hx2 : x.toInt ≤ 255 := by rw [hd_x]; exact (own_pk pa).2
 clear hd_x
 show Go _ _ _ (T1.setTop (mkF mi 12 #[.val (.int pa), .val (.int pb), .val (.int pc), .val (.int pd), .val (.int pn), .val (.int ln), .unset, .unset, .unset, .unset, .unset, .unset] [(.int x)])) _
 refine g_istore X1 hx hby at_12 (l' := #[.val (.int pa), .val (.int pb), .val (.int pc), .val (.int pd), .val (.int pn), .val (.int ln), .val (.int x), .unset, .unset, .unset, .unset, .unset]) rfl ?_
 refine g_iloadN X1 hx hby at_14 rfl ?_
 obtain ⟨_, _, ⟨T2, L2, k2, n2⟩, -, X2, ⟨Lc2, hQ2, l2, y2, z2⟩, st2⟩ := Jvm.LawKit.callS X1 hx (y := zy10) hown (mvT hZ (hw _ (own_m 0 rfl))) (mvT hZ (hw _ (own_m 1 rfl))) (mvT hZ (hw _ (own_m 2 rfl))) (mvT hZ (hw _ (own_m 3 rfl))) (by decide) (backOf (W := 0) (rmPk l Z a0 hw [] pb h0 n0 Z0) hZ (hw _ (own_m 3 rfl)) (hw _ (own_m 2 rfl)) (by decide) (by decide)) (g := (mkF mi 15 #[.val (.int pa), .val (.int pb), .val (.int pc), .val (.int pd), .val (.int pn), .val (.int ln), .val (.int x), .unset, .unset, .unset, .unset, .unset] [(.int pb)])) rfl (by rw [hml]; rfl) (argsL := [(.int pb)]) (rest := []) (lenOf pd_28 rfl) rfl (by show 2 * 0 + _ ≤ _; exact Nat.le_of_eq rfl) (hb hby at_15) (fun _ _ => ⟨rfl, e1, (by decide : 0 + 0 ≤ _), (by decide : 0 + 0 ≤ _)⟩)
 dsimp only [Pt.U, Pt.locs, Pt.cells, Pt.slots] at X2 l2 y2 z2 st2 hQ2
 subst y2 z2
 have X2 := own_cs X2 (cells' := 0) (slots' := 0) rfl rfl
 obtain ⟨rfl, N2q, e2⟩ := hQ2
 have N2 := own_fr l2 (Fr.app N1 N2q)
 refine Go.st st2 ?_
 show Go _ _ _ (T2.setTop (mkF mi 18 #[.val (.int pa), .val (.int pb), .val (.int pc), .val (.int pd), .val (.int pn), .val (.int ln), .val (.int x), .unset, .unset, .unset, .unset, .unset] [(.int (fPk pb))])) _
 obtain ⟨y, hd_y⟩ : ∃ z : Int32, z = (fPk pb) := ⟨_, rfl⟩
 rw [← hd_y]
 have hy1 : 0 ≤ y.toInt := by rw [hd_y]; exact (own_pk pb).1
 have hy2 : y.toInt ≤ 255 := by rw [hd_y]; exact (own_pk pb).2
 clear hd_y
 show Go _ _ _ (T2.setTop (mkF mi 18 #[.val (.int pa), .val (.int pb), .val (.int pc), .val (.int pd), .val (.int pn), .val (.int ln), .val (.int x), .unset, .unset, .unset, .unset, .unset] [(.int y)])) _
 refine g_istore X2 hx hby at_18 (l' := #[.val (.int pa), .val (.int pb), .val (.int pc), .val (.int pd), .val (.int pn), .val (.int ln), .val (.int x), .val (.int y), .unset, .unset, .unset, .unset]) rfl ?_
 refine g_iloadN X2 hx hby at_20 rfl ?_
 obtain ⟨_, _, ⟨T3, L3, k3, n3⟩, -, X3, ⟨Lc3, hQ3, l3, y3, z3⟩, st3⟩ := Jvm.LawKit.callS X2 hx (y := zy10) hown (mvT hZ (hw _ (own_m 0 rfl))) (mvT hZ (hw _ (own_m 1 rfl))) (mvT hZ (hw _ (own_m 2 rfl))) (mvT hZ (hw _ (own_m 3 rfl))) (by decide) (backOf (W := 0) (rmPk l Z a0 hw [] pc h0 n0 Z0) hZ (hw _ (own_m 3 rfl)) (hw _ (own_m 2 rfl)) (by decide) (by decide)) (g := (mkF mi 21 #[.val (.int pa), .val (.int pb), .val (.int pc), .val (.int pd), .val (.int pn), .val (.int ln), .val (.int x), .val (.int y), .unset, .unset, .unset, .unset] [(.int pc)])) rfl (by rw [hml]; rfl) (argsL := [(.int pc)]) (rest := []) (lenOf pd_28 rfl) rfl (by show 2 * 0 + _ ≤ _; exact Nat.le_of_eq rfl) (hb hby at_21) (fun _ _ => ⟨rfl, e2, (by decide : 0 + 0 ≤ _), (by decide : 0 + 0 ≤ _)⟩)
 dsimp only [Pt.U, Pt.locs, Pt.cells, Pt.slots] at X3 l3 y3 z3 st3 hQ3
 subst y3 z3
 have X3 := own_cs X3 (cells' := 0) (slots' := 0) rfl rfl
 obtain ⟨rfl, N3q, e3⟩ := hQ3
 have N3 := own_fr l3 (Fr.app N2 N3q)
 refine Go.st st3 ?_
 show Go _ _ _ (T3.setTop (mkF mi 24 #[.val (.int pa), .val (.int pb), .val (.int pc), .val (.int pd), .val (.int pn), .val (.int ln), .val (.int x), .val (.int y), .unset, .unset, .unset, .unset] [(.int (fPk pc))])) _
 obtain ⟨z, hd_z⟩ : ∃ z : Int32, z = (fPk pc) := ⟨_, rfl⟩
 rw [← hd_z]
 have hz1 : 0 ≤ z.toInt := by rw [hd_z]; exact (own_pk pc).1
 have hz2 : z.toInt ≤ 255 := by rw [hd_z]; exact (own_pk pc).2
 clear hd_z
 show Go _ _ _ (T3.setTop (mkF mi 24 #[.val (.int pa), .val (.int pb), .val (.int pc), .val (.int pd), .val (.int pn), .val (.int ln), .val (.int x), .val (.int y), .unset, .unset, .unset, .unset] [(.int z)])) _
 refine g_istore X3 hx hby at_24 (l' := #[.val (.int pa), .val (.int pb), .val (.int pc), .val (.int pd), .val (.int pn), .val (.int ln), .val (.int x), .val (.int y), .val (.int z), .unset, .unset, .unset]) rfl ?_
 refine g_iloadN X3 hx hby at_26 rfl ?_
 obtain ⟨_, _, ⟨T4, L4, k4, n4⟩, -, X4, ⟨Lc4, hQ4, l4, y4, z4⟩, st4⟩ := Jvm.LawKit.callS X3 hx (y := zy10) hown (mvT hZ (hw _ (own_m 0 rfl))) (mvT hZ (hw _ (own_m 1 rfl))) (mvT hZ (hw _ (own_m 2 rfl))) (mvT hZ (hw _ (own_m 3 rfl))) (by decide) (backOf (W := 0) (rmPk l Z a0 hw [] pd h0 n0 Z0) hZ (hw _ (own_m 3 rfl)) (hw _ (own_m 2 rfl)) (by decide) (by decide)) (g := (mkF mi 27 #[.val (.int pa), .val (.int pb), .val (.int pc), .val (.int pd), .val (.int pn), .val (.int ln), .val (.int x), .val (.int y), .val (.int z), .unset, .unset, .unset] [(.int pd)])) rfl (by rw [hml]; rfl) (argsL := [(.int pd)]) (rest := []) (lenOf pd_28 rfl) rfl (by show 2 * 0 + _ ≤ _; exact Nat.le_of_eq rfl) (hb hby at_27) (fun _ _ => ⟨rfl, e3, (by decide : 0 + 0 ≤ _), (by decide : 0 + 0 ≤ _)⟩)
 dsimp only [Pt.U, Pt.locs, Pt.cells, Pt.slots] at X4 l4 y4 z4 st4 hQ4
 subst y4 z4
 have X4 := own_cs X4 (cells' := 0) (slots' := 0) rfl rfl
 obtain ⟨rfl, N4q, e4⟩ := hQ4
 have N4 := own_fr l4 (Fr.app N3 N4q)
 refine Go.st st4 ?_
 show Go _ _ _ (T4.setTop (mkF mi 30 #[.val (.int pa), .val (.int pb), .val (.int pc), .val (.int pd), .val (.int pn), .val (.int ln), .val (.int x), .val (.int y), .val (.int z), .unset, .unset, .unset] [(.int (fPk pd))])) _
 obtain ⟨u, hd_u⟩ : ∃ z : Int32, z = (fPk pd) := ⟨_, rfl⟩
 rw [← hd_u]
 have hu1 : 0 ≤ u.toInt := by rw [hd_u]; exact (own_pk pd).1
 have hu2 : u.toInt ≤ 255 := by rw [hd_u]; exact (own_pk pd).2
 clear hd_u
 show Go _ _ _ (T4.setTop (mkF mi 30 #[.val (.int pa), .val (.int pb), .val (.int pc), .val (.int pd), .val (.int pn), .val (.int ln), .val (.int x), .val (.int y), .val (.int z), .unset, .unset, .unset] [(.int u)])) _
 refine g_istore X4 hx hby at_30 (l' := #[.val (.int pa), .val (.int pb), .val (.int pc), .val (.int pd), .val (.int pn), .val (.int ln), .val (.int x), .val (.int y), .val (.int z), .val (.int u), .unset, .unset]) rfl ?_
 refine g_iload X4 hx hby at_32 rfl ?_
 refine g_iload X4 hx hby at_34 rfl ?_
 refine g_iload X4 hx hby at_36 rfl ?_
 refine g_iload X4 hx hby at_38 rfl ?_
 refine g_iload X4 hx hby at_40 rfl ?_
 obtain ⟨_, _, ⟨T5, L5, k5, n5⟩, -, X5, ⟨Lc5, hQ5, l5, y5, z5⟩, st5⟩ := Jvm.LawKit.callS X4 hx (y := zy18) hown (mvT hZ (hw _ (own_m 4 rfl))) (mvT hZ (hw _ (own_m 5 rfl))) (mvT hZ (hw _ (own_m 2 rfl))) (mvT hZ (hw _ (own_m 6 rfl))) (by decide) (backOf (W := 0) (rmMk l Z a0 hw [] ln x y z u cz h0 n0 Z0 hl SC hcz hx1 hx2 hy1 hy2 hz1 hz2 hu1 hu2) hZ (hw _ (own_m 6 rfl)) (hw _ (own_m 2 rfl)) (by decide) (by decide)) (g := (mkF mi 42 #[.val (.int pa), .val (.int pb), .val (.int pc), .val (.int pd), .val (.int pn), .val (.int ln), .val (.int x), .val (.int y), .val (.int z), .val (.int u), .unset, .unset] [(.int u), (.int z), (.int y), (.int x), (.int ln)])) rfl (by rw [hml]; rfl) (argsL := [(.int ln), (.int x), (.int y), (.int z), (.int u)]) (rest := []) (lenOf pd_40 rfl) rfl (by show 2 * 0 + _ ≤ _; exact Nat.le_of_eq rfl) (hb hby at_42) (fun _ _ => ⟨rfl, e4, (by decide : 0 + 3 ≤ _), (by decide : 0 + 12 ≤ _)⟩)
 dsimp only [Pt.U, Pt.locs, Pt.cells, Pt.slots] at X5 l5 y5 z5 st5 hQ5
 subst y5 z5
 have X5 := own_cs X5 (cells' := 3) (slots' := 12) rfl rfl
 obtain ⟨h5, e5⟩ : ∃ z, T5.heap = z := ⟨_, rfl⟩
 rw [e5] at hQ5
 obtain ⟨s5_, b5, kb5, rfl, N5q, K5, SE5, SCo5, SVa5, SAr5, SEb5⟩ := hQ5
 have N5 := own_fr l5 (Fr.app N4 N5q)
 have Zs6 : n0 ≤ h5.size := Nat.le_trans Z0 K5.1
 have KL6 : Keep h0 h5 [] := (Keep.refl h0 []).trans K5 all0
 obtain ⟨E, hEd⟩ : ∃ q_ : List Int32, q_ = (List.take ln.toNatClampNeg [(x.toInt8.toInt32), (y.toInt8.toInt32), (z.toInt8.toInt32), (u.toInt8.toInt32)]) := ⟨_, rfl⟩
 rw [← hEd] at SAr5
 obtain ⟨hn, hE, h1⟩ := own_tl hl hEd
 have hn0 := own_nz hn h1
 refine Go.st st5 ?_
 refine g_astore X5 hx hby at_45 rfl (l' := #[.val (.int pa), .val (.int pb), .val (.int pc), .val (.int pd), .val (.int pn), .val (.int ln), .val (.int x), .val (.int y), .val (.int z), .val (.int u), .val (.ref s5_), .unset]) rfl ?_
 refine g_aload X5 hx hby at_47 rfl rfl ?_
 show Go _ _ _ (T5.setTop (mkF mi 49 #[.val (.int pa), .val (.int pb), .val (.int pc), .val (.int pd), .val (.int pn), .val (.int ln), .val (.int x), .val (.int y), .val (.int z), .val (.int u), .val (.ref s5_), .unset] [(.ref s5_)])) _
 have CR7 : CHr Z own_EL si.vm h0 si.vm h5 := (CHr.refl hCH).trans (CHr.keep KL6 sf0 (CHr.refl hCH).1)
 have f8 := (own_sta_keep SC K5 ns0)
 have f9 := (own_sta_keep SF K5 ns0)
 have f10 := (own_sta_keep SD K5 ns0)
 have f11 := (DV.keep K5 nin0)
 have f12 := (DE.keep K5)
 obtain ⟨_, _, ⟨T13, L13, k13, n13⟩, -, X13, hS13', hG13, ⟨Lc13, hQ13, l13, y13, z13, hCr13⟩, st13⟩ := callSS (own_rb X5) hx (y := zy50) hown (mvT hZ (hw _ (own_m 37 rfl))) (mvT hZ (hw _ (own_m 38 rfl))) (mvT hZ (hw _ (own_m 39 rfl))) (mvT hZ (hw _ (own_m 40 rfl))) (by decide) (backOfSH (s := si) (vm0 := si.vm) (EL := own_EL) (W := 0) (rmV l Z a0 hw [] s5_ b5 kb5 ln E cz fm de kde h5 n0 Zs6 hEL SE5 SCo5 SVa5 SAr5 SEb5 f8 hcz f9 hfm f10 f11 f12 hE hn hn0) hZ (hw _ (own_m 40 rfl)) (hw _ (own_m 39 rfl)) (by decide) (by decide) hEL CR7.1) (g := (mkF mi 49 #[.val (.int pa), .val (.int pb), .val (.int pc), .val (.int pd), .val (.int pn), .val (.int ln), .val (.int x), .val (.int y), .val (.int z), .val (.int u), .val (.ref s5_), .unset] [(.ref s5_)])) rfl (by rw [hml]; rfl) (argsL := [(.ref s5_)]) (rest := []) (lenOf pd_41 rfl) rfl (by show 2 * 0 + _ ≤ _; exact Nat.le_of_eq rfl) (hb hby at_49) (fun _ _ => ⟨rfl, e5, (by decide : 3 + 30 ≤ _), (by decide : 12 + 172 ≤ _)⟩)
 dsimp only [Pt.U, Pt.locs, Pt.cells, Pt.slots] at X13 l13 y13 z13 st13 hQ13 hCr13 hS13' hG13
 subst y13 z13
 have X13 := own_cs X13 (cells' := 33) (slots' := 184) rfl rfl
 obtain ⟨X13, hS13, hZ, hown⟩ := rebS ((State.WarmedH.refl si).since h0.size) (own_leT e5 (Nat.le_trans (Nat.le_refl _) KL6.1)) X13 hS13' hG13 hZ hown
 obtain ⟨h13, e13⟩ : ∃ z, T13.heap = z := ⟨_, rfl⟩
 rw [e13] at hQ13
 obtain ⟨v13, rfl, N13q, K13, hv13⟩ := hQ13
 have N13 := own_fr l13 (Fr.app N5 N13q)
 have Zs14 : n0 ≤ h13.size := Nat.le_trans Zs6 K13.1
 have KL14 : Keep h0 h13 [] := KL6.trans K13 all0
 rw [e13] at hCr13
 have CS13 : CHr Z own_EL si.vm h0 T13.vm h13 := CR7.trans hCr13
 refine Go.tr st13 ?_
 show Go _ _ _ (T13.setTop (mkF mi 52 #[.val (.int pa), .val (.int pb), .val (.int pc), .val (.int pd), .val (.int pn), .val (.int ln), .val (.int x), .val (.int y), .val (.int z), .val (.int u), .val (.ref s5_), .unset] [(.int v13)])) _
 rcases hv13 with hv13 | ⟨hv13, hVF⟩
 ·rw [hv13]
  show Go _ _ _ (T13.setTop (mkF mi 52 #[.val (.int pa), .val (.int pb), .val (.int pc), .val (.int pd), .val (.int pn), .val (.int ln), .val (.int x), .val (.int y), .val (.int z), .val (.int u), .val (.ref s5_), .unset] [(.int 0)])) _
  refine g_ifNo X13 hx hby at_52 ((if0 _ _).trans (teq rfl).2) ?_
  refine g_iconst X13 hx hby at_55 (v := 1) rfl ?_
  show Go _ _ _ (T13.setTop (mkF mi 56 #[.val (.int pa), .val (.int pb), .val (.int pc), .val (.int pd), .val (.int pn), .val (.int ln), .val (.int x), .val (.int y), .val (.int z), .val (.int u), .val (.ref s5_), .unset] [(.int 1)])) _
  obtain ⟨fs, hr, hrun, hended, -, hW, hpr, hsame⟩ := Stand.leaveW (v := some (.int 1)) X13 hS13 (own_leT e13 (Nat.le_trans (own_leH e13) (Keep.refl h13 []).1)) (fun h => by rw [Bd.returns] at h; cases h) (BodyLoose.notSynchronized Bd)
  refine ⟨_, _, ?_, hP _ _ ⟨hrun, hended, _, _, rfl, ?_, ⟨_, rfl⟩, hW, hpr, hsame.mono (by decide) (by decide)⟩⟩
  ·exact retN X13 hx (t := .boolean) Bd.returns (by simp) (hb hby at_56) hr
  ·show (some (.int 1) : Option Value) = some (.int 1) ∧ Fr n0 _
   exact ⟨rfl, N13⟩
 ·rw [hv13]
  show Go _ _ _ (T13.setTop (mkF mi 52 #[.val (.int pa), .val (.int pb), .val (.int pc), .val (.int pd), .val (.int pn), .val (.int ln), .val (.int x), .val (.int y), .val (.int z), .val (.int u), .val (.ref s5_), .unset] [(.int 1)])) _
  refine g_ifYes X13 hx hby at_52 ((if0 _ _).trans (feq (by decide)).2) (pc0 := 52) (pc' := 57) rfl (by decide) (by decide) ?_
  show Go _ _ _ (T13.setTop (mkF mi 57 #[.val (.int pa), .val (.int pb), .val (.int pc), .val (.int pd), .val (.int pn), .val (.int ln), .val (.int x), .val (.int y), .val (.int z), .val (.int u), .val (.ref s5_), .unset] [])) _
  have KJ : ∀ (ex : Int32) (TJ : State) (LJ : List Loc), ((ex = 1 ∧ (¬ ((fWi ln (0 : Int32) (47 : Int32) x y) = (0 : Int32)) ∨ ¬ ((fWi ln (1 : Int32) x y z) = (0 : Int32)) ∨ ¬ ((fWi ln (2 : Int32) y z u) = (0 : Int32)) ∨ ¬ ((fWi ln (3 : Int32) z u (47 : Int32)) = (0 : Int32)))) ∨ (ex = 0 ∧ (fWi ln (0 : Int32) (47 : Int32) x y) = (0 : Int32) ∧ (fWi ln (1 : Int32) x y z) = (0 : Int32) ∧ (fWi ln (2 : Int32) y z u) = (0 : Int32) ∧ (fWi ln (3 : Int32) z u (47 : Int32)) = (0 : Int32))) → Stand pg l ev room_1 (si.setVm T13.vm) mi #[(.int pa), (.int pb), (.int pc), (.int pd), (.int pn)] below meth ci TJ LJ 33 184 → TJ.heap = h13 → Fr n0 LJ → Go pg.tables ev below (TJ.setTop (mkF mi 122 #[.val (.int pa), .val (.int pb), .val (.int pc), .val (.int pd), .val (.int pn), .val (.int ln), .val (.int x), .val (.int y), .val (.int z), .val (.int u), .val (.ref s5_), .unset] [(.int ex)])) P := by
   intro ex TJ LJ hex XJ eJ NJ
   refine g_istore XJ hx hby at_122 (l' := #[.val (.int pa), .val (.int pb), .val (.int pc), .val (.int pd), .val (.int pn), .val (.int ln), .val (.int x), .val (.int y), .val (.int z), .val (.int u), .val (.ref s5_), .val (.int ex)]) rfl ?_
   refine g_aload XJ hx hby at_124 rfl rfl ?_
   show Go _ _ _ (TJ.setTop (mkF mi 126 #[.val (.int pa), .val (.int pb), .val (.int pc), .val (.int pd), .val (.int pn), .val (.int ln), .val (.int x), .val (.int y), .val (.int z), .val (.int u), .val (.ref s5_), .val (.int ex)] [(.ref s5_)])) _
   have CR15 : CHr Z own_EL si.vm h0 T13.vm h13 := CS13.trans (CHr.keep (Keep.refl h13 []) sf0 CS13.1)
   have f16 := (SE5.keep K13)
   have f17 := (SCo5.keep K13 nin0)
   have f18 := (SVa5.keep K13 nin0)
   have f19 := (SAr5.keep K13 nin0)
   have f20 := (SEb5.keep K13)
   have f21 := (own_sta_keep f8 K13 ns0)
   obtain ⟨_, _, ⟨T22, L22, k22, n22⟩, -, X22, hS22', hG22, ⟨Lc22, hQ22, l22, y22, z22, hCr22⟩, st22⟩ := callSS XJ hx (y := zy56) hown (mvT hZ (hw _ (own_m 258 rfl))) (mvT hZ (hw _ (own_m 259 rfl))) (mvT hZ (hw _ (own_m 39 rfl))) (mvT hZ (hw _ (own_m 260 rfl))) (by decide) (backOfSH (s := si) (vm0 := T13.vm) (EL := own_EL) (W := 0) (rmHw l Z a0 hw [] s5_ b5 kb5 ln E cz h13 n0 Zs14 hEL f16 f17 f18 f19 f20 f21 hcz hE hn h1) hZ (hw _ (own_m 260 rfl)) (hw _ (own_m 39 rfl)) (by decide) (by decide) hEL CR15.1) (g := (mkF mi 126 #[.val (.int pa), .val (.int pb), .val (.int pc), .val (.int pd), .val (.int pn), .val (.int ln), .val (.int x), .val (.int y), .val (.int z), .val (.int u), .val (.ref s5_), .val (.int ex)] [(.ref s5_)])) rfl (by rw [hml]; rfl) (argsL := [(.ref s5_)]) (rest := []) (lenOf pd_41 rfl) rfl (by show 2 * 0 + _ ≤ _; exact Nat.le_of_eq rfl) (hb hby at_126) (fun _ _ => ⟨rfl, eJ, (by decide : 33 + 4 ≤ _), (by decide : 184 + 16 ≤ _)⟩)
   dsimp only [Pt.U, Pt.locs, Pt.cells, Pt.slots] at X22 l22 y22 z22 st22 hQ22 hCr22 hS22' hG22
   subst y22 z22
   have X22 := own_cs X22 (cells' := 37) (slots' := 200) rfl rfl
   obtain ⟨X22, hS22, hZ, hown⟩ := rebS hS13 (own_leT eJ (Nat.le_trans (own_leH e13) (Keep.refl h13 []).1)) X22 hS22' hG22 hZ hown
   obtain ⟨h22, e22⟩ : ∃ z, T22.heap = z := ⟨_, rfl⟩
   rw [e22] at hQ22
   obtain ⟨v22, rfl, N22q, K22, hv22⟩ := hQ22
   have N22 := own_fr l22 (Fr.app NJ N22q)
   have Zs23 : n0 ≤ h22.size := Nat.le_trans Zs14 K22.1
   have KL23 : Keep h13 h22 [] := (Keep.refl h13 []).trans K22 all0
   rw [e22] at hCr22
   have CS22 : CHr Z own_EL si.vm h0 T22.vm h22 := CR15.trans hCr22
   refine Go.tr st22 ?_
   show Go _ _ _ (T22.setTop (mkF mi 129 #[.val (.int pa), .val (.int pb), .val (.int pc), .val (.int pd), .val (.int pn), .val (.int ln), .val (.int x), .val (.int y), .val (.int z), .val (.int u), .val (.ref s5_), .val (.int ex)] [(.int v22)])) _
   refine g_iload X22 hx hby at_129 rfl ?_
   refine g_icmpNo X22 hx hby at_131 (teq (own_fin hE hn hEd hVF hx1 hx2 hy1 hy2 hz1 hz2 hu1 hu2 hv22 hex)).2 ?_
   refine g_iconst X22 hx hby at_134 (v := 1) rfl ?_
   refine g_goto X22 hx hby at_135 (pc0 := 135) (pc' := 139) rfl (by decide) (by decide) ?_
   show Go _ _ _ (T22.setTop (mkF mi 139 #[.val (.int pa), .val (.int pb), .val (.int pc), .val (.int pd), .val (.int pn), .val (.int ln), .val (.int x), .val (.int y), .val (.int z), .val (.int u), .val (.ref s5_), .val (.int ex)] [(.int 1)])) _
   obtain ⟨fs, hr, hrun, hended, -, hW, hpr, hsame⟩ := Stand.leaveW (v := some (.int 1)) X22 hS22 (own_leT e22 (Nat.le_trans (own_leH e22) (Keep.refl h22 []).1)) (fun h => by rw [Bd.returns] at h; cases h) (BodyLoose.notSynchronized Bd)
   refine ⟨_, _, ?_, hP _ _ ⟨hrun, hended, _, _, rfl, ?_, ⟨_, rfl⟩, hW, hpr, hsame.mono (by decide) (by decide)⟩⟩
   ·exact retN X22 hx (t := .boolean) Bd.returns (by simp) (hb hby at_139) hr
   ·show (some (.int 1) : Option Value) = some (.int 1) ∧ Fr n0 _
    exact ⟨rfl, N22⟩
  show Go _ _ _ (T13.setTop (mkF mi 57 #[.val (.int pa), .val (.int pb), .val (.int pc), .val (.int pd), .val (.int pn), .val (.int ln), .val (.int x), .val (.int y), .val (.int z), .val (.int u), .val (.ref s5_), .unset] [])) _
  refine g_iload X13 hx hby at_57 rfl ?_
  refine g_iconst X13 hx hby at_59 (v := 0) rfl ?_
  refine g_bipush X13 hx hby at_60 (v := 47) rfl ?_
  refine g_iload X13 hx hby at_62 rfl ?_
  refine g_iload X13 hx hby at_64 rfl ?_
  obtain ⟨_, _, ⟨T24, L24, k24, n24⟩, -, X24, ⟨Lc24, hQ24, l24, y24, z24⟩, st24⟩ := Jvm.LawKit.callS X13 hx (y := zy11) hown (mvT hZ (hw _ (own_m 255 rfl))) (mvT hZ (hw _ (own_m 256 rfl))) (mvT hZ (hw _ (own_m 2 rfl))) (mvT hZ (hw _ (own_m 257 rfl))) (by decide) (backOf (W := 0) (rmWi l Z a0 hw [] ln (0 : Int32) (47 : Int32) x y h13 n0 Zs14) hZ (hw _ (own_m 257 rfl)) (hw _ (own_m 2 rfl)) (by decide) (by decide)) (g := (mkF mi 66 #[.val (.int pa), .val (.int pb), .val (.int pc), .val (.int pd), .val (.int pn), .val (.int ln), .val (.int x), .val (.int y), .val (.int z), .val (.int u), .val (.ref s5_), .unset] [(.int y), (.int x), (.int 47), (.int 0), (.int ln)])) rfl (by rw [hml]; rfl) (argsL := [(.int ln), (.int 0), (.int 47), (.int x), (.int y)]) (rest := []) (lenOf pd_42 rfl) rfl (by show 2 * 0 + _ ≤ _; exact Nat.le_of_eq rfl) (hb hby at_66) (fun _ _ => ⟨rfl, e13, (by decide : 33 + 0 ≤ _), (by decide : 184 + 0 ≤ _)⟩)
  dsimp only [Pt.U, Pt.locs, Pt.cells, Pt.slots] at X24 l24 y24 z24 st24 hQ24
  subst y24 z24
  have X24 := own_cs X24 (cells' := 33) (slots' := 184) rfl rfl
  obtain ⟨rfl, N24q, e24⟩ := hQ24
  have N24 := own_fr l24 (Fr.app N13 N24q)
  refine Go.st st24 ?_
  by_cases hc69_1 : (fWi ln (0 : Int32) (47 : Int32) x y) = (0 : Int32)
  ·refine g_ifNo X24 hx hby at_69 ((if0 _ _).trans (teq hc69_1).2) ?_
   refine g_iload X24 hx hby at_72 rfl ?_
   refine g_iconst X24 hx hby at_74 (v := 1) rfl ?_
   refine g_iload X24 hx hby at_75 rfl ?_
   refine g_iload X24 hx hby at_77 rfl ?_
   refine g_iload X24 hx hby at_79 rfl ?_
   obtain ⟨_, _, ⟨T25, L25, k25, n25⟩, -, X25, ⟨Lc25, hQ25, l25, y25, z25⟩, st25⟩ := Jvm.LawKit.callS X24 hx (y := zy11) hown (mvT hZ (hw _ (own_m 255 rfl))) (mvT hZ (hw _ (own_m 256 rfl))) (mvT hZ (hw _ (own_m 2 rfl))) (mvT hZ (hw _ (own_m 257 rfl))) (by decide) (backOf (W := 0) (rmWi l Z a0 hw [] ln (1 : Int32) x y z h13 n0 Zs14) hZ (hw _ (own_m 257 rfl)) (hw _ (own_m 2 rfl)) (by decide) (by decide)) (g := (mkF mi 81 #[.val (.int pa), .val (.int pb), .val (.int pc), .val (.int pd), .val (.int pn), .val (.int ln), .val (.int x), .val (.int y), .val (.int z), .val (.int u), .val (.ref s5_), .unset] [(.int z), (.int y), (.int x), (.int 1), (.int ln)])) rfl (by rw [hml]; rfl) (argsL := [(.int ln), (.int 1), (.int x), (.int y), (.int z)]) (rest := []) (lenOf pd_42 rfl) rfl (by show 2 * 0 + _ ≤ _; exact Nat.le_of_eq rfl) (hb hby at_81) (fun _ _ => ⟨rfl, e24, (by decide : 33 + 0 ≤ _), (by decide : 184 + 0 ≤ _)⟩)
   dsimp only [Pt.U, Pt.locs, Pt.cells, Pt.slots] at X25 l25 y25 z25 st25 hQ25
   subst y25 z25
   have X25 := own_cs X25 (cells' := 33) (slots' := 184) rfl rfl
   obtain ⟨rfl, N25q, e25⟩ := hQ25
   have N25 := own_fr l25 (Fr.app N24 N25q)
   refine Go.st st25 ?_
   by_cases hc84_2 : (fWi ln (1 : Int32) x y z) = (0 : Int32)
   ·refine g_ifNo X25 hx hby at_84 ((if0 _ _).trans (teq hc84_2).2) ?_
    refine g_iload X25 hx hby at_87 rfl ?_
    refine g_iconst X25 hx hby at_89 (v := 2) rfl ?_
    refine g_iload X25 hx hby at_90 rfl ?_
    refine g_iload X25 hx hby at_92 rfl ?_
    refine g_iload X25 hx hby at_94 rfl ?_
    obtain ⟨_, _, ⟨T26, L26, k26, n26⟩, -, X26, ⟨Lc26, hQ26, l26, y26, z26⟩, st26⟩ := Jvm.LawKit.callS X25 hx (y := zy11) hown (mvT hZ (hw _ (own_m 255 rfl))) (mvT hZ (hw _ (own_m 256 rfl))) (mvT hZ (hw _ (own_m 2 rfl))) (mvT hZ (hw _ (own_m 257 rfl))) (by decide) (backOf (W := 0) (rmWi l Z a0 hw [] ln (2 : Int32) y z u h13 n0 Zs14) hZ (hw _ (own_m 257 rfl)) (hw _ (own_m 2 rfl)) (by decide) (by decide)) (g := (mkF mi 96 #[.val (.int pa), .val (.int pb), .val (.int pc), .val (.int pd), .val (.int pn), .val (.int ln), .val (.int x), .val (.int y), .val (.int z), .val (.int u), .val (.ref s5_), .unset] [(.int u), (.int z), (.int y), (.int 2), (.int ln)])) rfl (by rw [hml]; rfl) (argsL := [(.int ln), (.int 2), (.int y), (.int z), (.int u)]) (rest := []) (lenOf pd_42 rfl) rfl (by show 2 * 0 + _ ≤ _; exact Nat.le_of_eq rfl) (hb hby at_96) (fun _ _ => ⟨rfl, e25, (by decide : 33 + 0 ≤ _), (by decide : 184 + 0 ≤ _)⟩)
    dsimp only [Pt.U, Pt.locs, Pt.cells, Pt.slots] at X26 l26 y26 z26 st26 hQ26
    subst y26 z26
    have X26 := own_cs X26 (cells' := 33) (slots' := 184) rfl rfl
    obtain ⟨rfl, N26q, e26⟩ := hQ26
    have N26 := own_fr l26 (Fr.app N25 N26q)
    refine Go.st st26 ?_
    by_cases hc99_3 : (fWi ln (2 : Int32) y z u) = (0 : Int32)
    ·refine g_ifNo X26 hx hby at_99 ((if0 _ _).trans (teq hc99_3).2) ?_
     refine g_iload X26 hx hby at_102 rfl ?_
     refine g_iconst X26 hx hby at_104 (v := 3) rfl ?_
     refine g_iload X26 hx hby at_105 rfl ?_
     refine g_iload X26 hx hby at_107 rfl ?_
     refine g_bipush X26 hx hby at_109 (v := 47) rfl ?_
     obtain ⟨_, _, ⟨T27, L27, k27, n27⟩, -, X27, ⟨Lc27, hQ27, l27, y27, z27⟩, st27⟩ := Jvm.LawKit.callS X26 hx (y := zy11) hown (mvT hZ (hw _ (own_m 255 rfl))) (mvT hZ (hw _ (own_m 256 rfl))) (mvT hZ (hw _ (own_m 2 rfl))) (mvT hZ (hw _ (own_m 257 rfl))) (by decide) (backOf (W := 0) (rmWi l Z a0 hw [] ln (3 : Int32) z u (47 : Int32) h13 n0 Zs14) hZ (hw _ (own_m 257 rfl)) (hw _ (own_m 2 rfl)) (by decide) (by decide)) (g := (mkF mi 111 #[.val (.int pa), .val (.int pb), .val (.int pc), .val (.int pd), .val (.int pn), .val (.int ln), .val (.int x), .val (.int y), .val (.int z), .val (.int u), .val (.ref s5_), .unset] [(.int 47), (.int u), (.int z), (.int 3), (.int ln)])) rfl (by rw [hml]; rfl) (argsL := [(.int ln), (.int 3), (.int z), (.int u), (.int 47)]) (rest := []) (lenOf pd_42 rfl) rfl (by show 2 * 0 + _ ≤ _; exact Nat.le_of_eq rfl) (hb hby at_111) (fun _ _ => ⟨rfl, e26, (by decide : 33 + 0 ≤ _), (by decide : 184 + 0 ≤ _)⟩)
     dsimp only [Pt.U, Pt.locs, Pt.cells, Pt.slots] at X27 l27 y27 z27 st27 hQ27
     subst y27 z27
     have X27 := own_cs X27 (cells' := 33) (slots' := 184) rfl rfl
     obtain ⟨rfl, N27q, e27⟩ := hQ27
     have N27 := own_fr l27 (Fr.app N26 N27q)
     refine Go.st st27 ?_
     by_cases hc114_4 : (fWi ln (3 : Int32) z u (47 : Int32)) = (0 : Int32)
     ·refine g_ifYes X27 hx hby at_114 ((if0 _ _).trans (teq hc114_4).1) (pc0 := 114) (pc' := 121) rfl (by decide) (by decide) ?_
      refine g_iconst X27 hx hby at_121 (v := 0) rfl ?_
      show Go _ _ _ (T27.setTop (mkF mi 122 #[.val (.int pa), .val (.int pb), .val (.int pc), .val (.int pd), .val (.int pn), .val (.int ln), .val (.int x), .val (.int y), .val (.int z), .val (.int u), .val (.ref s5_), .unset] [(.int 0)])) _
      exact KJ _ _ _ (Or.inr ⟨rfl, hc69_1, hc84_2, hc99_3, hc114_4⟩) X27 e27 N27
     ·refine g_ifNo X27 hx hby at_114 ((if0 _ _).trans (feq hc114_4).1) ?_
      refine g_iconst X27 hx hby at_117 (v := 1) rfl ?_
      refine g_goto X27 hx hby at_118 (pc0 := 118) (pc' := 122) rfl (by decide) (by decide) ?_
      show Go _ _ _ (T27.setTop (mkF mi 122 #[.val (.int pa), .val (.int pb), .val (.int pc), .val (.int pd), .val (.int pn), .val (.int ln), .val (.int x), .val (.int y), .val (.int z), .val (.int u), .val (.ref s5_), .unset] [(.int 1)])) _
      exact KJ _ _ _ (Or.inl ⟨rfl, (Or.inr (Or.inr (Or.inr hc114_4)))⟩) X27 e27 N27
    ·refine g_ifYes X26 hx hby at_99 ((if0 _ _).trans (feq hc99_3).2) (pc0 := 99) (pc' := 117) rfl (by decide) (by decide) ?_
     refine g_iconst X26 hx hby at_117 (v := 1) rfl ?_
     refine g_goto X26 hx hby at_118 (pc0 := 118) (pc' := 122) rfl (by decide) (by decide) ?_
     show Go _ _ _ (T26.setTop (mkF mi 122 #[.val (.int pa), .val (.int pb), .val (.int pc), .val (.int pd), .val (.int pn), .val (.int ln), .val (.int x), .val (.int y), .val (.int z), .val (.int u), .val (.ref s5_), .unset] [(.int 1)])) _
     exact KJ _ _ _ (Or.inl ⟨rfl, (Or.inr (Or.inr (Or.inl hc99_3)))⟩) X26 e26 N26
   ·refine g_ifYes X25 hx hby at_84 ((if0 _ _).trans (feq hc84_2).2) (pc0 := 84) (pc' := 117) rfl (by decide) (by decide) ?_
    refine g_iconst X25 hx hby at_117 (v := 1) rfl ?_
    refine g_goto X25 hx hby at_118 (pc0 := 118) (pc' := 122) rfl (by decide) (by decide) ?_
    show Go _ _ _ (T25.setTop (mkF mi 122 #[.val (.int pa), .val (.int pb), .val (.int pc), .val (.int pd), .val (.int pn), .val (.int ln), .val (.int x), .val (.int y), .val (.int z), .val (.int u), .val (.ref s5_), .unset] [(.int 1)])) _
    exact KJ _ _ _ (Or.inl ⟨rfl, (Or.inr (Or.inl hc84_2))⟩) X25 e25 N25
  ·refine g_ifYes X24 hx hby at_69 ((if0 _ _).trans (feq hc69_1).2) (pc0 := 69) (pc' := 117) rfl (by decide) (by decide) ?_
   refine g_iconst X24 hx hby at_117 (v := 1) rfl ?_
   refine g_goto X24 hx hby at_118 (pc0 := 118) (pc' := 122) rfl (by decide) (by decide) ?_
   show Go _ _ _ (T24.setTop (mkF mi 122 #[.val (.int pa), .val (.int pb), .val (.int pc), .val (.int pd), .val (.int pn), .val (.int ln), .val (.int x), .val (.int y), .val (.int z), .val (.int u), .val (.ref s5_), .unset] [(.int 1)])) _
   exact KJ _ _ _ (Or.inl ⟨rfl, (Or.inl hc69_1)⟩) X24 e24 N24
theorem own_eqI {args : Array Value} {first s : State} {o : Option Outcome} {idx : List Nat} {t : Term} {z : Int32} (h : (Cond.eq t (.int z)).value args first o s idx = some true) : t.eval args first o idx s = some (.int z) := by
 simp only [Cond.value, Term.eval] at h
 cases ht : t.eval args first o idx s with
 | none => simp [ht] at h
 | some x => cases x <;> simp [ht] at h ⊢; exact h
theorem own_eqR {args : Array Value} {first s : State} {o : Option Outcome} {idx : List Nat} {t u : Term} {b : Addr} (hu : u.eval args first o idx s = some (.ref b)) (h : (Cond.eq t u).value args first o s idx = some true) : t.eval args first o idx s = some (.ref b) := by
 simp only [Cond.value, hu] at h
 cases ht : t.eval args first o idx s with
 | none => simp [ht] at h
 | some x => cases x <;> simp [ht] at h ⊢; exact h
theorem own_neR {args : Array Value} {first s : State} {o : Option Outcome} {idx : List Nat} {t u : Term} {a b : Addr} (ht : t.eval args first o idx s = some (.ref a)) (hu : u.eval args first o idx s = some (.ref b)) (h : (Cond.not (.eq t u)).value args first o s idx = some true) : a ≠ b := fun q => by
 subst q
 simp [Cond.value, ht, hu] at h
theorem own_len {args : Array Value} {first s : State} {o : Option Outcome} {idx : List Nat} {t : Term} {a : Addr} {cl : Cell} {z : Int32} (ht : t.eval args first o idx s = some (.ref a)) (hc : s.heap[a]? = some cl) (h : (Term.length t).eval args first o idx s = some (.int z)) : cl.slots.size < 2 ^ 31 ∧ cl.slots.size.toInt32 = z ∧ s.arrayAt? a = some cl := by
 obtain ⟨a', cell, e1, e2, e3, e4⟩ := Jvm.Free.SB.Term.length_small h
 cases ht.symm.trans e1
 cases hc.symm.trans (State.arrayAt?_spec e2).1
 cases e3
 exact ⟨e4, rfl, e2⟩
theorem comes_1 {Post : Tables → Env → Array Value → State → Outcome → State → Prop} (hpost : ∀ tb e args s v u, (limb_1_1.after args s (.returned v) u = true ∧ limb_1_2.after args s (.returned v) u = true ∧ True) → ReturnedEndW s (.returned v) u (Jvm.fieldLocs frame_1_writes args s ++ Jvm.arrayLocs frame_1_arrays args s ++ Jvm.staticLocs frame_1_statics s) 40 5312 → Post tb e args s (.returned v) u) :
  ArmFor flags0 classFile x code maxLocals ret World_1 tables_1 room_1 Calls_1 rest_1 Pre_1 Post := by
 intro l hfl _ _ p e ha hc hk s m args below hf hA hF happ hP
 obtain ⟨hcalls, hrest, hpre⟩ := hP
 obtain ⟨-, -, -, hnamed, -, -, -, hat⟩ := (Spec.applies_iff hf).mp happ
 obtain ⟨hg, hn⟩ := and_e (Cond.before_iff.mp (show (Jvm.Cond.and given_1 narrow_1).before args s = true from hpre))
 obtain ⟨g1, g2⟩ := and_e hg
 obtain ⟨g3, g4⟩ := and_e g2
 obtain ⟨g5, g6⟩ := and_e g4
 obtain ⟨g7, g8⟩ := and_e g6
 obtain ⟨g9, g10⟩ := and_e g8
 obtain ⟨w0, w1, w2, w3, w4, rfl⟩ : ∃ w0 w1 w2 w3 w4 : Value, args = #[w0, w1, w2, w3, w4] := by
  have hs : args.size = 5 := by simpa [Cond.value, given_1] using g1
  obtain ⟨L⟩ := args
  match L, hs with
  | [w0, w1, w2, w3, w4], _ => exact ⟨w0, w1, w2, w3, w4, rfl⟩
 have hw := fun d (hd : d ∈ tables_1) => atoms_spec (ws := Jvm.Cond.code x code maxLocals ret :: tables_1) hat d (List.mem_cons_of_mem _ hd)
 have hfit : Fit s := fun {y c} hc i hi => by
  obtain ⟨ha, rfl⟩ := Array.getElem?_eq_some_iff.mp hc
  have q := List.all_eq_true.mp ((Array.all_eq_true_iff_forall_mem.mp hF) _ (Array.getElem_mem ha)) i (List.mem_range.mpr hi)
  simpa [Array.getElem?_eq_getElem hi] using q
 obtain ⟨hsets, hown0⟩ := atoms_of _ (rest_1_c_eq ▸ (show rest_1_c.before _ s = true from hrest))
 have hr0 := Cond.before_iff.mp hown0
 obtain ⟨i0, ei0⟩ := is_v g3
 obtain rfl : w0 = (.int i0) := Option.some.inj ei0
 obtain ⟨i1, ei1⟩ := is_v g5
 obtain rfl : w1 = (.int i1) := Option.some.inj ei1
 obtain ⟨i2, ei2⟩ := is_v g7
 obtain rfl : w2 = (.int i2) := Option.some.inj ei2
 obtain ⟨i3, ei3⟩ := is_v g9
 obtain rfl : w3 = (.int i3) := Option.some.inj ei3
 obtain ⟨i4, ei4⟩ := is_v g10
 obtain rfl : w4 = (.int i4) := Option.some.inj ei4
 obtain ⟨cz, ecz⟩ := is_v (Cond.before_iff.mp (hsets _ (own_m 1 rfl)))
 have SC : Sta s s.heap "java/lang/String" "COMPACT_STRINGS" "Z" (.int cz) := Sta.start ecz (Or.inl (hsets _ (own_m 0 rfl)))
 have n5 := not_v (Cond.before_iff.mp (hsets _ (own_m 2 rfl)))
 have hcz : ¬ (cz = (0 : Int32)) := gotF (Cond.eq_ints ecz (Term.int_eval (0))) n5
 obtain ⟨fm, efm, hfm⟩ := isR_v (Cond.before_iff.mp (hsets _ (own_m 8 rfl)))
 have SF := Sta.start efm (Or.inl (hsets _ (own_m 7 rfl)))
 have ha0 := (Cond.before_iff.mp (hsets _ (own_m 15 rfl)))
 obtain ⟨de, eva⟩ := arr_v ha0
 obtain ⟨cA, AA⟩ := Arr.start eva ha0
 have hlen := own_eqI (Cond.before_iff.mp (hsets _ (own_m 17 rfl)))
 obtain ⟨hsz, hsz2, -⟩ := own_len eva AA.1 hlen
 have DV : Arv s s.heap de cA.cls (.object "java/lang/Object") (0 : Int32) [] .null := Arv.start hfit AA hsz hsz2 (by decide) (by decide +kernel) trivial
 have SD := Sta.start eva (Or.inr ⟨(hw _ (own_m 130 rfl)), (hsets _ (own_m 11 rfl))⟩)
 have DE := Exa.start eva (Cond.before_iff.mp (hsets _ (own_m 16 rfl)))
 have hEL : EW s _ own_EL := (EW.cons (hw _ (own_m 91 rfl)) (by decide +kernel) (EW.cons (hw _ (own_m 287 rfl)) (by decide +kernel) (EW.cons (hw _ (own_m 261 rfl)) (by decide +kernel) (EW.cons (hw _ (own_m 104 rfl)) (by decide +kernel) (EW.cons (hw _ (own_m 167 rfl)) (by decide +kernel) EW.nil)))))
 obtain ⟨n, o, h1, h2, h3, _, L, rfl, ⟨rfl, N⟩, hq⟩ := rm0 l s _ hw tables_1 i0 i1 i2 i3 i4 cz fm de cA.cls s.heap s.heap.size (Nat.le_refl _) hEL SC hcz SF hfm SD DV DE p e ha hc hk s m _ below hf ((Spec.applies_iff_loose hf).mp happ).1 ⟨rfl, State.Warmed39.refl s, rfl, CHv.start hEL (fun p hp => hcalls.1 p hp) (hsets _ (own_m 2 rfl)) (hw _ (own_m 26 rfl)) (hw _ (own_m 8 rfl))⟩ trivial
 refine ⟨n, _, h1, h2, h3, hpost _ _ _ _ _ _ ⟨Cond.after_iff.mpr rfl, Cond.after_iff.mpr (eq_i res_at (Term.int_eval (1)) rfl), trivial⟩ ⟨hq.1, hq.2.1, hq.2.2.1, (hq.2.2.2.sift fun y hy => Or.inr (N y hy)).mono (by decide) (by decide)⟩⟩
theorem main_1_1 : Claimed_1_1 := comes_1 fun _ _ _ _ _ _ h hF => ⟨h.1, hF⟩
theorem main_1_2 : Claimed_1_2 := comes_1 fun _ _ _ _ _ _ h hF => ⟨h.2.1, hF⟩
end Jvm.Pilot.@@N@@
namespace Jvm.Pilot.@@N@@
open Jvm Jvm.ClassFile Sem Op Lib Jvm.Free Jvm.Stand Jvm.Pilot.@@N@@.Jvm.D
/-! MADE BY PROGRAM (witnessworld.py) out of the Statement's table words and the real class files: 34 classes; the members and pool entries that the words name. The judged class is class 1, her method 1. -/
namespace start1
open Jvm.ClassFile
def u (s : String) : CpInfo := .utf8 (stringToUtf16 s)
/-- a pool by its gaps: so many unusable entries, then the entry; so many at the end -/
def gap : Nat → List CpInfo → List CpInfo
  | 0, r => r
  | n + 1, r => .unusable :: gap n r
def poolList (es : List (Nat × CpInfo)) (last : Nat) : List CpInfo := es.foldr (fun e r => gap e.1 (e.2 :: r)) (gap last [])
def pool (es : List (Nat × CpInfo)) (last : Nat) : Array CpInfo := ⟨poolList es last⟩
def fileOf (pool : Array CpInfo) (this : Nat) (attrs : Array Attribute := #[]) (ms : Array MethodInfo := #[]) (fl : Nat := 33) (sup : Nat := 0) (ifs : Array Nat := #[]) (fds : Array FieldInfo := #[]) : ClassFile where
  minorVersion := 0
  majorVersion := 65
  constantPool := pool
  accessFlags := fl
  thisClass := this
  superClass := sup
  interfaces := ifs
  fields := fds
  methods := ms
  attributes := attrs
def plain (name : String) (sup : Option ClassId) : Class where
  name := name
  kind := .ordinary
  loader := none
  accessFlags := 33
  super := sup
  interfaces := #[]
  cf := none
  fields := #[]
  methods := #[]
  instanceTypes := #[]
  staticTypes := #[]
  resolved := #[]
  callSites := []
  init := .initialized
  statics := none
  mirror := none

def pool0 : Array CpInfo := pool [(5, u "<init>"), (0, u "()V"), (1, .class_ 10), (1, u "java/lang/Object")] 113

def k0c0 : Code := { maxStack := 0, maxLocals := 1, code := object_method_1_code, exceptionTable := #[], attributes := #[] }
def k0m0 : Method := { name := "<init>", desc := "()V", sig := { parameters := [], returnType := none }, accessFlags := 1, code := some k0c0 }
/-- java/lang/Object -/
def k0 : Class := { plain "java/lang/Object" none with
  accessFlags := 33
  interfaces := #[]
  cf := some (fileOf pool0 8 #[] #[{ accessFlags := 1, nameIndex := 5, descriptorIndex := 6, attributes := #[] }] 33 0 #[] #[])
  fields := #[]
  methods := #[k0m0]
  instanceTypes := #[]
  staticTypes := #[]
  resolved := Array.replicate 124 none
  statics := none }

def pool1 : Array CpInfo := pool [(2, .class_ 4), (1, u "java/lang/Object"), (0, u "<init>"), (0, u "()V"), (0, .methodref 8 9), (0, .class_ 10), (0, .nameAndType 11 12), (0, u "com/example/corduroy/corduroy/TopicsHasWildcardPinLaw"), (0, u "pick"), (0, u "(I)C"), (0, .methodref 8 14), (0, .nameAndType 15 16), (0, u "make"), (0, u "(ICCCC)Ljava/lang/String;"), (0, .methodref 18 19), (0, .class_ 20), (0, .nameAndType 21 22), (0, u "com/example/corduroy/corduroy/Topics"), (0, u "isValidFilter"), (0, u "(Ljava/lang/String;)Z"), (0, .methodref 8 24), (0, .nameAndType 25 26), (0, u "wild"), (0, u "(IICCC)Z"), (0, .methodref 18 28), (0, .nameAndType 29 22), (0, u "hasWildcard"), (0, .class_ 31), (0, u "java/lang/String"), (0, .methodref 30 33), (0, .nameAndType 5 34), (0, u "([C)V"), (2, u "law"), (0, u "(IIIII)Z")] 3

def k1m0 : Method := { name := "<init>", desc := "()V", sig := { parameters := [], returnType := none }, accessFlags := 2, code := none }
def k1c1 : Code := { maxStack := 5, maxLocals := 12, code := code, exceptionTable := #[], attributes := #[] }
def k1m1 : Method := { name := "law", desc := "(IIIII)Z", sig := { parameters := [.int, .int, .int, .int, .int], returnType := some .boolean }, accessFlags := 9, code := some k1c1 }
def k1c2 : Code := { maxStack := 2, maxLocals := 2, code := method_3_code, exceptionTable := #[], attributes := #[] }
def k1m2 : Method := { name := "pick", desc := "(I)C", sig := { parameters := [.int], returnType := some .char }, accessFlags := 10, code := some k1c2 }
def k1c3 : Code := { maxStack := 6, maxLocals := 5, code := method_4_code, exceptionTable := #[], attributes := #[] }
def k1m3 : Method := { name := "make", desc := "(ICCCC)Ljava/lang/String;", sig := { parameters := [.int, .char, .char, .char, .char], returnType := some (.object "java/lang/String") }, accessFlags := 10, code := some k1c3 }
def k1c4 : Code := { maxStack := 3, maxLocals := 7, code := method_5_code, exceptionTable := #[], attributes := #[] }
def k1m4 : Method := { name := "wild", desc := "(IICCC)Z", sig := { parameters := [.int, .int, .char, .char, .char], returnType := some .boolean }, accessFlags := 10, code := some k1c4 }
/-- com/example/corduroy/corduroy/TopicsHasWildcardPinLaw -/
def k1 : Class := { plain "com/example/corduroy/corduroy/TopicsHasWildcardPinLaw" (some 0) with
  accessFlags := 49
  interfaces := #[]
  cf := some (fileOf pool1 8 #[] #[{ accessFlags := 2, nameIndex := 5, descriptorIndex := 6, attributes := #[] }, { accessFlags := 9, nameIndex := 37, descriptorIndex := 38, attributes := #[] }, { accessFlags := 10, nameIndex := 11, descriptorIndex := 12, attributes := #[] }, { accessFlags := 10, nameIndex := 15, descriptorIndex := 16, attributes := #[] }, { accessFlags := 10, nameIndex := 25, descriptorIndex := 26, attributes := #[] }] 49 2 #[] #[])
  fields := #[]
  methods := #[k1m0, k1m1, k1m2, k1m3, k1m4]
  instanceTypes := #[]
  staticTypes := #[]
  resolved := Array.replicate 42 none
  statics := none }

def pool2 : Array CpInfo := pool [(1, .class_ 2), (0, u "java/io/Serializable"), (0, .class_ 4), (0, u "java/lang/Object")] 2

/-- java/io/Serializable -/
def k2 : Class := { plain "java/io/Serializable" (some 0) with
  accessFlags := 1537
  interfaces := #[]
  cf := some (fileOf pool2 1 #[] #[] 1537 3 #[] #[])
  fields := #[]
  methods := #[]
  instanceTypes := #[]
  staticTypes := #[]
  resolved := Array.replicate 7 none
  statics := none }

def pool3 : Array CpInfo := pool [(1, .class_ 2), (0, u "java/lang/Comparable"), (0, .class_ 4), (0, u "java/lang/Object")] 7

/-- java/lang/Comparable -/
def k3 : Class := { plain "java/lang/Comparable" (some 0) with
  accessFlags := 1537
  interfaces := #[]
  cf := some (fileOf pool3 1 #[] #[] 1537 3 #[] #[])
  fields := #[]
  methods := #[]
  instanceTypes := #[]
  staticTypes := #[]
  resolved := Array.replicate 12 none
  statics := none }

def pool4 : Array CpInfo := pool [(2, .class_ 4), (1, u "java/lang/CharSequence"), (42, .class_ 48), (0, u "java/lang/CharSequence$1CodePointIterator"), (10, .class_ 60), (0, u "java/lang/CharSequence$1CharIterator"), (5, .class_ 67), (0, u "java/lang/Object"), (10, u "toString"), (0, u "()Ljava/lang/String;")] 51

def k4m0 : Method := { name := "toString", desc := "()Ljava/lang/String;", sig := { parameters := [], returnType := some (.object "java/lang/String") }, accessFlags := 1025, code := none }
/-- java/lang/CharSequence -/
def k4 : Class := { plain "java/lang/CharSequence" (some 0) with
  accessFlags := 1537
  interfaces := #[]
  cf := some (fileOf pool4 2 #[.nestMembers #[47, 59]] #[{ accessFlags := 1025, nameIndex := 78, descriptorIndex := 79, attributes := #[] }] 1537 66 #[] #[])
  fields := #[]
  methods := #[k4m0]
  instanceTypes := #[]
  staticTypes := #[]
  resolved := Array.replicate 131 none
  statics := none }

def pool5 : Array CpInfo := pool [(1, .class_ 2), (0, u "java/lang/constant/Constable"), (0, .class_ 4), (0, u "java/lang/Object")] 6

/-- java/lang/constant/Constable -/
def k5 : Class := { plain "java/lang/constant/Constable" (some 0) with
  accessFlags := 1537
  interfaces := #[]
  cf := some (fileOf pool5 1 #[] #[] 1537 3 #[] #[])
  fields := #[]
  methods := #[]
  instanceTypes := #[]
  staticTypes := #[]
  resolved := Array.replicate 11 none
  statics := none }

def pool6 : Array CpInfo := pool [(1, .class_ 2), (0, u "java/lang/constant/ConstantDesc"), (0, .class_ 4), (0, u "java/lang/Object")] 32

/-- java/lang/constant/ConstantDesc -/
def k6 : Class := { plain "java/lang/constant/ConstantDesc" (some 0) with
  accessFlags := 1537
  interfaces := #[]
  cf := some (fileOf pool6 1 #[] #[] 1537 3 #[] #[])
  fields := #[]
  methods := #[]
  instanceTypes := #[]
  staticTypes := #[]
  resolved := Array.replicate 37 none
  statics := none }

def pool7 : Array CpInfo := pool [(1, .methodref 2 3), (0, .class_ 4), (0, .nameAndType 5 6), (0, u "java/lang/Object"), (0, u "<init>"), (0, u "()V"), (2, .fieldref 10 11), (0, .class_ 12), (0, .nameAndType 13 14), (0, u "java/lang/String"), (0, u "value"), (0, u "[B"), (0, .fieldref 10 16), (0, .nameAndType 17 18), (0, u "coder"), (0, u "B"), (2, u "hash"), (0, u "I"), (2, u "hashIsZero"), (0, u "Z"), (0, .methodref 10 28), (0, .nameAndType 5 29), (0, u "([CIILjava/lang/Void;)V"), (8, .fieldref 10 39), (0, .nameAndType 40 26), (0, u "COMPACT_STRINGS"), (1, .class_ 44), (1, u "java/lang/StringUTF16"), (0, u "compress"), (1, .methodref 42 48), (0, .nameAndType 49 50), (0, u "coderFromArrayLen"), (0, u "([BI)B"), (56, .class_ 109), (1, u "java/lang/StringLatin1"), (32, u "()Z"), (34, .methodref 42 178), (0, .nameAndType 45 179), (0, u "([CII)[B"), (31, u "([BB)V"), (122, u "()I"), (0, .methodref 10 336), (0, .nameAndType 17 337), (0, u "()B"), (25, u "([BI)C"), (27, u "(II)V"), (35, u "(I)C"), (34, .nameAndType 463 464), (0, u "toString"), (0, u "()Ljava/lang/String;"), (27, .methodref 10 493), (0, .nameAndType 494 142), (0, u "isLatin1"), (0, .methodref 107 496), (0, .nameAndType 497 363), (0, u "charAt"), (3, u "checkIndex"), (3, .methodref 10 506), (0, .nameAndType 507 334), (0, u "length"), (5, u "checkFromToIndex"), (7, .methodref 10 522), (0, .nameAndType 523 524), (0, u "checkBoundsBeginEnd"), (0, u "(III)V"), (16, .methodref 107 542), (0, .nameAndType 543 544), (0, u "equals"), (0, u "([B[B)Z"), (3, u "(Ljava/lang/CharSequence;)Z"), (24, u "(Ljava/lang/Object;)Z"), (1, .class_ 576), (0, u "java/lang/CharSequence"), (1, .nameAndType 497 427), (10, u "([B[B)I"), (9, u "CASE_INSENSITIVE_ORDER"), (0, u "Ljava/util/Comparator;"), (32, .methodref 10 634), (0, .nameAndType 635 636), (0, u "indexOf"), (0, u "(II)I"), (0, .methodref 107 638), (0, .nameAndType 635 639), (0, u "([BIII)I"), (7, .methodref 107 648), (0, .nameAndType 635 589), (7, .methodref 10 578), (24, .methodref 10 682), (0, .nameAndType 683 684), (0, u "substring"), (0, u "(II)Ljava/lang/String;"), (0, .methodref 107 686), (0, .nameAndType 687 688), (0, u "newString"), (0, u "([BII)Ljava/lang/String;"), (3, u "isEmpty"), (17, .interfaceMethodref 575 462), (0, .methodref 10 712), (0, .nameAndType 635 713), (0, u "(Ljava/lang/String;)I"), (43, .methodref 10 758), (0, .nameAndType 759 760), (0, u "split"), (0, u "(Ljava/lang/String;IZ)[Ljava/lang/String;"), (0, .string 762), (0, u ".$|()[{^?*+\\"), (0, .methodref 10 764), (0, .nameAndType 635 765), (0, u "(I)I"), (0, .integer 55296), (1, .methodref 10 769), (0, .nameAndType 759 770), (0, u "(CIZ)[Ljava/lang/String;"), (6, .class_ 778), (0, u "java/util/ArrayList"), (0, .methodref 777 3), (4, .methodref 777 785), (0, .nameAndType 786 573), (0, u "add"), (0, .methodref 777 788), (0, .nameAndType 789 334), (0, u "size"), (4, .methodref 777 795), (0, .nameAndType 796 797), (0, u "subList"), (0, u "(II)Ljava/util/List;"), (0, .interfaceMethodref 799 800), (0, .class_ 801), (0, .nameAndType 802 803), (0, u "java/util/List"), (0, u "toArray"), (0, u "([Ljava/lang/Object;)[Ljava/lang/Object;"), (0, .class_ 805), (0, u "[Ljava/lang/String;"), (204, u "([C)V"), (42, .fieldref 1054 1055), (0, .class_ 1056), (0, .nameAndType 1057 1058), (0, u "jdk/internal/util/Preconditions"), (0, u "SIOOBE_FORMATTER"), (0, u "Ljava/util/function/BiFunction;"), (0, .methodref 1054 1060), (0, .nameAndType 501 1061), (0, u "(IILjava/util/function/BiFunction;)I"), (0, .methodref 1054 1063), (0, .nameAndType 513 1064), (0, u "(IIILjava/util/function/BiFunction;)I"), (36, u "serialPersistentFields"), (0, u "[Ljava/io/ObjectStreamField;"), (0, .class_ 1104), (0, u "java/lang/String$CaseInsensitiveComparator"), (1, .class_ 1107), (0, u "java/io/Serializable"), (0, .class_ 1109), (0, u "java/lang/Comparable"), (0, .class_ 1111), (0, u "java/lang/constant/Constable"), (0, .class_ 1113), (0, u "java/lang/constant/ConstantDesc"), (2, u "serialVersionUID"), (0, u "J"), (3, u "REPL"), (0, u "C"), (2, u "LATIN1"), (1, u "UTF16"), (163, u "contains"), (15, u "(Ljava/lang/String;I)[Ljava/lang/String;")] 143

def k7m0 : Method := { name := "<init>", desc := "()V", sig := { parameters := [], returnType := none }, accessFlags := 1, code := none }
def k7c1 : Code := { maxStack := 5, maxLocals := 2, code := jdk_42_method_3_code, exceptionTable := #[], attributes := #[] }
def k7m1 : Method := { name := "<init>", desc := "([C)V", sig := { parameters := [(.array .char)], returnType := none }, accessFlags := 1, code := some k7c1 }
def k7c2 : Code := { maxStack := 2, maxLocals := 1, code := jdk_42_method_54_code, exceptionTable := #[], attributes := #[] }
def k7m2 : Method := { name := "length", desc := "()I", sig := { parameters := [], returnType := some .int }, accessFlags := 1, code := some k7c2 }
def k7c3 : Code := { maxStack := 1, maxLocals := 1, code := jdk_42_method_55_code, exceptionTable := #[], attributes := #[] }
def k7m3 : Method := { name := "isEmpty", desc := "()Z", sig := { parameters := [], returnType := some .boolean }, accessFlags := 1, code := some k7c3 }
def k7c4 : Code := { maxStack := 2, maxLocals := 2, code := jdk_42_method_56_code, exceptionTable := #[], attributes := #[] }
def k7m4 : Method := { name := "charAt", desc := "(I)C", sig := { parameters := [.int], returnType := some .char }, accessFlags := 1, code := some k7c4 }
def k7c5 : Code := { maxStack := 2, maxLocals := 3, code := jdk_42_method_66_code, exceptionTable := #[], attributes := #[] }
def k7m5 : Method := { name := "equals", desc := "(Ljava/lang/Object;)Z", sig := { parameters := [(.object "java/lang/Object")], returnType := some .boolean }, accessFlags := 1, code := some k7c5 }
def k7c6 : Code := { maxStack := 3, maxLocals := 2, code := jdk_42_method_79_code, exceptionTable := #[], attributes := #[] }
def k7m6 : Method := { name := "indexOf", desc := "(I)I", sig := { parameters := [.int], returnType := some .int }, accessFlags := 1, code := some k7c6 }
def k7c7 : Code := { maxStack := 4, maxLocals := 3, code := jdk_42_method_80_code, exceptionTable := #[], attributes := #[] }
def k7m7 : Method := { name := "indexOf", desc := "(II)I", sig := { parameters := [.int, .int], returnType := some .int }, accessFlags := 1, code := some k7c7 }
def k7c8 : Code := { maxStack := 2, maxLocals := 3, code := jdk_42_method_84_code, exceptionTable := #[], attributes := #[] }
def k7m8 : Method := { name := "indexOf", desc := "(Ljava/lang/String;)I", sig := { parameters := [(.object "java/lang/String")], returnType := some .int }, accessFlags := 1, code := some k7c8 }
def k7c9 : Code := { maxStack := 3, maxLocals := 5, code := jdk_42_method_92_code, exceptionTable := #[], attributes := #[] }
def k7m9 : Method := { name := "substring", desc := "(II)Ljava/lang/String;", sig := { parameters := [.int, .int], returnType := some (.object "java/lang/String") }, accessFlags := 1, code := some k7c9 }
def k7c10 : Code := { maxStack := 2, maxLocals := 2, code := jdk_42_method_97_code, exceptionTable := #[], attributes := #[] }
def k7m10 : Method := { name := "contains", desc := "(Ljava/lang/CharSequence;)Z", sig := { parameters := [(.object "java/lang/CharSequence")], returnType := some .boolean }, accessFlags := 1, code := some k7c10 }
def k7c11 : Code := { maxStack := 4, maxLocals := 3, code := jdk_42_method_101_code, exceptionTable := #[], attributes := #[] }
def k7m11 : Method := { name := "split", desc := "(Ljava/lang/String;I)[Ljava/lang/String;", sig := { parameters := [(.object "java/lang/String"), .int], returnType := some (.array (.object "java/lang/String")) }, accessFlags := 1, code := some k7c11 }
def k7c12 : Code := { maxStack := 4, maxLocals := 6, code := jdk_42_method_103_code, exceptionTable := #[], attributes := #[] }
def k7m12 : Method := { name := "split", desc := "(Ljava/lang/String;IZ)[Ljava/lang/String;", sig := { parameters := [(.object "java/lang/String"), .int, .boolean], returnType := some (.array (.object "java/lang/String")) }, accessFlags := 2, code := some k7c12 }
def k7c13 : Code := { maxStack := 4, maxLocals := 12, code := jdk_42_method_104_code, exceptionTable := #[], attributes := #[] }
def k7m13 : Method := { name := "split", desc := "(CIZ)[Ljava/lang/String;", sig := { parameters := [.char, .int, .boolean], returnType := some (.array (.object "java/lang/String")) }, accessFlags := 2, code := some k7c13 }
def k7c14 : Code := { maxStack := 1, maxLocals := 1, code := jdk_42_method_126_code, exceptionTable := #[], attributes := #[] }
def k7m14 : Method := { name := "toString", desc := "()Ljava/lang/String;", sig := { parameters := [], returnType := some (.object "java/lang/String") }, accessFlags := 1, code := some k7c14 }
def k7c15 : Code := { maxStack := 4, maxLocals := 6, code := jdk_42_method_149_code, exceptionTable := #[], attributes := #[] }
def k7m15 : Method := { name := "<init>", desc := "([CIILjava/lang/Void;)V", sig := { parameters := [(.array .char), .int, .int, (.object "java/lang/Void")], returnType := none }, accessFlags := 2, code := some k7c15 }
def k7c16 : Code := { maxStack := 2, maxLocals := 3, code := jdk_42_method_151_code, exceptionTable := #[], attributes := #[] }
def k7m16 : Method := { name := "<init>", desc := "([BB)V", sig := { parameters := [(.array .byte), .byte], returnType := none }, accessFlags := 0, code := some k7c16 }
def k7c17 : Code := { maxStack := 1, maxLocals := 1, code := jdk_42_method_152_code, exceptionTable := #[], attributes := #[] }
def k7m17 : Method := { name := "coder", desc := "()B", sig := { parameters := [], returnType := some .byte }, accessFlags := 0, code := some k7c17 }
def k7c18 : Code := { maxStack := 1, maxLocals := 1, code := jdk_42_method_154_code, exceptionTable := #[], attributes := #[] }
def k7m18 : Method := { name := "isLatin1", desc := "()Z", sig := { parameters := [], returnType := some .boolean }, accessFlags := 0, code := some k7c18 }
def k7c19 : Code := { maxStack := 3, maxLocals := 2, code := jdk_42_method_155_code, exceptionTable := #[], attributes := #[] }
def k7m19 : Method := { name := "checkIndex", desc := "(II)V", sig := { parameters := [.int, .int], returnType := none }, accessFlags := 8, code := some k7c19 }
def k7c20 : Code := { maxStack := 4, maxLocals := 3, code := jdk_42_method_158_code, exceptionTable := #[], attributes := #[] }
def k7m20 : Method := { name := "checkBoundsBeginEnd", desc := "(III)V", sig := { parameters := [.int, .int, .int], returnType := none }, accessFlags := 8, code := some k7c20 }
/-- java/lang/String -/
def k7 : Class := { plain "java/lang/String" (some 0) with
  accessFlags := 49
  interfaces := #[2, 3, 4, 5, 6]
  cf := some (fileOf pool7 10 #[.nestMembers #[1103]] #[{ accessFlags := 1, nameIndex := 5, descriptorIndex := 6, attributes := #[] }, { accessFlags := 1, nameIndex := 5, descriptorIndex := 1010, attributes := #[] }, { accessFlags := 1, nameIndex := 507, descriptorIndex := 334, attributes := #[] }, { accessFlags := 1, nameIndex := 692, descriptorIndex := 142, attributes := #[] }, { accessFlags := 1, nameIndex := 497, descriptorIndex := 427, attributes := #[] }, { accessFlags := 1, nameIndex := 543, descriptorIndex := 573, attributes := #[] }, { accessFlags := 1, nameIndex := 635, descriptorIndex := 765, attributes := #[] }, { accessFlags := 1, nameIndex := 635, descriptorIndex := 636, attributes := #[] }, { accessFlags := 1, nameIndex := 635, descriptorIndex := 713, attributes := #[] }, { accessFlags := 1, nameIndex := 683, descriptorIndex := 684, attributes := #[] }, { accessFlags := 1, nameIndex := 1291, descriptorIndex := 548, attributes := #[] }, { accessFlags := 1, nameIndex := 759, descriptorIndex := 1307, attributes := #[] }, { accessFlags := 2, nameIndex := 759, descriptorIndex := 760, attributes := #[] }, { accessFlags := 2, nameIndex := 759, descriptorIndex := 770, attributes := #[] }, { accessFlags := 1, nameIndex := 463, descriptorIndex := 464, attributes := #[] }, { accessFlags := 2, nameIndex := 5, descriptorIndex := 29, attributes := #[] }, { accessFlags := 0, nameIndex := 5, descriptorIndex := 211, attributes := #[] }, { accessFlags := 0, nameIndex := 17, descriptorIndex := 337, attributes := #[] }, { accessFlags := 0, nameIndex := 494, descriptorIndex := 142, attributes := #[] }, { accessFlags := 8, nameIndex := 501, descriptorIndex := 391, attributes := #[] }, { accessFlags := 8, nameIndex := 523, descriptorIndex := 524, attributes := #[] }] 49 2 #[1106, 1108, 575, 1110, 1112] #[{ accessFlags := 18, nameIndex := 13, descriptorIndex := 14, attributes := #[] }, { accessFlags := 18, nameIndex := 17, descriptorIndex := 18, attributes := #[] }, { accessFlags := 2, nameIndex := 21, descriptorIndex := 22, attributes := #[] }, { accessFlags := 2, nameIndex := 25, descriptorIndex := 26, attributes := #[] }, { accessFlags := 26, nameIndex := 1116, descriptorIndex := 1117, attributes := #[] }, { accessFlags := 24, nameIndex := 40, descriptorIndex := 26, attributes := #[] }, { accessFlags := 26, nameIndex := 1101, descriptorIndex := 1102, attributes := #[] }, { accessFlags := 26, nameIndex := 1121, descriptorIndex := 1122, attributes := #[] }, { accessFlags := 25, nameIndex := 599, descriptorIndex := 600, attributes := #[] }, { accessFlags := 24, nameIndex := 1125, descriptorIndex := 18, attributes := #[] }, { accessFlags := 24, nameIndex := 1127, descriptorIndex := 18, attributes := #[] }])
  fields := #[{ name := "value", type := (.array .byte), accessFlags := 18, slot := 0, constantValue := 0 }, { name := "coder", type := .byte, accessFlags := 18, slot := 1, constantValue := 0 }, { name := "hash", type := .int, accessFlags := 2, slot := 2, constantValue := 0 }, { name := "hashIsZero", type := .boolean, accessFlags := 2, slot := 3, constantValue := 0 }, { name := "serialVersionUID", type := .long, accessFlags := 26, slot := 0, constantValue := 0 }, { name := "COMPACT_STRINGS", type := .boolean, accessFlags := 24, slot := 1, constantValue := 0 }, { name := "serialPersistentFields", type := (.array (.object "java/io/ObjectStreamField")), accessFlags := 26, slot := 2, constantValue := 0 }, { name := "REPL", type := .char, accessFlags := 26, slot := 3, constantValue := 0 }, { name := "CASE_INSENSITIVE_ORDER", type := (.object "java/util/Comparator"), accessFlags := 25, slot := 4, constantValue := 0 }, { name := "LATIN1", type := .byte, accessFlags := 24, slot := 5, constantValue := 0 }, { name := "UTF16", type := .byte, accessFlags := 24, slot := 6, constantValue := 0 }]
  methods := #[k7m0, k7m1, k7m2, k7m3, k7m4, k7m5, k7m6, k7m7, k7m8, k7m9, k7m10, k7m11, k7m12, k7m13, k7m14, k7m15, k7m16, k7m17, k7m18, k7m19, k7m20]
  instanceTypes := #[(.array .byte), .byte, .int, .boolean]
  staticTypes := #[.long, .boolean, (.array (.object "java/io/ObjectStreamField")), .char, (.object "java/util/Comparator"), .byte, .byte]
  resolved := Array.replicate 1451 none
  statics := some 0 }

def pool8 : Array CpInfo := pool [(6, .class_ 8), (1, u "java/lang/Object"), (0, u "<init>"), (0, u "()V"), (1, .class_ 14), (1, u "java/lang/StringUTF16"), (31, u "$assertionsDisabled"), (0, u "Z"), (13, u "HI_BYTE_SHIFT"), (0, u "I"), (2, u "LO_BYTE_SHIFT"), (49, .methodref 12 116), (0, .nameAndType 117 118), (0, u "compress"), (0, u "([CI[BII)I"), (3, u "([CII)[B"), (138, u "coderFromArrayLen"), (0, u "([BI)B"), (106, .class_ 371), (1, u "java/lang/StringUTF16$LinesSpliterator"), (58, u "MAX_LENGTH"), (196, .class_ 628), (0, u "java/lang/StringUTF16$CodePointsSpliterator"), (0, .class_ 630), (0, u "java/lang/StringUTF16$CharsSpliterator")] 4

def k8m0 : Method := { name := "<init>", desc := "()V", sig := { parameters := [], returnType := none }, accessFlags := 0, code := none }
def k8c1 : Code := { maxStack := 2, maxLocals := 2, code := jdk_52_method_15_code, exceptionTable := #[], attributes := #[] }
def k8m1 : Method := { name := "coderFromArrayLen", desc := "([BI)B", sig := { parameters := [(.array .byte), .int], returnType := some .byte }, accessFlags := 8, code := some k8c1 }
def k8c2 : Code := { maxStack := 5, maxLocals := 6, code := jdk_52_method_16_code, exceptionTable := #[], attributes := #[] }
def k8m2 : Method := { name := "compress", desc := "([CII)[B", sig := { parameters := [(.array .char), .int, .int], returnType := some (.array .byte) }, accessFlags := 9, code := some k8c2 }
def k8c3 : Code := { maxStack := 3, maxLocals := 7, code := jdk_52_method_21_code, exceptionTable := #[], attributes := #[] }
def k8m3 : Method := { name := "compress", desc := "([CI[BII)I", sig := { parameters := [(.array .char), .int, (.array .byte), .int, .int], returnType := some .int }, accessFlags := 9, code := some k8c3 }
/-- java/lang/StringUTF16 -/
def k8 : Class := { plain "java/lang/StringUTF16" (some 0) with
  accessFlags := 48
  interfaces := #[]
  cf := some (fileOf pool8 12 #[.nestMembers #[627, 629, 369]] #[{ accessFlags := 0, nameIndex := 9, descriptorIndex := 10, attributes := #[] }, { accessFlags := 8, nameIndex := 261, descriptorIndex := 262, attributes := #[] }, { accessFlags := 9, nameIndex := 117, descriptorIndex := 122, attributes := #[] }, { accessFlags := 9, nameIndex := 117, descriptorIndex := 118, attributes := #[] }] 48 6 #[] #[{ accessFlags := 26, nameIndex := 61, descriptorIndex := 62, attributes := #[] }, { accessFlags := 26, nameIndex := 65, descriptorIndex := 62, attributes := #[] }, { accessFlags := 24, nameIndex := 430, descriptorIndex := 62, attributes := #[] }, { accessFlags := 4120, nameIndex := 46, descriptorIndex := 47, attributes := #[] }])
  fields := #[{ name := "HI_BYTE_SHIFT", type := .int, accessFlags := 26, slot := 0, constantValue := 0 }, { name := "LO_BYTE_SHIFT", type := .int, accessFlags := 26, slot := 1, constantValue := 0 }, { name := "MAX_LENGTH", type := .int, accessFlags := 24, slot := 2, constantValue := 0 }, { name := "$assertionsDisabled", type := .boolean, accessFlags := 4120, slot := 3, constantValue := 0 }]
  methods := #[k8m0, k8m1, k8m2, k8m3]
  instanceTypes := #[]
  staticTypes := #[.int, .int, .int, .boolean]
  resolved := Array.replicate 635 none
  statics := none }

def pool9 : Array CpInfo := pool [(2, .class_ 4), (1, u "java/lang/Object"), (0, u "<init>"), (0, u "()V"), (0, .string 8), (0, u "/"), (0, .methodref 10 11), (0, .class_ 12), (0, .nameAndType 13 14), (0, u "java/lang/String"), (0, u "split"), (0, u "(Ljava/lang/String;I)[Ljava/lang/String;"), (2, u "indexOf"), (10, u "(Ljava/lang/String;)Z"), (0, .methodref 10 30), (0, .nameAndType 31 32), (0, u "isEmpty"), (0, u "()Z"), (0, .methodref 10 34), (0, .nameAndType 17 35), (0, u "(I)I"), (0, .methodref 37 38), (0, .class_ 39), (0, .nameAndType 40 41), (0, u "com/example/corduroy/corduroy/Topics"), (0, u "levels"), (0, u "(Ljava/lang/String;)[Ljava/lang/String;"), (0, .string 43), (0, u "#"), (0, .methodref 10 45), (0, .nameAndType 46 47), (0, u "equals"), (0, u "(Ljava/lang/Object;)Z"), (0, .string 49), (0, u "+"), (56, .methodref 10 107), (0, .nameAndType 108 109), (0, u "contains"), (0, u "(Ljava/lang/CharSequence;)Z"), (4, u "SINGLE_LEVEL"), (0, u "Ljava/lang/String;"), (1, u "MULTI_LEVEL"), (0, u "MAX_BYTES"), (0, u "I"), (5, u "isValidFilter"), (8, u "hasWildcard")] 2

def k9m0 : Method := { name := "<init>", desc := "()V", sig := { parameters := [], returnType := none }, accessFlags := 2, code := none }
def k9c1 : Code := { maxStack := 3, maxLocals := 1, code := prog_29_method_2_code, exceptionTable := #[], attributes := #[] }
def k9m1 : Method := { name := "levels", desc := "(Ljava/lang/String;)[Ljava/lang/String;", sig := { parameters := [(.object "java/lang/String")], returnType := some (.array (.object "java/lang/String")) }, accessFlags := 8, code := some k9c1 }
def k9c2 : Code := { maxStack := 3, maxLocals := 5, code := prog_29_method_5_code, exceptionTable := #[], attributes := #[] }
def k9m2 : Method := { name := "isValidFilter", desc := "(Ljava/lang/String;)Z", sig := { parameters := [(.object "java/lang/String")], returnType := some .boolean }, accessFlags := 8, code := some k9c2 }
def k9c3 : Code := { maxStack := 2, maxLocals := 1, code := prog_29_method_13_code, exceptionTable := #[], attributes := #[] }
def k9m3 : Method := { name := "hasWildcard", desc := "(Ljava/lang/String;)Z", sig := { parameters := [(.object "java/lang/String")], returnType := some .boolean }, accessFlags := 8, code := some k9c3 }
/-- com/example/corduroy/corduroy/Topics -/
def k9 : Class := { plain "com/example/corduroy/corduroy/Topics" (some 0) with
  accessFlags := 48
  interfaces := #[]
  cf := some (fileOf pool9 37 #[] #[{ accessFlags := 2, nameIndex := 5, descriptorIndex := 6, attributes := #[] }, { accessFlags := 8, nameIndex := 40, descriptorIndex := 41, attributes := #[] }, { accessFlags := 8, nameIndex := 125, descriptorIndex := 28, attributes := #[] }, { accessFlags := 8, nameIndex := 134, descriptorIndex := 28, attributes := #[] }] 48 2 #[] #[{ accessFlags := 24, nameIndex := 114, descriptorIndex := 115, attributes := #[] }, { accessFlags := 24, nameIndex := 117, descriptorIndex := 115, attributes := #[] }, { accessFlags := 24, nameIndex := 118, descriptorIndex := 119, attributes := #[] }])
  fields := #[{ name := "SINGLE_LEVEL", type := (.object "java/lang/String"), accessFlags := 24, slot := 0, constantValue := 0 }, { name := "MULTI_LEVEL", type := (.object "java/lang/String"), accessFlags := 24, slot := 1, constantValue := 0 }, { name := "MAX_BYTES", type := .int, accessFlags := 24, slot := 2, constantValue := 0 }]
  methods := #[k9m0, k9m1, k9m2, k9m3]
  instanceTypes := #[]
  staticTypes := #[(.object "java/lang/String"), (.object "java/lang/String"), .int]
  resolved := Array.replicate 137 none
  statics := none }

def pool10 : Array CpInfo := pool [(1, .class_ 2), (0, u "java/lang/String"), (1, .class_ 6), (1, u "java/lang/Object"), (0, u "<init>"), (0, u "()V"), (0, .methodref 1 10), (0, .nameAndType 11 12), (0, u "checkIndex"), (0, u "(II)V"), (1, .class_ 16), (1, u "java/lang/StringLatin1"), (21, .methodref 39 40), (0, .class_ 41), (0, .nameAndType 42 43), (0, u "java/lang/Math"), (0, u "min"), (0, u "(II)I"), (9, u "([BI)C"), (34, .methodref 14 89), (0, .nameAndType 90 91), (0, u "canEncode"), (0, u "(I)Z"), (0, .methodref 39 93), (0, .nameAndType 94 43), (0, u "max"), (0, .methodref 14 96), (0, .nameAndType 97 98), (0, u "indexOfChar"), (0, u "([BIII)I"), (0, .methodref 14 100), (0, .nameAndType 101 102), (0, u "indexOf"), (0, u "([BI[BII)I"), (9, .methodref 1 113), (0, .nameAndType 7 114), (0, u "([BB)V"), (6, u "$assertionsDisabled"), (0, u "Z"), (8, .class_ 133), (1, u "java/util/Arrays"), (17, .string 152), (0, u ""), (43, u "newString"), (0, u "([BII)Ljava/lang/String;"), (23, .class_ 223), (1, u "java/lang/StringLatin1$LinesSpliterator"), (8, .methodref 131 233), (0, .nameAndType 234 235), (0, u "copyOfRange"), (0, u "([BII)[B"), (16, u "charAt"), (28, u "equals"), (0, u "([B[B)Z"), (4, u "([B[B)I"), (102, .class_ 391), (0, u "java/lang/StringLatin1$CharsSpliterator")] 3

def k10m0 : Method := { name := "<init>", desc := "()V", sig := { parameters := [], returnType := none }, accessFlags := 0, code := none }
def k10c1 : Code := { maxStack := 2, maxLocals := 2, code := jdk_43_method_2_code, exceptionTable := #[], attributes := #[] }
def k10m1 : Method := { name := "charAt", desc := "([BI)C", sig := { parameters := [(.array .byte), .int], returnType := some .char }, accessFlags := 9, code := some k10c1 }
def k10c2 : Code := { maxStack := 2, maxLocals := 1, code := jdk_43_method_4_code, exceptionTable := #[], attributes := #[] }
def k10m2 : Method := { name := "canEncode", desc := "(I)Z", sig := { parameters := [.int], returnType := some .boolean }, accessFlags := 9, code := some k10c2 }
def k10c3 : Code := { maxStack := 3, maxLocals := 3, code := jdk_43_method_13_code, exceptionTable := #[], attributes := #[] }
def k10m3 : Method := { name := "equals", desc := "([B[B)Z", sig := { parameters := [(.array .byte), (.array .byte)], returnType := some .boolean }, accessFlags := 9, code := some k10c3 }
def k10c4 : Code := { maxStack := 4, maxLocals := 4, code := jdk_43_method_22_code, exceptionTable := #[], attributes := #[] }
def k10m4 : Method := { name := "indexOf", desc := "([BIII)I", sig := { parameters := [(.array .byte), .int, .int, .int], returnType := some .int }, accessFlags := 9, code := some k10c4 }
def k10c5 : Code := { maxStack := 2, maxLocals := 6, code := jdk_43_method_23_code, exceptionTable := #[], attributes := #[] }
def k10m5 : Method := { name := "indexOfChar", desc := "([BIII)I", sig := { parameters := [(.array .byte), .int, .int, .int], returnType := some .int }, accessFlags := 10, code := some k10c5 }
def k10c6 : Code := { maxStack := 5, maxLocals := 2, code := jdk_43_method_24_code, exceptionTable := #[], attributes := #[] }
def k10m6 : Method := { name := "indexOf", desc := "([B[B)I", sig := { parameters := [(.array .byte), (.array .byte)], returnType := some .int }, accessFlags := 9, code := some k10c6 }
def k10c7 : Code := { maxStack := 3, maxLocals := 11, code := jdk_43_method_25_code, exceptionTable := #[], attributes := #[] }
def k10m7 : Method := { name := "indexOf", desc := "([BI[BII)I", sig := { parameters := [(.array .byte), .int, (.array .byte), .int, .int], returnType := some .int }, accessFlags := 9, code := some k10c7 }
def k10c8 : Code := { maxStack := 6, maxLocals := 3, code := jdk_43_method_47_code, exceptionTable := #[], attributes := #[] }
def k10m8 : Method := { name := "newString", desc := "([BII)Ljava/lang/String;", sig := { parameters := [(.array .byte), .int, .int], returnType := some (.object "java/lang/String") }, accessFlags := 9, code := some k10c8 }
/-- java/lang/StringLatin1 -/
def k10 : Class := { plain "java/lang/StringLatin1" (some 0) with
  accessFlags := 48
  interfaces := #[]
  cf := some (fileOf pool10 14 #[.nestMembers #[390, 221]] #[{ accessFlags := 0, nameIndex := 7, descriptorIndex := 8, attributes := #[] }, { accessFlags := 9, nameIndex := 252, descriptorIndex := 53, attributes := #[] }, { accessFlags := 9, nameIndex := 90, descriptorIndex := 91, attributes := #[] }, { accessFlags := 9, nameIndex := 281, descriptorIndex := 282, attributes := #[] }, { accessFlags := 9, nameIndex := 101, descriptorIndex := 98, attributes := #[] }, { accessFlags := 10, nameIndex := 97, descriptorIndex := 98, attributes := #[] }, { accessFlags := 9, nameIndex := 101, descriptorIndex := 287, attributes := #[] }, { accessFlags := 9, nameIndex := 101, descriptorIndex := 102, attributes := #[] }, { accessFlags := 9, nameIndex := 196, descriptorIndex := 197, attributes := #[] }] 48 4 #[] #[{ accessFlags := 4120, nameIndex := 121, descriptorIndex := 122, attributes := #[] }])
  fields := #[{ name := "$assertionsDisabled", type := .boolean, accessFlags := 4120, slot := 0, constantValue := 0 }]
  methods := #[k10m0, k10m1, k10m2, k10m3, k10m4, k10m5, k10m6, k10m7, k10m8]
  instanceTypes := #[]
  staticTypes := #[.boolean]
  resolved := Array.replicate 395 none
  statics := none }

def pool11 : Array CpInfo := pool [(1, .class_ 2), (0, u "java/lang/Math"), (1, .class_ 6), (1, u "java/lang/Object"), (0, u "<init>"), (0, u "()V"), (89, .class_ 100), (1, u "java/lang/Math$RandomNumberGeneratorHolder"), (71, u "negativeZeroFloatBits"), (0, u "J"), (2, u "negativeZeroDoubleBits"), (21, u "max"), (2, u "min"), (43, u "$assertionsDisabled"), (0, u "Z"), (88, u "(II)I"), (2, u "twoToTheDoubleScaleDown"), (0, u "D"), (4, u "twoToTheDoubleScaleUp"), (9, u "E"), (3, u "PI"), (2, u "TAU"), (2, u "DEGREES_TO_RADIANS"), (0, u "RADIANS_TO_DEGREES")] 94

def k11m0 : Method := { name := "<init>", desc := "()V", sig := { parameters := [], returnType := none }, accessFlags := 2, code := none }
def k11c1 : Code := { maxStack := 2, maxLocals := 2, code := jdk_29_method_65_code, exceptionTable := #[], attributes := #[] }
def k11m1 : Method := { name := "max", desc := "(II)I", sig := { parameters := [.int, .int], returnType := some .int }, accessFlags := 9, code := some k11c1 }
def k11c2 : Code := { maxStack := 2, maxLocals := 2, code := jdk_29_method_69_code, exceptionTable := #[], attributes := #[] }
def k11m2 : Method := { name := "min", desc := "(II)I", sig := { parameters := [.int, .int], returnType := some .int }, accessFlags := 9, code := some k11c2 }
/-- java/lang/Math -/
def k11 : Class := { plain "java/lang/Math" (some 0) with
  accessFlags := 49
  interfaces := #[]
  cf := some (fileOf pool11 1 #[.nestMembers #[98]] #[{ accessFlags := 2, nameIndex := 7, descriptorIndex := 8, attributes := #[] }, { accessFlags := 9, nameIndex := 198, descriptorIndex := 335, attributes := #[] }, { accessFlags := 9, nameIndex := 201, descriptorIndex := 335, attributes := #[] }] 49 4 #[] #[{ accessFlags := 25, nameIndex := 354, descriptorIndex := 339, attributes := #[] }, { accessFlags := 25, nameIndex := 358, descriptorIndex := 339, attributes := #[] }, { accessFlags := 25, nameIndex := 361, descriptorIndex := 339, attributes := #[] }, { accessFlags := 26, nameIndex := 364, descriptorIndex := 339, attributes := #[] }, { accessFlags := 26, nameIndex := 365, descriptorIndex := 339, attributes := #[] }, { accessFlags := 26, nameIndex := 172, descriptorIndex := 173, attributes := #[] }, { accessFlags := 26, nameIndex := 176, descriptorIndex := 173, attributes := #[] }, { accessFlags := 8, nameIndex := 344, descriptorIndex := 339, attributes := #[] }, { accessFlags := 8, nameIndex := 338, descriptorIndex := 339, attributes := #[] }, { accessFlags := 4120, nameIndex := 245, descriptorIndex := 246, attributes := #[] }])
  fields := #[{ name := "E", type := .double, accessFlags := 25, slot := 0, constantValue := 0 }, { name := "PI", type := .double, accessFlags := 25, slot := 1, constantValue := 0 }, { name := "TAU", type := .double, accessFlags := 25, slot := 2, constantValue := 0 }, { name := "DEGREES_TO_RADIANS", type := .double, accessFlags := 26, slot := 3, constantValue := 0 }, { name := "RADIANS_TO_DEGREES", type := .double, accessFlags := 26, slot := 4, constantValue := 0 }, { name := "negativeZeroFloatBits", type := .long, accessFlags := 26, slot := 5, constantValue := 0 }, { name := "negativeZeroDoubleBits", type := .long, accessFlags := 26, slot := 6, constantValue := 0 }, { name := "twoToTheDoubleScaleUp", type := .double, accessFlags := 8, slot := 7, constantValue := 0 }, { name := "twoToTheDoubleScaleDown", type := .double, accessFlags := 8, slot := 8, constantValue := 0 }, { name := "$assertionsDisabled", type := .boolean, accessFlags := 4120, slot := 9, constantValue := 0 }]
  methods := #[k11m0, k11m1, k11m2]
  instanceTypes := #[]
  staticTypes := #[.double, .double, .double, .double, .double, .long, .long, .double, .double, .boolean]
  resolved := Array.replicate 460 none
  statics := none }

def pool12 : Array CpInfo := pool [(2, .class_ 4), (1, u "java/lang/Object"), (0, u "<init>"), (0, u "()V"), (17, .class_ 26), (1, u "jdk/internal/util/Preconditions"), (6, u "checkIndex"), (13, u "checkFromToIndex"), (7, .class_ 56), (0, u "jdk/internal/util/Preconditions$4"), (57, .class_ 115), (0, u "jdk/internal/util/Preconditions$1"), (7, u "SIOOBE_FORMATTER"), (0, u "Ljava/util/function/BiFunction;"), (0, .class_ 126), (0, u "jdk/internal/util/Preconditions$2"), (3, u "AIOOBE_FORMATTER"), (0, .class_ 132), (0, u "jdk/internal/util/Preconditions$3"), (3, u "IOOBE_FORMATTER"), (41, u "(IILjava/util/function/BiFunction;)I"), (4, u "(IIILjava/util/function/BiFunction;)I")] 10

def k12m0 : Method := { name := "<init>", desc := "()V", sig := { parameters := [], returnType := none }, accessFlags := 1, code := none }
def k12c1 : Code := { maxStack := 3, maxLocals := 3, code := jdk_41_method_11_code, exceptionTable := #[], attributes := #[] }
def k12m1 : Method := { name := "checkIndex", desc := "(IILjava/util/function/BiFunction;)I", sig := { parameters := [.int, .int, (.object "java/util/function/BiFunction")], returnType := some .int }, accessFlags := 9, code := some k12c1 }
def k12c2 : Code := { maxStack := 4, maxLocals := 4, code := jdk_41_method_12_code, exceptionTable := #[], attributes := #[] }
def k12m2 : Method := { name := "checkFromToIndex", desc := "(IIILjava/util/function/BiFunction;)I", sig := { parameters := [.int, .int, .int, (.object "java/util/function/BiFunction")], returnType := some .int }, accessFlags := 9, code := some k12c2 }
/-- jdk/internal/util/Preconditions -/
def k12 : Class := { plain "jdk/internal/util/Preconditions" (some 0) with
  accessFlags := 33
  interfaces := #[]
  cf := some (fileOf pool12 24 #[.nestMembers #[55, 131, 125, 114]] #[{ accessFlags := 1, nameIndex := 5, descriptorIndex := 6, attributes := #[] }, { accessFlags := 9, nameIndex := 33, descriptorIndex := 178, attributes := #[] }, { accessFlags := 9, nameIndex := 47, descriptorIndex := 183, attributes := #[] }] 33 2 #[] #[{ accessFlags := 25, nameIndex := 123, descriptorIndex := 124, attributes := #[] }, { accessFlags := 25, nameIndex := 130, descriptorIndex := 124, attributes := #[] }, { accessFlags := 25, nameIndex := 136, descriptorIndex := 124, attributes := #[] }])
  fields := #[{ name := "SIOOBE_FORMATTER", type := (.object "java/util/function/BiFunction"), accessFlags := 25, slot := 0, constantValue := 0 }, { name := "AIOOBE_FORMATTER", type := (.object "java/util/function/BiFunction"), accessFlags := 25, slot := 1, constantValue := 0 }, { name := "IOOBE_FORMATTER", type := (.object "java/util/function/BiFunction"), accessFlags := 25, slot := 2, constantValue := 0 }]
  methods := #[k12m0, k12m1, k12m2]
  instanceTypes := #[]
  staticTypes := #[(.object "java/util/function/BiFunction"), (.object "java/util/function/BiFunction"), (.object "java/util/function/BiFunction")]
  resolved := Array.replicate 194 none
  statics := some 1 }

def pool13 : Array CpInfo := pool [(8, .class_ 10), (1, u "java/lang/Iterable"), (24, .class_ 36), (0, u "java/lang/Object")] 25

/-- java/lang/Iterable -/
def k13 : Class := { plain "java/lang/Iterable" (some 0) with
  accessFlags := 1537
  interfaces := #[]
  cf := some (fileOf pool13 8 #[] #[] 1537 35 #[] #[])
  fields := #[]
  methods := #[]
  instanceTypes := #[]
  staticTypes := #[]
  resolved := Array.replicate 62 none
  statics := none }

def pool14 : Array CpInfo := pool [(10, .class_ 12), (1, u "java/util/Collection"), (47, .class_ 61), (0, u "java/lang/Object"), (0, .class_ 63), (0, u "java/lang/Iterable")] 51

/-- java/util/Collection -/
def k14 : Class := { plain "java/util/Collection" (some 0) with
  accessFlags := 1537
  interfaces := #[13]
  cf := some (fileOf pool14 10 #[] #[] 1537 60 #[62] #[])
  fields := #[]
  methods := #[]
  instanceTypes := #[]
  staticTypes := #[]
  resolved := Array.replicate 115 none
  statics := none }

def pool15 : Array CpInfo := pool [(1, .methodref 2 3), (0, .class_ 4), (0, .nameAndType 5 6), (0, u "java/lang/Object"), (0, u "<init>"), (0, u "()V"), (1, .class_ 10), (1, u "java/util/AbstractCollection"), (66, .class_ 78), (0, u "java/util/Collection")] 81

def k15c0 : Code := { maxStack := 1, maxLocals := 1, code := jdk_22_method_1_code, exceptionTable := #[], attributes := #[] }
def k15m0 : Method := { name := "<init>", desc := "()V", sig := { parameters := [], returnType := none }, accessFlags := 4, code := some k15c0 }
/-- java/util/AbstractCollection -/
def k15 : Class := { plain "java/util/AbstractCollection" (some 0) with
  accessFlags := 1057
  interfaces := #[14]
  cf := some (fileOf pool15 8 #[] #[{ accessFlags := 4, nameIndex := 5, descriptorIndex := 6, attributes := #[] }] 1057 2 #[77] #[])
  fields := #[]
  methods := #[k15m0]
  instanceTypes := #[]
  staticTypes := #[]
  resolved := Array.replicate 160 none
  statics := none }

def pool16 : Array CpInfo := pool [(8, .class_ 10), (1, u "java/util/SequencedCollection"), (15, .class_ 27), (0, u "java/lang/Object"), (0, .class_ 29), (0, u "java/util/Collection")] 27

/-- java/util/SequencedCollection -/
def k16 : Class := { plain "java/util/SequencedCollection" (some 0) with
  accessFlags := 1537
  interfaces := #[14]
  cf := some (fileOf pool16 8 #[] #[] 1537 26 #[28] #[])
  fields := #[]
  methods := #[]
  instanceTypes := #[]
  staticTypes := #[]
  resolved := Array.replicate 57 none
  statics := none }

def pool17 : Array CpInfo := pool [(8, .class_ 10), (1, u "java/util/List"), (23, u "toArray"), (68, .class_ 104), (0, u "java/lang/Object"), (15, .class_ 121), (0, u "java/util/SequencedCollection"), (5, u "([Ljava/lang/Object;)[Ljava/lang/Object;")] 123

def k17m0 : Method := { name := "toArray", desc := "([Ljava/lang/Object;)[Ljava/lang/Object;", sig := { parameters := [(.array (.object "java/lang/Object"))], returnType := some (.array (.object "java/lang/Object")) }, accessFlags := 1025, code := none }
/-- java/util/List -/
def k17 : Class := { plain "java/util/List" (some 0) with
  accessFlags := 1537
  interfaces := #[16]
  cf := some (fileOf pool17 8 #[] #[{ accessFlags := 1025, nameIndex := 34, descriptorIndex := 127, attributes := #[] }] 1537 103 #[120] #[])
  fields := #[]
  methods := #[k17m0]
  instanceTypes := #[]
  staticTypes := #[]
  resolved := Array.replicate 251 none
  statics := none }

def pool18 : Array CpInfo := pool [(1, .methodref 2 3), (0, .class_ 4), (0, .nameAndType 5 6), (0, u "java/util/AbstractCollection"), (0, u "<init>"), (0, u "()V"), (0, .fieldref 8 9), (0, .class_ 10), (0, .nameAndType 11 12), (0, u "java/util/AbstractList"), (0, u "modCount"), (0, u "I"), (64, .class_ 78), (0, u "java/util/AbstractList$Itr"), (3, .class_ 83), (0, u "java/util/AbstractList$ListItr"), (5, u "subListRangeCheck"), (0, u "(III)V"), (2, .class_ 94), (0, u "java/util/AbstractList$RandomAccessSubList"), (3, .class_ 99), (0, u "java/util/AbstractList$SubList"), (33, .class_ 134), (0, u "java/util/List"), (73, .class_ 209), (0, u "java/util/AbstractList$SubList$1"), (0, .class_ 211), (0, u "java/util/AbstractList$RandomAccessSpliterator")] 6

def k18c0 : Code := { maxStack := 2, maxLocals := 1, code := jdk_39_method_1_code, exceptionTable := #[], attributes := #[] }
def k18m0 : Method := { name := "<init>", desc := "()V", sig := { parameters := [], returnType := none }, accessFlags := 4, code := some k18c0 }
def k18c1 : Code := { maxStack := 4, maxLocals := 3, code := jdk_39_method_15_code, exceptionTable := #[], attributes := #[] }
def k18m1 : Method := { name := "subListRangeCheck", desc := "(III)V", sig := { parameters := [.int, .int, .int], returnType := none }, accessFlags := 8, code := some k18c1 }
/-- java/util/AbstractList -/
def k18 : Class := { plain "java/util/AbstractList" (some 15) with
  accessFlags := 1057
  interfaces := #[17]
  cf := some (fileOf pool18 8 #[.nestMembers #[93, 98, 208, 210, 82, 77]] #[{ accessFlags := 4, nameIndex := 5, descriptorIndex := 6, attributes := #[] }, { accessFlags := 8, nameIndex := 89, descriptorIndex := 90, attributes := #[] }] 1057 2 #[133] #[{ accessFlags := 132, nameIndex := 11, descriptorIndex := 12, attributes := #[] }])
  fields := #[{ name := "modCount", type := .int, accessFlags := 132, slot := 0, constantValue := 0 }]
  methods := #[k18m0, k18m1]
  instanceTypes := #[.int]
  staticTypes := #[]
  resolved := Array.replicate 218 none
  statics := none }

def pool19 : Array CpInfo := pool [(1, .class_ 2), (0, u "java/util/RandomAccess"), (0, .class_ 4), (0, u "java/lang/Object")] 2

/-- java/util/RandomAccess -/
def k19 : Class := { plain "java/util/RandomAccess" (some 0) with
  accessFlags := 1537
  interfaces := #[]
  cf := some (fileOf pool19 1 #[] #[] 1537 3 #[] #[])
  fields := #[]
  methods := #[]
  instanceTypes := #[]
  staticTypes := #[]
  resolved := Array.replicate 7 none
  statics := none }

def pool20 : Array CpInfo := pool [(1, .class_ 2), (0, u "java/lang/Cloneable"), (0, .class_ 4), (0, u "java/lang/Object")] 2

/-- java/lang/Cloneable -/
def k20 : Class := { plain "java/lang/Cloneable" (some 0) with
  accessFlags := 1537
  interfaces := #[]
  cf := some (fileOf pool20 1 #[] #[] 1537 3 #[] #[])
  fields := #[]
  methods := #[]
  instanceTypes := #[]
  staticTypes := #[]
  resolved := Array.replicate 7 none
  statics := none }

def pool21 : Array CpInfo := pool [(1, .methodref 2 3), (0, .class_ 4), (0, .nameAndType 5 6), (0, u "java/util/AbstractList"), (0, u "<init>"), (0, u "()V"), (0, .class_ 8), (0, u "java/lang/Object"), (0, .fieldref 10 11), (0, .class_ 12), (0, .nameAndType 13 14), (0, u "java/util/ArrayList"), (0, u "elementData"), (0, u "[Ljava/lang/Object;"), (2, u "EMPTY_ELEMENTDATA"), (21, .fieldref 10 40), (0, .nameAndType 41 14), (0, u "DEFAULTCAPACITY_EMPTY_ELEMENTDATA"), (5, u "()[Ljava/lang/Object;"), (0, .fieldref 10 49), (0, .nameAndType 50 51), (0, u "size"), (0, u "I"), (11, .fieldref 10 64), (0, .nameAndType 65 51), (0, u "modCount"), (3, .methodref 10 70), (0, .nameAndType 71 72), (0, u "grow"), (0, u "(I)[Ljava/lang/Object;"), (6, .methodref 80 81), (0, .class_ 82), (0, .nameAndType 83 84), (0, u "java/lang/Math"), (0, u "max"), (0, u "(II)I"), (11, u "(Ljava/lang/Object;)Z"), (32, .methodref 10 130), (0, .nameAndType 71 47), (0, .methodref 10 132), (0, .nameAndType 133 134), (0, u "add"), (0, u "(Ljava/lang/Object;[Ljava/lang/Object;I)V"), (13, .class_ 149), (0, u "java/util/List"), (36, u "()I"), (75, .class_ 263), (0, u "java/util/ArrayList$ListItr"), (3, .class_ 268), (0, u "java/util/ArrayList$Itr"), (3, .methodref 10 273), (0, .nameAndType 274 275), (0, u "subListRangeCheck"), (0, u "(III)V"), (0, .class_ 277), (0, u "java/util/ArrayList$SubList"), (0, .methodref 276 279), (0, .nameAndType 5 280), (0, u "(Ljava/util/ArrayList;II)V"), (9, .class_ 291), (0, u "java/util/ArrayList$ArrayListSpliterator"), (37, .class_ 330), (0, u "java/util/RandomAccess"), (0, .class_ 332), (0, u "java/lang/Cloneable"), (0, .class_ 334), (0, u "java/io/Serializable"), (0, u "serialVersionUID"), (0, u "J"), (3, u "DEFAULT_CAPACITY"), (118, u "subList"), (0, u "(II)Ljava/util/List;"), (39, .class_ 501), (0, u "java/util/ArrayList$SubList$2"), (0, .class_ 503), (0, u "java/util/ArrayList$SubList$1")] 5

def k21c0 : Code := { maxStack := 2, maxLocals := 1, code := jdk_38_method_2_code, exceptionTable := #[], attributes := #[] }
def k21m0 : Method := { name := "<init>", desc := "()V", sig := { parameters := [], returnType := none }, accessFlags := 1, code := some k21c0 }
def k21c1 : Code := { maxStack := 4, maxLocals := 4, code := jdk_38_method_6_code, exceptionTable := #[], attributes := #[] }
def k21m1 : Method := { name := "grow", desc := "(I)[Ljava/lang/Object;", sig := { parameters := [.int], returnType := some (.array (.object "java/lang/Object")) }, accessFlags := 2, code := some k21c1 }
def k21c2 : Code := { maxStack := 3, maxLocals := 1, code := jdk_38_method_7_code, exceptionTable := #[], attributes := #[] }
def k21m2 : Method := { name := "grow", desc := "()[Ljava/lang/Object;", sig := { parameters := [], returnType := some (.array (.object "java/lang/Object")) }, accessFlags := 2, code := some k21c2 }
def k21c3 : Code := { maxStack := 1, maxLocals := 1, code := jdk_38_method_8_code, exceptionTable := #[], attributes := #[] }
def k21m3 : Method := { name := "size", desc := "()I", sig := { parameters := [], returnType := some .int }, accessFlags := 1, code := some k21c3 }
def k21c4 : Code := { maxStack := 3, maxLocals := 4, code := jdk_38_method_24_code, exceptionTable := #[], attributes := #[] }
def k21m4 : Method := { name := "add", desc := "(Ljava/lang/Object;[Ljava/lang/Object;I)V", sig := { parameters := [(.object "java/lang/Object"), (.array (.object "java/lang/Object")), .int], returnType := none }, accessFlags := 2, code := some k21c4 }
def k21c5 : Code := { maxStack := 4, maxLocals := 2, code := jdk_38_method_25_code, exceptionTable := #[], attributes := #[] }
def k21m5 : Method := { name := "add", desc := "(Ljava/lang/Object;)Z", sig := { parameters := [(.object "java/lang/Object")], returnType := some .boolean }, accessFlags := 1, code := some k21c5 }
def k21c6 : Code := { maxStack := 5, maxLocals := 3, code := jdk_38_method_56_code, exceptionTable := #[], attributes := #[] }
def k21m6 : Method := { name := "subList", desc := "(II)Ljava/util/List;", sig := { parameters := [.int, .int], returnType := some (.object "java/util/List") }, accessFlags := 1, code := some k21c6 }
/-- java/util/ArrayList -/
def k21 : Class := { plain "java/util/ArrayList" (some 18) with
  accessFlags := 33
  interfaces := #[17, 19, 20, 2]
  cf := some (fileOf pool21 10 #[.nestMembers #[290, 276, 500, 502, 262, 267]] #[{ accessFlags := 1, nameIndex := 5, descriptorIndex := 6, attributes := #[] }, { accessFlags := 2, nameIndex := 71, descriptorIndex := 72, attributes := #[] }, { accessFlags := 2, nameIndex := 71, descriptorIndex := 47, attributes := #[] }, { accessFlags := 1, nameIndex := 50, descriptorIndex := 186, attributes := #[] }, { accessFlags := 2, nameIndex := 133, descriptorIndex := 134, attributes := #[] }, { accessFlags := 1, nameIndex := 133, descriptorIndex := 96, attributes := #[] }, { accessFlags := 1, nameIndex := 459, descriptorIndex := 460, attributes := #[] }] 33 2 #[148, 329, 331, 333] #[{ accessFlags := 26, nameIndex := 335, descriptorIndex := 336, attributes := #[] }, { accessFlags := 26, nameIndex := 340, descriptorIndex := 51, attributes := #[] }, { accessFlags := 26, nameIndex := 17, descriptorIndex := 14, attributes := #[] }, { accessFlags := 26, nameIndex := 41, descriptorIndex := 14, attributes := #[] }, { accessFlags := 128, nameIndex := 13, descriptorIndex := 14, attributes := #[] }, { accessFlags := 2, nameIndex := 50, descriptorIndex := 51, attributes := #[] }])
  fields := #[{ name := "serialVersionUID", type := .long, accessFlags := 26, slot := 0, constantValue := 0 }, { name := "DEFAULT_CAPACITY", type := .int, accessFlags := 26, slot := 1, constantValue := 0 }, { name := "EMPTY_ELEMENTDATA", type := (.array (.object "java/lang/Object")), accessFlags := 26, slot := 2, constantValue := 0 }, { name := "DEFAULTCAPACITY_EMPTY_ELEMENTDATA", type := (.array (.object "java/lang/Object")), accessFlags := 26, slot := 3, constantValue := 0 }, { name := "elementData", type := (.array (.object "java/lang/Object")), accessFlags := 128, slot := 1, constantValue := 0 }, { name := "size", type := .int, accessFlags := 2, slot := 2, constantValue := 0 }]
  methods := #[k21m0, k21m1, k21m2, k21m3, k21m4, k21m5, k21m6]
  instanceTypes := #[.int, (.array (.object "java/lang/Object")), .int]
  staticTypes := #[.long, .int, (.array (.object "java/lang/Object")), (.array (.object "java/lang/Object"))]
  resolved := Array.replicate 509 none
  statics := some 2 }

def pool22 : Array CpInfo := pool [(1, .methodref 2 3), (0, .class_ 4), (0, .nameAndType 5 6), (0, u "java/util/AbstractList"), (0, u "<init>"), (0, u "()V"), (0, .fieldref 8 9), (0, .class_ 10), (0, .nameAndType 11 12), (0, u "java/util/ArrayList$SubList"), (0, u "root"), (0, u "Ljava/util/ArrayList;"), (0, .fieldref 8 14), (0, .nameAndType 15 16), (0, u "parent"), (0, u "Ljava/util/ArrayList$SubList;"), (0, .fieldref 8 18), (0, .nameAndType 19 20), (0, u "offset"), (0, u "I"), (0, .fieldref 8 22), (0, .nameAndType 23 20), (0, u "size"), (0, .fieldref 25 26), (0, .class_ 27), (0, .nameAndType 28 20), (0, u "java/util/ArrayList"), (0, u "modCount"), (0, .fieldref 8 26), (6, .methodref 8 37), (0, .nameAndType 38 6), (0, u "checkForComodification"), (2, u "elementData"), (1, .fieldref 25 44), (0, .nameAndType 41 45), (0, u "[Ljava/lang/Object;"), (59, .methodref 106 107), (0, .class_ 108), (0, .nameAndType 109 110), (0, u "java/lang/System"), (0, u "arraycopy"), (0, u "(Ljava/lang/Object;ILjava/lang/Object;II)V"), (71, .class_ 183), (0, u "java/util/RandomAccess"), (3, u "(Ljava/util/ArrayList;II)V"), (49, u "toArray"), (1, u "([Ljava/lang/Object;)[Ljava/lang/Object;")] 30

def k22c0 : Code := { maxStack := 3, maxLocals := 4, code := jdk_130_method_1_code, exceptionTable := #[], attributes := #[] }
def k22m0 : Method := { name := "<init>", desc := "(Ljava/util/ArrayList;II)V", sig := { parameters := [(.object "java/util/ArrayList"), .int, .int], returnType := none }, accessFlags := 1, code := some k22c0 }
def k22c1 : Code := { maxStack := 5, maxLocals := 2, code := jdk_130_method_17_code, exceptionTable := #[], attributes := #[] }
def k22m1 : Method := { name := "toArray", desc := "([Ljava/lang/Object;)[Ljava/lang/Object;", sig := { parameters := [(.array (.object "java/lang/Object"))], returnType := some (.array (.object "java/lang/Object")) }, accessFlags := 1, code := some k22c1 }
def k22c2 : Code := { maxStack := 2, maxLocals := 1, code := jdk_130_method_28_code, exceptionTable := #[], attributes := #[] }
def k22m2 : Method := { name := "checkForComodification", desc := "()V", sig := { parameters := [], returnType := none }, accessFlags := 2, code := some k22c2 }
/-- java/util/ArrayList$SubList -/
def k22 : Class := { plain "java/util/ArrayList$SubList" (some 18) with
  accessFlags := 32
  interfaces := #[19]
  cf := some (fileOf pool22 8 #[.nestHost 25] #[{ accessFlags := 1, nameIndex := 5, descriptorIndex := 187, attributes := #[] }, { accessFlags := 1, nameIndex := 237, descriptorIndex := 239, attributes := #[] }, { accessFlags := 2, nameIndex := 38, descriptorIndex := 6, attributes := #[] }] 32 2 #[182] #[{ accessFlags := 18, nameIndex := 11, descriptorIndex := 12, attributes := #[] }, { accessFlags := 18, nameIndex := 15, descriptorIndex := 16, attributes := #[] }, { accessFlags := 18, nameIndex := 19, descriptorIndex := 20, attributes := #[] }, { accessFlags := 2, nameIndex := 23, descriptorIndex := 20, attributes := #[] }])
  fields := #[{ name := "root", type := (.object "java/util/ArrayList"), accessFlags := 18, slot := 1, constantValue := 0 }, { name := "parent", type := (.object "java/util/ArrayList$SubList"), accessFlags := 18, slot := 2, constantValue := 0 }, { name := "offset", type := .int, accessFlags := 18, slot := 3, constantValue := 0 }, { name := "size", type := .int, accessFlags := 2, slot := 4, constantValue := 0 }]
  methods := #[k22m0, k22m1, k22m2]
  instanceTypes := #[.int, (.object "java/util/ArrayList"), (.object "java/util/ArrayList$SubList"), .int, .int]
  staticTypes := #[]
  resolved := Array.replicate 270 none
  statics := none }

def pool23 : Array CpInfo := pool [(2, .class_ 4), (1, u "java/lang/Object"), (0, u "<init>"), (0, u "()V"), (1, .class_ 10), (1, u "java/lang/System"), (0, u "allowSecurityManager"), (0, u "I"), (16, u "cons"), (0, u "Ljava/io/Console;"), (77, .class_ 110), (1, u "java/lang/System$CallersHolder"), (43, u "initialErrStream"), (0, u "Ljava/io/PrintStream;"), (19, u "security"), (0, u "Ljava/lang/SecurityManager;"), (31, .class_ 209), (0, u "java/lang/System$1"), (7, u "props"), (0, u "Ljava/util/Properties;"), (2, u "lineSeparator"), (0, u "Ljava/lang/String;"), (96, .class_ 321), (1, u "java/lang/System$LoggerFinder"), (5, .class_ 328), (0, u "java/lang/System$Logger"), (67, u "err"), (2, u "out"), (91, u "notSupportedJnuEncoding"), (15, u "in"), (17, u "initialIn"), (0, u "Ljava/io/InputStream;"), (35, u "bootLayer"), (0, u "Ljava/lang/ModuleLayer;"), (99, .class_ 664), (0, u "java/lang/System$2"), (9, u "NEVER"), (2, u "MAYBE"), (49, u "arraycopy"), (0, u "(Ljava/lang/Object;ILjava/lang/Object;II)V"), (72, .class_ 802), (0, u "java/lang/System$Logger$Level")] 31

def k23m0 : Method := { name := "<init>", desc := "()V", sig := { parameters := [], returnType := none }, accessFlags := 2, code := none }
def k23m1 : Method := { name := "arraycopy", desc := "(Ljava/lang/Object;ILjava/lang/Object;II)V", sig := { parameters := [(.object "java/lang/Object"), .int, (.object "java/lang/Object"), .int, .int], returnType := none }, accessFlags := 265, code := none }
/-- java/lang/System -/
def k23 : Class := { plain "java/lang/System" (some 0) with
  accessFlags := 49
  interfaces := #[]
  cf := some (fileOf pool23 8 #[.nestMembers #[319, 327, 801, 108, 663, 208]] #[{ accessFlags := 2, nameIndex := 5, descriptorIndex := 6, attributes := #[] }, { accessFlags := 265, nameIndex := 727, descriptorIndex := 728, attributes := #[] }] 49 2 #[] #[{ accessFlags := 25, nameIndex := 507, descriptorIndex := 526, attributes := #[] }, { accessFlags := 25, nameIndex := 399, descriptorIndex := 155, attributes := #[] }, { accessFlags := 25, nameIndex := 396, descriptorIndex := 155, attributes := #[] }, { accessFlags := 10, nameIndex := 525, descriptorIndex := 526, attributes := #[] }, { accessFlags := 26, nameIndex := 674, descriptorIndex := 12, attributes := #[] }, { accessFlags := 26, nameIndex := 677, descriptorIndex := 12, attributes := #[] }, { accessFlags := 10, nameIndex := 11, descriptorIndex := 12, attributes := #[] }, { accessFlags := 74, nameIndex := 175, descriptorIndex := 176, attributes := #[] }, { accessFlags := 10, nameIndex := 491, descriptorIndex := 222, attributes := #[] }, { accessFlags := 74, nameIndex := 29, descriptorIndex := 30, attributes := #[] }, { accessFlags := 74, nameIndex := 154, descriptorIndex := 155, attributes := #[] }, { accessFlags := 10, nameIndex := 217, descriptorIndex := 218, attributes := #[] }, { accessFlags := 10, nameIndex := 221, descriptorIndex := 222, attributes := #[] }, { accessFlags := 8, nameIndex := 562, descriptorIndex := 563, attributes := #[] }])
  fields := #[{ name := "in", type := (.object "java/io/InputStream"), accessFlags := 25, slot := 0, constantValue := 0 }, { name := "out", type := (.object "java/io/PrintStream"), accessFlags := 25, slot := 1, constantValue := 0 }, { name := "err", type := (.object "java/io/PrintStream"), accessFlags := 25, slot := 2, constantValue := 0 }, { name := "initialIn", type := (.object "java/io/InputStream"), accessFlags := 10, slot := 3, constantValue := 0 }, { name := "NEVER", type := .int, accessFlags := 26, slot := 4, constantValue := 0 }, { name := "MAYBE", type := .int, accessFlags := 26, slot := 5, constantValue := 0 }, { name := "allowSecurityManager", type := .int, accessFlags := 10, slot := 6, constantValue := 0 }, { name := "security", type := (.object "java/lang/SecurityManager"), accessFlags := 74, slot := 7, constantValue := 0 }, { name := "notSupportedJnuEncoding", type := (.object "java/lang/String"), accessFlags := 10, slot := 8, constantValue := 0 }, { name := "cons", type := (.object "java/io/Console"), accessFlags := 74, slot := 9, constantValue := 0 }, { name := "initialErrStream", type := (.object "java/io/PrintStream"), accessFlags := 74, slot := 10, constantValue := 0 }, { name := "props", type := (.object "java/util/Properties"), accessFlags := 10, slot := 11, constantValue := 0 }, { name := "lineSeparator", type := (.object "java/lang/String"), accessFlags := 10, slot := 12, constantValue := 0 }, { name := "bootLayer", type := (.object "java/lang/ModuleLayer"), accessFlags := 8, slot := 13, constantValue := 0 }]
  methods := #[k23m0, k23m1]
  instanceTypes := #[]
  staticTypes := #[(.object "java/io/InputStream"), (.object "java/io/PrintStream"), (.object "java/io/PrintStream"), (.object "java/io/InputStream"), .int, .int, .int, (.object "java/lang/SecurityManager"), (.object "java/lang/String"), (.object "java/io/Console"), (.object "java/io/PrintStream"), (.object "java/util/Properties"), (.object "java/lang/String"), (.object "java/lang/ModuleLayer")]
  resolved := Array.replicate 834 none
  statics := none }

def pool24 : Array CpInfo := pool [(2, .class_ 4), (1, u "java/lang/Object"), (0, u "<init>"), (0, u "()V"), (7, .class_ 16), (1, u "java/util/Arrays"), (57, .class_ 76), (1, u "java/util/Arrays$NaturalOrder"), (36, .class_ 115), (1, u "java/util/Arrays$LegacyMergeSort"), (1, u "Z"), (21, u "copyOfRange"), (10, .methodref 151 152), (0, .class_ 153), (0, .nameAndType 154 155), (0, u "java/lang/System"), (0, u "arraycopy"), (0, u "(Ljava/lang/Object;ILjava/lang/Object;II)V"), (148, .methodref 305 306), (0, .class_ 307), (0, .nameAndType 308 309), (0, u "java/lang/Math"), (0, u "min"), (0, u "(II)I"), (29, .methodref 14 340), (0, .nameAndType 341 342), (0, u "copyOfRangeByte"), (0, u "([BII)[B"), (0, .methodref 14 344), (0, .nameAndType 345 346), (0, u "checkLength"), (0, u "(II)V"), (28, .class_ 376), (0, u "java/util/Arrays$ArrayList"), (68, u "$assertionsDisabled"), (269, u "MIN_ARRAY_SORT_GRAN"), (0, u "I"), (2, u "INSERTIONSORT_THRESHOLD"), (255, .class_ 976), (0, u "java/util/Arrays$ArrayItr")] 52

def k24m0 : Method := { name := "<init>", desc := "()V", sig := { parameters := [], returnType := none }, accessFlags := 2, code := none }
def k24c1 : Code := { maxStack := 4, maxLocals := 2, code := jdk_65_method_131_code, exceptionTable := #[], attributes := #[] }
def k24m1 : Method := { name := "checkLength", desc := "(II)V", sig := { parameters := [.int, .int], returnType := none }, accessFlags := 10, code := some k24c1 }
def k24c2 : Code := { maxStack := 3, maxLocals := 3, code := jdk_65_method_132_code, exceptionTable := #[], attributes := #[] }
def k24m2 : Method := { name := "copyOfRange", desc := "([BII)[B", sig := { parameters := [(.array .byte), .int, .int], returnType := some (.array .byte) }, accessFlags := 9, code := some k24c2 }
def k24c3 : Code := { maxStack := 6, maxLocals := 5, code := jdk_65_method_133_code, exceptionTable := #[], attributes := #[] }
def k24m3 : Method := { name := "copyOfRangeByte", desc := "([BII)[B", sig := { parameters := [(.array .byte), .int, .int], returnType := some (.array .byte) }, accessFlags := 10, code := some k24c3 }
/-- java/util/Arrays -/
def k24 : Class := { plain "java/util/Arrays" (some 0) with
  accessFlags := 49
  interfaces := #[]
  cf := some (fileOf pool24 14 #[.nestMembers #[975, 375, 113, 74]] #[{ accessFlags := 2, nameIndex := 5, descriptorIndex := 6, attributes := #[] }, { accessFlags := 10, nameIndex := 345, descriptorIndex := 346, attributes := #[] }, { accessFlags := 9, nameIndex := 139, descriptorIndex := 342, attributes := #[] }, { accessFlags := 10, nameIndex := 341, descriptorIndex := 342, attributes := #[] }] 49 2 #[] #[{ accessFlags := 26, nameIndex := 715, descriptorIndex := 716, attributes := #[] }, { accessFlags := 26, nameIndex := 719, descriptorIndex := 716, attributes := #[] }, { accessFlags := 4120, nameIndex := 445, descriptorIndex := 117, attributes := #[] }])
  fields := #[{ name := "MIN_ARRAY_SORT_GRAN", type := .int, accessFlags := 26, slot := 0, constantValue := 0 }, { name := "INSERTIONSORT_THRESHOLD", type := .int, accessFlags := 26, slot := 1, constantValue := 0 }, { name := "$assertionsDisabled", type := .boolean, accessFlags := 4120, slot := 2, constantValue := 0 }]
  methods := #[k24m0, k24m1, k24m2, k24m3]
  instanceTypes := #[]
  staticTypes := #[.int, .int, .boolean]
  resolved := Array.replicate 1029 none
  statics := none }

def pool25 : Array CpInfo := pool [(9, u "<init>"), (6, .class_ 18), (1, u "java/lang/Object"), (0, u "()V"), (1, .class_ 23), (1, u "jdk/internal/util/ArraysSupport"), (0, u "LOG2_ARRAY_LONG_INDEX_SCALE"), (0, u "I"), (2, u "U"), (0, u "Ljdk/internal/misc/Unsafe;"), (8, u "BIG_ENDIAN"), (0, u "Z"), (8, u "LOG2_BYTE_BIT_SIZE"), (4, u "LOG2_ARRAY_INT_INDEX_SCALE"), (54, u "JLA"), (0, u "Ljdk/internal/access/JavaLangAccess;"), (11, u "LOG2_ARRAY_BOOLEAN_INDEX_SCALE"), (9, u "LOG2_ARRAY_BYTE_INDEX_SCALE"), (5, u "LOG2_ARRAY_CHAR_INDEX_SCALE"), (5, u "LOG2_ARRAY_SHORT_INDEX_SCALE"), (18, u "LOG2_ARRAY_FLOAT_INDEX_SCALE"), (24, u "LOG2_ARRAY_DOUBLE_INDEX_SCALE"), (89, u "T_BOOLEAN"), (2, u "T_CHAR"), (1, u "T_FLOAT"), (1, u "T_DOUBLE"), (1, u "T_BYTE"), (1, u "T_SHORT"), (1, u "T_INT"), (1, u "T_LONG"), (1, u "SOFT_MAX_ARRAY_LENGTH")] 83

def k25m0 : Method := { name := "<init>", desc := "()V", sig := { parameters := [], returnType := none }, accessFlags := 2, code := none }
/-- jdk/internal/util/ArraysSupport -/
def k25 : Class := { plain "jdk/internal/util/ArraysSupport" (some 0) with
  accessFlags := 33
  interfaces := #[]
  cf := some (fileOf pool25 21 #[] #[{ accessFlags := 2, nameIndex := 9, descriptorIndex := 19, attributes := #[] }] 33 16 #[] #[{ accessFlags := 24, nameIndex := 28, descriptorIndex := 29, attributes := #[] }, { accessFlags := 26, nameIndex := 38, descriptorIndex := 39, attributes := #[] }, { accessFlags := 25, nameIndex := 121, descriptorIndex := 25, attributes := #[] }, { accessFlags := 25, nameIndex := 131, descriptorIndex := 25, attributes := #[] }, { accessFlags := 25, nameIndex := 137, descriptorIndex := 25, attributes := #[] }, { accessFlags := 25, nameIndex := 143, descriptorIndex := 25, attributes := #[] }, { accessFlags := 25, nameIndex := 53, descriptorIndex := 25, attributes := #[] }, { accessFlags := 25, nameIndex := 24, descriptorIndex := 25, attributes := #[] }, { accessFlags := 25, nameIndex := 162, descriptorIndex := 25, attributes := #[] }, { accessFlags := 25, nameIndex := 187, descriptorIndex := 25, attributes := #[] }, { accessFlags := 26, nameIndex := 48, descriptorIndex := 25, attributes := #[] }, { accessFlags := 25, nameIndex := 277, descriptorIndex := 25, attributes := #[] }, { accessFlags := 25, nameIndex := 280, descriptorIndex := 25, attributes := #[] }, { accessFlags := 25, nameIndex := 282, descriptorIndex := 25, attributes := #[] }, { accessFlags := 25, nameIndex := 284, descriptorIndex := 25, attributes := #[] }, { accessFlags := 25, nameIndex := 286, descriptorIndex := 25, attributes := #[] }, { accessFlags := 25, nameIndex := 288, descriptorIndex := 25, attributes := #[] }, { accessFlags := 25, nameIndex := 290, descriptorIndex := 25, attributes := #[] }, { accessFlags := 25, nameIndex := 292, descriptorIndex := 25, attributes := #[] }, { accessFlags := 26, nameIndex := 108, descriptorIndex := 109, attributes := #[] }, { accessFlags := 25, nameIndex := 294, descriptorIndex := 25, attributes := #[] }])
  fields := #[{ name := "U", type := (.object "jdk/internal/misc/Unsafe"), accessFlags := 24, slot := 0, constantValue := 0 }, { name := "BIG_ENDIAN", type := .boolean, accessFlags := 26, slot := 1, constantValue := 0 }, { name := "LOG2_ARRAY_BOOLEAN_INDEX_SCALE", type := .int, accessFlags := 25, slot := 2, constantValue := 0 }, { name := "LOG2_ARRAY_BYTE_INDEX_SCALE", type := .int, accessFlags := 25, slot := 3, constantValue := 0 }, { name := "LOG2_ARRAY_CHAR_INDEX_SCALE", type := .int, accessFlags := 25, slot := 4, constantValue := 0 }, { name := "LOG2_ARRAY_SHORT_INDEX_SCALE", type := .int, accessFlags := 25, slot := 5, constantValue := 0 }, { name := "LOG2_ARRAY_INT_INDEX_SCALE", type := .int, accessFlags := 25, slot := 6, constantValue := 0 }, { name := "LOG2_ARRAY_LONG_INDEX_SCALE", type := .int, accessFlags := 25, slot := 7, constantValue := 0 }, { name := "LOG2_ARRAY_FLOAT_INDEX_SCALE", type := .int, accessFlags := 25, slot := 8, constantValue := 0 }, { name := "LOG2_ARRAY_DOUBLE_INDEX_SCALE", type := .int, accessFlags := 25, slot := 9, constantValue := 0 }, { name := "LOG2_BYTE_BIT_SIZE", type := .int, accessFlags := 26, slot := 10, constantValue := 0 }, { name := "T_BOOLEAN", type := .int, accessFlags := 25, slot := 11, constantValue := 0 }, { name := "T_CHAR", type := .int, accessFlags := 25, slot := 12, constantValue := 0 }, { name := "T_FLOAT", type := .int, accessFlags := 25, slot := 13, constantValue := 0 }, { name := "T_DOUBLE", type := .int, accessFlags := 25, slot := 14, constantValue := 0 }, { name := "T_BYTE", type := .int, accessFlags := 25, slot := 15, constantValue := 0 }, { name := "T_SHORT", type := .int, accessFlags := 25, slot := 16, constantValue := 0 }, { name := "T_INT", type := .int, accessFlags := 25, slot := 17, constantValue := 0 }, { name := "T_LONG", type := .int, accessFlags := 25, slot := 18, constantValue := 0 }, { name := "JLA", type := (.object "jdk/internal/access/JavaLangAccess"), accessFlags := 26, slot := 19, constantValue := 0 }, { name := "SOFT_MAX_ARRAY_LENGTH", type := .int, accessFlags := 25, slot := 20, constantValue := 0 }]
  methods := #[k25m0]
  instanceTypes := #[]
  staticTypes := #[(.object "jdk/internal/misc/Unsafe"), .boolean, .int, .int, .int, .int, .int, .int, .int, .int, .int, .int, .int, .int, .int, .int, .int, .int, .int, (.object "jdk/internal/access/JavaLangAccess"), .int]
  resolved := Array.replicate 378 none
  statics := none }

/-- the primitive byte -/
def k26 : Class := { plain "byte" none with kind := .primitive 'B', accessFlags := 0x411 }
/-- [B -/
def k27 : Class := { plain "[B" (some 0) with kind := .array 26 .byte, interfaces := #[20, 2], accessFlags := 1041 }

/-- the primitive char -/
def k28 : Class := { plain "char" none with kind := .primitive 'C', accessFlags := 0x411 }
/-- [C -/
def k29 : Class := { plain "[C" (some 0) with kind := .array 28 .char, interfaces := #[20, 2], accessFlags := 1041 }

/-- the primitive int -/
def k30 : Class := { plain "int" none with kind := .primitive 'I', accessFlags := 0x411 }
/-- [I -/
def k31 : Class := { plain "[I" (some 0) with kind := .array 30 .int, interfaces := #[20, 2], accessFlags := 1041 }

/-- [Ljava/lang/Object; -/
def k32 : Class := { plain "[Ljava/lang/Object;" (some 0) with kind := .array 0 (.object "java/lang/Object"), interfaces := #[20, 2], accessFlags := 1041 }

/-- [Ljava/lang/String; -/
def k33 : Class := { plain "[Ljava/lang/String;" (some 0) with kind := .array 7 (.object "java/lang/String"), interfaces := #[20, 2], accessFlags := 1041 }

def heap : Heap := #[{ cls := 7, slots := #[.long 0, .int 1, .null, .int 0, .null, .int 0, .int 0], vm := .statics 7 },
  { cls := 12, slots := #[.null, .null, .null], vm := .statics 12 },
  { cls := 21, slots := #[.long 0, .int 0, .ref 3, .ref 4], vm := .statics 21 },
  { cls := 32, slots := #[], vm := .none },
  { cls := 32, slots := #[], vm := .none }]
def classes : Array Class := #[k0, k1, k2, k3, k4, k5, k6, k7, k8, k9, k10, k11, k12, k13, k14, k15, k16, k17, k18, k19, k20, k21, k22, k23, k24, k25, k26, k27, k28, k29, k30, k31, k32, k33]
def interned : List (Array UInt16 × Addr) := []
def slotsUsed : Nat := 14
def theMethod : MethodId := ⟨1, 1⟩
def args0 : Array Value := #[.int 1, .int 0, .int 2, .int 3, .int 2]
def aboutOver (below : List Frame) : State where
  vm := { classes := classes, interned := interned.toArray }
  heap := heap
  slotsUsed := slotsUsed
  threads := #[{ frames := .invoking theMethod args0 :: below }]
def below0 : List Frame := [.native { method := ⟨0, 0⟩, args := #[] }]
def about1 : State := aboutOver below0
def p0 : Program := .bare "" "" ""
def e0 : Env := launch0.env 0 0 0
theorem w_frames : about1.frames = Frame.invoking theMethod args0 :: below0 := rfl
set_option maxRecDepth 65536 in
theorem w_args : argsFit about1.vm theMethod args0 = true := by decide +kernel
set_option maxRecDepth 65536 in
theorem w_heap : heapFits about1 = true := by decide +kernel
set_option maxRecDepth 65536 in
theorem w_runnable : about1.curStatus? = some .runnable := by decide +kernel
set_option maxRecDepth 65536 in
theorem w_alone : about1.alone = true := by decide +kernel
set_option maxRecDepth 65536 in
theorem w_named : about1.methodNamed? x = some theMethod := by decide +kernel
set_option maxRecDepth 65536 in
theorem w_hears : about1.hears theMethod below0 = true := by decide +kernel
set_option maxRecDepth 65536 in
theorem w_ripe : about1.ripe theMethod args0 below0 = true := by decide +kernel
theorem w_running : about1.status = .running := rfl
set_option maxRecDepth 65536 in
theorem w_room : about1.hasRoom e0.platform room_1 = true :=
  launch0.hasRoom_least _ room_1 (by decide +kernel) (by decide +kernel) (by decide +kernel) (by decide +kernel) (by decide +kernel) (by decide +kernel)
theorem allAtoms_all (ts : List Jvm.Cond) (a : Array Jvm.Value) (st : Jvm.State) : (allAtoms ts).before a st = ts.all (fun c => c.before a st) := by
  induction ts with
  | nil => rfl
  | cons c t ih =>
    show (Jvm.Cond.and c (allAtoms t)).before a st = _
    rw [Jvm.Cond.before_and, ih, List.all_cons]
def words1 : List Jvm.Cond := Jvm.Cond.code x code maxLocals ret :: tables_1
/-- a 'code' word, met by the world's own term for the bytes: nothing is compared byte by byte -/
theorem code_word {y : MethodName} {bytes : ByteArray} {mx : Nat} {rt : Option FieldType} {a : Array Value} {s : State} {m : MethodId} {meth : Method} {c : Code} (h1 : s.methodNamed? y = some m) (h2 : s.vm.method? m = some meth) (h3 : meth.code = some c) (h4 : c.code = bytes)
    (h5 : (c.maxLocals == mx && c.exceptionTable.isEmpty && decide (c.maxStack ≤ mostOperands) && decide (meth.sig.returnType = rt) && !meth.locks && decide (parseMethodDescriptor y.desc = some meth.sig)) = true) : (Jvm.Cond.code y bytes mx rt).before a s = true := by
  simp only [Bool.and_eq_true, beq_iff_eq, Bool.not_eq_true', decide_eq_true_eq] at h5
  obtain ⟨⟨⟨⟨⟨g1, g2⟩, g3⟩, g4⟩, g5⟩, g6⟩ := h5
  simp [Cond.before, Cond.holds, Cond.value, h1, h2, h3, h4, g1, g2, g3, g4, g5, g6]
def isCode : Jvm.Cond → Bool
  | .code _ _ _ _ => true
  | _ => false
theorem all_split {L : List Jvm.Cond} {P : Jvm.Cond → Bool} (h1 : L.all (fun c => isCode c || P c) = true) (h2 : ∀ c ∈ L.filter isCode, P c = true) : L.all P = true := by
  refine List.all_eq_true.mpr fun c hc => ?_
  have h := List.all_eq_true.mp h1 c hc
  rcases Bool.eq_false_or_eq_true (isCode c) with hi | hi
  · exact h2 c (List.mem_filter.mpr ⟨hc, hi⟩)
  · simpa [hi] using h
set_option maxRecDepth 65536 in
theorem w_c0 : (Jvm.Cond.code x code maxLocals ret).before args0 about1 = true := code_word (m := ⟨1, 1⟩) (meth := k1m1) (c := k1c1) (by decide +kernel) rfl rfl rfl (by decide +kernel)
set_option maxRecDepth 65536 in
theorem w_c1 : (Jvm.Cond.code ({ cls := "com/example/corduroy/corduroy/TopicsHasWildcardPinLaw", name := "pick", desc := "(I)C" } : Jvm.MethodName) method_3_code (2 : Nat) (Option.some Jvm.ClassFile.FieldType.char)).before args0 about1 = true := code_word (m := ⟨1, 2⟩) (meth := k1m2) (c := k1c2) (by decide +kernel) rfl rfl rfl (by decide +kernel)
set_option maxRecDepth 65536 in
theorem w_c2 : (Jvm.Cond.code ({ cls := "com/example/corduroy/corduroy/TopicsHasWildcardPinLaw", name := "make", desc := "(ICCCC)Ljava/lang/String;" } : Jvm.MethodName) method_4_code (5 : Nat) (Option.some (Jvm.ClassFile.FieldType.object "java/lang/String"))).before args0 about1 = true := code_word (m := ⟨1, 3⟩) (meth := k1m3) (c := k1c3) (by decide +kernel) rfl rfl rfl (by decide +kernel)
set_option maxRecDepth 65536 in
theorem w_c3 : (Jvm.Cond.code ({ cls := "java/lang/String", name := "<init>", desc := "([C)V" } : Jvm.MethodName) jdk_42_method_3_code (2 : Nat) (Option.none : Option Jvm.ClassFile.FieldType)).before args0 about1 = true := code_word (m := ⟨7, 1⟩) (meth := k7m1) (c := k7c1) (by decide +kernel) rfl rfl rfl (by decide +kernel)
set_option maxRecDepth 65536 in
theorem w_c4 : (Jvm.Cond.code ({ cls := "java/lang/String", name := "<init>", desc := "([CIILjava/lang/Void;)V" } : Jvm.MethodName) jdk_42_method_149_code (6 : Nat) (Option.none : Option Jvm.ClassFile.FieldType)).before args0 about1 = true := code_word (m := ⟨7, 15⟩) (meth := k7m15) (c := k7c15) (by decide +kernel) rfl rfl rfl (by decide +kernel)
set_option maxRecDepth 65536 in
theorem w_c5 : (Jvm.Cond.code ({ cls := "java/lang/Object", name := "<init>", desc := "()V" } : Jvm.MethodName) object_method_1_code (1 : Nat) (Option.none : Option Jvm.ClassFile.FieldType)).before args0 about1 = true := code_word (m := ⟨0, 0⟩) (meth := k0m0) (c := k0c0) (by decide +kernel) rfl rfl rfl (by decide +kernel)
set_option maxRecDepth 65536 in
theorem w_c6 : (Jvm.Cond.code ({ cls := "java/lang/StringUTF16", name := "compress", desc := "([CII)[B" } : Jvm.MethodName) jdk_52_method_16_code (6 : Nat) (Option.some (Jvm.ClassFile.FieldType.array Jvm.ClassFile.FieldType.byte))).before args0 about1 = true := code_word (m := ⟨8, 2⟩) (meth := k8m2) (c := k8c2) (by decide +kernel) rfl rfl rfl (by decide +kernel)
set_option maxRecDepth 65536 in
theorem w_c7 : (Jvm.Cond.code ({ cls := "java/lang/StringUTF16", name := "compress", desc := "([CI[BII)I" } : Jvm.MethodName) jdk_52_method_21_code (7 : Nat) (Option.some Jvm.ClassFile.FieldType.int)).before args0 about1 = true := code_word (m := ⟨8, 3⟩) (meth := k8m3) (c := k8c3) (by decide +kernel) rfl rfl rfl (by decide +kernel)
set_option maxRecDepth 65536 in
theorem w_c8 : (Jvm.Cond.code ({ cls := "java/lang/StringUTF16", name := "coderFromArrayLen", desc := "([BI)B" } : Jvm.MethodName) jdk_52_method_15_code (2 : Nat) (Option.some Jvm.ClassFile.FieldType.byte)).before args0 about1 = true := code_word (m := ⟨8, 1⟩) (meth := k8m1) (c := k8c1) (by decide +kernel) rfl rfl rfl (by decide +kernel)
set_option maxRecDepth 65536 in
theorem w_c9 : (Jvm.Cond.code ({ cls := "com/example/corduroy/corduroy/Topics", name := "isValidFilter", desc := "(Ljava/lang/String;)Z" } : Jvm.MethodName) prog_29_method_5_code (5 : Nat) (Option.some Jvm.ClassFile.FieldType.boolean)).before args0 about1 = true := code_word (m := ⟨9, 2⟩) (meth := k9m2) (c := k9c2) (by decide +kernel) rfl rfl rfl (by decide +kernel)
set_option maxRecDepth 65536 in
theorem w_c10 : (Jvm.Cond.code ({ cls := "java/lang/String", name := "isEmpty", desc := "()Z" } : Jvm.MethodName) jdk_42_method_55_code (1 : Nat) (Option.some Jvm.ClassFile.FieldType.boolean)).before args0 about1 = true := code_word (m := ⟨7, 3⟩) (meth := k7m3) (c := k7c3) (by decide +kernel) rfl rfl rfl (by decide +kernel)
set_option maxRecDepth 65536 in
theorem w_c11 : (Jvm.Cond.code ({ cls := "java/lang/String", name := "indexOf", desc := "(I)I" } : Jvm.MethodName) jdk_42_method_79_code (2 : Nat) (Option.some Jvm.ClassFile.FieldType.int)).before args0 about1 = true := code_word (m := ⟨7, 6⟩) (meth := k7m6) (c := k7c6) (by decide +kernel) rfl rfl rfl (by decide +kernel)
set_option maxRecDepth 65536 in
theorem w_c12 : (Jvm.Cond.code ({ cls := "java/lang/String", name := "indexOf", desc := "(II)I" } : Jvm.MethodName) jdk_42_method_80_code (3 : Nat) (Option.some Jvm.ClassFile.FieldType.int)).before args0 about1 = true := code_word (m := ⟨7, 7⟩) (meth := k7m7) (c := k7c7) (by decide +kernel) rfl rfl rfl (by decide +kernel)
set_option maxRecDepth 65536 in
theorem w_c13 : (Jvm.Cond.code ({ cls := "java/lang/String", name := "isLatin1", desc := "()Z" } : Jvm.MethodName) jdk_42_method_154_code (1 : Nat) (Option.some Jvm.ClassFile.FieldType.boolean)).before args0 about1 = true := code_word (m := ⟨7, 18⟩) (meth := k7m18) (c := k7c18) (by decide +kernel) rfl rfl rfl (by decide +kernel)
set_option maxRecDepth 65536 in
theorem w_c14 : (Jvm.Cond.code ({ cls := "java/lang/String", name := "length", desc := "()I" } : Jvm.MethodName) jdk_42_method_54_code (1 : Nat) (Option.some Jvm.ClassFile.FieldType.int)).before args0 about1 = true := code_word (m := ⟨7, 2⟩) (meth := k7m2) (c := k7c2) (by decide +kernel) rfl rfl rfl (by decide +kernel)
set_option maxRecDepth 65536 in
theorem w_c15 : (Jvm.Cond.code ({ cls := "java/lang/String", name := "coder", desc := "()B" } : Jvm.MethodName) jdk_42_method_152_code (1 : Nat) (Option.some Jvm.ClassFile.FieldType.byte)).before args0 about1 = true := code_word (m := ⟨7, 17⟩) (meth := k7m17) (c := k7c17) (by decide +kernel) rfl rfl rfl (by decide +kernel)
set_option maxRecDepth 65536 in
theorem w_c16 : (Jvm.Cond.code ({ cls := "java/lang/StringLatin1", name := "indexOf", desc := "([BIII)I" } : Jvm.MethodName) jdk_43_method_22_code (4 : Nat) (Option.some Jvm.ClassFile.FieldType.int)).before args0 about1 = true := code_word (m := ⟨10, 4⟩) (meth := k10m4) (c := k10c4) (by decide +kernel) rfl rfl rfl (by decide +kernel)
set_option maxRecDepth 65536 in
theorem w_c17 : (Jvm.Cond.code ({ cls := "java/lang/StringLatin1", name := "canEncode", desc := "(I)Z" } : Jvm.MethodName) jdk_43_method_4_code (1 : Nat) (Option.some Jvm.ClassFile.FieldType.boolean)).before args0 about1 = true := code_word (m := ⟨10, 2⟩) (meth := k10m2) (c := k10c2) (by decide +kernel) rfl rfl rfl (by decide +kernel)
set_option maxRecDepth 65536 in
theorem w_c18 : (Jvm.Cond.code ({ cls := "java/lang/Math", name := "max", desc := "(II)I" } : Jvm.MethodName) jdk_29_method_65_code (2 : Nat) (Option.some Jvm.ClassFile.FieldType.int)).before args0 about1 = true := code_word (m := ⟨11, 1⟩) (meth := k11m1) (c := k11c1) (by decide +kernel) rfl rfl rfl (by decide +kernel)
set_option maxRecDepth 65536 in
theorem w_c19 : (Jvm.Cond.code ({ cls := "java/lang/Math", name := "min", desc := "(II)I" } : Jvm.MethodName) jdk_29_method_69_code (2 : Nat) (Option.some Jvm.ClassFile.FieldType.int)).before args0 about1 = true := code_word (m := ⟨11, 2⟩) (meth := k11m2) (c := k11c2) (by decide +kernel) rfl rfl rfl (by decide +kernel)
set_option maxRecDepth 65536 in
theorem w_c20 : (Jvm.Cond.code ({ cls := "java/lang/StringLatin1", name := "indexOfChar", desc := "([BIII)I" } : Jvm.MethodName) jdk_43_method_23_code (6 : Nat) (Option.some Jvm.ClassFile.FieldType.int)).before args0 about1 = true := code_word (m := ⟨10, 5⟩) (meth := k10m5) (c := k10c5) (by decide +kernel) rfl rfl rfl (by decide +kernel)
set_option maxRecDepth 65536 in
theorem w_c21 : (Jvm.Cond.code ({ cls := "com/example/corduroy/corduroy/Topics", name := "levels", desc := "(Ljava/lang/String;)[Ljava/lang/String;" } : Jvm.MethodName) prog_29_method_2_code (1 : Nat) (Option.some (Jvm.ClassFile.FieldType.array (Jvm.ClassFile.FieldType.object "java/lang/String")))).before args0 about1 = true := code_word (m := ⟨9, 1⟩) (meth := k9m1) (c := k9c1) (by decide +kernel) rfl rfl rfl (by decide +kernel)
set_option maxRecDepth 65536 in
theorem w_c22 : (Jvm.Cond.code ({ cls := "java/lang/String", name := "split", desc := "(Ljava/lang/String;I)[Ljava/lang/String;" } : Jvm.MethodName) jdk_42_method_101_code (3 : Nat) (Option.some (Jvm.ClassFile.FieldType.array (Jvm.ClassFile.FieldType.object "java/lang/String")))).before args0 about1 = true := code_word (m := ⟨7, 11⟩) (meth := k7m11) (c := k7c11) (by decide +kernel) rfl rfl rfl (by decide +kernel)
set_option maxRecDepth 65536 in
theorem w_c23 : (Jvm.Cond.code ({ cls := "java/lang/String", name := "split", desc := "(Ljava/lang/String;IZ)[Ljava/lang/String;" } : Jvm.MethodName) jdk_42_method_103_code (6 : Nat) (Option.some (Jvm.ClassFile.FieldType.array (Jvm.ClassFile.FieldType.object "java/lang/String")))).before args0 about1 = true := code_word (m := ⟨7, 12⟩) (meth := k7m12) (c := k7c12) (by decide +kernel) rfl rfl rfl (by decide +kernel)
set_option maxRecDepth 65536 in
theorem w_c24 : (Jvm.Cond.code ({ cls := "java/lang/String", name := "charAt", desc := "(I)C" } : Jvm.MethodName) jdk_42_method_56_code (2 : Nat) (Option.some Jvm.ClassFile.FieldType.char)).before args0 about1 = true := code_word (m := ⟨7, 4⟩) (meth := k7m4) (c := k7c4) (by decide +kernel) rfl rfl rfl (by decide +kernel)
set_option maxRecDepth 65536 in
theorem w_c25 : (Jvm.Cond.code ({ cls := "java/lang/StringLatin1", name := "charAt", desc := "([BI)C" } : Jvm.MethodName) jdk_43_method_2_code (2 : Nat) (Option.some Jvm.ClassFile.FieldType.char)).before args0 about1 = true := code_word (m := ⟨10, 1⟩) (meth := k10m1) (c := k10c1) (by decide +kernel) rfl rfl rfl (by decide +kernel)
set_option maxRecDepth 65536 in
theorem w_c26 : (Jvm.Cond.code ({ cls := "java/lang/String", name := "checkIndex", desc := "(II)V" } : Jvm.MethodName) jdk_42_method_155_code (2 : Nat) (Option.none : Option Jvm.ClassFile.FieldType)).before args0 about1 = true := code_word (m := ⟨7, 19⟩) (meth := k7m19) (c := k7c19) (by decide +kernel) rfl rfl rfl (by decide +kernel)
set_option maxRecDepth 65536 in
theorem w_c27 : (Jvm.Cond.code ({ cls := "jdk/internal/util/Preconditions", name := "checkIndex", desc := "(IILjava/util/function/BiFunction;)I" } : Jvm.MethodName) jdk_41_method_11_code (3 : Nat) (Option.some Jvm.ClassFile.FieldType.int)).before args0 about1 = true := code_word (m := ⟨12, 1⟩) (meth := k12m1) (c := k12c1) (by decide +kernel) rfl rfl rfl (by decide +kernel)
set_option maxRecDepth 65536 in
theorem w_c28 : (Jvm.Cond.code ({ cls := "java/lang/String", name := "split", desc := "(CIZ)[Ljava/lang/String;" } : Jvm.MethodName) jdk_42_method_104_code (12 : Nat) (Option.some (Jvm.ClassFile.FieldType.array (Jvm.ClassFile.FieldType.object "java/lang/String")))).before args0 about1 = true := code_word (m := ⟨7, 13⟩) (meth := k7m13) (c := k7c13) (by decide +kernel) rfl rfl rfl (by decide +kernel)
set_option maxRecDepth 65536 in
theorem w_c29 : (Jvm.Cond.code ({ cls := "java/util/ArrayList", name := "<init>", desc := "()V" } : Jvm.MethodName) jdk_38_method_2_code (1 : Nat) (Option.none : Option Jvm.ClassFile.FieldType)).before args0 about1 = true := code_word (m := ⟨21, 0⟩) (meth := k21m0) (c := k21c0) (by decide +kernel) rfl rfl rfl (by decide +kernel)
set_option maxRecDepth 65536 in
theorem w_c30 : (Jvm.Cond.code ({ cls := "java/util/AbstractList", name := "<init>", desc := "()V" } : Jvm.MethodName) jdk_39_method_1_code (1 : Nat) (Option.none : Option Jvm.ClassFile.FieldType)).before args0 about1 = true := code_word (m := ⟨18, 0⟩) (meth := k18m0) (c := k18c0) (by decide +kernel) rfl rfl rfl (by decide +kernel)
set_option maxRecDepth 65536 in
theorem w_c31 : (Jvm.Cond.code ({ cls := "java/util/AbstractCollection", name := "<init>", desc := "()V" } : Jvm.MethodName) jdk_22_method_1_code (1 : Nat) (Option.none : Option Jvm.ClassFile.FieldType)).before args0 about1 = true := code_word (m := ⟨15, 0⟩) (meth := k15m0) (c := k15c0) (by decide +kernel) rfl rfl rfl (by decide +kernel)
set_option maxRecDepth 65536 in
theorem w_c32 : (Jvm.Cond.code ({ cls := "java/lang/String", name := "substring", desc := "(II)Ljava/lang/String;" } : Jvm.MethodName) jdk_42_method_92_code (5 : Nat) (Option.some (Jvm.ClassFile.FieldType.object "java/lang/String"))).before args0 about1 = true := code_word (m := ⟨7, 9⟩) (meth := k7m9) (c := k7c9) (by decide +kernel) rfl rfl rfl (by decide +kernel)
set_option maxRecDepth 65536 in
theorem w_c33 : (Jvm.Cond.code ({ cls := "java/lang/String", name := "checkBoundsBeginEnd", desc := "(III)V" } : Jvm.MethodName) jdk_42_method_158_code (3 : Nat) (Option.none : Option Jvm.ClassFile.FieldType)).before args0 about1 = true := code_word (m := ⟨7, 20⟩) (meth := k7m20) (c := k7c20) (by decide +kernel) rfl rfl rfl (by decide +kernel)
set_option maxRecDepth 65536 in
theorem w_c34 : (Jvm.Cond.code ({ cls := "jdk/internal/util/Preconditions", name := "checkFromToIndex", desc := "(IIILjava/util/function/BiFunction;)I" } : Jvm.MethodName) jdk_41_method_12_code (4 : Nat) (Option.some Jvm.ClassFile.FieldType.int)).before args0 about1 = true := code_word (m := ⟨12, 2⟩) (meth := k12m2) (c := k12c2) (by decide +kernel) rfl rfl rfl (by decide +kernel)
set_option maxRecDepth 65536 in
theorem w_c35 : (Jvm.Cond.code ({ cls := "java/lang/StringLatin1", name := "newString", desc := "([BII)Ljava/lang/String;" } : Jvm.MethodName) jdk_43_method_47_code (3 : Nat) (Option.some (Jvm.ClassFile.FieldType.object "java/lang/String"))).before args0 about1 = true := code_word (m := ⟨10, 8⟩) (meth := k10m8) (c := k10c8) (by decide +kernel) rfl rfl rfl (by decide +kernel)
set_option maxRecDepth 65536 in
theorem w_c36 : (Jvm.Cond.code ({ cls := "java/util/ArrayList", name := "add", desc := "(Ljava/lang/Object;)Z" } : Jvm.MethodName) jdk_38_method_25_code (2 : Nat) (Option.some Jvm.ClassFile.FieldType.boolean)).before args0 about1 = true := code_word (m := ⟨21, 5⟩) (meth := k21m5) (c := k21c5) (by decide +kernel) rfl rfl rfl (by decide +kernel)
set_option maxRecDepth 65536 in
theorem w_c37 : (Jvm.Cond.code ({ cls := "java/util/ArrayList", name := "add", desc := "(Ljava/lang/Object;[Ljava/lang/Object;I)V" } : Jvm.MethodName) jdk_38_method_24_code (4 : Nat) (Option.none : Option Jvm.ClassFile.FieldType)).before args0 about1 = true := code_word (m := ⟨21, 4⟩) (meth := k21m4) (c := k21c4) (by decide +kernel) rfl rfl rfl (by decide +kernel)
set_option maxRecDepth 65536 in
theorem w_c38 : (Jvm.Cond.code ({ cls := "java/util/ArrayList", name := "grow", desc := "()[Ljava/lang/Object;" } : Jvm.MethodName) jdk_38_method_7_code (1 : Nat) (Option.some (Jvm.ClassFile.FieldType.array (Jvm.ClassFile.FieldType.object "java/lang/Object")))).before args0 about1 = true := code_word (m := ⟨21, 2⟩) (meth := k21m2) (c := k21c2) (by decide +kernel) rfl rfl rfl (by decide +kernel)
set_option maxRecDepth 65536 in
theorem w_c39 : (Jvm.Cond.code ({ cls := "java/util/ArrayList", name := "grow", desc := "(I)[Ljava/lang/Object;" } : Jvm.MethodName) jdk_38_method_6_code (4 : Nat) (Option.some (Jvm.ClassFile.FieldType.array (Jvm.ClassFile.FieldType.object "java/lang/Object")))).before args0 about1 = true := code_word (m := ⟨21, 1⟩) (meth := k21m1) (c := k21c1) (by decide +kernel) rfl rfl rfl (by decide +kernel)
set_option maxRecDepth 65536 in
theorem w_c40 : (Jvm.Cond.code ({ cls := "java/util/ArrayList", name := "size", desc := "()I" } : Jvm.MethodName) jdk_38_method_8_code (1 : Nat) (Option.some Jvm.ClassFile.FieldType.int)).before args0 about1 = true := code_word (m := ⟨21, 3⟩) (meth := k21m3) (c := k21c3) (by decide +kernel) rfl rfl rfl (by decide +kernel)
set_option maxRecDepth 65536 in
theorem w_c41 : (Jvm.Cond.code ({ cls := "java/util/ArrayList", name := "subList", desc := "(II)Ljava/util/List;" } : Jvm.MethodName) jdk_38_method_56_code (3 : Nat) (Option.some (Jvm.ClassFile.FieldType.object "java/util/List"))).before args0 about1 = true := code_word (m := ⟨21, 6⟩) (meth := k21m6) (c := k21c6) (by decide +kernel) rfl rfl rfl (by decide +kernel)
set_option maxRecDepth 65536 in
theorem w_c42 : (Jvm.Cond.code ({ cls := "java/util/AbstractList", name := "subListRangeCheck", desc := "(III)V" } : Jvm.MethodName) jdk_39_method_15_code (3 : Nat) (Option.none : Option Jvm.ClassFile.FieldType)).before args0 about1 = true := code_word (m := ⟨18, 1⟩) (meth := k18m1) (c := k18c1) (by decide +kernel) rfl rfl rfl (by decide +kernel)
set_option maxRecDepth 65536 in
theorem w_c43 : (Jvm.Cond.code ({ cls := "java/util/ArrayList$SubList", name := "<init>", desc := "(Ljava/util/ArrayList;II)V" } : Jvm.MethodName) jdk_130_method_1_code (4 : Nat) (Option.none : Option Jvm.ClassFile.FieldType)).before args0 about1 = true := code_word (m := ⟨22, 0⟩) (meth := k22m0) (c := k22c0) (by decide +kernel) rfl rfl rfl (by decide +kernel)
set_option maxRecDepth 65536 in
theorem w_c44 : (Jvm.Cond.code ({ cls := "java/util/ArrayList$SubList", name := "toArray", desc := "([Ljava/lang/Object;)[Ljava/lang/Object;" } : Jvm.MethodName) jdk_130_method_17_code (2 : Nat) (Option.some (Jvm.ClassFile.FieldType.array (Jvm.ClassFile.FieldType.object "java/lang/Object")))).before args0 about1 = true := code_word (m := ⟨22, 1⟩) (meth := k22m1) (c := k22c1) (by decide +kernel) rfl rfl rfl (by decide +kernel)
set_option maxRecDepth 65536 in
theorem w_c45 : (Jvm.Cond.code ({ cls := "java/util/ArrayList$SubList", name := "checkForComodification", desc := "()V" } : Jvm.MethodName) jdk_130_method_28_code (1 : Nat) (Option.none : Option Jvm.ClassFile.FieldType)).before args0 about1 = true := code_word (m := ⟨22, 2⟩) (meth := k22m2) (c := k22c2) (by decide +kernel) rfl rfl rfl (by decide +kernel)
set_option maxRecDepth 65536 in
theorem w_c46 : (Jvm.Cond.code ({ cls := "com/example/corduroy/corduroy/TopicsHasWildcardPinLaw", name := "wild", desc := "(IICCC)Z" } : Jvm.MethodName) method_5_code (7 : Nat) (Option.some Jvm.ClassFile.FieldType.boolean)).before args0 about1 = true := code_word (m := ⟨1, 4⟩) (meth := k1m4) (c := k1c4) (by decide +kernel) rfl rfl rfl (by decide +kernel)
set_option maxRecDepth 65536 in
theorem w_c47 : (Jvm.Cond.code ({ cls := "com/example/corduroy/corduroy/Topics", name := "hasWildcard", desc := "(Ljava/lang/String;)Z" } : Jvm.MethodName) prog_29_method_13_code (1 : Nat) (Option.some Jvm.ClassFile.FieldType.boolean)).before args0 about1 = true := code_word (m := ⟨9, 3⟩) (meth := k9m3) (c := k9c3) (by decide +kernel) rfl rfl rfl (by decide +kernel)
set_option maxRecDepth 65536 in
theorem w_c48 : (Jvm.Cond.code ({ cls := "java/lang/String", name := "contains", desc := "(Ljava/lang/CharSequence;)Z" } : Jvm.MethodName) jdk_42_method_97_code (2 : Nat) (Option.some Jvm.ClassFile.FieldType.boolean)).before args0 about1 = true := code_word (m := ⟨7, 10⟩) (meth := k7m10) (c := k7c10) (by decide +kernel) rfl rfl rfl (by decide +kernel)
set_option maxRecDepth 65536 in
theorem w_c49 : (Jvm.Cond.code ({ cls := "java/lang/String", name := "toString", desc := "()Ljava/lang/String;" } : Jvm.MethodName) jdk_42_method_126_code (1 : Nat) (Option.some (Jvm.ClassFile.FieldType.object "java/lang/String"))).before args0 about1 = true := code_word (m := ⟨7, 14⟩) (meth := k7m14) (c := k7c14) (by decide +kernel) rfl rfl rfl (by decide +kernel)
set_option maxRecDepth 65536 in
theorem w_c50 : (Jvm.Cond.code ({ cls := "java/lang/String", name := "indexOf", desc := "(Ljava/lang/String;)I" } : Jvm.MethodName) jdk_42_method_84_code (3 : Nat) (Option.some Jvm.ClassFile.FieldType.int)).before args0 about1 = true := code_word (m := ⟨7, 8⟩) (meth := k7m8) (c := k7c8) (by decide +kernel) rfl rfl rfl (by decide +kernel)
set_option maxRecDepth 65536 in
theorem w_c51 : (Jvm.Cond.code ({ cls := "java/lang/StringLatin1", name := "indexOf", desc := "([B[B)I" } : Jvm.MethodName) jdk_43_method_24_code (2 : Nat) (Option.some Jvm.ClassFile.FieldType.int)).before args0 about1 = true := code_word (m := ⟨10, 6⟩) (meth := k10m6) (c := k10c6) (by decide +kernel) rfl rfl rfl (by decide +kernel)
set_option maxRecDepth 65536 in
theorem w_c52 : (Jvm.Cond.code ({ cls := "java/lang/StringLatin1", name := "indexOf", desc := "([BI[BII)I" } : Jvm.MethodName) jdk_43_method_25_code (11 : Nat) (Option.some Jvm.ClassFile.FieldType.int)).before args0 about1 = true := code_word (m := ⟨10, 7⟩) (meth := k10m7) (c := k10c7) (by decide +kernel) rfl rfl rfl (by decide +kernel)
set_option maxRecDepth 65536 in
theorem w_c53 : (Jvm.Cond.code ({ cls := "java/util/Arrays", name := "copyOfRange", desc := "([BII)[B" } : Jvm.MethodName) jdk_65_method_132_code (3 : Nat) (Option.some (Jvm.ClassFile.FieldType.array Jvm.ClassFile.FieldType.byte))).before args0 about1 = true := code_word (m := ⟨24, 2⟩) (meth := k24m2) (c := k24c2) (by decide +kernel) rfl rfl rfl (by decide +kernel)
set_option maxRecDepth 65536 in
theorem w_c54 : (Jvm.Cond.code ({ cls := "java/util/Arrays", name := "copyOfRangeByte", desc := "([BII)[B" } : Jvm.MethodName) jdk_65_method_133_code (5 : Nat) (Option.some (Jvm.ClassFile.FieldType.array Jvm.ClassFile.FieldType.byte))).before args0 about1 = true := code_word (m := ⟨24, 3⟩) (meth := k24m3) (c := k24c3) (by decide +kernel) rfl rfl rfl (by decide +kernel)
set_option maxRecDepth 65536 in
theorem w_c55 : (Jvm.Cond.code ({ cls := "java/util/Arrays", name := "checkLength", desc := "(II)V" } : Jvm.MethodName) jdk_65_method_131_code (2 : Nat) (Option.none : Option Jvm.ClassFile.FieldType)).before args0 about1 = true := code_word (m := ⟨24, 1⟩) (meth := k24m1) (c := k24c1) (by decide +kernel) rfl rfl rfl (by decide +kernel)
set_option maxRecDepth 65536 in
theorem w_c56 : (Jvm.Cond.code ({ cls := "java/lang/String", name := "<init>", desc := "([BB)V" } : Jvm.MethodName) jdk_42_method_151_code (3 : Nat) (Option.none : Option Jvm.ClassFile.FieldType)).before args0 about1 = true := code_word (m := ⟨7, 16⟩) (meth := k7m16) (c := k7c16) (by decide +kernel) rfl rfl rfl (by decide +kernel)
set_option maxRecDepth 65536 in
theorem w_c57 : (Jvm.Cond.code ({ cls := "java/lang/String", name := "equals", desc := "(Ljava/lang/Object;)Z" } : Jvm.MethodName) jdk_42_method_66_code (3 : Nat) (Option.some Jvm.ClassFile.FieldType.boolean)).before args0 about1 = true := code_word (m := ⟨7, 5⟩) (meth := k7m5) (c := k7c5) (by decide +kernel) rfl rfl rfl (by decide +kernel)
set_option maxRecDepth 65536 in
theorem w_c58 : (Jvm.Cond.code ({ cls := "java/lang/StringLatin1", name := "equals", desc := "([B[B)Z" } : Jvm.MethodName) jdk_43_method_13_code (3 : Nat) (Option.some Jvm.ClassFile.FieldType.boolean)).before args0 about1 = true := code_word (m := ⟨10, 3⟩) (meth := k10m3) (c := k10c3) (by decide +kernel) rfl rfl rfl (by decide +kernel)
def codes1 : List Jvm.Cond := [Jvm.Cond.code x code maxLocals ret, Jvm.Cond.code ({ cls := "com/example/corduroy/corduroy/TopicsHasWildcardPinLaw", name := "pick", desc := "(I)C" } : Jvm.MethodName) method_3_code (2 : Nat) (Option.some Jvm.ClassFile.FieldType.char), Jvm.Cond.code ({ cls := "com/example/corduroy/corduroy/TopicsHasWildcardPinLaw", name := "make", desc := "(ICCCC)Ljava/lang/String;" } : Jvm.MethodName) method_4_code (5 : Nat) (Option.some (Jvm.ClassFile.FieldType.object "java/lang/String")), Jvm.Cond.code ({ cls := "java/lang/String", name := "<init>", desc := "([C)V" } : Jvm.MethodName) jdk_42_method_3_code (2 : Nat) (Option.none : Option Jvm.ClassFile.FieldType), Jvm.Cond.code ({ cls := "java/lang/String", name := "<init>", desc := "([CIILjava/lang/Void;)V" } : Jvm.MethodName) jdk_42_method_149_code (6 : Nat) (Option.none : Option Jvm.ClassFile.FieldType), Jvm.Cond.code ({ cls := "java/lang/Object", name := "<init>", desc := "()V" } : Jvm.MethodName) object_method_1_code (1 : Nat) (Option.none : Option Jvm.ClassFile.FieldType), Jvm.Cond.code ({ cls := "java/lang/StringUTF16", name := "compress", desc := "([CII)[B" } : Jvm.MethodName) jdk_52_method_16_code (6 : Nat) (Option.some (Jvm.ClassFile.FieldType.array Jvm.ClassFile.FieldType.byte)), Jvm.Cond.code ({ cls := "java/lang/StringUTF16", name := "compress", desc := "([CI[BII)I" } : Jvm.MethodName) jdk_52_method_21_code (7 : Nat) (Option.some Jvm.ClassFile.FieldType.int), Jvm.Cond.code ({ cls := "java/lang/StringUTF16", name := "coderFromArrayLen", desc := "([BI)B" } : Jvm.MethodName) jdk_52_method_15_code (2 : Nat) (Option.some Jvm.ClassFile.FieldType.byte), Jvm.Cond.code ({ cls := "com/example/corduroy/corduroy/Topics", name := "isValidFilter", desc := "(Ljava/lang/String;)Z" } : Jvm.MethodName) prog_29_method_5_code (5 : Nat) (Option.some Jvm.ClassFile.FieldType.boolean), Jvm.Cond.code ({ cls := "java/lang/String", name := "isEmpty", desc := "()Z" } : Jvm.MethodName) jdk_42_method_55_code (1 : Nat) (Option.some Jvm.ClassFile.FieldType.boolean), Jvm.Cond.code ({ cls := "java/lang/String", name := "indexOf", desc := "(I)I" } : Jvm.MethodName) jdk_42_method_79_code (2 : Nat) (Option.some Jvm.ClassFile.FieldType.int), Jvm.Cond.code ({ cls := "java/lang/String", name := "indexOf", desc := "(II)I" } : Jvm.MethodName) jdk_42_method_80_code (3 : Nat) (Option.some Jvm.ClassFile.FieldType.int), Jvm.Cond.code ({ cls := "java/lang/String", name := "isLatin1", desc := "()Z" } : Jvm.MethodName) jdk_42_method_154_code (1 : Nat) (Option.some Jvm.ClassFile.FieldType.boolean), Jvm.Cond.code ({ cls := "java/lang/String", name := "length", desc := "()I" } : Jvm.MethodName) jdk_42_method_54_code (1 : Nat) (Option.some Jvm.ClassFile.FieldType.int), Jvm.Cond.code ({ cls := "java/lang/String", name := "coder", desc := "()B" } : Jvm.MethodName) jdk_42_method_152_code (1 : Nat) (Option.some Jvm.ClassFile.FieldType.byte), Jvm.Cond.code ({ cls := "java/lang/StringLatin1", name := "indexOf", desc := "([BIII)I" } : Jvm.MethodName) jdk_43_method_22_code (4 : Nat) (Option.some Jvm.ClassFile.FieldType.int), Jvm.Cond.code ({ cls := "java/lang/StringLatin1", name := "canEncode", desc := "(I)Z" } : Jvm.MethodName) jdk_43_method_4_code (1 : Nat) (Option.some Jvm.ClassFile.FieldType.boolean), Jvm.Cond.code ({ cls := "java/lang/Math", name := "max", desc := "(II)I" } : Jvm.MethodName) jdk_29_method_65_code (2 : Nat) (Option.some Jvm.ClassFile.FieldType.int), Jvm.Cond.code ({ cls := "java/lang/Math", name := "min", desc := "(II)I" } : Jvm.MethodName) jdk_29_method_69_code (2 : Nat) (Option.some Jvm.ClassFile.FieldType.int), Jvm.Cond.code ({ cls := "java/lang/StringLatin1", name := "indexOfChar", desc := "([BIII)I" } : Jvm.MethodName) jdk_43_method_23_code (6 : Nat) (Option.some Jvm.ClassFile.FieldType.int), Jvm.Cond.code ({ cls := "com/example/corduroy/corduroy/Topics", name := "levels", desc := "(Ljava/lang/String;)[Ljava/lang/String;" } : Jvm.MethodName) prog_29_method_2_code (1 : Nat) (Option.some (Jvm.ClassFile.FieldType.array (Jvm.ClassFile.FieldType.object "java/lang/String"))), Jvm.Cond.code ({ cls := "java/lang/String", name := "split", desc := "(Ljava/lang/String;I)[Ljava/lang/String;" } : Jvm.MethodName) jdk_42_method_101_code (3 : Nat) (Option.some (Jvm.ClassFile.FieldType.array (Jvm.ClassFile.FieldType.object "java/lang/String"))), Jvm.Cond.code ({ cls := "java/lang/String", name := "split", desc := "(Ljava/lang/String;IZ)[Ljava/lang/String;" } : Jvm.MethodName) jdk_42_method_103_code (6 : Nat) (Option.some (Jvm.ClassFile.FieldType.array (Jvm.ClassFile.FieldType.object "java/lang/String"))), Jvm.Cond.code ({ cls := "java/lang/String", name := "charAt", desc := "(I)C" } : Jvm.MethodName) jdk_42_method_56_code (2 : Nat) (Option.some Jvm.ClassFile.FieldType.char), Jvm.Cond.code ({ cls := "java/lang/StringLatin1", name := "charAt", desc := "([BI)C" } : Jvm.MethodName) jdk_43_method_2_code (2 : Nat) (Option.some Jvm.ClassFile.FieldType.char), Jvm.Cond.code ({ cls := "java/lang/String", name := "checkIndex", desc := "(II)V" } : Jvm.MethodName) jdk_42_method_155_code (2 : Nat) (Option.none : Option Jvm.ClassFile.FieldType), Jvm.Cond.code ({ cls := "jdk/internal/util/Preconditions", name := "checkIndex", desc := "(IILjava/util/function/BiFunction;)I" } : Jvm.MethodName) jdk_41_method_11_code (3 : Nat) (Option.some Jvm.ClassFile.FieldType.int), Jvm.Cond.code ({ cls := "java/lang/String", name := "split", desc := "(CIZ)[Ljava/lang/String;" } : Jvm.MethodName) jdk_42_method_104_code (12 : Nat) (Option.some (Jvm.ClassFile.FieldType.array (Jvm.ClassFile.FieldType.object "java/lang/String"))), Jvm.Cond.code ({ cls := "java/util/ArrayList", name := "<init>", desc := "()V" } : Jvm.MethodName) jdk_38_method_2_code (1 : Nat) (Option.none : Option Jvm.ClassFile.FieldType), Jvm.Cond.code ({ cls := "java/util/AbstractList", name := "<init>", desc := "()V" } : Jvm.MethodName) jdk_39_method_1_code (1 : Nat) (Option.none : Option Jvm.ClassFile.FieldType), Jvm.Cond.code ({ cls := "java/util/AbstractCollection", name := "<init>", desc := "()V" } : Jvm.MethodName) jdk_22_method_1_code (1 : Nat) (Option.none : Option Jvm.ClassFile.FieldType), Jvm.Cond.code ({ cls := "java/lang/String", name := "substring", desc := "(II)Ljava/lang/String;" } : Jvm.MethodName) jdk_42_method_92_code (5 : Nat) (Option.some (Jvm.ClassFile.FieldType.object "java/lang/String")), Jvm.Cond.code ({ cls := "java/lang/String", name := "checkBoundsBeginEnd", desc := "(III)V" } : Jvm.MethodName) jdk_42_method_158_code (3 : Nat) (Option.none : Option Jvm.ClassFile.FieldType), Jvm.Cond.code ({ cls := "jdk/internal/util/Preconditions", name := "checkFromToIndex", desc := "(IIILjava/util/function/BiFunction;)I" } : Jvm.MethodName) jdk_41_method_12_code (4 : Nat) (Option.some Jvm.ClassFile.FieldType.int), Jvm.Cond.code ({ cls := "java/lang/StringLatin1", name := "newString", desc := "([BII)Ljava/lang/String;" } : Jvm.MethodName) jdk_43_method_47_code (3 : Nat) (Option.some (Jvm.ClassFile.FieldType.object "java/lang/String")), Jvm.Cond.code ({ cls := "java/util/ArrayList", name := "add", desc := "(Ljava/lang/Object;)Z" } : Jvm.MethodName) jdk_38_method_25_code (2 : Nat) (Option.some Jvm.ClassFile.FieldType.boolean), Jvm.Cond.code ({ cls := "java/util/ArrayList", name := "add", desc := "(Ljava/lang/Object;[Ljava/lang/Object;I)V" } : Jvm.MethodName) jdk_38_method_24_code (4 : Nat) (Option.none : Option Jvm.ClassFile.FieldType), Jvm.Cond.code ({ cls := "java/util/ArrayList", name := "grow", desc := "()[Ljava/lang/Object;" } : Jvm.MethodName) jdk_38_method_7_code (1 : Nat) (Option.some (Jvm.ClassFile.FieldType.array (Jvm.ClassFile.FieldType.object "java/lang/Object"))), Jvm.Cond.code ({ cls := "java/util/ArrayList", name := "grow", desc := "(I)[Ljava/lang/Object;" } : Jvm.MethodName) jdk_38_method_6_code (4 : Nat) (Option.some (Jvm.ClassFile.FieldType.array (Jvm.ClassFile.FieldType.object "java/lang/Object"))), Jvm.Cond.code ({ cls := "java/util/ArrayList", name := "size", desc := "()I" } : Jvm.MethodName) jdk_38_method_8_code (1 : Nat) (Option.some Jvm.ClassFile.FieldType.int), Jvm.Cond.code ({ cls := "java/util/ArrayList", name := "subList", desc := "(II)Ljava/util/List;" } : Jvm.MethodName) jdk_38_method_56_code (3 : Nat) (Option.some (Jvm.ClassFile.FieldType.object "java/util/List")), Jvm.Cond.code ({ cls := "java/util/AbstractList", name := "subListRangeCheck", desc := "(III)V" } : Jvm.MethodName) jdk_39_method_15_code (3 : Nat) (Option.none : Option Jvm.ClassFile.FieldType), Jvm.Cond.code ({ cls := "java/util/ArrayList$SubList", name := "<init>", desc := "(Ljava/util/ArrayList;II)V" } : Jvm.MethodName) jdk_130_method_1_code (4 : Nat) (Option.none : Option Jvm.ClassFile.FieldType), Jvm.Cond.code ({ cls := "java/util/ArrayList$SubList", name := "toArray", desc := "([Ljava/lang/Object;)[Ljava/lang/Object;" } : Jvm.MethodName) jdk_130_method_17_code (2 : Nat) (Option.some (Jvm.ClassFile.FieldType.array (Jvm.ClassFile.FieldType.object "java/lang/Object"))), Jvm.Cond.code ({ cls := "java/util/ArrayList$SubList", name := "checkForComodification", desc := "()V" } : Jvm.MethodName) jdk_130_method_28_code (1 : Nat) (Option.none : Option Jvm.ClassFile.FieldType), Jvm.Cond.code ({ cls := "com/example/corduroy/corduroy/TopicsHasWildcardPinLaw", name := "wild", desc := "(IICCC)Z" } : Jvm.MethodName) method_5_code (7 : Nat) (Option.some Jvm.ClassFile.FieldType.boolean), Jvm.Cond.code ({ cls := "com/example/corduroy/corduroy/Topics", name := "hasWildcard", desc := "(Ljava/lang/String;)Z" } : Jvm.MethodName) prog_29_method_13_code (1 : Nat) (Option.some Jvm.ClassFile.FieldType.boolean), Jvm.Cond.code ({ cls := "java/lang/String", name := "contains", desc := "(Ljava/lang/CharSequence;)Z" } : Jvm.MethodName) jdk_42_method_97_code (2 : Nat) (Option.some Jvm.ClassFile.FieldType.boolean), Jvm.Cond.code ({ cls := "java/lang/String", name := "toString", desc := "()Ljava/lang/String;" } : Jvm.MethodName) jdk_42_method_126_code (1 : Nat) (Option.some (Jvm.ClassFile.FieldType.object "java/lang/String")), Jvm.Cond.code ({ cls := "java/lang/String", name := "indexOf", desc := "(Ljava/lang/String;)I" } : Jvm.MethodName) jdk_42_method_84_code (3 : Nat) (Option.some Jvm.ClassFile.FieldType.int), Jvm.Cond.code ({ cls := "java/lang/StringLatin1", name := "indexOf", desc := "([B[B)I" } : Jvm.MethodName) jdk_43_method_24_code (2 : Nat) (Option.some Jvm.ClassFile.FieldType.int), Jvm.Cond.code ({ cls := "java/lang/StringLatin1", name := "indexOf", desc := "([BI[BII)I" } : Jvm.MethodName) jdk_43_method_25_code (11 : Nat) (Option.some Jvm.ClassFile.FieldType.int), Jvm.Cond.code ({ cls := "java/util/Arrays", name := "copyOfRange", desc := "([BII)[B" } : Jvm.MethodName) jdk_65_method_132_code (3 : Nat) (Option.some (Jvm.ClassFile.FieldType.array Jvm.ClassFile.FieldType.byte)), Jvm.Cond.code ({ cls := "java/util/Arrays", name := "copyOfRangeByte", desc := "([BII)[B" } : Jvm.MethodName) jdk_65_method_133_code (5 : Nat) (Option.some (Jvm.ClassFile.FieldType.array Jvm.ClassFile.FieldType.byte)), Jvm.Cond.code ({ cls := "java/util/Arrays", name := "checkLength", desc := "(II)V" } : Jvm.MethodName) jdk_65_method_131_code (2 : Nat) (Option.none : Option Jvm.ClassFile.FieldType), Jvm.Cond.code ({ cls := "java/lang/String", name := "<init>", desc := "([BB)V" } : Jvm.MethodName) jdk_42_method_151_code (3 : Nat) (Option.none : Option Jvm.ClassFile.FieldType), Jvm.Cond.code ({ cls := "java/lang/String", name := "equals", desc := "(Ljava/lang/Object;)Z" } : Jvm.MethodName) jdk_42_method_66_code (3 : Nat) (Option.some Jvm.ClassFile.FieldType.boolean), Jvm.Cond.code ({ cls := "java/lang/StringLatin1", name := "equals", desc := "([B[B)Z" } : Jvm.MethodName) jdk_43_method_13_code (3 : Nat) (Option.some Jvm.ClassFile.FieldType.boolean)]
set_option maxRecDepth 65536 in
theorem codes_eq : words1.filter isCode = codes1 := rfl
theorem w_codes : ∀ c ∈ words1.filter isCode, c.before args0 about1 = true := by
  rw [codes_eq]
  intro c hc
  simp only [codes1, List.mem_cons, List.not_mem_nil, or_false] at hc
  rcases hc with rfl | rfl | rfl | rfl | rfl | rfl | rfl | rfl | rfl | rfl | rfl | rfl | rfl | rfl | rfl | rfl | rfl | rfl | rfl | rfl | rfl | rfl | rfl | rfl | rfl | rfl | rfl | rfl | rfl | rfl | rfl | rfl | rfl | rfl | rfl | rfl | rfl | rfl | rfl | rfl | rfl | rfl | rfl | rfl | rfl | rfl | rfl | rfl | rfl | rfl | rfl | rfl | rfl | rfl | rfl | rfl | rfl | rfl | rfl
  · exact w_c0
  · exact w_c1
  · exact w_c2
  · exact w_c3
  · exact w_c4
  · exact w_c5
  · exact w_c6
  · exact w_c7
  · exact w_c8
  · exact w_c9
  · exact w_c10
  · exact w_c11
  · exact w_c12
  · exact w_c13
  · exact w_c14
  · exact w_c15
  · exact w_c16
  · exact w_c17
  · exact w_c18
  · exact w_c19
  · exact w_c20
  · exact w_c21
  · exact w_c22
  · exact w_c23
  · exact w_c24
  · exact w_c25
  · exact w_c26
  · exact w_c27
  · exact w_c28
  · exact w_c29
  · exact w_c30
  · exact w_c31
  · exact w_c32
  · exact w_c33
  · exact w_c34
  · exact w_c35
  · exact w_c36
  · exact w_c37
  · exact w_c38
  · exact w_c39
  · exact w_c40
  · exact w_c41
  · exact w_c42
  · exact w_c43
  · exact w_c44
  · exact w_c45
  · exact w_c46
  · exact w_c47
  · exact w_c48
  · exact w_c49
  · exact w_c50
  · exact w_c51
  · exact w_c52
  · exact w_c53
  · exact w_c54
  · exact w_c55
  · exact w_c56
  · exact w_c57
  · exact w_c58
set_option maxRecDepth 65536 in
theorem w_t1 : (words1.take 24).all (fun c => isCode c || c.before args0 about1) = true := by decide +kernel
set_option maxRecDepth 65536 in
theorem w_t2 : ((words1.drop 24).take 24).all (fun c => isCode c || c.before args0 about1) = true := by decide +kernel
set_option maxRecDepth 65536 in
theorem w_t3 : (((words1.drop 24).drop 24).take 24).all (fun c => isCode c || c.before args0 about1) = true := by decide +kernel
set_option maxRecDepth 65536 in
theorem w_t4 : ((((words1.drop 24).drop 24).drop 24).take 24).all (fun c => isCode c || c.before args0 about1) = true := by decide +kernel
set_option maxRecDepth 65536 in
theorem w_t5 : (((((words1.drop 24).drop 24).drop 24).drop 24).take 24).all (fun c => isCode c || c.before args0 about1) = true := by decide +kernel
set_option maxRecDepth 65536 in
theorem w_t6 : ((((((words1.drop 24).drop 24).drop 24).drop 24).drop 24).take 24).all (fun c => isCode c || c.before args0 about1) = true := by decide +kernel
set_option maxRecDepth 65536 in
theorem w_t7 : (((((((words1.drop 24).drop 24).drop 24).drop 24).drop 24).drop 24).take 24).all (fun c => isCode c || c.before args0 about1) = true := by decide +kernel
set_option maxRecDepth 65536 in
theorem w_t8 : ((((((((words1.drop 24).drop 24).drop 24).drop 24).drop 24).drop 24).drop 24).take 24).all (fun c => isCode c || c.before args0 about1) = true := by decide +kernel
set_option maxRecDepth 65536 in
theorem w_t9 : (((((((((words1.drop 24).drop 24).drop 24).drop 24).drop 24).drop 24).drop 24).drop 24).take 24).all (fun c => isCode c || c.before args0 about1) = true := by decide +kernel
set_option maxRecDepth 65536 in
theorem w_t10 : ((((((((((words1.drop 24).drop 24).drop 24).drop 24).drop 24).drop 24).drop 24).drop 24).drop 24).take 24).all (fun c => isCode c || c.before args0 about1) = true := by decide +kernel
set_option maxRecDepth 65536 in
theorem w_t11 : (((((((((((words1.drop 24).drop 24).drop 24).drop 24).drop 24).drop 24).drop 24).drop 24).drop 24).drop 24).take 24).all (fun c => isCode c || c.before args0 about1) = true := by decide +kernel
set_option maxRecDepth 65536 in
theorem w_t12 : ((((((((((((words1.drop 24).drop 24).drop 24).drop 24).drop 24).drop 24).drop 24).drop 24).drop 24).drop 24).drop 24).take 24).all (fun c => isCode c || c.before args0 about1) = true := by decide +kernel
set_option maxRecDepth 65536 in
theorem w_t13 : (((((((((((((words1.drop 24).drop 24).drop 24).drop 24).drop 24).drop 24).drop 24).drop 24).drop 24).drop 24).drop 24).drop 24).take 24).all (fun c => isCode c || c.before args0 about1) = true := by decide +kernel
set_option maxRecDepth 65536 in
theorem w_t14 : (((((((((((((words1.drop 24).drop 24).drop 24).drop 24).drop 24).drop 24).drop 24).drop 24).drop 24).drop 24).drop 24).drop 24).drop 24).all (fun c => isCode c || c.before args0 about1) = true := by decide +kernel
theorem w_tables : (allAtoms (Jvm.Cond.code x code maxLocals ret :: tables_1)).before args0 about1 = true := by
  rw [allAtoms_all]
  show words1.all (fun c => c.before args0 about1) = true
  refine all_split ?_ w_codes
  rw [← List.take_append_drop 24 words1, List.all_append, w_t1, ← List.take_append_drop 24 (words1.drop 24), List.all_append, w_t2, ← List.take_append_drop 24 ((words1.drop 24).drop 24), List.all_append, w_t3, ← List.take_append_drop 24 (((words1.drop 24).drop 24).drop 24), List.all_append, w_t4, ← List.take_append_drop 24 ((((words1.drop 24).drop 24).drop 24).drop 24), List.all_append, w_t5, ← List.take_append_drop 24 (((((words1.drop 24).drop 24).drop 24).drop 24).drop 24), List.all_append, w_t6, ← List.take_append_drop 24 ((((((words1.drop 24).drop 24).drop 24).drop 24).drop 24).drop 24), List.all_append, w_t7, ← List.take_append_drop 24 (((((((words1.drop 24).drop 24).drop 24).drop 24).drop 24).drop 24).drop 24), List.all_append, w_t8, ← List.take_append_drop 24 ((((((((words1.drop 24).drop 24).drop 24).drop 24).drop 24).drop 24).drop 24).drop 24), List.all_append, w_t9, ← List.take_append_drop 24 (((((((((words1.drop 24).drop 24).drop 24).drop 24).drop 24).drop 24).drop 24).drop 24).drop 24), List.all_append, w_t10, ← List.take_append_drop 24 ((((((((((words1.drop 24).drop 24).drop 24).drop 24).drop 24).drop 24).drop 24).drop 24).drop 24).drop 24), List.all_append, w_t11, ← List.take_append_drop 24 (((((((((((words1.drop 24).drop 24).drop 24).drop 24).drop 24).drop 24).drop 24).drop 24).drop 24).drop 24).drop 24), List.all_append, w_t12, ← List.take_append_drop 24 ((((((((((((words1.drop 24).drop 24).drop 24).drop 24).drop 24).drop 24).drop 24).drop 24).drop 24).drop 24).drop 24).drop 24), List.all_append, w_t13, w_t14]
  rfl
set_option maxRecDepth 65536 in
theorem w_rest : rest_1_c.before args0 about1 = true := by decide +kernel
set_option maxRecDepth 65536 in
theorem w_case : (Jvm.Cond.and given_1 narrow_1).before args0 about1 = true := by decide +kernel
set_option maxRecDepth 65536 in
theorem w_consts : constsHeld consts_1 about1 := Jvm.Lit.constsHeldB_iff.mp (by decide +kernel)
theorem w_applies : (headSpec (Jvm.Cond.code x code maxLocals ret :: tables_1) room_1).applies x e0.platform about1 = true :=
  (Spec.applies_iff w_frames).mpr ⟨w_running, w_runnable, w_alone, w_named, w_hears, w_ripe, w_room, w_tables⟩
theorem atStart : AtStart classFile x code maxLocals ret World_1 tables_1 room_1 Calls_1 rest_1 Pre_1 launch0 p0 e0 about1 theMethod args0 below0 :=
  ⟨lists_1, trivial, launch0.admits_env _ _ _, launch0.least_env, fairChoices_fair.cas, fairChoices_fair.clock, w_frames, w_args, w_heap, w_applies, ⟨w_consts, trivial⟩, w_rest, w_case⟩
end start1
theorem witness_1 : WitnessClaimed_1 := ⟨start1.p0, start1.e0, start1.about1, start1.theMethod, start1.args0, start1.below0, start1.atStart⟩
end Jvm.Pilot.@@N@@
