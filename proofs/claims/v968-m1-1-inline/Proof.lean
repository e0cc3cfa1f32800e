import JvmDerived
import JvmDerived.Pilot.@@N@@Statement
import JvmDerived.Pilot.@@N@@Code
set_option linter.unusedVariables false
set_option linter.unusedSimpArgs false
open Int32 (ofNat)
namespace Jvm.Pilot.@@N@@
open Jvm Jvm.ClassFile Sem Op Lib Jvm.Free Jvm.Stand Jvm.LawKit Jvm.RoadKit Bundle Jvm.Pilot.@@N@@.Jvm.D
abbrev oI (x : Int32) : Slot := .val (.int x)
abbrev oJ (x : Int64) : Slot := .val (.long x)
abbrev oR (x : Addr) : Slot := .val (.ref x)
abbrev yM0 : MethodName := ⟨"java/lang/String", "coder", "()B"⟩
abbrev yM1 : MethodName := ⟨"java/lang/String", "length", "()I"⟩
abbrev yM2 : MethodName := ⟨"java/lang/Math", "max", "(II)I"⟩
abbrev yM3 : MethodName := ⟨"java/lang/Math", "min", "(II)I"⟩
abbrev yM4 : MethodName := ⟨"jdk/internal/util/ArraysSupport", "newLength", "(III)I"⟩
abbrev yM5 : MethodName := ⟨"java/lang/AbstractStringBuilder", "newCapacity", "(I)I"⟩
abbrev yM6 : MethodName := ⟨"java/util/Arrays", "copyOf", "([BI)[B"⟩
abbrev yM7 : MethodName := ⟨"java/lang/AbstractStringBuilder", "ensureCapacityInternal", "(I)V"⟩
abbrev yM8 : MethodName := ⟨"java/lang/AbstractStringBuilder", "inflateIfNeededFor", "(Ljava/lang/String;)V"⟩
abbrev yM9 : MethodName := ⟨"java/lang/String", "getBytes", "([BIB)V"⟩
abbrev yM10 : MethodName := ⟨"java/lang/AbstractStringBuilder", "putStringAt", "(ILjava/lang/String;)V"⟩
abbrev yM11 : MethodName := ⟨"java/lang/AbstractStringBuilder", "append", "(Ljava/lang/String;)Ljava/lang/AbstractStringBuilder;"⟩
abbrev yM12 : MethodName := ⟨"java/lang/StringBuilder", "append", "(Ljava/lang/String;)Ljava/lang/StringBuilder;"⟩
abbrev yM13 : MethodName := ⟨"java/lang/AbstractStringBuilder", "<init>", "(I)V"⟩
abbrev yM14 : MethodName := ⟨"java/lang/StringBuilder", "<init>", "()V"⟩
abbrev yM15 : MethodName := ⟨"java/lang/AbstractStringBuilder", "getValue", "()[B"⟩
abbrev yM16 : MethodName := ⟨"java/lang/AbstractStringBuilder", "length", "()I"⟩
abbrev yM17 : MethodName := ⟨"java/lang/StringBuilder", "length", "()I"⟩
abbrev yM18 : MethodName := ⟨"java/lang/AbstractStringBuilder", "isLatin1", "()Z"⟩
abbrev yM19 : MethodName := ⟨"java/util/Arrays", "checkLength", "(II)V"⟩
abbrev yM20 : MethodName := ⟨"java/util/Arrays", "copyOfRangeByte", "([BII)[B"⟩
abbrev yM21 : MethodName := ⟨"java/util/Arrays", "copyOfRange", "([BII)[B"⟩
abbrev yM22 : MethodName := ⟨"java/lang/String", "<init>", "(Ljava/lang/AbstractStringBuilder;Ljava/lang/Void;)V"⟩
abbrev yM23 : MethodName := ⟨"java/lang/String", "<init>", "(Ljava/lang/StringBuilder;)V"⟩
abbrev yM24 : MethodName := ⟨"java/lang/StringBuilder", "toString", "()Ljava/lang/String;"⟩
abbrev yM25 : MethodName := ⟨"java/util/Base64$Encoder", "encodeBlock", "([BII[BIZ)V"⟩
abbrev yM26 : MethodName := ⟨"java/util/Objects", "requireNonNull", "(Ljava/lang/Object;)Ljava/lang/Object;"⟩
abbrev yM27 : MethodName := ⟨"java/util/Base64$Encoder", "<init>", "(Z[BIZ)V"⟩
abbrev yM28 : MethodName := ⟨"java/util/Base64", "getMimeEncoder", "(I[B)Ljava/util/Base64$Encoder;"⟩
abbrev yM29 : MethodName := ⟨"java/lang/Math", "addExact", "(II)I"⟩
abbrev yM30 : MethodName := ⟨"java/lang/Math", "multiplyExact", "(II)I"⟩
abbrev yM31 : MethodName := ⟨"java/util/Base64$Encoder", "encodedOutLength", "(IZ)I"⟩
abbrev yM32 : MethodName := ⟨"java/util/Base64$Encoder", "encode0", "([BII[B)I"⟩
abbrev yM33 : MethodName := ⟨"java/util/Base64$Encoder", "encode", "([B)[B"⟩
abbrev yM34 : MethodName := ⟨"jdk/internal/util/Preconditions", "checkFromIndexSize", "(IIILjava/util/function/BiFunction;)I"⟩
abbrev yM35 : MethodName := ⟨"java/lang/String", "checkBoundsOffCount", "(III)I"⟩
abbrev yM36 : MethodName := ⟨"java/lang/String", "<init>", "([BIII)V"⟩
abbrev yM37 : MethodName := ⟨"java/util/Base64$Encoder", "encodeToString", "([B)Ljava/lang/String;"⟩
abbrev yM38 : MethodName := ⟨"com/example/bevaka/bevaka/store/Pem", "encode", "(Ljava/lang/String;[B)Ljava/lang/String;"⟩
abbrev yM39 : MethodName := ⟨"java/lang/StringUTF16", "compress", "([CI[BII)I"⟩
abbrev yM40 : MethodName := ⟨"java/lang/StringUTF16", "coderFromArrayLen", "([BI)B"⟩
abbrev yM41 : MethodName := ⟨"java/lang/StringUTF16", "compress", "([CII)[B"⟩
abbrev yM42 : MethodName := ⟨"java/lang/String", "<init>", "([CIILjava/lang/Void;)V"⟩
abbrev yM43 : MethodName := ⟨"java/lang/String", "<init>", "([C)V"⟩
abbrev yM44 : MethodName := ⟨"java/lang/StringLatin1", "equals", "([B[B)Z"⟩
abbrev yM45 : MethodName := ⟨"java/lang/String", "equals", "(Ljava/lang/Object;)Z"⟩
abbrev yM46 : MethodName := ⟨"java/lang/String", "isLatin1", "()Z"⟩
abbrev yM47 : MethodName := ⟨"jdk/internal/util/Preconditions", "checkIndex", "(IILjava/util/function/BiFunction;)I"⟩
abbrev yM48 : MethodName := ⟨"java/lang/String", "checkIndex", "(II)V"⟩
abbrev yM49 : MethodName := ⟨"java/lang/StringLatin1", "charAt", "([BI)C"⟩
abbrev yM50 : MethodName := ⟨"java/lang/String", "charAt", "(I)C"⟩
abbrev yM51 : MethodName := ⟨"com/example/bevaka/bevaka/store/PemEncodePinLaw", "sym", "(I)C"⟩
abbrev yM52 : MethodName := ⟨"com/example/bevaka/bevaka/store/PemEncodePinLaw", "dashes", "([CI)V"⟩
abbrev yM53 : MethodName := ⟨"com/example/bevaka/bevaka/store/PemEncodePinLaw", "frame", "([CCCI)V"⟩
abbrev yM54 : MethodName := ⟨"com/example/bevaka/bevaka/store/PemEncodePinLaw", "group", "([CIIIII)V"⟩
abbrev yM55 : MethodName := ⟨"com/example/bevaka/bevaka/store/PemEncodePinLaw", "groupAt", "(Ljava/lang/String;IIIII)Z"⟩
abbrev rM0_0_0_0 : Room := { frames := 0, cells := 0, slots := 0, locals := 0 }
abbrev rM1_0_0_13 : Room := { frames := 1, cells := 0, slots := 0, locals := 13 }
abbrev rM1_0_0_14 : Room := { frames := 1, cells := 0, slots := 0, locals := 14 }
abbrev rM2_0_0_29 : Room := { frames := 2, cells := 0, slots := 0, locals := 29 }
abbrev rM1_1_512_40 : Room := { frames := 1, cells := 1, slots := 512, locals := 40 }
abbrev rM3_1_512_55 : Room := { frames := 3, cells := 1, slots := 512, locals := 55 }
abbrev rM1_0_0_40 : Room := { frames := 1, cells := 0, slots := 0, locals := 40 }
abbrev rM2_0_0_55 : Room := { frames := 2, cells := 0, slots := 0, locals := 55 }
abbrev rM4_1_512_69 : Room := { frames := 4, cells := 1, slots := 512, locals := 69 }
abbrev rM5_1_512_83 : Room := { frames := 5, cells := 1, slots := 512, locals := 83 }
abbrev rM1_1_16_12 : Room := { frames := 1, cells := 1, slots := 16, locals := 12 }
abbrev rM2_1_16_25 : Room := { frames := 2, cells := 1, slots := 16, locals := 25 }
abbrev rM1_0_0_12 : Room := { frames := 1, cells := 0, slots := 0, locals := 12 }
abbrev rM1_1_256_40 : Room := { frames := 1, cells := 1, slots := 256, locals := 40 }
abbrev rM2_1_256_56 : Room := { frames := 2, cells := 1, slots := 256, locals := 56 }
abbrev rM3_1_256_71 : Room := { frames := 3, cells := 1, slots := 256, locals := 71 }
abbrev rM4_1_256_87 : Room := { frames := 4, cells := 1, slots := 256, locals := 87 }
abbrev rM5_2_260_101 : Room := { frames := 5, cells := 2, slots := 260, locals := 101 }
abbrev rM2_1_4_29 : Room := { frames := 2, cells := 1, slots := 4, locals := 29 }
abbrev rM1_0_0_15 : Room := { frames := 1, cells := 0, slots := 0, locals := 15 }
abbrev rM1_0_0_22 : Room := { frames := 1, cells := 0, slots := 0, locals := 22 }
abbrev rM2_1_69_49 : Room := { frames := 2, cells := 1, slots := 69, locals := 49 }
abbrev rM3_4_256_71 : Room := { frames := 3, cells := 4, slots := 256, locals := 71 }
abbrev rM4_6_329_90 : Room := { frames := 4, cells := 6, slots := 329, locals := 90 }
abbrev rM6_27_4346_113 : Room := { frames := 6, cells := 27, slots := 4346, locals := 113 }
abbrev rM1_1_64_18 : Room := { frames := 1, cells := 1, slots := 64, locals := 18 }
abbrev rM2_1_64_35 : Room := { frames := 2, cells := 1, slots := 64, locals := 35 }
abbrev rM3_1_64_52 : Room := { frames := 3, cells := 1, slots := 64, locals := 52 }
abbrev rM2_0_0_27 : Room := { frames := 2, cells := 0, slots := 0, locals := 27 }
abbrev rM3_0_0_40 : Room := { frames := 3, cells := 0, slots := 0, locals := 40 }
abbrev rM4_1_4_53 : Room := { frames := 4, cells := 1, slots := 4, locals := 53 }
theorem own_w {a0 : Array Value} {Z : State} (hw : ∀ d ∈ tables_1, d.before a0 Z = true) (i : Nat) {d : Jvm.Cond} (h : tables_1[i]? = some d := by rfl) : d.before a0 Z = true := hw _ (List.mem_of_getElem? h)
section Own
variable {p : Program} {l : Launch} {e : Env} {R : Room} {s : State} {m : MethodId} {args : Array Value} {below : List Frame} {meth : Method} {c : Code} {T : State} {locs : List Loc} {cells slots : Nat}
/-- from the frame g on top of T the invocation comes to its end, and there QQ holds of what it returns, of the heap and of what it wrote -/
def own_Run (p : Program) (e : Env) (below : List Frame) (s : State) (QQ : Option Value → Heap → List Loc → Prop) (C S : Nat) (T : State) (g : JFrame) : Prop :=
 ∃ s₂ v L, Steps p.tables e below (T.setTop g) s₂ ∧ s₂.status = .running ∧ Ended s₂ below (.returned v) ∧ QQ v s₂.heap L ∧ FrameEnd s (.returned v) s₂ L C S
variable {QQ : Option Value → Heap → List Loc → Prop} {C S : Nat}
theorem own_enter {g : JFrame} {ml : Nat} (q : entryFrame m args ml = g) (k : own_Run p e below s QQ C S T g) :
  ∃ s₂ o, Steps p.tables e below (T.setTop (entryFrame m args ml)) s₂ ∧ s₂.status = .running ∧ Ended s₂ below o ∧ ∃ v L, o = .returned v ∧ QQ v s₂.heap L ∧ FrameEnd s o s₂ L C S := by
 subst q
 obtain ⟨s₂, v, L, h1, h2, h3, h4, h5⟩ := k
 exact ⟨s₂, _, h1, h2, h3, v, L, rfl, h4, h5⟩
theorem own_step {g g' : JFrame} {T' : State} (h : ∀ t, Steps p.tables e below (T'.setTop g') t → Steps p.tables e below (T.setTop g) t) (k : own_Run p e below s QQ C S T' g') : own_Run p e below s QQ C S T g := by
 obtain ⟨s₂, v, L, h1, h2⟩ := k
 exact ⟨s₂, v, L, h _ h1, h2⟩
theorem own_end (X : Stand p l e R s m args below meth c T locs cells slots) {v : Option Value} (hv : meth.sig.returnType = none → v = none) (hlocks : meth.locks = false) {g : JFrame} (hc : cells ≤ C) (hs : slots ≤ S) (hq : QQ v T.heap locs)
  (k : ∀ fs, (∀ (f : JFrame) (acts : List Action), f.method = m → f.locked = none → f.entered = [] → (doReturn e (T.setTop f) acts v).1 = T.setFrames fs) → Steps p.tables e below (T.setTop g) (T.setFrames fs)) : own_Run p e below s QQ C S T g := by
 obtain ⟨fs, hr, hrun, hended, hW, hsame⟩ := X.leave (v := v) hv hlocks
 exact ⟨_, v, locs, k fs hr, hrun, hended, hq, ⟨_, rfl⟩, hW, hsame.mono hc hs⟩
theorem own_retN (X : Stand p l e R s m args below meth c T locs cells slots) (hx : p.tables.exec = Jvm.exec) {pc : Nat} {Ls : Array Slot} {z : Int32} {t : FieldType} {rest : List Value} (hret : meth.sig.returnType = some t) (ht : t = .boolean ∨ t = .byte ∨ t = .char ∨ t = .short)
  (hd : decode c.code pc = .ok (.ireturn, 1)) (hlocks : meth.locks = false) (hc : cells ≤ C) (hs : slots ≤ S) (hq : QQ (some (.int (nar t z))) T.heap locs) : own_Run p e below s QQ C S T (mkF m pc Ls (.int z :: rest)) :=
 own_end X (fun h => by rw [hret] at h; cases h) hlocks hc hs hq (fun fs hr => retN X hx hret ht hd hr)
theorem own_retI (X : Stand p l e R s m args below meth c T locs cells slots) (hx : p.tables.exec = Jvm.exec) {pc : Nat} {Ls : Array Slot} {z : Int32} {rest : List Value} (hret : meth.sig.returnType = some .int)
  (hd : decode c.code pc = .ok (.ireturn, 1)) (hlocks : meth.locks = false) (hc : cells ≤ C) (hs : slots ≤ S) (hq : QQ (some (.int z)) T.heap locs) : own_Run p e below s QQ C S T (mkF m pc Ls (.int z :: rest)) :=
 own_end X (fun h => by rw [hret] at h; cases h) hlocks hc hs hq (fun fs hr => retOut X hx hret rfl (Or.inl ⟨rfl, Or.inl rfl, _, rfl⟩) hd hr)
theorem own_retJ (X : Stand p l e R s m args below meth c T locs cells slots) (hx : p.tables.exec = Jvm.exec) {pc : Nat} {Ls : Array Slot} {z : Int64} {rest : List Value} (hret : meth.sig.returnType = some .long)
  (hd : decode c.code pc = .ok (.lreturn, 1)) (hlocks : meth.locks = false) (hc : cells ≤ C) (hs : slots ≤ S) (hq : QQ (some (.long z)) T.heap locs) : own_Run p e below s QQ C S T (mkF m pc Ls (.long z :: rest)) :=
 own_end X (fun h => by rw [hret] at h; cases h) hlocks hc hs hq (fun fs hr => retOut X hx hret rfl (Or.inr (Or.inl ⟨rfl, rfl, _, rfl⟩)) hd hr)
theorem own_retA (X : Stand p l e R s m args below meth c T locs cells slots) (hx : p.tables.exec = Jvm.exec) {pc : Nat} {Ls : Array Slot} {w : Value} {t : FieldType} {rest : List Value} (hret : meth.sig.returnType = some t) (ht : t.isReference = true) (hw : w.isRef = true)
  (hd : decode c.code pc = .ok (.areturn, 1)) (hlocks : meth.locks = false) (hc : cells ≤ C) (hs : slots ≤ S) (hq : QQ (some w) T.heap locs) : own_Run p e below s QQ C S T (mkF m pc Ls (w :: rest)) :=
 own_end X (fun h => by rw [hret] at h; cases h) hlocks hc hs hq (fun fs hr => retOut X hx hret (by cases t <;> first | rfl | cases ht) (Or.inr (Or.inr (Or.inr (Or.inr ⟨rfl, ht, hw⟩)))) hd hr)
theorem own_retV (X : Stand p l e R s m args below meth c T locs cells slots) (hx : p.tables.exec = Jvm.exec) {pc : Nat} {Ls : Array Slot} (hret : meth.sig.returnType = none)
  (hd : decode c.code pc = .ok (.return_, 1)) (hlocks : meth.locks = false) (hc : cells ≤ C) (hs : slots ≤ S) (hq : QQ none T.heap locs) : own_Run p e below s QQ C S T (mkF m pc Ls []) :=
 own_end X (fun _ => rfl) hlocks hc hs hq (fun fs hr => X.returnOut hx hret hd hr)
end Own
/-- one of two ints, by a proposition -/
def own_pick (P : Prop) [Decidable P] (a b : Int32) : Int32 := if P then a else b
def own_pickJ (P : Prop) [Decidable P] (a b : Int64) : Int64 := if P then a else b
theorem own_pick_pos {P : Prop} [Decidable P] {a b : Int32} (h : P) : own_pick P a b = a := if_pos h
theorem own_pick_neg {P : Prop} [Decidable P] {a b : Int32} (h : ¬ P) : own_pick P a b = b := if_neg h
theorem own_pickJ_pos {P : Prop} [Decidable P] {a b : Int64} (h : P) : own_pickJ P a b = a := if_pos h
theorem own_pickJ_neg {P : Prop} [Decidable P] {a b : Int64} (h : ¬ P) : own_pickJ P a b = b := if_neg h
section OwnMat
variable {tb : Tables} [Ours tb] {e : Env} {below : List Frame} {T target : State} {m : MethodId} {c : Code} {pc : Nat} {Ls : Array Slot} {x y : Int32} {rest : List Value} {a b : Int} {cd : ClassFile.Cond}
theorem own_mat_i (h : At T m c below) (hx : tb.exec = Jvm.exec) (hd0 : decode c.code pc = .ok (.if_icmp cd 7, 3)) (hd1 : decode c.code (pc + 3) = .ok (.iconst a, 1)) (hd2 : decode c.code (pc + 4) = .ok (.goto 4, 3)) (hd3 : decode c.code (pc + 7) = .ok (.iconst b, 1))
  {w : Int32} (hT : if_icmp.holds cd x y = true → w = Int32.ofInt b) (hF : if_icmp.holds cd x y = false → w = Int32.ofInt a) (hr : Steps tb e below (T.setTop (mkF m (pc + 8) Ls (.int w :: rest))) target) : Steps tb e below (T.setTop (mkF m pc Ls (.int y :: .int x :: rest))) target := by
 cases q : if_icmp.holds cd x y
 ·rw [hF q] at hr
  exact XS.icmpNo h hx rfl hd0 rfl q (XS.iconst h hx rfl hd1 (XS.goto h hx rfl (pc0 := pc + 4) (pc' := pc + 8) rfl hd2 (by omega) (by omega) hr))
 ·rw [hT q] at hr
  exact XS.icmpYes h hx rfl (pc0 := pc) (pc' := pc + 7) rfl hd0 rfl q (by omega) (by omega) (XS.iconst h hx rfl hd3 hr)
theorem own_mat_c (h : At T m c below) (hx : tb.exec = Jvm.exec) (hd0 : decode c.code pc = .ok (.ifCond cd 7, 3)) (hd1 : decode c.code (pc + 3) = .ok (.iconst a, 1)) (hd2 : decode c.code (pc + 4) = .ok (.goto 4, 3)) (hd3 : decode c.code (pc + 7) = .ok (.iconst b, 1))
  {w : Int32} (hT : if_icmp.holds cd x 0 = true → w = Int32.ofInt b) (hF : if_icmp.holds cd x 0 = false → w = Int32.ofInt a) (hr : Steps tb e below (T.setTop (mkF m (pc + 8) Ls (.int w :: rest))) target) : Steps tb e below (T.setTop (mkF m pc Ls (.int x :: rest))) target := by
 cases q : if_icmp.holds cd x 0
 ·rw [hF q] at hr
  exact XS.ifNo h hx rfl hd0 rfl ((if0 _ _).trans q) (XS.iconst h hx rfl hd1 (XS.goto h hx rfl (pc0 := pc + 4) (pc' := pc + 8) rfl hd2 (by omega) (by omega) hr))
 ·rw [hT q] at hr
  exact XS.ifYes h hx rfl (pc0 := pc) (pc' := pc + 7) rfl hd0 rfl ((if0 _ _).trans q) (by omega) (by omega) (XS.iconst h hx rfl hd3 hr)
theorem own_mat_i_eq (h : At T m c below) (hx : tb.exec = Jvm.exec) (hg : m = m) (hd0 : decode c.code pc = .ok (.if_icmp .eq 7, 3)) (hd1 : decode c.code (pc + 3) = .ok (.iconst a, 1)) (hd2 : decode c.code (pc + 4) = .ok (.goto 4, 3)) (hd3 : decode c.code (pc + 7) = .ok (.iconst b, 1))
  (hr : Steps tb e below (T.setTop (mkF m (pc + 8) Ls (.int (own_pick (x = y) (Int32.ofInt b) (Int32.ofInt a)) :: rest))) target) : Steps tb e below (T.setTop (mkF m pc Ls (.int y :: .int x :: rest))) target :=
 own_mat_i h hx hd0 hd1 hd2 hd3 (fun q => by by_cases z : x = y <;> simp [own_pick, z] <;> (first | rw [(teq z).1] at q | rw [(feq z).1] at q) <;> cases q) (fun q => by by_cases z : x = y <;> simp [own_pick, z] <;> (first | rw [(teq z).1] at q | rw [(feq z).1] at q) <;> cases q) hr
theorem own_mat_i_ne (h : At T m c below) (hx : tb.exec = Jvm.exec) (hg : m = m) (hd0 : decode c.code pc = .ok (.if_icmp .ne 7, 3)) (hd1 : decode c.code (pc + 3) = .ok (.iconst a, 1)) (hd2 : decode c.code (pc + 4) = .ok (.goto 4, 3)) (hd3 : decode c.code (pc + 7) = .ok (.iconst b, 1))
  (hr : Steps tb e below (T.setTop (mkF m (pc + 8) Ls (.int (own_pick (x = y) (Int32.ofInt a) (Int32.ofInt b)) :: rest))) target) : Steps tb e below (T.setTop (mkF m pc Ls (.int y :: .int x :: rest))) target :=
 own_mat_i h hx hd0 hd1 hd2 hd3 (fun q => by by_cases z : x = y <;> simp [own_pick, z] <;> (first | rw [(teq z).2] at q | rw [(feq z).2] at q) <;> cases q) (fun q => by by_cases z : x = y <;> simp [own_pick, z] <;> (first | rw [(teq z).2] at q | rw [(feq z).2] at q) <;> cases q) hr
theorem own_mat_i_lt (h : At T m c below) (hx : tb.exec = Jvm.exec) (hg : m = m) (hd0 : decode c.code pc = .ok (.if_icmp .lt 7, 3)) (hd1 : decode c.code (pc + 3) = .ok (.iconst a, 1)) (hd2 : decode c.code (pc + 4) = .ok (.goto 4, 3)) (hd3 : decode c.code (pc + 7) = .ok (.iconst b, 1))
  (hr : Steps tb e below (T.setTop (mkF m (pc + 8) Ls (.int (own_pick (x < y) (Int32.ofInt b) (Int32.ofInt a)) :: rest))) target) : Steps tb e below (T.setTop (mkF m pc Ls (.int y :: .int x :: rest))) target :=
 own_mat_i h hx hd0 hd1 hd2 hd3 (fun q => by by_cases z : x < y <;> simp [own_pick, z] <;> (first | rw [(tlt z).1] at q | rw [(flt z).1] at q) <;> cases q) (fun q => by by_cases z : x < y <;> simp [own_pick, z] <;> (first | rw [(tlt z).1] at q | rw [(flt z).1] at q) <;> cases q) hr
theorem own_mat_i_ge (h : At T m c below) (hx : tb.exec = Jvm.exec) (hg : m = m) (hd0 : decode c.code pc = .ok (.if_icmp .ge 7, 3)) (hd1 : decode c.code (pc + 3) = .ok (.iconst a, 1)) (hd2 : decode c.code (pc + 4) = .ok (.goto 4, 3)) (hd3 : decode c.code (pc + 7) = .ok (.iconst b, 1))
  (hr : Steps tb e below (T.setTop (mkF m (pc + 8) Ls (.int (own_pick (x < y) (Int32.ofInt a) (Int32.ofInt b)) :: rest))) target) : Steps tb e below (T.setTop (mkF m pc Ls (.int y :: .int x :: rest))) target :=
 own_mat_i h hx hd0 hd1 hd2 hd3 (fun q => by by_cases z : x < y <;> simp [own_pick, z] <;> (first | rw [(tlt z).2.1] at q | rw [(flt z).2.1] at q) <;> cases q) (fun q => by by_cases z : x < y <;> simp [own_pick, z] <;> (first | rw [(tlt z).2.1] at q | rw [(flt z).2.1] at q) <;> cases q) hr
theorem own_mat_i_gt (h : At T m c below) (hx : tb.exec = Jvm.exec) (hg : m = m) (hd0 : decode c.code pc = .ok (.if_icmp .gt 7, 3)) (hd1 : decode c.code (pc + 3) = .ok (.iconst a, 1)) (hd2 : decode c.code (pc + 4) = .ok (.goto 4, 3)) (hd3 : decode c.code (pc + 7) = .ok (.iconst b, 1))
  (hr : Steps tb e below (T.setTop (mkF m (pc + 8) Ls (.int (own_pick (y < x) (Int32.ofInt b) (Int32.ofInt a)) :: rest))) target) : Steps tb e below (T.setTop (mkF m pc Ls (.int y :: .int x :: rest))) target :=
 own_mat_i h hx hd0 hd1 hd2 hd3 (fun q => by by_cases z : y < x <;> simp [own_pick, z] <;> (first | rw [(tlt z).2.2.1] at q | rw [(flt z).2.2.1] at q) <;> cases q) (fun q => by by_cases z : y < x <;> simp [own_pick, z] <;> (first | rw [(tlt z).2.2.1] at q | rw [(flt z).2.2.1] at q) <;> cases q) hr
theorem own_mat_i_le (h : At T m c below) (hx : tb.exec = Jvm.exec) (hg : m = m) (hd0 : decode c.code pc = .ok (.if_icmp .le 7, 3)) (hd1 : decode c.code (pc + 3) = .ok (.iconst a, 1)) (hd2 : decode c.code (pc + 4) = .ok (.goto 4, 3)) (hd3 : decode c.code (pc + 7) = .ok (.iconst b, 1))
  (hr : Steps tb e below (T.setTop (mkF m (pc + 8) Ls (.int (own_pick (y < x) (Int32.ofInt a) (Int32.ofInt b)) :: rest))) target) : Steps tb e below (T.setTop (mkF m pc Ls (.int y :: .int x :: rest))) target :=
 own_mat_i h hx hd0 hd1 hd2 hd3 (fun q => by by_cases z : y < x <;> simp [own_pick, z] <;> (first | rw [(tlt z).2.2.2] at q | rw [(flt z).2.2.2] at q) <;> cases q) (fun q => by by_cases z : y < x <;> simp [own_pick, z] <;> (first | rw [(tlt z).2.2.2] at q | rw [(flt z).2.2.2] at q) <;> cases q) hr
theorem own_mat_c_eq (h : At T m c below) (hx : tb.exec = Jvm.exec) (hg : m = m) (hd0 : decode c.code pc = .ok (.ifCond .eq 7, 3)) (hd1 : decode c.code (pc + 3) = .ok (.iconst a, 1)) (hd2 : decode c.code (pc + 4) = .ok (.goto 4, 3)) (hd3 : decode c.code (pc + 7) = .ok (.iconst b, 1))
  (hr : Steps tb e below (T.setTop (mkF m (pc + 8) Ls (.int (own_pick (x = (0 : Int32)) (Int32.ofInt b) (Int32.ofInt a)) :: rest))) target) : Steps tb e below (T.setTop (mkF m pc Ls (.int x :: rest))) target :=
 own_mat_c h hx hd0 hd1 hd2 hd3 (fun q => by by_cases z : x = (0 : Int32) <;> simp [own_pick, z] <;> (first | rw [(teq z).1] at q | rw [(feq z).1] at q) <;> cases q) (fun q => by by_cases z : x = (0 : Int32) <;> simp [own_pick, z] <;> (first | rw [(teq z).1] at q | rw [(feq z).1] at q) <;> cases q) hr
theorem own_mat_c_ne (h : At T m c below) (hx : tb.exec = Jvm.exec) (hg : m = m) (hd0 : decode c.code pc = .ok (.ifCond .ne 7, 3)) (hd1 : decode c.code (pc + 3) = .ok (.iconst a, 1)) (hd2 : decode c.code (pc + 4) = .ok (.goto 4, 3)) (hd3 : decode c.code (pc + 7) = .ok (.iconst b, 1))
  (hr : Steps tb e below (T.setTop (mkF m (pc + 8) Ls (.int (own_pick (x = (0 : Int32)) (Int32.ofInt a) (Int32.ofInt b)) :: rest))) target) : Steps tb e below (T.setTop (mkF m pc Ls (.int x :: rest))) target :=
 own_mat_c h hx hd0 hd1 hd2 hd3 (fun q => by by_cases z : x = (0 : Int32) <;> simp [own_pick, z] <;> (first | rw [(teq z).2] at q | rw [(feq z).2] at q) <;> cases q) (fun q => by by_cases z : x = (0 : Int32) <;> simp [own_pick, z] <;> (first | rw [(teq z).2] at q | rw [(feq z).2] at q) <;> cases q) hr
theorem own_mat_c_lt (h : At T m c below) (hx : tb.exec = Jvm.exec) (hg : m = m) (hd0 : decode c.code pc = .ok (.ifCond .lt 7, 3)) (hd1 : decode c.code (pc + 3) = .ok (.iconst a, 1)) (hd2 : decode c.code (pc + 4) = .ok (.goto 4, 3)) (hd3 : decode c.code (pc + 7) = .ok (.iconst b, 1))
  (hr : Steps tb e below (T.setTop (mkF m (pc + 8) Ls (.int (own_pick (x < (0 : Int32)) (Int32.ofInt b) (Int32.ofInt a)) :: rest))) target) : Steps tb e below (T.setTop (mkF m pc Ls (.int x :: rest))) target :=
 own_mat_c h hx hd0 hd1 hd2 hd3 (fun q => by by_cases z : x < (0 : Int32) <;> simp [own_pick, z] <;> (first | rw [(tlt z).1] at q | rw [(flt z).1] at q) <;> cases q) (fun q => by by_cases z : x < (0 : Int32) <;> simp [own_pick, z] <;> (first | rw [(tlt z).1] at q | rw [(flt z).1] at q) <;> cases q) hr
theorem own_mat_c_ge (h : At T m c below) (hx : tb.exec = Jvm.exec) (hg : m = m) (hd0 : decode c.code pc = .ok (.ifCond .ge 7, 3)) (hd1 : decode c.code (pc + 3) = .ok (.iconst a, 1)) (hd2 : decode c.code (pc + 4) = .ok (.goto 4, 3)) (hd3 : decode c.code (pc + 7) = .ok (.iconst b, 1))
  (hr : Steps tb e below (T.setTop (mkF m (pc + 8) Ls (.int (own_pick (x < (0 : Int32)) (Int32.ofInt a) (Int32.ofInt b)) :: rest))) target) : Steps tb e below (T.setTop (mkF m pc Ls (.int x :: rest))) target :=
 own_mat_c h hx hd0 hd1 hd2 hd3 (fun q => by by_cases z : x < (0 : Int32) <;> simp [own_pick, z] <;> (first | rw [(tlt z).2.1] at q | rw [(flt z).2.1] at q) <;> cases q) (fun q => by by_cases z : x < (0 : Int32) <;> simp [own_pick, z] <;> (first | rw [(tlt z).2.1] at q | rw [(flt z).2.1] at q) <;> cases q) hr
theorem own_mat_c_gt (h : At T m c below) (hx : tb.exec = Jvm.exec) (hg : m = m) (hd0 : decode c.code pc = .ok (.ifCond .gt 7, 3)) (hd1 : decode c.code (pc + 3) = .ok (.iconst a, 1)) (hd2 : decode c.code (pc + 4) = .ok (.goto 4, 3)) (hd3 : decode c.code (pc + 7) = .ok (.iconst b, 1))
  (hr : Steps tb e below (T.setTop (mkF m (pc + 8) Ls (.int (own_pick ((0 : Int32) < x) (Int32.ofInt b) (Int32.ofInt a)) :: rest))) target) : Steps tb e below (T.setTop (mkF m pc Ls (.int x :: rest))) target :=
 own_mat_c h hx hd0 hd1 hd2 hd3 (fun q => by by_cases z : (0 : Int32) < x <;> simp [own_pick, z] <;> (first | rw [(tlt z).2.2.1] at q | rw [(flt z).2.2.1] at q) <;> cases q) (fun q => by by_cases z : (0 : Int32) < x <;> simp [own_pick, z] <;> (first | rw [(tlt z).2.2.1] at q | rw [(flt z).2.2.1] at q) <;> cases q) hr
theorem own_mat_c_le (h : At T m c below) (hx : tb.exec = Jvm.exec) (hg : m = m) (hd0 : decode c.code pc = .ok (.ifCond .le 7, 3)) (hd1 : decode c.code (pc + 3) = .ok (.iconst a, 1)) (hd2 : decode c.code (pc + 4) = .ok (.goto 4, 3)) (hd3 : decode c.code (pc + 7) = .ok (.iconst b, 1))
  (hr : Steps tb e below (T.setTop (mkF m (pc + 8) Ls (.int (own_pick ((0 : Int32) < x) (Int32.ofInt a) (Int32.ofInt b)) :: rest))) target) : Steps tb e below (T.setTop (mkF m pc Ls (.int x :: rest))) target :=
 own_mat_c h hx hd0 hd1 hd2 hd3 (fun q => by by_cases z : (0 : Int32) < x <;> simp [own_pick, z] <;> (first | rw [(tlt z).2.2.2] at q | rw [(flt z).2.2.2] at q) <;> cases q) (fun q => by by_cases z : (0 : Int32) < x <;> simp [own_pick, z] <;> (first | rw [(tlt z).2.2.2] at q | rw [(flt z).2.2.2] at q) <;> cases q) hr
end OwnMat
theorem oP {p : Program} {e : Env} {s T : State} {below : List Frame} {QQ : Option Value → Heap → List Loc → Prop} {C S : Nat} {g : JFrame} (T' : State) (g' : JFrame) (h : ∀ t, Steps p.tables e below (T'.setTop g') t → Steps p.tables e below (T.setTop g) t) (k : own_Run p e below s QQ C S T' g') : own_Run p e below s QQ C S T g := own_step h k
theorem own_selP {s : State} {args : Array Value} {C : String} {y : MethodName} (hsel : (Cond.selects C y y).before args s = true) (hpriv : s.PrivateAt y) (hinst : (Cond.instanceMethod y).before args s = true) (hy : y.cls ≠ "java/lang/invoke/MethodHandle" ∧ y.cls ≠ "java/lang/invoke/VarHandle") : (Cond.selects y.cls y y).before args s = true := by
 obtain ⟨c2, r2, m2, -, -, q3, -, kP, hkP, hkPi⟩ := Cond.selects_spec hsel
 exact Jvm.Stand.selects_self_of_private (findClass_of_methodNamed q3) hkP hkPi hpriv hinst hy
theorem own_nf {s : State} {args : Array Value} {C : String} {y z : MethodName} (hsel : (Cond.selects C z z).before args s = true) (hc : y.cls = z.cls) : NotFace s y := fun r0 h0 => by
 obtain ⟨c2, r2, m2, -, -, q3, -, kP, hkP, hkPi⟩ := Cond.selects_spec hsel
 have e1 := findClass_of_methodNamed h0
 have e2 := findClass_of_methodNamed q3
 rw [hc] at e1
 have e3 : r0.cls = m2.cls := Option.some.inj (e1.symm.trans e2)
 exact ⟨kP, by rw [e3]; exact hkP, hkPi⟩
theorem own_same {s : State} {args : Array Value} {C : String} {y z : MethodName} (hd : (Cond.declares y).before args s = true) (hsel : (Cond.selects C z z).before args s = true) (hc : y.cls = z.cls) (hy : y.cls ≠ "java/lang/invoke/MethodHandle" ∧ y.cls ≠ "java/lang/invoke/VarHandle") : (Cond.sameMethod y.cls y.cls y.name y.desc).before args s = true := by
 obtain ⟨m, meth, h1, -⟩ := Cond.declares_spec hd
 obtain ⟨k, hk, hi⟩ := own_nf hsel hc _ h1
 have hf : s.methodFound? y.cls y.name y.desc = some m := State.methodFound?_of_named h1 hy
 have hcl := findClass_of_methodNamed h1
 obtain ⟨a, b, d⟩ := y
 simp [Cond.before, Cond.holds, Cond.value, hcl, hf, h1, hk, hi]
/-- 'getstatic' where the entry is resolved -/
theorem own_getSR {p : Program} {l : Launch} {e : Env} {R : Room} {s : State} {m : MethodId} {args : Array Value} {below : List Frame} {meth : Method} {c : Code} {T : State} {locs : List Loc} {cells slots : Nat} {Z : State} {a0 : Array Value} {h : Heap}
  (X : Stand p l e R s m args below meth c T locs cells slots) (hx : p.tables.exec = Jvm.exec) (hZ : Z.Warmed39 s.vm) {own O n d : String} {index : Nat} (hown : s.vm.findClass own = some m.cls) (w : (Cond.fieldRef own index O n d).before a0 Z = true)
  (eT : T.heap = h) {v : Value} (F : Sta Z h O n d v) {g : JFrame} (hg : g.method = m) (hd : decode c.code g.pc = .ok (.getstatic index, 3)) : ∀ target, Steps p.tables e below (T.setTop { g with pc := g.pc + 3, stack := v :: g.stack }) target → Steps p.tables e below (T.setTop g) target := by
 have hT : Z.Warmed39 T.vm := wtrans hZ X.warmed
 have w2 := Cond.fieldRef_warmed39 hT w
 have hcur : (Z.setVm T.vm).vm.findClass own = some m.cls := by
  show T.vm.findClass own = _
  rw [X.warmed.alike.findClass]; exact hown
 obtain ⟨c', k', i', f', hi', hready⟩ := Cond.fieldRef_spec hcur w2
 obtain ⟨cf, i, k, f, st, cell, h1, h2, h3, h4, h5, h6, h7⟩ := F
 obtain ⟨k2, hi2, ek⟩ := State.fieldFound?_setVm (s := Z) hT.alike h1
 cases hi'.symm.trans hi2
 obtain ⟨hk, hf⟩ := State.fieldFound?_spec hi2
 intro target hrest
 subst hg
 jvm_step X.here [hx, hd, getstatic.wp_ready (e := e) (s := T) (f := g) X.here.top hready h2 hk (by rw [ek]; exact h3) (by rw [ek]; exact h4) (show T.heap[st]? = some cell by rw [eT]; exact h5) (fun q => by rw [q] at h6; cases h6) h7]
 exact hrest
/-- 'invokespecial' of a constructor where the entry is resolved -/
theorem own_specialR {p : Program} {l : Launch} {e : Env} {R : Room} {s : State} {m : MethodId} {args : Array Value} {below : List Frame} {meth : Method} {c : Code} {T : State} {locs : List Loc} {cells slots : Nat} {Z : State} {a0 : Array Value}
  (X : Stand p l e R s m args below meth c T locs cells slots) (hx : p.tables.exec = Jvm.exec) (hZ : Z.Warmed39 s.vm) {own : String} {index : Nat} {y : MethodName} (hy1 : y.name = "<init>") (hown : s.vm.findClass own = some m.cls) (w : (Cond.methodRef own index y).before a0 Z = true)
  (winst : (Cond.instanceMethod y).before a0 Z = true) {bytes : ByteArray} {maxL : Nat} (wcode : (Cond.code y bytes maxL none).before a0 Z = true) (hy : y.cls ≠ "java/lang/invoke/MethodHandle" ∧ y.cls ≠ "java/lang/invoke/VarHandle")
  {W : Nat} {Pre : Pt → Array Value → Prop} {Post : Pt → Array Value → Option Value → Pt → Prop} (hK : Back l R p e below s args y 3 W Pre Post) {g : JFrame} (hg : g.method = m) (hsize : g.locals.size = c.maxLocals) {a : Addr} {argsL rest : List Value}
  (hlen : ∀ sig, parseMethodDescriptor y.desc = some sig → argsL.length = sig.parameters.length) (hstack : g.stack = argsL.reverse ++ .ref a :: rest) (hW : 2 * g.monitorRoom + (rest.map fun v => v.category).sum ≤ W)
  (hdg : decode c.code g.pc = .ok (.invokespecial index, 3)) (hpre : ∀ vm₁, s.WarmedH vm₁ → Pre ⟨T.setVm vm₁, locs, cells, slots⟩ (.ref a :: argsL).toArray) :
  ∃ (v : Option Value) (vm₁ : Vm) (B : Pt), s.WarmedH vm₁ ∧ Stand p l e R s m args below meth c B.U B.locs B.cells B.slots ∧ Post ⟨T.setVm vm₁, locs, cells, slots⟩ (.ref a :: argsL).toArray v B ∧
   Steps p.tables e below (T.setTop g) (B.U.setTop { g with pc := g.pc + 3, stack := v.toList ++ rest }) := by
 have hT : Z.Warmed39 T.vm := wtrans hZ X.warmed
 obtain ⟨mk, methM, hnamed, hmethM, hstM, habM⟩ := Cond.instanceMethod_spec winst
 obtain ⟨methM', cM, hmethM', -, -, -, -, -, -, hsigM⟩ := Cond.code_spec hnamed wcode
 cases hmethM.symm.trans hmethM'
 have w2 := Cond.methodRef_warmed39 hT hnamed hy w
 have hcur : (Z.setVm T.vm).vm.findClass own = some m.cls := by
  show T.vm.findClass own = _
  rw [X.warmed.alike.findClass]; exact hown
 obtain ⟨m', c', hm', hready, hfind, hnr⟩ := Cond.methodRef_named e hcur w2
 have hnT : (Z.setVm T.vm).methodNamed? y = some mk := by rw [State.methodNamed?_setVm hT.alike]; exact hnamed
 cases hm'.symm.trans (State.methodFound?_of_named hnT hy)
 cases hfind.symm.trans (findClass_of_methodNamed hnT)
 have hmT : (Z.setVm T.vm).vm.method? mk = some methM := by
  show T.vm.method? mk = _
  rw [hT.alike.method?]; exact hmethM
 obtain ⟨kO, hkO, hnameO⟩ := className_of_methodNamed hnT
 obtain ⟨hnameMO, hdescO⟩ := name_of_methodNamed hnT hmT
 have hfound : lookupSpecial T.vm mk.cls "<init>" methM.desc = .method mk := by
  have q := lookupSpecial_of_named hnT hmT hstM
  rw [hdescO, ← hy1]; exact q
 have hstep : ∀ target, (∀ acts, Steps p.tables e below (doInvoke e (T.setTop { g with stack := rest }) acts mk (.ref a :: argsL).toArray).1 target) → Steps p.tables e below (T.setTop g) target := by
  intro target hrest
  subst hg
  jvm_step X.here [hx, hdg, invokespecial.wp_init (e := e) (s := T) (k := kO) (meth := methM) (m := mk) (a := a) (args := argsL) (rest := rest) (f := g) X.here.top hnr hready hkO hmT (by rw [hnameMO]; exact hy1) hstM habM hfound (hlen _ hsigM) hstack]
  exact hrest
 have hns : s.methodNamed? y = some mk := by
  have q : (Z.setVm s.vm).methodNamed? y = some mk := by rw [State.methodNamed?_setVm hZ.alike]; exact hnamed
  exact q
 obtain ⟨v, B, X', hpost, hsteps⟩ := hK m meth c ⟨T.setVm T.vm, locs, cells, slots⟩ { g with stack := rest } (.invokespecial index) mk (.ref a :: argsL).toArray X hg hsize hdg hW (X.named hns) (hpre T.vm X.warmed)
 exact ⟨v, T.vm, B, X.warmed, X', hpost, (hstep _ fun acts => by rw [doInvoke_state]; exact Steps.refl _).trans hsteps⟩
/-- a private method with an exception table whose walk throws nothing -/
theorem own_privateH {p : Program} {l : Launch} {e : Env} {R : Room} {s : State} {m : MethodId} {args : Array Value} {below : List Frame} {meth : Method} {c : Code} {T : State} {locs : List Loc} {cells slots : Nat}
  (X : Stand p l e R s m args below meth c T locs cells slots) (hx : p.tables.exec = Jvm.exec) {own : String} {index : Nat} {y : MethodName} {bytes : ByteArray} {maxL : Nat} {ret : Option FieldType} {hs : List (Nat × Nat × Nat × Nat)}
  (hown : s.vm.findClass own = some m.cls) (hlink : (Cond.methodLink own index y).before args s = true) (hinst : (Cond.instanceMethod y).before args s = true) (hsel : (Cond.selects y.cls y y).before args s = true)
  (hpriv : s.PrivateAt y) (hcode : (Cond.codeWith y bytes maxL ret hs).before args s = true) (hy : y.cls ≠ "java/lang/invoke/MethodHandle" ∧ y.cls ≠ "java/lang/invoke/VarHandle")
  {W : Nat} {Pre : Pt → Array Value → Prop} {Post : Pt → Array Value → Option Value → Pt → Prop} (hK : Back l R p e below s args y 3 W Pre Post)
  {g : JFrame} (hg : g.method = m) (hsize : g.locals.size = c.maxLocals) {s₀ : State} (hcome : Steps p.tables e below s₀ (T.setTop g)) {a : Addr} {cell : Cell} (hcell : T.heap[a]? = some cell) (hobj : ∀ q, cell.vm ≠ .statics q)
  {argsL rest : List Value} (hlen : ∀ sig, parseMethodDescriptor y.desc = some sig → argsL.length = sig.parameters.length)
  (hstack : g.stack = argsL.reverse ++ .ref a :: rest) (hW : 2 * g.monitorRoom + (rest.map fun v => v.category).sum ≤ W) (hdg : decode c.code g.pc = .ok (.invokevirtual index, 3))
  (hpre : ∀ vm₁, s.WarmedH vm₁ → Pre ⟨T.setVm vm₁, locs, cells, slots⟩ (.ref a :: argsL).toArray) :
  ∃ (v : Option Value) (vm₁ : Vm) (B : Pt), s.WarmedH vm₁ ∧ Stand p l e R s m args below meth c B.U B.locs B.cells B.slots ∧ Post ⟨T.setVm vm₁, locs, cells, slots⟩ (.ref a :: argsL).toArray v B ∧
   Steps p.tables e below s₀ (B.U.setTop { g with pc := g.pc + 3, stack := v.toList ++ rest }) := by
 obtain ⟨mk, rec, q1, q2, q3, q4⟩ := Cond.instanceMethod_spec hinst
 obtain ⟨mk', rec', cc, r1, r2, -, -, -, -, -, -, hsig⟩ := Cond.codeWith_spec hcode
 cases q1.symm.trans r1
 cases q2.symm.trans r2
 obtain ⟨_, _, m2, -, -, t3, -, kP, hkP, hkI⟩ := Cond.selects_spec hsel
 cases q1.symm.trans t3
 obtain ⟨vm1, X1, st⟩ := X.invokevirtual hx hown hlink q1 q2 q3 hkP hkI hy (a := a) (cell := cell) hcell hobj (selectMethod_private q2 (hpriv mk rec q1 q2)) q2 q4 hkP hkI (g := g) hg (argsL := argsL) (rest := rest) (hlen _ hsig) hstack hdg
 obtain ⟨v, B, X', hpost, hsteps⟩ := hK m meth c ⟨T.setVm vm1, locs, cells, slots⟩ { g with stack := rest } (.invokevirtual index) mk (.ref a :: argsL).toArray X1 hg hsize hdg hW (X1.named q1) (hpre vm1 X1.warmed)
 exact ⟨v, vm1, B, X1.warmed, X', hpost, (hcome.trans (st _ fun acts => by rw [doInvoke_state]; exact Steps.refl _)).trans hsteps⟩
section OwnH
variable {p : Program} {l : Launch} {e : Env} {R : Room} {s : State} {m : MethodId} {args : Array Value} {below : List Frame} {meth : Method} {c : Code} {T : State} {locs : List Loc} {cells slots : Nat}
variable {Z : State} {EL : List (String × Nat)} {h0 : Heap} {Q0 : Option Value → Heap → List Loc → Prop} {QQ : Option Value → Vm → Heap → List Loc → Prop} {C S : Nat}
/-- (the wide frame, the tables said) from the frame g on top of T the invocation comes to its end, and there QQ holds of what it returns, of the heap and of what it wrote -/
def own_RunH (p : Program) (e : Env) (below : List Frame) (s : State) (QQ : Option Value → Vm → Heap → List Loc → Prop) (C S : Nat) (T : State) (g : JFrame) : Prop :=
 ∃ s₂ v L, Steps p.tables e below (T.setTop g) s₂ ∧ s₂.status = .running ∧ Ended s₂ below (.returned v) ∧ QQ v s₂.vm s₂.heap L ∧ ReturnedEndW s (.returned v) s₂ L C S
theorem own_enterH {g : JFrame} {ml : Nat} (hh : s.heap = h0) (q : entryFrame m args ml = g) (k : own_RunH p e below s (fun v vm h L => Q0 v h L ∧ CHr Z EL s.vm h0 vm h) C S T g) :
  ∃ s₂ o, Steps p.tables e below (T.setTop (entryFrame m args ml)) s₂ ∧ s₂.status = .running ∧ Ended s₂ below o ∧ ∃ v L, o = .returned v ∧ Q0 v s₂.heap L ∧ CHr Z EL s.vm s.heap s₂.vm s₂.heap ∧ ReturnedEndW s o s₂ L C S := by
 subst q
 obtain ⟨s₂, v, L, h1, h2, h3, ⟨h4, h5⟩, h6⟩ := k
 exact ⟨s₂, _, h1, h2, h3, v, L, rfl, h4, hh ▸ h5, h6⟩
theorem own_stepH {g g' : JFrame} {T' : State} (h : ∀ t, Steps p.tables e below (T'.setTop g') t → Steps p.tables e below (T.setTop g) t) (k : own_RunH p e below s QQ C S T' g') : own_RunH p e below s QQ C S T g := by
 obtain ⟨s₂, v, L, h1, h2⟩ := k
 exact ⟨s₂, v, L, h _ h1, h2⟩
theorem own_endH {vm₁ : Vm} (X : Stand p l e R (s.setVm vm₁) m args below meth c T locs cells slots) {n : Nat} (hS : s.Since vm₁ n) (hn : n ≤ T.heap.size) {v : Option Value} (hv : meth.sig.returnType = none → v = none) (hlocks : meth.locks = false) {g : JFrame} (hc : cells ≤ C) (hs : slots ≤ S) (hq : QQ v T.vm T.heap locs)
  (k : ∀ fs, (∀ (f : JFrame) (acts : List Action), f.method = m → f.locked = none → f.entered = [] → (doReturn e (T.setTop f) acts v).1 = T.setFrames fs) → Steps p.tables e below (T.setTop g) (T.setFrames fs)) : own_RunH p e below s QQ C S T g := by
 obtain ⟨fs, hr, hrun, hended, h1, h2, h3, h4⟩ := X.leaveW hS hn (v := v) hv hlocks
 exact ⟨_, v, locs, k fs hr, hrun, hended, hq, h1, h2, h3, h4.mono hc hs⟩
theorem own_retNH {vm₁ : Vm} (X : Stand p l e R (s.setVm vm₁) m args below meth c T locs cells slots) (hx : p.tables.exec = Jvm.exec) {n : Nat} (hS : s.Since vm₁ n) (hn : n ≤ T.heap.size) {pc : Nat} {Ls : Array Slot} {z : Int32} {t : FieldType} {rest : List Value} (hret : meth.sig.returnType = some t) (ht : t = .boolean ∨ t = .byte ∨ t = .char ∨ t = .short)
  (hd : decode c.code pc = .ok (.ireturn, 1)) (hlocks : meth.locks = false) (hc : cells ≤ C) (hs : slots ≤ S) (hq : QQ (some (.int (nar t z))) T.vm T.heap locs) : own_RunH p e below s QQ C S T (mkF m pc Ls (.int z :: rest)) :=
 own_endH X hS hn (fun h => by rw [hret] at h; cases h) hlocks hc hs hq (fun fs hr => retN X hx hret ht hd hr)
theorem own_retIH {vm₁ : Vm} (X : Stand p l e R (s.setVm vm₁) m args below meth c T locs cells slots) (hx : p.tables.exec = Jvm.exec) {n : Nat} (hS : s.Since vm₁ n) (hn : n ≤ T.heap.size) {pc : Nat} {Ls : Array Slot} {z : Int32} {rest : List Value} (hret : meth.sig.returnType = some .int)
  (hd : decode c.code pc = .ok (.ireturn, 1)) (hlocks : meth.locks = false) (hc : cells ≤ C) (hs : slots ≤ S) (hq : QQ (some (.int z)) T.vm T.heap locs) : own_RunH p e below s QQ C S T (mkF m pc Ls (.int z :: rest)) :=
 own_endH X hS hn (fun h => by rw [hret] at h; cases h) hlocks hc hs hq (fun fs hr => retOut X hx hret rfl (Or.inl ⟨rfl, Or.inl rfl, _, rfl⟩) hd hr)
theorem own_retJH {vm₁ : Vm} (X : Stand p l e R (s.setVm vm₁) m args below meth c T locs cells slots) (hx : p.tables.exec = Jvm.exec) {n : Nat} (hS : s.Since vm₁ n) (hn : n ≤ T.heap.size) {pc : Nat} {Ls : Array Slot} {z : Int64} {rest : List Value} (hret : meth.sig.returnType = some .long)
  (hd : decode c.code pc = .ok (.lreturn, 1)) (hlocks : meth.locks = false) (hc : cells ≤ C) (hs : slots ≤ S) (hq : QQ (some (.long z)) T.vm T.heap locs) : own_RunH p e below s QQ C S T (mkF m pc Ls (.long z :: rest)) :=
 own_endH X hS hn (fun h => by rw [hret] at h; cases h) hlocks hc hs hq (fun fs hr => retOut X hx hret rfl (Or.inr (Or.inl ⟨rfl, rfl, _, rfl⟩)) hd hr)
theorem own_retAH {vm₁ : Vm} (X : Stand p l e R (s.setVm vm₁) m args below meth c T locs cells slots) (hx : p.tables.exec = Jvm.exec) {n : Nat} (hS : s.Since vm₁ n) (hn : n ≤ T.heap.size) {pc : Nat} {Ls : Array Slot} {w : Value} {t : FieldType} {rest : List Value} (hret : meth.sig.returnType = some t) (ht : t.isReference = true) (hw : w.isRef = true)
  (hd : decode c.code pc = .ok (.areturn, 1)) (hlocks : meth.locks = false) (hc : cells ≤ C) (hs : slots ≤ S) (hq : QQ (some w) T.vm T.heap locs) : own_RunH p e below s QQ C S T (mkF m pc Ls (w :: rest)) :=
 own_endH X hS hn (fun h => by rw [hret] at h; cases h) hlocks hc hs hq (fun fs hr => retOut X hx hret (by cases t <;> first | rfl | cases ht) (Or.inr (Or.inr (Or.inr (Or.inr ⟨rfl, ht, hw⟩)))) hd hr)
theorem own_retVH {vm₁ : Vm} (X : Stand p l e R (s.setVm vm₁) m args below meth c T locs cells slots) (hx : p.tables.exec = Jvm.exec) {n : Nat} (hS : s.Since vm₁ n) (hn : n ≤ T.heap.size) {pc : Nat} {Ls : Array Slot} (hret : meth.sig.returnType = none)
  (hd : decode c.code pc = .ok (.return_, 1)) (hlocks : meth.locks = false) (hc : cells ≤ C) (hs : slots ≤ S) (hq : QQ none T.vm T.heap locs) : own_RunH p e below s QQ C S T (mkF m pc Ls []) :=
 own_endH X hS hn (fun _ => rfl) hlocks hc hs hq (fun fs hr => X.returnOut hx hret hd hr)
end OwnH
/-- a callee whose law keeps the booked constants and may write the places of xs, which are no constants' -/
theorem own_backH {p : Program} {l : Launch} {e : Env} {R : Room} {s : State} {args : Array Value} {below : List Frame} {Z : State} {a0 : Array Value} {EL : List (String × Nat)} {h : Heap} {vm0 : Vm} {xs : List Addr} {y : MethodName} {bytes : ByteArray} {maxL : Nat} {ret : Option FieldType} {rm : Room} {len W : Nat} {as' : Array Value} {Q : Option Value → Heap → List Loc → Prop}
  (hM : MetFree l y (head1 [Cond.code y bytes maxL ret] rm) (fun a U => a = as' ∧ Z.Warmed39 U.vm ∧ U.heap = h ∧ CHv Z EL U.vm h ∧ ∀ x ∈ xs, Safe Z EL U.vm h x) (fun _ _ _ _ _ => True) (fun _ U o U' => ∃ v L, o = .returned v ∧ Q v U'.heap L ∧ CHr Z EL U.vm U.heap U'.vm U'.heap ∧ ReturnedEndW U o U' L rm.cells rm.slots))
  (hZ : Z.Warmed39 vm0) (wc : (Cond.code y bytes maxL ret).before a0 Z = true) (wz : (Cond.initialized y.cls).before a0 Z = true) (hf : rm.frames + 1 ≤ R.frames) (hl : W + (maxL + 11) + rm.locals ≤ R.locals) (hEL : EW Z a0 EL) (H : CHv Z EL vm0 h) (hs : ∀ x ∈ xs, x < h.size ∧ Safe Z EL vm0 h x) :
  BackS l R p e below (s.setVm vm0) args y len W (fun A a => a = as' ∧ A.U.heap = h ∧ A.cells + rm.cells ≤ R.cells ∧ A.slots + rm.slots ≤ R.slots)
   (fun A _ v B => ∃ L, Q v B.U.heap L ∧ B.locs = A.locs ++ L ∧ B.cells = A.cells + rm.cells ∧ B.slots = A.slots + rm.slots ∧ CHr Z EL vm0 h B.U.vm B.U.heap) :=
 BackS.of_freeW (bytes := bytes) (maxL := maxL) (ret := ret) (E := fun _ first o t L k n => k = rm.cells ∧ n = rm.slots ∧ (∃ v, o = .returned v ∧ Q v t.heap L) ∧ CHr Z EL first.vm first.heap t.vm t.heap) hM hf hl
  (fun m meth c A a Y hp => have hU : Z.Warmed39 A.U.vm := wtrans (s := s.setVm vm0) hZ Y.warmed
   ⟨by show (Cond.and _ .tt).before a A.U = true; rw [Cond.before_and, mv hU wc]; rfl, mv hU wc, mv hU wz, hp.2.2.1, hp.2.2.2⟩)
  (fun m meth c A a g mk Y hp => ⟨hp.1, wtrans (s := s.setVm vm0) hZ Y.warmed, hp.2.1, (CHv.at Y hZ hEL H).1, fun x hx => (CHv.at Y hZ hEL H).safe (hs x hx).1 (hs x hx).2⟩) (fun _ _ _ _ _ _ _ _ _ => trivial)
  (fun _ _ _ _ ⟨v, L, h1, h2, h3, h4⟩ => ⟨L, _, _, h4, rfl, rfl, ⟨v, h1, h2⟩, h3⟩)
  (fun m meth c A a g mk v t L k n Y hp _ _ ⟨e1, e2, ⟨v', e3, e4⟩, e5⟩ => by
   cases e3; subst e1 e2
   refine ⟨L, e4, rfl, rfl, rfl, (CHv.at Y hZ hEL H).trans ?_⟩
   rw [← hp.2.1]; exact e5)
def own_EL : List (String × Nat) := [("com/example/bevaka/bevaka/store/Pem", 22), ("com/example/bevaka/bevaka/store/Pem", 28), ("com/example/bevaka/bevaka/store/Pem", 30), ("java/lang/String", 7)]
theorem oPH {p : Program} {e : Env} {s T : State} {below : List Frame} {QQ : Option Value → Vm → Heap → List Loc → Prop} {C S : Nat} {g : JFrame} (T' : State) (g' : JFrame) (h : ∀ t, Steps p.tables e below (T'.setTop g') t → Steps p.tables e below (T.setTop g) t) (k : own_RunH p e below s QQ C S T' g') : own_RunH p e below s QQ C S T g := own_stepH h k
theorem own_clone {p : Program} {l : Launch} {e : Env} {R : Room} {s : State} {m : MethodId} {args : Array Value} {below : List Frame} {meth : Method} {c : Code} {T : State} {locs : List Loc} {cells slots : Nat} {Z : State} {h : Heap} {a : Addr} {ty : FieldType}
  (X : Stand p l e R s m args below meth c T locs cells slots) (hx : p.tables.exec = Jvm.exec) (hZ : Z.Warmed39 s.vm) {a0 : Array Value} {own ad : String} {index : Nat} (hown : s.vm.findClass own = some m.cls)
  (w1 : (Cond.methodLink own index ⟨ad, "clone", "()Ljava/lang/Object;"⟩).before a0 Z = true) (w2 : (Cond.sameMethod ad "java/lang/Object" "clone" "()Ljava/lang/Object;").before a0 Z = true) (w3 : (Cond.native ⟨"java/lang/Object", "clone", "()Ljava/lang/Object;"⟩).before a0 Z = true)
  (w4 : (Cond.instanceMethod ⟨"java/lang/Object", "clone", "()Ljava/lang/Object;"⟩).before a0 Z = true) (w5 : (Cond.selects ad ⟨ad, "clone", "()Ljava/lang/Object;"⟩ ⟨"java/lang/Object", "clone", "()Ljava/lang/Object;"⟩).before a0 Z = true) (w6 : (Cond.castable ad "java/lang/Cloneable").before a0 Z = true)
  (eT : T.heap = h) {k : ClassId} {z : Int32} {vs : List Value} {dv : Value} (F : Arv Z h a k ty z vs dv) (E : Exa Z h a ad) {g : JFrame} (hg : g.method = m) (hsize : g.locals.size = c.maxLocals) {rest : List Value} (hst : g.stack = .ref a :: rest) (hd : decode c.code g.pc = .ok (.invokevirtual index, 3))
  (hf : 1 ≤ R.frames) {W cap : Nat} (hW : 2 * g.monitorRoom + (rest.map fun v => v.category).sum ≤ W) (hl : W + 14 ≤ R.locals) (hcap : z.toNatClampNeg ≤ cap) (hc : cells + 1 ≤ R.cells) (hsl : slots + cap ≤ R.slots) :
  ∃ T' h', Stand p l e R s m args below meth c T' locs (cells + 1) (slots + cap) ∧ T'.heap = h' ∧ Ext h h' ∧ Arv Z h' h.size k ty z vs dv ∧ Exa Z h' h.size ad ∧
   ∀ target, Steps p.tables e below (T'.setTop { g with pc := g.pc + 3, stack := .ref h.size :: rest }) target → Steps p.tables e below (T.setTop g) target := by
 obtain ⟨cl, A, q1, S, q3, H, G⟩ := F
 obtain ⟨T', h', X', e', ex, A', E', st⟩ := cloneA X hx hZ hown w1 w2 w3 w4 w5 w6 eT A E (fitC_of A fun i hi v hv => by rw [H i hi] at hv; cases hv; exact G i hi) hg hsize hst hd hf hW hl (by rw [S]; exact hcap) hc hsl
 exact ⟨T', h', X', e', ex, ⟨cloneOf cl, A', q1, S, q3, H, G⟩, E', st⟩
theorem own_oi (n : Nat) (h : n < 2147483648) : (ofNat n).toInt = n := by
 rw [Int32.toInt_ofNat', show Int32.size = 4294967296 from rfl, Int.bmod_def]; omega
theorem own_add (a b : Nat) : ofNat a + ofNat b = ofNat (a + b) := by
 apply Int32.toBitVec_inj.mp
 rw [Int32.toBitVec_add, Int32.toBitVec_ofNat', Int32.toBitVec_ofNat', Int32.toBitVec_ofNat', BitVec.ofNat_add]
theorem own_sub {a b : Nat} (h : b ≤ a) : ofNat a - ofNat b = ofNat (a - b) := by
 have e : ofNat a = ofNat (a - b) + ofNat b := by rw [own_add]; congr 1; omega
 rw [e]; simp
theorem own_shr0 (x : Int32) : (x >>> ((0 : Int32) &&& 31)) = x := by
 rw [show ((0 : Int32) &&& 31) = 0 from by decide]
 apply Int32.toBitVec_inj.mp
 rw [Int32.toBitVec_shiftRight, show (0 : Int32).toBitVec.smod 32 = 0#32 from by decide]
 show BitVec.sshiftRight x.toBitVec 0 = _
 simp
theorem own_shl0 (x : Int32) : (x <<< ((0 : Int32) &&& 31)) = x := by
 rw [show ((0 : Int32) &&& 31) = 0 from by decide]
 apply Int32.toBitVec_inj.mp
 rw [Int32.toBitVec_shiftLeft, show (0 : Int32).toBitVec.smod 32 = 0#32 from by decide]
 show x.toBitVec <<< 0 = _
 simp
theorem own_lt {a b : Nat} (ha : a < 2147483648) (hb : b < 2147483648) : ofNat a < ofNat b ↔ a < b := by
 rw [Int32.lt_iff_toInt_lt, own_oi a ha, own_oi b hb]; omega
theorem own_eqn {a b : Nat} (ha : a < 2147483648) (hb : b < 2147483648) : ofNat a = ofNat b ↔ a = b := by
 rw [← Int32.toInt_inj, own_oi a ha, own_oi b hb]; omega
theorem own_nn (a : Nat) (ha : a < 2147483648) : ¬ ofNat a < 0 := by
 rw [Int32.lt_iff_toInt_lt, own_oi a ha, show (0 : Int32).toInt = 0 from rfl]; omega
theorem own_tn {a : Nat} (ha : a < 2147483648) : (ofNat a).toNatClampNeg = a := by
 simp only [Int32.toNatClampNeg, own_oi a ha]; omega
def own_min32 (a b : Int32) : Int32 := if b < a then b else a
def own_max32 (a b : Int32) : Int32 := if a < b then b else a
theorem own_maxn {a b : Nat} (ha : a < 2147483648) (hb : b < 2147483648) : own_max32 (ofNat a) (ofNat b) = ofNat (max a b) := by
 unfold own_max32
 by_cases h : a < b
 ·rw [if_pos ((own_lt ha hb).mpr h), Nat.max_eq_right (by omega)]
 ·rw [if_neg (fun q => h ((own_lt ha hb).mp q)), Nat.max_eq_left (by omega)]
theorem own_minn {a b : Nat} (ha : a < 2147483648) (hb : b < 2147483648) : own_min32 (ofNat a) (ofNat b) = ofNat (min a b) := by
 unfold own_min32
 by_cases h : b < a
 ·rw [if_pos ((own_lt hb ha).mpr h), Nat.min_eq_right (by omega)]
 ·rw [if_neg (fun q => h ((own_lt hb ha).mp q)), Nat.min_eq_left (by omega)]
/-- how far a builder's array of C bytes grows to hold m -/
def own_nc (C m : Nat) : Nat := C + max (m - C) (C + 2)
def own_cap (C m : Nat) : Nat := if m ≤ C then C else own_nc C m
/-- a builder's array: its content, then zeros -/
def own_buf (L : List Value) (C : Nat) : List Value := L ++ List.replicate (C - L.length) (.int 0)
theorem own_bufl {L : List Value} {C : Nat} (h : L.length ≤ C) : (own_buf L C).length = C := by simp [own_buf]; omega
theorem own_us {vs : List Value} {d : Value} {n : Nat} (hn : n < 2147483648) (h : vs.length = n) : vs = (List.range (ofNat n).toNatClampNeg).map fun i => vs.getD ((0 : Int32).toNatClampNeg + i) d := by
 rw [own_tn hn]
 apply List.ext_getElem
 ·simp [h]
 ·intro i h1 h2
  simp [show (0 : Int32).toNatClampNeg = 0 from rfl, h1]
theorem own_us2 {vs : List Value} {d : Value} {n N : Nat} (hn : n < 2147483648) (h : n ≤ vs.length) : vs.take n = (List.range (ofNat n).toNatClampNeg).map fun i => vs.getD ((0 : Int32).toNatClampNeg + i) d := by
 rw [own_tn hn]
 apply List.ext_getElem
 ·simp [h]
 ·intro i h1 h2
  have h3 : i < vs.length := by simp at h1; omega
  simp [show (0 : Int32).toNatClampNeg = 0 from rfl, h3]
theorem own_cp0 {vs : List Value} {N C : Nat} (hC : C < 2147483648) (h : vs.length = C) (hN : C ≤ N) : (List.replicate N (Value.int 0)).take (0 : Int32).toNatClampNeg ++ vs ++ (List.replicate N (Value.int 0)).drop ((0 : Int32).toNatClampNeg + (ofNat C).toNatClampNeg) = vs ++ List.replicate (N - C) (.int 0) := by
 rw [own_tn hC, show (0 : Int32).toNatClampNeg = 0 from rfl]
 simp
theorem own_grown {L : List Value} {C N : Nat} (h : L.length ≤ C) (hN : C ≤ N) : own_buf L C ++ List.replicate (N - C) (.int 0) = own_buf L N := by
 unfold own_buf
 rw [List.append_assoc, List.replicate_append_replicate]
 congr 2; omega
theorem own_put {L vs : List Value} {C c n : Nat} (hc : L.length = c) (hn : vs.length = n) (hC : c + n ≤ C) : (own_buf L C).take c ++ vs ++ (own_buf L C).drop (c + n) = own_buf (L ++ vs) C := by
 subst hc hn
 unfold own_buf
 rw [List.take_append_of_le_length (Nat.le_refl _), List.take_length, List.drop_append, List.drop_eq_nil_of_le (by omega), List.nil_append, List.drop_replicate, List.length_append, List.append_assoc, List.append_assoc, show C - L.length - (L.length + vs.length - L.length) = C - (L.length + vs.length) by omega]
theorem own_ne2 {x b b' : Addr} {n : Nat} (hb : b' = b ∨ n ≤ b') (h : x ≠ b) (hx : x < n) : x ≠ b' := by
 rcases hb with rfl | q
 ·exact h
 ·exact Nat.ne_of_lt (Nat.lt_of_lt_of_le hx q)
theorem own_orn (a b : Nat) : ofNat a ||| ofNat b = ofNat (a ||| b) := by
 apply Int32.toBitVec_inj.mp; simp [Int32.toBitVec_or, BitVec.ofNat_or]
theorem own_andn (a b : Nat) : ofNat a &&& ofNat b = ofNat (a &&& b) := by
 apply Int32.toBitVec_inj.mp; simp [Int32.toBitVec_and, BitVec.ofNat_and]
theorem own_bvs (a k : Nat) (ha : a < 2147483648) : (BitVec.ofNat 32 a).sshiftRight k = BitVec.ofNat 32 (a / 2 ^ k) := by
 rw [BitVec.sshiftRight_eq_of_msb_false]
 ·apply BitVec.eq_of_toNat_eq
  have : a / 2 ^ k ≤ a := Nat.div_le_self _ _
  simp [Nat.shiftRight_eq_div_pow]
  rw [Nat.mod_eq_of_lt (by omega), Nat.mod_eq_of_lt (by omega)]
 ·rw [BitVec.msb_eq_decide]; simp; omega
theorem own_bvu (a k : Nat) (ha : a < 2147483648) : (UInt32.ofNat a).toBitVec >>> k = BitVec.ofNat 32 (a / 2 ^ k) := by
 apply BitVec.eq_of_toNat_eq
 have : a / 2 ^ k ≤ a := Nat.div_le_self _ _
 simp [Nat.shiftRight_eq_div_pow]
 rw [Nat.mod_eq_of_lt (by omega), Nat.mod_eq_of_lt (by omega)]
theorem own_bvl (a k : Nat) : BitVec.ofNat 32 a <<< k = BitVec.ofNat 32 (a * 2 ^ k) := by
 apply BitVec.eq_of_toNat_eq; simp [Nat.shiftLeft_eq]
theorem own_sr2 {a : Nat} (h : a < 2147483648) : ofNat a >>> ((2 : Int32) &&& 31) = ofNat (a / 4) := by
 apply Int32.toBitVec_inj.mp; simp; exact own_bvs a 2 h
theorem own_sr4 {a : Nat} (h : a < 2147483648) : ofNat a >>> ((4 : Int32) &&& 31) = ofNat (a / 16) := by
 apply Int32.toBitVec_inj.mp; simp; exact own_bvs a 4 h
theorem own_sr6 {a : Nat} (h : a < 2147483648) : ofNat a >>> ((6 : Int32) &&& 31) = ofNat (a / 64) := by
 apply Int32.toBitVec_inj.mp; simp; exact own_bvs a 6 h
theorem own_sl2 (a : Nat) : ofNat a <<< ((2 : Int32) &&& 31) = ofNat (a * 4) := by
 apply Int32.toBitVec_inj.mp; simp [-Int32.ofNat_mul]; rw [own_bvl]
theorem own_sl4 (a : Nat) : ofNat a <<< ((4 : Int32) &&& 31) = ofNat (a * 16) := by
 apply Int32.toBitVec_inj.mp; simp [-Int32.ofNat_mul]; rw [own_bvl]
theorem own_sl8 (a : Nat) : ofNat a <<< ((8 : Int32) &&& 31) = ofNat (a * 256) := by
 apply Int32.toBitVec_inj.mp; simp [-Int32.ofNat_mul]; rw [own_bvl]
theorem own_sl16 (a : Nat) : ofNat a <<< ((16 : Int32) &&& 31) = ofNat (a * 65536) := by
 apply Int32.toBitVec_inj.mp; simp [-Int32.ofNat_mul]; rw [own_bvl]
theorem own_ur18 {a : Nat} (h : a < 2147483648) : ((ofNat a).toUInt32 >>> ((18 : Int32) &&& 31).toUInt32).toInt32 = ofNat (a / 262144) := by
 apply Int32.toBitVec_inj.mp; simp; exact own_bvu a 18 h
theorem own_ur12 {a : Nat} (h : a < 2147483648) : ((ofNat a).toUInt32 >>> ((12 : Int32) &&& 31).toUInt32).toInt32 = ofNat (a / 4096) := by
 apply Int32.toBitVec_inj.mp; simp; exact own_bvu a 12 h
theorem own_ur6 {a : Nat} (h : a < 2147483648) : ((ofNat a).toUInt32 >>> ((6 : Int32) &&& 31).toUInt32).toInt32 = ofNat (a / 64) := by
 apply Int32.toBitVec_inj.mp; simp; exact own_bvu a 6 h
theorem own_a63 (a : Nat) : ofNat a &&& (63 : Int32) = ofNat (a % 64) := (own_andn a 63).trans (by rw [show (63 : Nat) = 2 ^ 6 - 1 from rfl, Nat.and_two_pow_sub_one_eq_mod])
theorem own_a3 (a : Nat) : ofNat a &&& (3 : Int32) = ofNat (a % 4) := (own_andn a 3).trans (by rw [show (3 : Nat) = 2 ^ 2 - 1 from rfl, Nat.and_two_pow_sub_one_eq_mod])
theorem own_a15 (a : Nat) : ofNat a &&& (15 : Int32) = ofNat (a % 16) := (own_andn a 15).trans (by rw [show (15 : Nat) = 2 ^ 4 - 1 from rfl, Nat.and_two_pow_sub_one_eq_mod])
/-- the byte of an int, as a number -/
def own_u (v : Int32) : Nat := v.toBitVec.toNat % 256
theorem own_ub (v : Int32) : own_u v < 256 := Nat.mod_lt _ (by decide)
theorem own_a255 (v : Int32) : v &&& (255 : Int32) = ofNat (own_u v) := by
 have e : ofNat v.toBitVec.toNat = v := by apply Int32.toBitVec_inj.mp; simp
 have q := own_andn v.toBitVec.toNat 255
 have r : v.toBitVec.toNat &&& 255 = v.toBitVec.toNat % 256 := Nat.and_two_pow_sub_one_eq_mod _ 8
 rw [e, r] at q
 exact q
theorem own_or {k a b : Nat} (h : b < 2 ^ k) : (a * 2 ^ k) ||| b = a * 2 ^ k + b := by
 rw [Nat.mul_comm, ← Nat.two_pow_add_eq_or_of_lt h]
/-- three bytes in one int -/
theorem own_b3 {a b c : Nat} (hb : b < 256) (hc : c < 256) : ((ofNat a <<< ((16 : Int32) &&& 31)) ||| (ofNat b <<< ((8 : Int32) &&& 31))) ||| ofNat c = ofNat (a * 65536 + b * 256 + c) := by
 rw [own_sl16, own_sl8, own_orn, own_orn]
 rw [show (a * 65536) ||| (b * 256) = (a * 256 + b) * 2 ^ 8 from by rw [own_or (k := 16) (by omega)]; omega, own_or (k := 8) hc]
 exact congrArg ofNat (by omega)
def own_i0 (a : Nat) : Nat := a / 4
def own_i1 (a b : Nat) : Nat := a % 4 * 16 + b / 16
def own_i2 (b c : Nat) : Nat := b % 16 * 4 + c / 64
def own_i3 (c : Nat) : Nat := c % 64
theorem own_i0l {a : Nat} (h : a < 256) : own_i0 a < 64 := by unfold own_i0; omega
theorem own_i1l {a b : Nat} (h : b < 256) : own_i1 a b < 64 := by unfold own_i1; omega
theorem own_i2l {a b : Nat} (h : b < 256) : own_i2 a b < 64 := by unfold own_i2; omega
theorem own_i3l (a : Nat) : own_i3 a < 64 := by unfold own_i3; omega
theorem own_x0 {a b c : Nat} (ha : a < 256) (hb : b < 256) (hc : c < 256) : ((ofNat (a * 65536 + b * 256 + c)).toUInt32 >>> ((18 : Int32) &&& 31).toUInt32).toInt32 &&& (63 : Int32) = ofNat (own_i0 a) := by
 rw [own_ur18 (by omega), own_a63]; congr 1; unfold own_i0; omega
theorem own_x1 {a b c : Nat} (ha : a < 256) (hb : b < 256) (hc : c < 256) : ((ofNat (a * 65536 + b * 256 + c)).toUInt32 >>> ((12 : Int32) &&& 31).toUInt32).toInt32 &&& (63 : Int32) = ofNat (own_i1 a b) := by
 rw [own_ur12 (by omega), own_a63]; congr 1; unfold own_i1; omega
theorem own_x2 {a b c : Nat} (ha : a < 256) (hb : b < 256) (hc : c < 256) : ((ofNat (a * 65536 + b * 256 + c)).toUInt32 >>> ((6 : Int32) &&& 31).toUInt32).toInt32 &&& (63 : Int32) = ofNat (own_i2 b c) := by
 rw [own_ur6 (by omega), own_a63]; congr 1; unfold own_i2; omega
theorem own_x3 {a b c : Nat} : ofNat (a * 65536 + b * 256 + c) &&& (63 : Int32) = ofNat (own_i3 c) := by
 rw [own_a63]; congr 1; unfold own_i3; omega
/-- the tail's and the law's indices -/
theorem own_y0 {a : Nat} (ha : a < 256) : ofNat a >>> ((2 : Int32) &&& 31) = ofNat (own_i0 a) := own_sr2 (by omega)
theorem own_y1 {a b : Nat} (hb : b < 256) : ((ofNat a <<< ((4 : Int32) &&& 31)) &&& (63 : Int32)) ||| (ofNat b >>> ((4 : Int32) &&& 31)) = ofNat (own_i1 a b) := by
 rw [own_sl4, own_a63, own_sr4 (by omega), own_orn, show a * 16 % 64 = (a % 4) * 2 ^ 4 from by omega, own_or (by omega)]; rfl
theorem own_y1' (a : Nat) : (ofNat a <<< ((4 : Int32) &&& 31)) &&& (63 : Int32) = ofNat (own_i1 a 0) := by
 rw [own_sl4, own_a63]; congr 1; unfold own_i1; omega
theorem own_y2' (a : Nat) : (ofNat a <<< ((2 : Int32) &&& 31)) &&& (63 : Int32) = ofNat (own_i2 a 0) := by
 rw [own_sl2, own_a63]; congr 1; unfold own_i2; omega
theorem own_z1 {a b : Nat} (hb : b < 256) : ((ofNat a &&& (3 : Int32)) <<< ((4 : Int32) &&& 31)) ||| (ofNat b >>> ((4 : Int32) &&& 31)) = ofNat (own_i1 a b) := by
 rw [own_a3, own_sl4, own_sr4 (by omega), own_orn, show a % 4 * 16 = (a % 4) * 2 ^ 4 from rfl, own_or (by omega)]; rfl
theorem own_z2 {b c : Nat} (hc : c < 256) : ((ofNat b &&& (15 : Int32)) <<< ((2 : Int32) &&& 31)) ||| (ofNat c >>> ((6 : Int32) &&& 31)) = ofNat (own_i2 b c) := by
 rw [own_a15, own_sl2, own_sr6 (by omega), own_orn, show b % 16 * 4 = (b % 16) * 2 ^ 2 from rfl, own_or (by omega)]; rfl
theorem own_z3 (c : Nat) : ofNat c &&& (63 : Int32) = ofNat (own_i3 c) := own_a63 c
/-- Base64's symbols -/
def own_sn (j : Nat) : Int32 := if j < 26 then ofNat (65 + j) else if j < 52 then ofNat (97 + (j - 26)) else if j < 62 then ofNat (48 + (j - 52)) else if j = 62 then 43 else 47
set_option maxRecDepth 8192 in
theorem own_snb : ∀ j < 64, (own_sn j).toInt8.toInt32 = own_sn j ∧ nar .byte (own_sn j) = own_sn j ∧ nar .char (own_sn j) = own_sn j := by decide
def own_tbl : List Value := (List.range 64).map fun j => Value.int (own_sn j)
theorem own_tat {j : Nat} (h : j < 64) : own_tbl.getD (ofNat j).toNatClampNeg (.int 0) = .int (own_sn j) := by
 rw [own_tn (by omega), own_tbl, List.getD_eq_getElem?_getD, List.getElem?_map, List.getElem?_range h]; rfl
theorem own_tin {j N : Nat} (h : j < N) (hN : N < 2147483648) : ¬ ofNat j < 0 ∧ ofNat j < ofNat N := ⟨own_nn _ (by omega), (own_lt (by omega) hN).mpr h⟩
def own_xs (xs : List Int32) : List Value := xs.map Value.int
def own_g (xs : List Int32) (i : Nat) : Int32 := xs.getD i 0
theorem own_xat (xs : List Int32) {i : Nat} (h : i < 2147483648) : (own_xs xs).getD (ofNat i).toNatClampNeg (.int 0) = .int (own_g xs i) := by
 rw [own_tn h, own_xs, own_g, List.getD_eq_getElem?_getD, List.getD_eq_getElem?_getD, List.getElem?_map]; cases xs[i]? <;> rfl
def own_ug (xs : List Int32) (i : Nat) : Nat := own_u (own_g xs i)
/-- one group of three bytes -/
def own_put4 (a b c : Nat) (dp : Nat) (vd : List Value) : List Value := (((vd.set dp (.int (own_sn (own_i0 a)))).set (dp + 1) (.int (own_sn (own_i1 a b)))).set (dp + 2) (.int (own_sn (own_i2 b c)))).set (dp + 3) (.int (own_sn (own_i3 c)))
def own_blk (xs : List Int32) : Nat → Nat → Nat → List Value → List Value
 | 0, _, _, vd => vd
 | g + 1, sp, dp, vd => own_blk xs g (sp + 3) (dp + 4) (own_put4 (own_ug xs sp) (own_ug xs (sp + 1)) (own_ug xs (sp + 2)) dp vd)
theorem own_put4l (a b c dp : Nat) (vd : List Value) : (own_put4 a b c dp vd).length = vd.length := by simp [own_put4]
theorem own_ugb (xs : List Int32) (i : Nat) : own_ug xs i < 256 := own_ub _
theorem own_blkl (xs : List Int32) : ∀ (g i j : Nat) (vd : List Value), (own_blk xs g i j vd).length = vd.length
 | 0, _, _, _ => rfl
 | g + 1, i, j, vd => by rw [own_blk, own_blkl xs g, own_put4l]
def own_t1 (xs : List Int32) (i j : Nat) (vd : List Value) : List Value := (((vd.set j (.int (own_sn (own_i0 (own_ug xs i))))).set (j + 1) (.int (own_sn (own_i1 (own_ug xs i) 0)))).set (j + 2) (.int 61)).set (j + 3) (.int 61)
def own_t2 (xs : List Int32) (i j : Nat) (vd : List Value) : List Value := (((vd.set j (.int (own_sn (own_i0 (own_ug xs i))))).set (j + 1) (.int (own_sn (own_i1 (own_ug xs i) (own_ug xs (i + 1)))))).set (j + 2) (.int (own_sn (own_i2 (own_ug xs (i + 1)) 0)))).set (j + 3) (.int 61)
def own_l1 (xs : List Int32) (vd : List Value) : List Value := (own_blk xs 16 0 0 vd).set 64 (.int 10)
def own_en (xs : List Int32) (vd : List Value) (n : Nat) : List Value := if n = 0 then vd else if n = 1 then own_t1 xs 0 0 vd else if n = 2 then own_t2 xs 0 0 vd else if n = 3 then own_blk xs 1 0 0 vd else if n = 48 then own_blk xs 16 0 0 vd else if n = 49 then own_t1 xs 48 65 (own_l1 xs vd) else if n = 50 then own_t2 xs 48 65 (own_l1 xs vd) else own_blk xs 1 48 65 (own_l1 xs vd)
def own_D (n : Nat) : Nat := if n = 0 then 0 else if n ≤ 3 then 4 else if n = 48 then 64 else 69
def own_ok (n : Nat) : Prop := n = 0 ∨ n = 1 ∨ n = 2 ∨ n = 3 ∨ n = 48 ∨ n = 49 ∨ n = 50 ∨ n = 51
theorem own_okl {n : Nat} (h : own_ok n) : n ≤ 51 := by unfold own_ok at h; omega
theorem own_Db (n : Nat) : own_D n ≤ 69 := by unfold own_D; split <;> (try split) <;> (try split) <;> omega
theorem own_ol {n : Nat} (h : own_ok n) : ∃ r4 r5 : Int32, (¬ ((ofNat n ^^^ (ofNat n + (2 : Int32))) &&& ((2 : Int32) ^^^ (ofNat n + (2 : Int32)))) < (0 : Int32)) ∧ (lcmpW ((4 : Int32).toInt64 * ((ofNat n + (2 : Int32)) / (3 : Int32)).toInt64).toInt32.toInt64 ((4 : Int32).toInt64 * ((ofNat n + (2 : Int32)) / (3 : Int32)).toInt64) = (0 : Int32)) ∧ (((4 : Int32).toInt64 * ((ofNat n + (2 : Int32)) / (3 : Int32)).toInt64).toInt32 = r4) ∧ (((r4 - (1 : Int32)) / (64 : Int32)) * (1 : Int32) = r5) ∧ (¬ ((r4 ^^^ (r4 + r5)) &&& (r5 ^^^ (r4 + r5))) < (0 : Int32)) ∧ r4 + r5 = ofNat (own_D n) := by
 refine ⟨_, _, ?_, ?_, rfl, rfl, ?_, ?_⟩ <;> (rcases h with rfl | rfl | rfl | rfl | rfl | rfl | rfl | rfl <;> decide)
theorem own_cf1 {n : Nat} (h : n < 2147483648) : ¬ ((ofNat n ||| (0 : Int32)) ||| ofNat n) < (0 : Int32) := by
 have q := own_nn n h
 rw [show ofNat n ||| (0 : Int32) = ofNat n from by simp, Int32.or_self]; exact q
theorem own_cf2 {n : Nat} (h : n < 2147483648) : ¬ (ofNat n - (0 : Int32)) < ofNat n := by
 rw [show ofNat n - (0 : Int32) = ofNat n from by simp, own_lt h h]; omega
theorem own_slen {n : Nat} (h : own_ok n) : ∃ sl : Nat, ((ofNat n - (0 : Int32)) / (3 : Int32)) * (3 : Int32) = ofNat sl ∧ sl = n / 3 * 3 := by
 refine ⟨_, ?_, rfl⟩; rcases h with rfl | rfl | rfl | rfl | rfl | rfl | rfl | rfl <;> decide
/-- chars, as a Latin-1 String's bytes -/
def own_b (c : Int32) : Int32 := c.toInt8.toInt32
def own_bs (cs : List Int32) : List Int32 := cs.map own_b
def own_part (cs : List Int32) (i : Nat) : List Value := own_xs (own_bs (cs.take i)) ++ List.replicate (cs.length - i) (.int 0)
theorem own_part0 (cs : List Int32) : own_part cs 0 = List.replicate cs.length (.int 0) := by simp [own_part, own_xs, own_bs]
theorem own_partn (cs : List Int32) : own_part cs cs.length = own_xs (own_bs cs) := by simp [own_part]
theorem own_partl {cs : List Int32} {i : Nat} (h : i ≤ cs.length) : (own_part cs i).length = cs.length := by simp [own_part, own_xs, own_bs]; omega
theorem own_parts {cs : List Int32} {i : Nat} (h : i < cs.length) : (own_part cs i).set i (.int (own_b (own_g cs i))) = own_part cs (i + 1) := by
 have e : cs.length - i = (cs.length - (i + 1)) + 1 := by omega
 have hl : (own_xs (own_bs (cs.take i))).length = i := by simp [own_xs, own_bs]; omega
 unfold own_part
 rw [List.set_append_right _ _ (by omega), hl, Nat.sub_self, e, List.replicate_succ, List.set_cons_zero]
 have q : cs.take (i + 1) = cs.take i ++ [own_g cs i] := by
  rw [List.take_add_one, own_g, List.getD_eq_getElem?_getD, List.getElem?_eq_getElem h]; rfl
 rw [q]; simp [own_xs, own_bs]
theorem own_xsl (xs : List Int32) : (own_xs xs).length = xs.length := by simp [own_xs]
theorem own_cod (x : Int32) : (((x - x).toUInt32 >>> ((31 : Int32) &&& 31).toUInt32).toInt32).toInt8.toInt32 = (0 : Int32) := by
 rw [Int32.sub_self]; decide
theorem own_chr (v : Int32) : nar .char ((v &&& (255 : Int32)).toUInt32.toUInt16.toUInt32.toInt32) = ofNat (own_u v) := by
 rw [own_a255]
 have h := own_ub v
 generalize own_u v = k at h
 exact (show ∀ k < 256, nar .char ((ofNat k).toUInt32.toUInt16.toUInt32.toInt32) = ofNat k by decide +kernel) k h
theorem pd_0 : parseMethodDescriptor "()B" = some ⟨[], some .byte⟩ := by decide +kernel
theorem pd_1 : parseMethodDescriptor "(II)I" = some ⟨[.int, .int], some .int⟩ := by decide +kernel
theorem pd_2 : parseMethodDescriptor "(III)I" = some ⟨[.int, .int, .int], some .int⟩ := by decide +kernel
theorem pd_3 : parseMethodDescriptor "(I)I" = some ⟨[.int], some .int⟩ := by decide +kernel
theorem pd_4 : parseMethodDescriptor "([BI)[B" = some ⟨[(.array .byte), .int], some (.array .byte)⟩ := by decide +kernel
theorem pd_5 : parseMethodDescriptor "(Ljava/lang/String;)V" = some ⟨[(.object "java/lang/String")], none⟩ := by decide +kernel
theorem pd_6 : parseMethodDescriptor "([BIB)V" = some ⟨[(.array .byte), .int, .byte], none⟩ := by decide +kernel
theorem pd_7 : parseMethodDescriptor "()I" = some ⟨[], some .int⟩ := by decide +kernel
theorem pd_8 : parseMethodDescriptor "(I)V" = some ⟨[.int], none⟩ := by decide +kernel
theorem pd_9 : parseMethodDescriptor "(ILjava/lang/String;)V" = some ⟨[.int, (.object "java/lang/String")], none⟩ := by decide +kernel
theorem pd_10 : parseMethodDescriptor "(Ljava/lang/String;)Ljava/lang/AbstractStringBuilder;" = some ⟨[(.object "java/lang/String")], some (.object "java/lang/AbstractStringBuilder")⟩ := by decide +kernel
theorem pd_11 : parseMethodDescriptor "(II)V" = some ⟨[.int, .int], none⟩ := by decide +kernel
theorem pd_12 : parseMethodDescriptor "([BII)[B" = some ⟨[(.array .byte), .int, .int], some (.array .byte)⟩ := by decide +kernel
theorem pd_13 : parseMethodDescriptor "()[B" = some ⟨[], some (.array .byte)⟩ := by decide +kernel
theorem pd_14 : parseMethodDescriptor "()Z" = some ⟨[], some .boolean⟩ := by decide +kernel
theorem pd_15 : parseMethodDescriptor "(Ljava/lang/AbstractStringBuilder;Ljava/lang/Void;)V" = some ⟨[(.object "java/lang/AbstractStringBuilder"), (.object "java/lang/Void")], none⟩ := by decide +kernel
theorem pd_16 : parseMethodDescriptor "(Ljava/lang/StringBuilder;)V" = some ⟨[(.object "java/lang/StringBuilder")], none⟩ := by decide +kernel
theorem pd_17 : parseMethodDescriptor "(Ljava/lang/Object;)Ljava/lang/Object;" = some ⟨[(.object "java/lang/Object")], some (.object "java/lang/Object")⟩ := by decide +kernel
theorem pd_18 : parseMethodDescriptor "(Z[BIZ)V" = some ⟨[.boolean, (.array .byte), .int, .boolean], none⟩ := by decide +kernel
theorem pd_19 : parseMethodDescriptor "([BII[BIZ)V" = some ⟨[(.array .byte), .int, .int, (.array .byte), .int, .boolean], none⟩ := by decide +kernel
theorem pd_20 : parseMethodDescriptor "(IZ)I" = some ⟨[.int, .boolean], some .int⟩ := by decide +kernel
theorem pd_21 : parseMethodDescriptor "([BII[B)I" = some ⟨[(.array .byte), .int, .int, (.array .byte)], some .int⟩ := by decide +kernel
theorem pd_22 : parseMethodDescriptor "(IIILjava/util/function/BiFunction;)I" = some ⟨[.int, .int, .int, (.object "java/util/function/BiFunction")], some .int⟩ := by decide +kernel
theorem pd_23 : parseMethodDescriptor "([B)[B" = some ⟨[(.array .byte)], some (.array .byte)⟩ := by decide +kernel
theorem pd_24 : parseMethodDescriptor "([BIII)V" = some ⟨[(.array .byte), .int, .int, .int], none⟩ := by decide +kernel
theorem pd_25 : parseMethodDescriptor "(I[B)Ljava/util/Base64$Encoder;" = some ⟨[.int, (.array .byte)], some (.object "java/util/Base64$Encoder")⟩ := by decide +kernel
theorem pd_26 : parseMethodDescriptor "([B)Ljava/lang/String;" = some ⟨[(.array .byte)], some (.object "java/lang/String")⟩ := by decide +kernel
theorem pd_27 : parseMethodDescriptor "()V" = some ⟨[], none⟩ := by decide +kernel
theorem pd_28 : parseMethodDescriptor "(Ljava/lang/String;)Ljava/lang/StringBuilder;" = some ⟨[(.object "java/lang/String")], some (.object "java/lang/StringBuilder")⟩ := by decide +kernel
theorem pd_29 : parseMethodDescriptor "()Ljava/lang/String;" = some ⟨[], some (.object "java/lang/String")⟩ := by decide +kernel
theorem pd_30 : parseMethodDescriptor "([CI[BII)I" = some ⟨[(.array .char), .int, (.array .byte), .int, .int], some .int⟩ := by decide +kernel
theorem pd_31 : parseMethodDescriptor "([CII)[B" = some ⟨[(.array .char), .int, .int], some (.array .byte)⟩ := by decide +kernel
theorem pd_32 : parseMethodDescriptor "([BI)B" = some ⟨[(.array .byte), .int], some .byte⟩ := by decide +kernel
theorem pd_33 : parseMethodDescriptor "([CIILjava/lang/Void;)V" = some ⟨[(.array .char), .int, .int, (.object "java/lang/Void")], none⟩ := by decide +kernel
theorem pd_34 : parseMethodDescriptor "([B[B)Z" = some ⟨[(.array .byte), (.array .byte)], some .boolean⟩ := by decide +kernel
theorem pd_35 : parseMethodDescriptor "(IILjava/util/function/BiFunction;)I" = some ⟨[.int, .int, (.object "java/util/function/BiFunction")], some .int⟩ := by decide +kernel
theorem pd_36 : parseMethodDescriptor "([BI)C" = some ⟨[(.array .byte), .int], some .char⟩ := by decide +kernel
theorem pd_37 : parseMethodDescriptor "([CI)V" = some ⟨[(.array .char), .int], none⟩ := by decide +kernel
theorem pd_38 : parseMethodDescriptor "(I)C" = some ⟨[.int], some .char⟩ := by decide +kernel
theorem pd_39 : parseMethodDescriptor "([CIIIII)V" = some ⟨[(.array .char), .int, .int, .int, .int, .int], none⟩ := by decide +kernel
theorem pd_40 : parseMethodDescriptor "([C)V" = some ⟨[(.array .char)], none⟩ := by decide +kernel
theorem pd_41 : parseMethodDescriptor "(Ljava/lang/String;[B)Ljava/lang/String;" = some ⟨[(.object "java/lang/String"), (.array .byte)], some (.object "java/lang/String")⟩ := by decide +kernel
theorem pd_42 : parseMethodDescriptor "([CCCI)V" = some ⟨[(.array .char), .char, .char, .int], none⟩ := by decide +kernel
theorem pd_43 : parseMethodDescriptor "(Ljava/lang/Object;)Z" = some ⟨[(.object "java/lang/Object")], some .boolean⟩ := by decide +kernel
theorem pd_44 : parseMethodDescriptor "(Ljava/lang/String;IIIII)Z" = some ⟨[(.object "java/lang/String"), .int, .int, .int, .int, .int], some .boolean⟩ := by decide +kernel
def D24 : List (Nat × Instr × Nat) := [(0, .getstatic 38, 3), (3, .ifCond .eq 10, 3), (6, .aload_n 0, 1), (7, .getfield 15, 3), (10, .goto 4, 3), (13, .iconst 1, 1), (14, .ireturn, 1)]
theorem A24 : ∀ q ∈ D24, decode jdk_42_method_152_code q.1 = .ok q.2 := by decide +kernel
theorem d24 {c : Code} (h0 : c.code = jdk_42_method_152_code) (i : Nat) {pc n : Nat} {q : Instr} (h : D24[i]? = some (pc, q, n) := by rfl) : decode c.code pc = .ok (q, n) := hb h0 (A24 (pc, q, n) (List.mem_of_getElem? h))
theorem pn_rm25 : plainName "java/lang/String" = true := by first | (simp [plainName, overriddenIn]; done) | decide +kernel
theorem ef_rm25 (m : MethodId) (o0 : Addr) : entryFrame m #[(.ref o0)] 1 = mkF m 0 #[.val (.ref o0)] [] := by first | (simp [entryFrame, mkF, argsToLocals, Value.category, maxLocals]; done) | rfl
def rm25_Q (Z : State) (o0 : Addr) (cs : Int32) (h0 : Heap) (n0 : Nat) (v : Option Value) (h : Heap) (L : List Loc) : Prop := v = some (.int 0) ∧ Fr n0 L ∧ h = h0
set_option maxRecDepth 65536 in
set_option maxHeartbeats 40000000 in
theorem rm25 (l : Launch) (Z : State) (a0 : Array Value) (hw : ∀ d ∈ tables_1, d.before a0 Z = true) (ws : List Jvm.Cond) (o0 : Addr) (cs : Int32) (h0 : Heap) (n0 : Nat) (Z0 : n0 ≤ h0.size) (O0 : Old Z n0 h0) (S_cs : Sta Z Z.heap "java/lang/String" "COMPACT_STRINGS" "Z" (.int cs)) (hcs : ¬ cs = (0 : Int32)) (E_o0 : Exa Z h0 o0 "java/lang/String") (F_coder_o0 : Fld Z h0 o0 "java/lang/String" "coder" "B" (.int 0)) :
  MetFree l yM0 (head1 (Jvm.Cond.code yM0 jdk_42_method_152_code 1 (some .byte) :: ws) rM0_0_0_0) (fun a U => a = #[(.ref o0)] ∧ Z.Warmed39 U.vm ∧ U.heap = h0) (fun _ _ _ _ _ => True) (fun _ U o U' => ∃ v L, o = .returned v ∧ rm25_Q Z o0 cs h0 n0 v U'.heap L ∧ FrameEnd U o U' L rM0_0_0_0.cells rM0_0_0_0.slots) := by
 refine MetFree.of_bodySF (plainFor_of_name pn_rm25) hisR ?_
 intro p e s m args below meth c s₁ Bd hml0 hP hK
 obtain ⟨rfl, hZ, hh⟩ := hP
 have hx := Bd.exec
 have hby := Bd.bytes
 have hml : c.maxLocals = 1 := hml0
 have hown : s.vm.findClass "java/lang/String" = some m.cls := findClass_of_methodNamed Bd.named
 have hnm := (name_of_methodNamed Bd.named Bd.method).1
 have X0 : Stand p l e rM0_0_0_0 s m #[(.ref o0)] below meth c s₁ [] 0 0 := Stand.of_body Bd
 have e0 : s₁.heap = h0 := by rw [← hh, Bd.state]; rfl
 have N0 := Fr.nil n0
 refine own_enter (QQ := rm25_Q Z o0 cs h0 n0) (ef_rm25 m o0) ?_
 show own_Run p e below s _ _ _ s₁ (mkF m 0 #[.val (.ref o0)] [])
 obtain ⟨T1, X1, e1, st1⟩ := getS2 X0 hx hZ hown (host := "") (Or.inl (own_w hw 14)) Via.refl e0 (S_cs.ext O0.2) (g := (mkF m 0 #[oR o0] [])) rfl (d24 hby 0)
 refine own_step st1 ?_
 refine oP T1 (mkF m 7 #[oR o0] [(.ref o0)]) (fun t k => ?_) ?_
 ·skip
  refine XS.ifNo X1.here hx rfl (d24 hby 1) rfl ((if0 _ _).trans (feq hcs).1) ?_
  refine XS.aloadN X1.here hx rfl (d24 hby 2) rfl rfl ?_
  exact k
 obtain ⟨T3, X3, e3, st3⟩ := getF X1 hx hZ hown (host := "") (Or.inl (own_w hw 26)) Via.refl e1 F_coder_o0 (g := (mkF m 7 #[oR o0] [(.ref o0)])) rfl rfl (d24 hby 3)
 refine own_step st3 ?_
 refine oP T3 (mkF m 14 #[oR o0] [(.int 0)]) (fun t k => ?_) ?_
 ·skip
  refine XS.goto X3.here hx rfl (pc0 := 10) (pc' := 14) rfl (d24 hby 4) (by decide) (by decide) ?_
  exact k
 refine own_retN X3 hx (t := .byte) Bd.returns (by simp) (d24 hby 6) (BodyLoose.notSynchronized Bd) (by decide) (by decide) ?_
 rw [show T3.heap = h0 from e3]
 exact ⟨rfl, N0, rfl⟩
def D23 : List (Nat × Instr × Nat) := [(0, .aload_n 0, 1), (1, .getfield 9, 3), (4, .arraylength, 1), (5, .aload_n 0, 1), (6, .invokevirtual 335, 3), (9, .ishr, 1), (10, .ireturn, 1)]
theorem A23 : ∀ q ∈ D23, decode jdk_42_method_54_code q.1 = .ok q.2 := by decide +kernel
theorem d23 {c : Code} (h0 : c.code = jdk_42_method_54_code) (i : Nat) {pc n : Nat} {q : Instr} (h : D23[i]? = some (pc, q, n) := by rfl) : decode c.code pc = .ok (q, n) := hb h0 (A23 (pc, q, n) (List.mem_of_getElem? h))
theorem pn_rm24 : plainName "java/lang/String" = true := by first | (simp [plainName, overriddenIn]; done) | decide +kernel
theorem ef_rm24 (m : MethodId) (o0 : Addr) : entryFrame m #[(.ref o0)] 1 = mkF m 0 #[.val (.ref o0)] [] := by first | (simp [entryFrame, mkF, argsToLocals, Value.category, maxLocals]; done) | rfl
def rm24_Q (Z : State) (o0 : Addr) (cs : Int32) (sb : Addr) (k : ClassId) (z : Int32) (vs : List Value) (h0 : Heap) (n0 : Nat) (v : Option Value) (h : Heap) (L : List Loc) : Prop := v = some (.int z) ∧ Fr n0 L ∧ h = h0
set_option maxRecDepth 65536 in
set_option maxHeartbeats 40000000 in
theorem rm24 (l : Launch) (Z : State) (a0 : Array Value) (hw : ∀ d ∈ tables_1, d.before a0 Z = true) (ws : List Jvm.Cond) (o0 : Addr) (cs : Int32) (sb : Addr) (k : ClassId) (z : Int32) (vs : List Value) (h0 : Heap) (n0 : Nat) (Z0 : n0 ≤ h0.size) (O0 : Old Z n0 h0) (S_cs : Sta Z Z.heap "java/lang/String" "COMPACT_STRINGS" "Z" (.int cs)) (hcs : ¬ cs = (0 : Int32)) (E_o0 : Exa Z h0 o0 "java/lang/String") (F_coder_o0 : Fld Z h0 o0 "java/lang/String" "coder" "B" (.int 0)) (F_value_o0 : Fld Z h0 o0 "java/lang/String" "value" "[B" (.ref sb)) (V_sb : Arv Z h0 sb k .byte z vs (.int 0)) :
  MetFree l yM1 (head1 (Jvm.Cond.code yM1 jdk_42_method_54_code 1 (some .int) :: ws) rM1_0_0_13) (fun a U => a = #[(.ref o0)] ∧ Z.Warmed39 U.vm ∧ U.heap = h0) (fun _ _ _ _ _ => True) (fun _ U o U' => ∃ v L, o = .returned v ∧ rm24_Q Z o0 cs sb k z vs h0 n0 v U'.heap L ∧ FrameEnd U o U' L rM1_0_0_13.cells rM1_0_0_13.slots) := by
 refine MetFree.of_bodySF (plainFor_of_name pn_rm24) hisR ?_
 intro p e s m args below meth c s₁ Bd hml0 hP hK
 obtain ⟨rfl, hZ, hh⟩ := hP
 have hx := Bd.exec
 have hby := Bd.bytes
 have hml : c.maxLocals = 1 := hml0
 have hown : s.vm.findClass "java/lang/String" = some m.cls := findClass_of_methodNamed Bd.named
 have hnm := (name_of_methodNamed Bd.named Bd.method).1
 have X0 : Stand p l e rM1_0_0_13 s m #[(.ref o0)] below meth c s₁ [] 0 0 := Stand.of_body Bd
 have e0 : s₁.heap = h0 := by rw [← hh, Bd.state]; rfl
 have N0 := Fr.nil n0
 refine own_enter (QQ := rm24_Q Z o0 cs sb k z vs h0 n0) (ef_rm24 m o0) ?_
 show own_Run p e below s _ _ _ s₁ (mkF m 0 #[.val (.ref o0)] [])
 refine oP s₁ (mkF m 1 #[oR o0] [(.ref o0)]) (fun t k => ?_) ?_
 ·skip
  refine XS.aloadN X0.here hx rfl (d23 hby 0) rfl rfl ?_
  exact k
 obtain ⟨T1, X1, e1, st1⟩ := getF X0 hx hZ hown (host := "") (Or.inl (own_w hw 28)) Via.refl e0 F_value_o0 (g := (mkF m 1 #[oR o0] [(.ref o0)])) rfl rfl (d23 hby 1)
 refine own_step st1 ?_
 obtain ⟨cl2, Arcl2, -, Scl2, Mcl2, -, -⟩ := id V_sb
 refine oP T1 (mkF m 6 #[oR o0] [(.ref o0), (.int z)]) (fun t k => ?_) ?_
 ·skip
  refine X1.arraylength hx (by rw [e1]; exact Arcl2.1) (State.isArrayOf_alike hZ.alike Arcl2.2.1) (g := (mkF m 4 #[oR o0] [(.ref sb)])) rfl rfl (d23 hby 2) _ ?_
  rw [len_of Scl2 Mcl2]
  show Steps p.tables e below (T1.setTop (mkF m 5 #[oR o0] [(.int z)])) _
  refine XS.aloadN X1.here hx rfl (d23 hby 3) rfl rfl ?_
  exact k
 obtain ⟨cq3, kq3, q3a, q3b, q3c⟩ := isOf hZ e1 E_o0
 obtain ⟨_, _, ⟨T3, L3, k3, n3⟩, -, X3, ⟨Lc3, hQ3, l3, y3, z3⟩, st3⟩ := X1.virtualBack hx (y := yM0) (z := yM0) hown (mvT hZ (own_w hw 138)) (mvT hZ (own_w hw 139)) (notFace_of_selects (args := #[]) (mvT hZ (own_w hw 141))) (mvT hZ (own_w hw 141)) (mvT hZ (own_w hw 140)) (by decide) (backOf (W := 1) (rm25 l Z a0 hw [] o0 cs h0 n0 Z0 O0 S_cs hcs E_o0 F_coder_o0) hZ (own_w hw 142) (own_w hw 3) (by decide) (by decide)) q3a q3c (g := (mkF m 6 #[oR o0] [(.ref o0), (.int z)])) rfl (by rw [hml]; rfl) (Steps.refl _) (argsL := []) (rest := [(.int z)]) (lenOf pd_0 rfl) rfl (by show 2 * 0 + _ ≤ _; exact Nat.le_of_eq rfl) (d23 hby 4) (fun _ _ => ⟨rfl, e1, (by decide : 0 + 0 ≤ _), (by decide : 0 + 0 ≤ _)⟩)
 dsimp only [Pt.U, Pt.locs, Pt.cells, Pt.slots] at X3 l3 y3 z3 st3 hQ3
 subst l3 y3 z3
 obtain ⟨rfl, N3q, eq3⟩ := hQ3
 have N3 := Fr.app N0 N3q
 refine own_step (fun t k => st3.trans k) ?_
 refine oP T3 (mkF m 10 #[oR o0] [(.int (z >>> ((0 : Int32) &&& 31)))]) (fun t k => ?_) ?_
 ·skip
  refine XS.ishr X3.here hx rfl (d23 hby 5) rfl ?_
  exact k
 rw [show ((z >>> ((0 : Int32) &&& 31)) : Int32) = z from own_shr0 _]
 refine own_retI X3 hx Bd.returns (d23 hby 6) (BodyLoose.notSynchronized Bd) (by decide) (by decide) ?_
 rw [show T3.heap = h0 from eq3]
 exact ⟨rfl, N3, rfl⟩
def D31 : List (Nat × Instr × Nat) := [(0, .iload_n 0, 1), (1, .iload_n 1, 1), (2, .if_icmp .lt 7, 3), (5, .iload_n 0, 1), (6, .goto 4, 3), (9, .iload_n 1, 1), (10, .ireturn, 1)]
theorem A31 : ∀ q ∈ D31, decode jdk_29_method_65_code q.1 = .ok q.2 := by decide +kernel
theorem d31 {c : Code} (h0 : c.code = jdk_29_method_65_code) (i : Nat) {pc n : Nat} {q : Instr} (h : D31[i]? = some (pc, q, n) := by rfl) : decode c.code pc = .ok (q, n) := hb h0 (A31 (pc, q, n) (List.mem_of_getElem? h))
theorem ef_rm32 (m : MethodId) (p0 : Int32) (p1 : Int32) : entryFrame m #[(.int p0), (.int p1)] 2 = mkF m 0 #[.val (.int p0), .val (.int p1)] [] := by first | (simp [entryFrame, mkF, argsToLocals, Value.category, maxLocals]; done) | rfl
def rm32_Q (Z : State) (p0 : Int32) (p1 : Int32)  (h0 : Heap) (n0 : Nat) (v : Option Value) (h : Heap) (L : List Loc) : Prop := v = some (.int (own_max32 p0 p1)) ∧ Fr n0 L ∧ h = h0
set_option maxRecDepth 65536 in
set_option maxHeartbeats 40000000 in
theorem rm32 (l : Launch) (Z : State) (a0 : Array Value) (hw : ∀ d ∈ tables_1, d.before a0 Z = true) (ws : List Jvm.Cond) (p0 : Int32) (p1 : Int32)  (h0 : Heap) (n0 : Nat) (Z0 : n0 ≤ h0.size)  :
  MetFree l yM2 (head1 (Jvm.Cond.code yM2 jdk_29_method_65_code 2 (some .int) :: ws) rM0_0_0_0) (fun a U => a = #[(.int p0), (.int p1)] ∧ Z.Warmed39 U.vm ∧ U.heap = h0) (fun _ _ _ _ _ => True) (fun _ U o U' => ∃ v L, o = .returned v ∧ rm32_Q Z p0 p1 h0 n0 v U'.heap L ∧ FrameEnd U o U' L rM0_0_0_0.cells rM0_0_0_0.slots) := by
 refine MetFree.of_bodySF (Jvm.Free.JP.mathPlain rfl (by decide +kernel)) hisR ?_
 intro p e s m args below meth c s₁ Bd hml0 hP hK
 obtain ⟨rfl, hZ, hh⟩ := hP
 have hx := Bd.exec
 have hby := Bd.bytes
 have hml : c.maxLocals = 2 := hml0
 have hown : s.vm.findClass "java/lang/Math" = some m.cls := findClass_of_methodNamed Bd.named
 have hnm := (name_of_methodNamed Bd.named Bd.method).1
 have X0 : Stand p l e rM0_0_0_0 s m #[(.int p0), (.int p1)] below meth c s₁ [] 0 0 := Stand.of_body Bd
 have e0 : s₁.heap = h0 := by rw [← hh, Bd.state]; rfl
 have N0 := Fr.nil n0
 refine own_enter (QQ := rm32_Q Z p0 p1 h0 n0) (ef_rm32 m p0 p1) ?_
 show own_Run p e below s _ _ _ s₁ (mkF m 0 #[.val (.int p0), .val (.int p1)] [])
 refine oP s₁ (mkF m 2 #[oI p0, oI p1] [(.int p1), (.int p0)]) (fun t k => ?_) ?_
 ·skip
  refine XS.iloadN X0.here hx rfl (d31 hby 0) rfl ?_
  refine XS.iloadN X0.here hx rfl (d31 hby 1) rfl ?_
  exact k
 by_cases hc1 : p0 < p1
 ·skip
  refine oP s₁ (mkF m 10 #[oI p0, oI p1] [(.int p1)]) (fun t k => ?_) ?_
  ·skip
   refine XS.icmpYes X0.here hx rfl (pc0 := 2) (pc' := 9) rfl (d31 hby 2) rfl (tlt hc1).1 (by decide) (by decide) ?_
   refine XS.iloadN X0.here hx rfl (d31 hby 5) rfl ?_
   exact k
  refine own_retI X0 hx Bd.returns (d31 hby 6) (BodyLoose.notSynchronized Bd) (by decide) (by decide) ?_
  rw [show s₁.heap = h0 from e0]
  exact ⟨by simp [own_max32, hc1], N0, rfl⟩
 ·skip
  refine oP s₁ (mkF m 10 #[oI p0, oI p1] [(.int p0)]) (fun t k => ?_) ?_
  ·skip
   refine XS.icmpNo X0.here hx rfl (d31 hby 2) rfl (flt hc1).1 ?_
   refine XS.iloadN X0.here hx rfl (d31 hby 3) rfl ?_
   refine XS.goto X0.here hx rfl (pc0 := 6) (pc' := 10) rfl (d31 hby 4) (by decide) (by decide) ?_
   exact k
  refine own_retI X0 hx Bd.returns (d31 hby 6) (BodyLoose.notSynchronized Bd) (by decide) (by decide) ?_
  rw [show s₁.heap = h0 from e0]
  exact ⟨by simp [own_max32, hc1], N0, rfl⟩
def D33 : List (Nat × Instr × Nat) := [(0, .iload_n 0, 1), (1, .iload_n 1, 1), (2, .if_icmp .gt 7, 3), (5, .iload_n 0, 1), (6, .goto 4, 3), (9, .iload_n 1, 1), (10, .ireturn, 1)]
theorem A33 : ∀ q ∈ D33, decode jdk_29_method_69_code q.1 = .ok q.2 := by decide +kernel
theorem d33 {c : Code} (h0 : c.code = jdk_29_method_69_code) (i : Nat) {pc n : Nat} {q : Instr} (h : D33[i]? = some (pc, q, n) := by rfl) : decode c.code pc = .ok (q, n) := hb h0 (A33 (pc, q, n) (List.mem_of_getElem? h))
theorem ef_rm34 (m : MethodId) (p0 : Int32) (p1 : Int32) : entryFrame m #[(.int p0), (.int p1)] 2 = mkF m 0 #[.val (.int p0), .val (.int p1)] [] := by first | (simp [entryFrame, mkF, argsToLocals, Value.category, maxLocals]; done) | rfl
def rm34_Q (Z : State) (p0 : Int32) (p1 : Int32)  (h0 : Heap) (n0 : Nat) (v : Option Value) (h : Heap) (L : List Loc) : Prop := v = some (.int (own_min32 p0 p1)) ∧ Fr n0 L ∧ h = h0
set_option maxRecDepth 65536 in
set_option maxHeartbeats 40000000 in
theorem rm34 (l : Launch) (Z : State) (a0 : Array Value) (hw : ∀ d ∈ tables_1, d.before a0 Z = true) (ws : List Jvm.Cond) (p0 : Int32) (p1 : Int32)  (h0 : Heap) (n0 : Nat) (Z0 : n0 ≤ h0.size)  :
  MetFree l yM3 (head1 (Jvm.Cond.code yM3 jdk_29_method_69_code 2 (some .int) :: ws) rM0_0_0_0) (fun a U => a = #[(.int p0), (.int p1)] ∧ Z.Warmed39 U.vm ∧ U.heap = h0) (fun _ _ _ _ _ => True) (fun _ U o U' => ∃ v L, o = .returned v ∧ rm34_Q Z p0 p1 h0 n0 v U'.heap L ∧ FrameEnd U o U' L rM0_0_0_0.cells rM0_0_0_0.slots) := by
 refine MetFree.of_bodySF (Jvm.Free.JP.mathPlain rfl (by decide +kernel)) hisR ?_
 intro p e s m args below meth c s₁ Bd hml0 hP hK
 obtain ⟨rfl, hZ, hh⟩ := hP
 have hx := Bd.exec
 have hby := Bd.bytes
 have hml : c.maxLocals = 2 := hml0
 have hown : s.vm.findClass "java/lang/Math" = some m.cls := findClass_of_methodNamed Bd.named
 have hnm := (name_of_methodNamed Bd.named Bd.method).1
 have X0 : Stand p l e rM0_0_0_0 s m #[(.int p0), (.int p1)] below meth c s₁ [] 0 0 := Stand.of_body Bd
 have e0 : s₁.heap = h0 := by rw [← hh, Bd.state]; rfl
 have N0 := Fr.nil n0
 refine own_enter (QQ := rm34_Q Z p0 p1 h0 n0) (ef_rm34 m p0 p1) ?_
 show own_Run p e below s _ _ _ s₁ (mkF m 0 #[.val (.int p0), .val (.int p1)] [])
 refine oP s₁ (mkF m 2 #[oI p0, oI p1] [(.int p1), (.int p0)]) (fun t k => ?_) ?_
 ·skip
  refine XS.iloadN X0.here hx rfl (d33 hby 0) rfl ?_
  refine XS.iloadN X0.here hx rfl (d33 hby 1) rfl ?_
  exact k
 by_cases hc1 : p1 < p0
 ·skip
  refine oP s₁ (mkF m 10 #[oI p0, oI p1] [(.int p1)]) (fun t k => ?_) ?_
  ·skip
   refine XS.icmpYes X0.here hx rfl (pc0 := 2) (pc' := 9) rfl (d33 hby 2) rfl (tlt hc1).2.2.1 (by decide) (by decide) ?_
   refine XS.iloadN X0.here hx rfl (d33 hby 5) rfl ?_
   exact k
  refine own_retI X0 hx Bd.returns (d33 hby 6) (BodyLoose.notSynchronized Bd) (by decide) (by decide) ?_
  rw [show s₁.heap = h0 from e0]
  exact ⟨by simp [own_min32, hc1], N0, rfl⟩
 ·skip
  refine oP s₁ (mkF m 10 #[oI p0, oI p1] [(.int p0)]) (fun t k => ?_) ?_
  ·skip
   refine XS.icmpNo X0.here hx rfl (d33 hby 2) rfl (flt hc1).2.2.1 ?_
   refine XS.iloadN X0.here hx rfl (d33 hby 3) rfl ?_
   refine XS.goto X0.here hx rfl (pc0 := 6) (pc' := 10) rfl (d33 hby 4) (by decide) (by decide) ?_
   exact k
  refine own_retI X0 hx Bd.returns (d33 hby 6) (BodyLoose.notSynchronized Bd) (by decide) (by decide) ?_
  rw [show s₁.heap = h0 from e0]
  exact ⟨by simp [own_min32, hc1], N0, rfl⟩
def D30 : List (Nat × Instr × Nat) := [(0, .iload_n 0, 1), (1, .iload_n 1, 1), (2, .iload_n 2, 1), (3, .invokestatic 194, 3), (6, .iadd, 1), (7, .istore_n 3, 1), (8, .iconst 0, 1), (9, .iload_n 3, 1), (10, .if_icmp .ge 11, 3), (13, .iload_n 3, 1), (14, .ldc 200, 2), (16, .if_icmp .gt 5, 3), (19, .iload_n 3, 1), (20, .ireturn, 1), (21, .iload_n 0, 1), (22, .iload_n 1, 1), (23, .invokestatic 201, 3), (26, .ireturn, 1)]
theorem A30 : ∀ q ∈ D30, decode jdk_48_method_27_code q.1 = .ok q.2 := by decide +kernel
theorem d30 {c : Code} (h0 : c.code = jdk_48_method_27_code) (i : Nat) {pc n : Nat} {q : Instr} (h : D30[i]? = some (pc, q, n) := by rfl) : decode c.code pc = .ok (q, n) := hb h0 (A30 (pc, q, n) (List.mem_of_getElem? h))
theorem pn_rm31 : plainName "jdk/internal/util/ArraysSupport" = true := by first | (simp [plainName, overriddenIn]; done) | decide +kernel
theorem ef_rm31 (m : MethodId) (na : Nat) (nb : Nat) (nc : Nat) : entryFrame m #[(.int (ofNat na)), (.int (ofNat nb)), (.int (ofNat nc))] 4 = mkF m 0 #[.val (.int (ofNat na)), .val (.int (ofNat nb)), .val (.int (ofNat nc)), .unset] [] := by first | (simp [entryFrame, mkF, argsToLocals, Value.category, maxLocals]; done) | rfl
def rm31_Q (Z : State) (na : Nat) (nb : Nat) (nc : Nat)  (h0 : Heap) (n0 : Nat) (v : Option Value) (h : Heap) (L : List Loc) : Prop := v = some (.int (ofNat (na + max nb nc))) ∧ Fr n0 L ∧ h = h0
set_option maxRecDepth 65536 in
set_option maxHeartbeats 40000000 in
theorem rm31 (l : Launch) (Z : State) (a0 : Array Value) (hw : ∀ d ∈ tables_1, d.before a0 Z = true) (ws : List Jvm.Cond) (na : Nat) (nb : Nat) (nc : Nat)  (h0 : Heap) (n0 : Nat) (Z0 : n0 ≤ h0.size) (ka : na ≤ 512) (kb : nb ≤ 512) (kc : nc ≤ 1024) (kc0 : 0 < nc) :
  MetFree l yM4 (head1 (Jvm.Cond.code yM4 jdk_48_method_27_code 4 (some .int) :: ws) rM1_0_0_14) (fun a U => a = #[(.int (ofNat na)), (.int (ofNat nb)), (.int (ofNat nc))] ∧ Z.Warmed39 U.vm ∧ U.heap = h0) (fun _ _ _ _ _ => True) (fun _ U o U' => ∃ v L, o = .returned v ∧ rm31_Q Z na nb nc h0 n0 v U'.heap L ∧ FrameEnd U o U' L rM1_0_0_14.cells rM1_0_0_14.slots) := by
 refine MetFree.of_bodySF (plainFor_of_name pn_rm31) hisR ?_
 intro p e s m args below meth c s₁ Bd hml0 hP hK
 obtain ⟨rfl, hZ, hh⟩ := hP
 have hx := Bd.exec
 have hby := Bd.bytes
 have hml : c.maxLocals = 4 := hml0
 have hown : s.vm.findClass "jdk/internal/util/ArraysSupport" = some m.cls := findClass_of_methodNamed Bd.named
 have hnm := (name_of_methodNamed Bd.named Bd.method).1
 have X0 : Stand p l e rM1_0_0_14 s m #[(.int (ofNat na)), (.int (ofNat nb)), (.int (ofNat nc))] below meth c s₁ [] 0 0 := Stand.of_body Bd
 have e0 : s₁.heap = h0 := by rw [← hh, Bd.state]; rfl
 have N0 := Fr.nil n0
 refine own_enter (QQ := rm31_Q Z na nb nc h0 n0) (ef_rm31 m na nb nc) ?_
 show own_Run p e below s _ _ _ s₁ (mkF m 0 #[.val (.int (ofNat na)), .val (.int (ofNat nb)), .val (.int (ofNat nc)), .unset] [])
 refine oP s₁ (mkF m 3 #[oI (ofNat na), oI (ofNat nb), oI (ofNat nc), .unset] [(.int (ofNat nc)), (.int (ofNat nb)), (.int (ofNat na))]) (fun t k => ?_) ?_
 ·skip
  refine XS.iloadN X0.here hx rfl (d30 hby 0) rfl ?_
  refine XS.iloadN X0.here hx rfl (d30 hby 1) rfl ?_
  refine XS.iloadN X0.here hx rfl (d30 hby 2) rfl ?_
  exact k
 obtain ⟨_, _, ⟨T1, L1, k1, n1⟩, -, X1, ⟨Lc1, hQ1, l1, y1, z1⟩, st1⟩ := Jvm.LawKit.callS X0 hx (y := yM2) hown (mvT hZ (own_w hw 180)) (mvT hZ (own_w hw 181)) (mvT hZ (own_w hw 78)) (mvT hZ (own_w hw 182)) (by decide) (backOf (W := 1) (rm32 l Z a0 hw [] (ofNat nb) (ofNat nc)  h0 n0 Z0) hZ (own_w hw 182) (own_w hw 78) (by decide) (by decide)) (g := (mkF m 3 #[oI (ofNat na), oI (ofNat nb), oI (ofNat nc), .unset] [(.int (ofNat nc)), (.int (ofNat nb)), (.int (ofNat na))])) rfl (by rw [hml]; rfl) (argsL := [(.int (ofNat nb)), (.int (ofNat nc))]) (rest := [(.int (ofNat na))]) (lenOf pd_1 rfl) rfl (by show 2 * 0 + _ ≤ _; exact Nat.le_of_eq rfl) (d30 hby 3) (fun _ _ => ⟨rfl, e0, (by decide : 0 + 0 ≤ _), (by decide : 0 + 0 ≤ _)⟩)
 dsimp only [Pt.U, Pt.locs, Pt.cells, Pt.slots] at X1 l1 y1 z1 st1 hQ1
 subst l1 y1 z1
 obtain ⟨rfl, N1q, eq1⟩ := hQ1
 have N1 := Fr.app N0 N1q
 refine own_step st1 ?_
 rw [show ((own_max32 (ofNat nb) (ofNat nc)) : Int32) = (ofNat (max nb nc)) from own_maxn (by omega) (by omega)]
 refine oP T1 (mkF m 7 #[oI (ofNat na), oI (ofNat nb), oI (ofNat nc), .unset] [(.int ((ofNat na) + (ofNat (max nb nc))))]) (fun t k => ?_) ?_
 ·skip
  refine XS.iadd X1.here hx rfl (d30 hby 4) rfl ?_
  exact k
 rw [show (((ofNat na) + (ofNat (max nb nc))) : Int32) = (ofNat (na + max nb nc)) from own_add _ _]
 refine oP T1 (mkF m 20 #[oI (ofNat na), oI (ofNat nb), oI (ofNat nc), oI (ofNat (na + max nb nc))] [(.int (ofNat (na + max nb nc)))]) (fun t k => ?_) ?_
 ·skip
  refine XS.istoreN X1.here hx rfl (d30 hby 5) rfl (l' := #[oI (ofNat na), oI (ofNat nb), oI (ofNat nc), oI (ofNat (na + max nb nc))]) rfl ?_
  refine XS.iconst X1.here hx rfl (d30 hby 6) ?_
  refine XS.iloadN X1.here hx rfl (d30 hby 7) rfl ?_
  refine XS.icmpNo X1.here hx rfl (d30 hby 8) rfl (tlt ((own_lt (a := 0) (by omega) (by omega)).mpr (by omega))).2.1 ?_
  refine XS.iloadN X1.here hx rfl (d30 hby 9) rfl ?_
  refine X1.ldcInt hx hown (mvT hZ (own_w hw 183)) (g := (mkF m 14 #[oI (ofNat na), oI (ofNat nb), oI (ofNat nc), oI (ofNat (na + max nb nc))] [(.int (ofNat (na + max nb nc)))])) rfl (d30 hby 10) _ ?_
  refine XS.icmpNo X1.here hx rfl (d30 hby 11) rfl (flt (fun q => absurd ((own_lt (a := 2147483639) (by omega) (by omega)).mp q) (by omega))).2.2.1 ?_
  refine XS.iloadN X1.here hx rfl (d30 hby 12) rfl ?_
  exact k
 refine own_retI X1 hx Bd.returns (d30 hby 13) (BodyLoose.notSynchronized Bd) (by decide) (by decide) ?_
 rw [show T1.heap = h0 from eq1]
 exact ⟨rfl, N1, rfl⟩
theorem own_ncl {C m : Nat} (hC : C ≤ 250) (hm : m ≤ 250) : own_nc C m ≤ 512 := by unfold own_nc; omega
theorem own_ncb {C m : Nat} (hC : C ≤ 250) (hm : m ≤ 250) : own_nc C m < 2147483648 := by have := own_ncl hC hm; omega
def D29 : List (Nat × Instr × Nat) := [(0, .aload_n 0, 1), (1, .getfield 15, 3), (4, .arraylength, 1), (5, .istore_n 2, 1), (6, .iload_n 1, 1), (7, .aload_n 0, 1), (8, .getfield 22, 3), (11, .ishl, 1), (12, .istore_n 3, 1), (13, .iload_n 3, 1), (14, .iload_n 2, 1), (15, .isub, 1), (16, .istore 4, 2), (18, .iload_n 2, 1), (19, .iload 4, 2), (21, .iload_n 2, 1), (22, .iconst 2, 1), (23, .aload_n 0, 1), (24, .getfield 22, 3), (27, .ishl, 1), (28, .iadd, 1), (29, .invokestatic 114, 3), (32, .istore 5, 2), (34, .iload 5, 2), (36, .ldc 39, 2), (38, .if_icmp .ne 13, 3), (41, .new 120, 3), (44, .dup, 1), (45, .ldc 122, 2), (47, .invokespecial 124, 3), (50, .athrow, 1), (51, .iload 5, 2), (53, .aload_n 0, 1), (54, .getfield 22, 3), (57, .ishr, 1), (58, .ireturn, 1)]
theorem A29 : ∀ q ∈ D29, decode jdk_68_method_10_code q.1 = .ok q.2 := by decide +kernel
theorem d29 {c : Code} (h0 : c.code = jdk_68_method_10_code) (i : Nat) {pc n : Nat} {q : Instr} (h : D29[i]? = some (pc, q, n) := by rfl) : decode c.code pc = .ok (q, n) := hb h0 (A29 (pc, q, n) (List.mem_of_getElem? h))
theorem pn_rm30 : plainName "java/lang/AbstractStringBuilder" = true := by first | (simp [plainName, overriddenIn]; done) | decide +kernel
theorem ef_rm30 (m : MethodId) (o0 : Addr) (m_ : Nat) : entryFrame m #[(.ref o0), (.int (ofNat m_))] 6 = mkF m 0 #[.val (.ref o0), .val (.int (ofNat m_)), .unset, .unset, .unset, .unset] [] := by first | (simp [entryFrame, mkF, argsToLocals, Value.category, maxLocals]; done) | rfl
def rm30_Q (Z : State) (o0 : Addr) (m_ : Nat) (b : Addr) (k : ClassId) (Cn : Nat) (vs : List Value) (h0 : Heap) (n0 : Nat) (v : Option Value) (h : Heap) (L : List Loc) : Prop := v = some (.int (ofNat (own_nc Cn m_))) ∧ Fr n0 L ∧ h = h0
set_option maxRecDepth 65536 in
set_option maxHeartbeats 40000000 in
theorem rm30 (l : Launch) (Z : State) (a0 : Array Value) (hw : ∀ d ∈ tables_1, d.before a0 Z = true) (ws : List Jvm.Cond) (o0 : Addr) (m_ : Nat) (b : Addr) (k : ClassId) (Cn : Nat) (vs : List Value) (h0 : Heap) (n0 : Nat) (Z0 : n0 ≤ h0.size) (E_o0 : Exa Z h0 o0 "java/lang/StringBuilder") (F_value_o0 : Fld Z h0 o0 "java/lang/AbstractStringBuilder" "value" "[B" (.ref b)) (F_coder_o0 : Fld Z h0 o0 "java/lang/AbstractStringBuilder" "coder" "B" (.int 0)) (V_b : Arv Z h0 b k .byte (ofNat Cn) vs (.int 0)) (hC : Cn ≤ 250) (hm : m_ ≤ 250) (hlt : Cn < m_) :
  MetFree l yM5 (head1 (Jvm.Cond.code yM5 jdk_68_method_10_code 6 (some .int) :: ws) rM2_0_0_29) (fun a U => a = #[(.ref o0), (.int (ofNat m_))] ∧ Z.Warmed39 U.vm ∧ U.heap = h0) (fun _ _ _ _ _ => True) (fun _ U o U' => ∃ v L, o = .returned v ∧ rm30_Q Z o0 m_ b k Cn vs h0 n0 v U'.heap L ∧ FrameEnd U o U' L rM2_0_0_29.cells rM2_0_0_29.slots) := by
 refine MetFree.of_bodySF (plainFor_of_name pn_rm30) hisR ?_
 intro p e s m args below meth c s₁ Bd hml0 hP hK
 obtain ⟨rfl, hZ, hh⟩ := hP
 have hx := Bd.exec
 have hby := Bd.bytes
 have hml : c.maxLocals = 6 := hml0
 have hown : s.vm.findClass "java/lang/AbstractStringBuilder" = some m.cls := findClass_of_methodNamed Bd.named
 have hnm := (name_of_methodNamed Bd.named Bd.method).1
 have X0 : Stand p l e rM2_0_0_29 s m #[(.ref o0), (.int (ofNat m_))] below meth c s₁ [] 0 0 := Stand.of_body Bd
 have e0 : s₁.heap = h0 := by rw [← hh, Bd.state]; rfl
 have N0 := Fr.nil n0
 refine own_enter (QQ := rm30_Q Z o0 m_ b k Cn vs h0 n0) (ef_rm30 m o0 m_) ?_
 show own_Run p e below s _ _ _ s₁ (mkF m 0 #[.val (.ref o0), .val (.int (ofNat m_)), .unset, .unset, .unset, .unset] [])
 refine oP s₁ (mkF m 1 #[oR o0, oI (ofNat m_), .unset, .unset, .unset, .unset] [(.ref o0)]) (fun t k => ?_) ?_
 ·skip
  refine XS.aloadN X0.here hx rfl (d29 hby 0) rfl rfl ?_
  exact k
 obtain ⟨T1, X1, e1, st1⟩ := getF X0 hx hZ hown (host := "") (Or.inl (own_w hw 118)) Via.refl e0 F_value_o0 (g := (mkF m 1 #[oR o0, oI (ofNat m_), .unset, .unset, .unset, .unset] [(.ref o0)])) rfl rfl (d29 hby 1)
 refine own_step st1 ?_
 obtain ⟨cl2, Arcl2, -, Scl2, Mcl2, -, -⟩ := id V_b
 refine oP T1 (mkF m 8 #[oR o0, oI (ofNat m_), oI (ofNat Cn), .unset, .unset, .unset] [(.ref o0), (.int (ofNat m_))]) (fun t k => ?_) ?_
 ·skip
  refine X1.arraylength hx (by rw [e1]; exact Arcl2.1) (State.isArrayOf_alike hZ.alike Arcl2.2.1) (g := (mkF m 4 #[oR o0, oI (ofNat m_), .unset, .unset, .unset, .unset] [(.ref b)])) rfl rfl (d29 hby 2) _ ?_
  rw [len_of Scl2 Mcl2]
  show Steps p.tables e below (T1.setTop (mkF m 5 #[oR o0, oI (ofNat m_), .unset, .unset, .unset, .unset] [(.int (ofNat Cn))])) _
  refine XS.istoreN X1.here hx rfl (d29 hby 3) rfl (l' := #[oR o0, oI (ofNat m_), oI (ofNat Cn), .unset, .unset, .unset]) rfl ?_
  refine XS.iloadN X1.here hx rfl (d29 hby 4) rfl ?_
  refine XS.aloadN X1.here hx rfl (d29 hby 5) rfl rfl ?_
  exact k
 obtain ⟨T3, X3, e3, st3⟩ := getF X1 hx hZ hown (host := "") (Or.inl (own_w hw 120)) Via.refl e1 F_coder_o0 (g := (mkF m 8 #[oR o0, oI (ofNat m_), oI (ofNat Cn), .unset, .unset, .unset] [(.ref o0), (.int (ofNat m_))])) rfl rfl (d29 hby 6)
 refine own_step st3 ?_
 refine oP T3 (mkF m 12 #[oR o0, oI (ofNat m_), oI (ofNat Cn), .unset, .unset, .unset] [(.int ((ofNat m_) <<< ((0 : Int32) &&& 31)))]) (fun t k => ?_) ?_
 ·skip
  refine XS.ishl X3.here hx rfl (d29 hby 7) rfl ?_
  exact k
 rw [show (((ofNat m_) <<< ((0 : Int32) &&& 31)) : Int32) = (ofNat m_) from own_shl0 _]
 refine oP T3 (mkF m 16 #[oR o0, oI (ofNat m_), oI (ofNat Cn), oI (ofNat m_), .unset, .unset] [(.int ((ofNat m_) - (ofNat Cn)))]) (fun t k => ?_) ?_
 ·skip
  refine XS.istoreN X3.here hx rfl (d29 hby 8) rfl (l' := #[oR o0, oI (ofNat m_), oI (ofNat Cn), oI (ofNat m_), .unset, .unset]) rfl ?_
  refine XS.iloadN X3.here hx rfl (d29 hby 9) rfl ?_
  refine XS.iloadN X3.here hx rfl (d29 hby 10) rfl ?_
  refine XS.isub X3.here hx rfl (d29 hby 11) rfl ?_
  exact k
 rw [show (((ofNat m_) - (ofNat Cn)) : Int32) = (ofNat (m_ - Cn)) from own_sub (by omega)]
 refine oP T3 (mkF m 24 #[oR o0, oI (ofNat m_), oI (ofNat Cn), oI (ofNat m_), oI (ofNat (m_ - Cn)), .unset] [(.ref o0), (.int 2), (.int (ofNat Cn)), (.int (ofNat (m_ - Cn))), (.int (ofNat Cn))]) (fun t k => ?_) ?_
 ·skip
  refine XS.istore X3.here hx rfl (d29 hby 12) rfl (l' := #[oR o0, oI (ofNat m_), oI (ofNat Cn), oI (ofNat m_), oI (ofNat (m_ - Cn)), .unset]) rfl ?_
  refine XS.iloadN X3.here hx rfl (d29 hby 13) rfl ?_
  refine XS.iload X3.here hx rfl (d29 hby 14) rfl ?_
  refine XS.iloadN X3.here hx rfl (d29 hby 15) rfl ?_
  refine XS.iconst X3.here hx rfl (d29 hby 16) ?_
  refine XS.aloadN X3.here hx rfl (d29 hby 17) rfl rfl ?_
  exact k
 obtain ⟨T4, X4, e4, st4⟩ := getF X3 hx hZ hown (host := "") (Or.inl (own_w hw 120)) Via.refl e3 F_coder_o0 (g := (mkF m 24 #[oR o0, oI (ofNat m_), oI (ofNat Cn), oI (ofNat m_), oI (ofNat (m_ - Cn)), .unset] [(.ref o0), (.int 2), (.int (ofNat Cn)), (.int (ofNat (m_ - Cn))), (.int (ofNat Cn))])) rfl rfl (d29 hby 18)
 refine own_step st4 ?_
 refine oP T4 (mkF m 28 #[oR o0, oI (ofNat m_), oI (ofNat Cn), oI (ofNat m_), oI (ofNat (m_ - Cn)), .unset] [(.int ((2 : Int32) <<< ((0 : Int32) &&& 31))), (.int (ofNat Cn)), (.int (ofNat (m_ - Cn))), (.int (ofNat Cn))]) (fun t k => ?_) ?_
 ·skip
  refine XS.ishl X4.here hx rfl (d29 hby 19) rfl ?_
  exact k
 rw [show (((2 : Int32) <<< ((0 : Int32) &&& 31)) : Int32) = (2 : Int32) from own_shl0 _]
 refine oP T4 (mkF m 29 #[oR o0, oI (ofNat m_), oI (ofNat Cn), oI (ofNat m_), oI (ofNat (m_ - Cn)), .unset] [(.int ((ofNat Cn) + (2 : Int32))), (.int (ofNat (m_ - Cn))), (.int (ofNat Cn))]) (fun t k => ?_) ?_
 ·skip
  refine XS.iadd X4.here hx rfl (d29 hby 20) rfl ?_
  exact k
 rw [show (((ofNat Cn) + (2 : Int32)) : Int32) = (ofNat (Cn + 2)) from own_add Cn 2]
 obtain ⟨_, _, ⟨T5, L5, k5, n5⟩, -, X5, ⟨Lc5, hQ5, l5, y5, z5⟩, st5⟩ := Jvm.LawKit.callS X4 hx (y := yM4) hown (mvT hZ (own_w hw 176)) (mvT hZ (own_w hw 177)) (mvT hZ (own_w hw 178)) (mvT hZ (own_w hw 179)) (by decide) (backOf (W := 0) (rm31 l Z a0 hw [] Cn (m_ - Cn) (Cn + 2)  h0 n0 Z0 (by omega) (by omega) (by omega) (by omega)) hZ (own_w hw 179) (own_w hw 178) (by decide) (by decide)) (g := (mkF m 29 #[oR o0, oI (ofNat m_), oI (ofNat Cn), oI (ofNat m_), oI (ofNat (m_ - Cn)), .unset] [(.int (ofNat (Cn + 2))), (.int (ofNat (m_ - Cn))), (.int (ofNat Cn))])) rfl (by rw [hml]; rfl) (argsL := [(.int (ofNat Cn)), (.int (ofNat (m_ - Cn))), (.int (ofNat (Cn + 2)))]) (rest := []) (lenOf pd_2 rfl) rfl (by show 2 * 0 + _ ≤ _; exact Nat.le_of_eq rfl) (d29 hby 21) (fun _ _ => ⟨rfl, e4, (by decide : 0 + 0 ≤ _), (by decide : 0 + 0 ≤ _)⟩)
 dsimp only [Pt.U, Pt.locs, Pt.cells, Pt.slots] at X5 l5 y5 z5 st5 hQ5
 subst l5 y5 z5
 obtain ⟨rfl, N5q, eq5⟩ := hQ5
 have N5 := Fr.app N0 N5q
 refine own_step st5 ?_
 refine oP T5 (mkF m 54 #[oR o0, oI (ofNat m_), oI (ofNat Cn), oI (ofNat m_), oI (ofNat (m_ - Cn)), oI (ofNat (own_nc Cn m_))] [(.ref o0), (.int (ofNat (own_nc Cn m_)))]) (fun t k => ?_) ?_
 ·skip
  refine XS.istore X5.here hx rfl (d29 hby 22) rfl (l' := #[oR o0, oI (ofNat m_), oI (ofNat Cn), oI (ofNat m_), oI (ofNat (m_ - Cn)), oI (ofNat (own_nc Cn m_))]) rfl ?_
  refine XS.iload X5.here hx rfl (d29 hby 23) rfl ?_
  refine X5.ldcInt hx hown (mvT hZ (own_w hw 184)) (g := (mkF m 36 #[oR o0, oI (ofNat m_), oI (ofNat Cn), oI (ofNat m_), oI (ofNat (m_ - Cn)), oI (ofNat (own_nc Cn m_))] [(.int (ofNat (own_nc Cn m_)))])) rfl (d29 hby 24) _ ?_
  refine XS.icmpYes X5.here hx rfl (pc0 := 38) (pc' := 51) rfl (d29 hby 25) rfl (feq (fun q => absurd ((own_eqn (b := 2147483647) (own_ncb hC hm) (by omega)).mp q) (by have := own_ncl hC hm; omega))).2 (by decide) (by decide) ?_
  refine XS.iload X5.here hx rfl (d29 hby 31) rfl ?_
  refine XS.aloadN X5.here hx rfl (d29 hby 32) rfl rfl ?_
  exact k
 obtain ⟨T7, X7, e7, st7⟩ := getF X5 hx hZ hown (host := "") (Or.inl (own_w hw 120)) Via.refl eq5 F_coder_o0 (g := (mkF m 54 #[oR o0, oI (ofNat m_), oI (ofNat Cn), oI (ofNat m_), oI (ofNat (m_ - Cn)), oI (ofNat (own_nc Cn m_))] [(.ref o0), (.int (ofNat (own_nc Cn m_)))])) rfl rfl (d29 hby 33)
 refine own_step st7 ?_
 refine oP T7 (mkF m 58 #[oR o0, oI (ofNat m_), oI (ofNat Cn), oI (ofNat m_), oI (ofNat (m_ - Cn)), oI (ofNat (own_nc Cn m_))] [(.int ((ofNat (own_nc Cn m_)) >>> ((0 : Int32) &&& 31)))]) (fun t k => ?_) ?_
 ·skip
  refine XS.ishr X7.here hx rfl (d29 hby 34) rfl ?_
  exact k
 rw [show (((ofNat (own_nc Cn m_)) >>> ((0 : Int32) &&& 31)) : Int32) = (ofNat (own_nc Cn m_)) from own_shr0 _]
 refine own_retI X7 hx Bd.returns (d29 hby 35) (BodyLoose.notSynchronized Bd) (by decide) (by decide) ?_
 rw [show T7.heap = h0 from e7]
 exact ⟨rfl, N5, rfl⟩
def D32 : List (Nat × Instr × Nat) := [(0, .iload_n 1, 1), (1, .aload_n 0, 1), (2, .arraylength, 1), (3, .if_icmp .ne 11, 3), (6, .aload_n 0, 1), (7, .invokevirtual 310, 3), (10, .checkcast 311, 3), (13, .areturn, 1), (14, .iload_n 1, 1), (15, .newarray .byte, 2), (17, .astore_n 2, 1), (18, .aload_n 0, 1), (19, .iconst 0, 1), (20, .aload_n 2, 1), (21, .iconst 0, 1), (22, .aload_n 0, 1), (23, .arraylength, 1), (24, .iload_n 1, 1), (25, .invokestatic 304, 3), (28, .invokestatic 150, 3), (31, .aload_n 2, 1), (32, .areturn, 1)]
theorem A32 : ∀ q ∈ D32, decode jdk_65_method_121_code q.1 = .ok q.2 := by decide +kernel
theorem d32 {c : Code} (h0 : c.code = jdk_65_method_121_code) (i : Nat) {pc n : Nat} {q : Instr} (h : D32[i]? = some (pc, q, n) := by rfl) : decode c.code pc = .ok (q, n) := hb h0 (A32 (pc, q, n) (List.mem_of_getElem? h))
theorem pn_rm33 : plainName "java/util/Arrays" = true := by first | (simp [plainName, overriddenIn]; done) | decide +kernel
theorem ef_rm33 (m : MethodId) (o0 : Addr) (N : Nat) : entryFrame m #[(.ref o0), (.int (ofNat N))] 3 = mkF m 0 #[.val (.ref o0), .val (.int (ofNat N)), .unset] [] := by first | (simp [entryFrame, mkF, argsToLocals, Value.category, maxLocals]; done) | rfl
def rm33_Q (Z : State) (o0 : Addr) (N : Nat) (k : ClassId) (Cn : Nat) (vs : List Value) (h0 : Heap) (n0 : Nat) (v : Option Value) (h : Heap) (L : List Loc) : Prop := ∃ (b : Addr) (k1 : ClassId), v = some (.ref b) ∧ Fr n0 L ∧ b = h0.size ∧ Keep h0 h [] ∧ Arv Z h b k1 .byte (ofNat N) (vs ++ List.replicate (N - Cn) (.int 0)) (.int 0) ∧ Exa Z h b "[B"
set_option maxRecDepth 65536 in
set_option maxHeartbeats 40000000 in
theorem rm33 (l : Launch) (Z : State) (a0 : Array Value) (hw : ∀ d ∈ tables_1, d.before a0 Z = true) (ws : List Jvm.Cond) (o0 : Addr) (N : Nat) (k : ClassId) (Cn : Nat) (vs : List Value) (h0 : Heap) (n0 : Nat) (Z0 : n0 ≤ h0.size) (V_o0 : Arv Z h0 o0 k .byte (ofNat Cn) vs (.int 0)) (A_o0 : Exa Z h0 o0 "[B") (hvs : vs.length = Cn) (hlt : Cn < N) (hN : N ≤ 512) :
  MetFree l yM6 (head1 (Jvm.Cond.code yM6 jdk_65_method_121_code 3 (some (.array .byte)) :: ws) rM1_1_512_40) (fun a U => a = #[(.ref o0), (.int (ofNat N))] ∧ Z.Warmed39 U.vm ∧ U.heap = h0) (fun _ _ _ _ _ => True) (fun _ U o U' => ∃ v L, o = .returned v ∧ rm33_Q Z o0 N k Cn vs h0 n0 v U'.heap L ∧ FrameEnd U o U' L rM1_1_512_40.cells rM1_1_512_40.slots) := by
 refine MetFree.of_bodySF (plainFor_of_name pn_rm33) hisR ?_
 intro p e s m args below meth c s₁ Bd hml0 hP hK
 obtain ⟨rfl, hZ, hh⟩ := hP
 have hx := Bd.exec
 have hby := Bd.bytes
 have hml : c.maxLocals = 3 := hml0
 have hown : s.vm.findClass "java/util/Arrays" = some m.cls := findClass_of_methodNamed Bd.named
 have hnm := (name_of_methodNamed Bd.named Bd.method).1
 have X0 : Stand p l e rM1_1_512_40 s m #[(.ref o0), (.int (ofNat N))] below meth c s₁ [] 0 0 := Stand.of_body Bd
 have e0 : s₁.heap = h0 := by rw [← hh, Bd.state]; rfl
 have N0 := Fr.nil n0
 have K0 := Keep.refl h0 []
 refine own_enter (QQ := rm33_Q Z o0 N k Cn vs h0 n0) (ef_rm33 m o0 N) ?_
 show own_Run p e below s _ _ _ s₁ (mkF m 0 #[.val (.ref o0), .val (.int (ofNat N)), .unset] [])
 refine oP s₁ (mkF m 2 #[oR o0, oI (ofNat N), .unset] [(.ref o0), (.int (ofNat N))]) (fun t k => ?_) ?_
 ·skip
  refine XS.iloadN X0.here hx rfl (d32 hby 0) rfl ?_
  refine XS.aloadN X0.here hx rfl (d32 hby 1) rfl rfl ?_
  exact k
 obtain ⟨cl1, Arcl1, -, Scl1, Mcl1, -, -⟩ := id V_o0
 refine oP s₁ (mkF m 15 #[oR o0, oI (ofNat N), .unset] [(.int (ofNat N))]) (fun t k => ?_) ?_
 ·skip
  refine X0.arraylength hx (by rw [e0]; exact Arcl1.1) (State.isArrayOf_alike hZ.alike Arcl1.2.1) (g := (mkF m 2 #[oR o0, oI (ofNat N), .unset] [(.ref o0), (.int (ofNat N))])) rfl rfl (d32 hby 2) _ ?_
  rw [len_of Scl1 Mcl1]
  show Steps p.tables e below (s₁.setTop (mkF m 3 #[oR o0, oI (ofNat N), .unset] [(.int (ofNat Cn)), (.int (ofNat N))])) _
  refine XS.icmpYes X0.here hx rfl (pc0 := 3) (pc' := 14) rfl (d32 hby 3) rfl (feq (fun q => absurd ((own_eqn (by omega) (by omega)).mp q) (by omega))).2 (by decide) (by decide) ?_
  refine XS.iloadN X0.here hx rfl (d32 hby 8) rfl ?_
  exact k
 obtain ⟨T3, h3, k3, X3, e3, E3, B3, A3, st3⟩ := newPE X0 hx hZ (own_w hw 19) e0 (g := (mkF m 15 #[oR o0, oI (ofNat N), .unset] [(.int (ofNat N))])) rfl (d32 hby 9 (q := .newarray .byte)) rfl (own_nn _ (by omega)) (cap := 512) (by rw [own_tn (by omega)]; omega) (by decide) (by decide) (by decide) (ad := "[B") (by decide)
 obtain ⟨b3, g3⟩ : ∃ z, z = h0.size := ⟨_, rfl⟩
 have g_b3 : n0 ≤ b3 := Nat.le_trans Z0 (Nat.le_of_eq g3.symm)
 have sz_b3 : h0.size ≤ b3 := Nat.le_trans K0.1 (Nat.le_of_eq g3.symm)
 rw [← g3] at A3 B3 st3
 have V6 := V_o0.ext E3
 have K3 := K0.ext E3
 have V7 : Arv Z h3 b3 k3 .byte (ofNat N) [] (.int 0) := Arv.new B3 (own_nn _ (by omega))
 have Z8 := Nat.le_trans Z0 E3.1
 refine own_step st3 ?_
 refine oP T3 (mkF m 23 #[oR o0, oI (ofNat N), oR b3] [(.ref o0), (.int 0), (.ref b3), (.int 0), (.ref o0)]) (fun t k => ?_) ?_
 ·skip
  refine XS.astoreN X3.here hx rfl (d32 hby 10) rfl rfl (l' := #[oR o0, oI (ofNat N), oR b3]) rfl ?_
  refine XS.aloadN X3.here hx rfl (d32 hby 11) rfl rfl ?_
  refine XS.iconst X3.here hx rfl (d32 hby 12) ?_
  refine XS.aloadN X3.here hx rfl (d32 hby 13) rfl rfl ?_
  refine XS.iconst X3.here hx rfl (d32 hby 14) ?_
  refine XS.aloadN X3.here hx rfl (d32 hby 15) rfl rfl ?_
  exact k
 obtain ⟨cl9, Arcl9, -, Scl9, Mcl9, -, -⟩ := id V6
 refine oP T3 (mkF m 25 #[oR o0, oI (ofNat N), oR b3] [(.int (ofNat N)), (.int (ofNat Cn)), (.int 0), (.ref b3), (.int 0), (.ref o0)]) (fun t k => ?_) ?_
 ·skip
  refine X3.arraylength hx (by rw [e3]; exact Arcl9.1) (State.isArrayOf_alike hZ.alike Arcl9.2.1) (g := (mkF m 23 #[oR o0, oI (ofNat N), oR b3] [(.ref o0), (.int 0), (.ref b3), (.int 0), (.ref o0)])) rfl rfl (d32 hby 16) _ ?_
  rw [len_of Scl9 Mcl9]
  show Steps p.tables e below (T3.setTop (mkF m 24 #[oR o0, oI (ofNat N), oR b3] [(.int (ofNat Cn)), (.int 0), (.ref b3), (.int 0), (.ref o0)])) _
  refine XS.iloadN X3.here hx rfl (d32 hby 17) rfl ?_
  exact k
 obtain ⟨_, _, ⟨T10, L10, k10, n10⟩, -, X10, ⟨Lc10, hQ10, l10, y10, z10⟩, st10⟩ := Jvm.LawKit.callS X3 hx (y := yM3) hown (mvT hZ (own_w hw 189)) (mvT hZ (own_w hw 190)) (mvT hZ (own_w hw 78)) (mvT hZ (own_w hw 191)) (by decide) (backOf (W := 4) (rm34 l Z a0 hw [] (ofNat Cn) (ofNat N)  h3 n0 Z8) hZ (own_w hw 191) (own_w hw 78) (by decide) (by decide)) (g := (mkF m 25 #[oR o0, oI (ofNat N), oR b3] [(.int (ofNat N)), (.int (ofNat Cn)), (.int 0), (.ref b3), (.int 0), (.ref o0)])) rfl (by rw [hml]; rfl) (argsL := [(.int (ofNat Cn)), (.int (ofNat N))]) (rest := [(.int 0), (.ref b3), (.int 0), (.ref o0)]) (lenOf pd_1 rfl) rfl (by show 2 * 0 + _ ≤ _; exact Nat.le_of_eq rfl) (d32 hby 18) (fun _ _ => ⟨rfl, e3, (by decide : 1 + 0 ≤ _), (by decide : 512 + 0 ≤ _)⟩)
 dsimp only [Pt.U, Pt.locs, Pt.cells, Pt.slots] at X10 l10 y10 z10 st10 hQ10
 subst l10 y10 z10
 obtain ⟨rfl, N10q, eq10⟩ := hQ10
 have N10 := Fr.app N0 N10q
 refine own_step st10 ?_
 rw [show ((own_min32 (ofNat Cn) (ofNat N)) : Int32) = (ofNat Cn) from (own_minn (by omega) (by omega)).trans (by rw [Nat.min_eq_left (by omega)])]
 have V11 : Arv Z h3 b3 k3 .byte (ofNat N) (List.replicate N (.int 0)) (.int 0) := V7.pad (pad_rep [] (.int 0) N)
 obtain ⟨T12, h12, Lq12, X12, e12, N12, Kq12, Va12, st12⟩ := cpA X10 hx hZ hown (own_w hw 192) (own_w hw 169) (own_w hw 167) (own_w hw 168) eq10 V6 V11 (Or.inl ⟨rfl, rfl⟩) (sp := (0 : Int32)) (dp := (0 : Int32)) (nn := (ofNat Cn)) (us := vs) (by decide) (by decide) (own_nn _ (by omega)) (by rw [own_tn (by omega)]; exact Nat.le_of_eq (Nat.zero_add _)) (by rw [own_tn (by omega), own_tn (by omega)]; show 0 + Cn ≤ N; omega) (own_us (by omega) hvs) (by rw [own_tn (by omega), List.length_replicate]; show 0 + Cn ≤ N; omega) N10 g_b3 (g := (mkF m 28 #[oR o0, oI (ofNat N), oR b3] [(.int (ofNat Cn)), (.int 0), (.ref b3), (.int 0), (.ref o0)])) rfl (by rw [hml]; rfl) (rest := []) rfl (d32 hby 19) (by decide) (W := 0) (by show 2 * 0 + _ ≤ _; exact Nat.le_of_eq rfl) (by decide)
 have V13 : Arv Z h12 b3 k3 .byte (ofNat N) (vs ++ List.replicate (N - Cn) (.int 0)) (.int 0) := by have q := Va12; rw [own_cp0 (by omega) hvs (by omega)] at q; exact q
 have A15 := A3.keep Kq12
 have K18 := K3.trans Kq12 (allS (Or.inr sz_b3) all0)
 refine own_step st12 ?_
 refine oP T12 (mkF m 32 #[oR o0, oI (ofNat N), oR b3] [(.ref b3)]) (fun t k => ?_) ?_
 ·skip
  refine XS.aloadN X12.here hx rfl (d32 hby 20) rfl rfl ?_
  exact k
 refine own_retA X12 hx Bd.returns rfl rfl (d32 hby 21) (BodyLoose.notSynchronized Bd) (by decide) (by decide) ?_
 rw [show T12.heap = h12 from e12]
 exact ⟨b3, k3, rfl, N12, g3, K18, V13, A15⟩
theorem own_subp {m C : Nat} (hm : m < 2147483648) (hC : C < 2147483648) : (0 : Int32) < ofNat m - ofNat C ↔ C < m := by
 have e : (ofNat m - ofNat C).toInt = m - C := by
  rw [Int32.toInt_sub, own_oi m hm, own_oi C hC, Int.bmod_def]; omega
 rw [Int32.lt_iff_toInt_lt, e, show (0 : Int32).toInt = 0 from rfl]; omega
theorem own_nclt {C m : Nat} (h : C < m) : C < own_nc C m := by unfold own_nc; omega
def D25 : List (Nat × Instr × Nat) := [(0, .aload_n 0, 1), (1, .getfield 15, 3), (4, .arraylength, 1), (5, .aload_n 0, 1), (6, .getfield 22, 3), (9, .ishr, 1), (10, .istore_n 2, 1), (11, .iload_n 1, 1), (12, .iload_n 2, 1), (13, .isub, 1), (14, .ifCond .le 24, 3), (17, .aload_n 0, 1), (18, .aload_n 0, 1), (19, .getfield 15, 3), (22, .aload_n 0, 1), (23, .iload_n 1, 1), (24, .invokevirtual 104, 3), (27, .aload_n 0, 1), (28, .getfield 22, 3), (31, .ishl, 1), (32, .invokestatic 108, 3), (35, .putfield 15, 3), (38, .return_, 1)]
theorem A25 : ∀ q ∈ D25, decode jdk_68_method_9_code q.1 = .ok q.2 := by decide +kernel
theorem d25 {c : Code} (h0 : c.code = jdk_68_method_9_code) (i : Nat) {pc n : Nat} {q : Instr} (h : D25[i]? = some (pc, q, n) := by rfl) : decode c.code pc = .ok (q, n) := hb h0 (A25 (pc, q, n) (List.mem_of_getElem? h))
theorem pn_rm26 : plainName "java/lang/AbstractStringBuilder" = true := by first | (simp [plainName, overriddenIn]; done) | decide +kernel
theorem ef_rm26 (m : MethodId) (o0 : Addr) (m_ : Nat) : entryFrame m #[(.ref o0), (.int (ofNat m_))] 3 = mkF m 0 #[.val (.ref o0), .val (.int (ofNat m_)), .unset] [] := by first | (simp [entryFrame, mkF, argsToLocals, Value.category, maxLocals]; done) | rfl
def rm26_Q (Z : State) (o0 : Addr) (m_ : Nat) (b : Addr) (ct : Int32) (k : ClassId) (Cn : Nat) (Lc : List Value) (h0 : Heap) (n0 : Nat) (v : Option Value) (h : Heap) (L : List Loc) : Prop := ∃ (b1 : Addr) (k1 : ClassId) (C1 : Nat), v = none ∧ Fr n0 L ∧ Keep h0 h [o0] ∧ Exa Z h o0 "java/lang/StringBuilder" ∧ Fld Z h o0 "java/lang/AbstractStringBuilder" "value" "[B" (.ref b1) ∧ Fld Z h o0 "java/lang/AbstractStringBuilder" "coder" "B" (.int 0) ∧ Fld Z h o0 "java/lang/AbstractStringBuilder" "count" "I" (.int ct) ∧ Arv Z h b1 k1 .byte (ofNat C1) (own_buf Lc C1) (.int 0) ∧ Exa Z h b1 "[B" ∧ C1 = own_cap Cn m_ ∧ n0 ≤ b1 ∧ b1 ≠ o0 ∧ (b1 = b ∨ h0.size ≤ b1)
set_option maxRecDepth 65536 in
set_option maxHeartbeats 40000000 in
theorem rm26 (l : Launch) (Z : State) (a0 : Array Value) (hw : ∀ d ∈ tables_1, d.before a0 Z = true) (ws : List Jvm.Cond) (o0 : Addr) (m_ : Nat) (b : Addr) (ct : Int32) (k : ClassId) (Cn : Nat) (Lc : List Value) (h0 : Heap) (n0 : Nat) (Z0 : n0 ≤ h0.size) (E_o0 : Exa Z h0 o0 "java/lang/StringBuilder") (F_value_o0 : Fld Z h0 o0 "java/lang/AbstractStringBuilder" "value" "[B" (.ref b)) (F_coder_o0 : Fld Z h0 o0 "java/lang/AbstractStringBuilder" "coder" "B" (.int 0)) (F_count_o0 : Fld Z h0 o0 "java/lang/AbstractStringBuilder" "count" "I" (.int ct)) (g_o0 : n0 ≤ o0) (V_b : Arv Z h0 b k .byte (ofNat Cn) (own_buf Lc Cn) (.int 0)) (A_b : Exa Z h0 b "[B") (g_b : n0 ≤ b) (neb : b ≠ o0) (hL : Lc.length ≤ Cn) (hC : Cn ≤ 250) (hm : m_ ≤ 250) :
  MetFree l yM7 (head1 (Jvm.Cond.code yM7 jdk_68_method_9_code 3 none :: ws) rM3_1_512_55) (fun a U => a = #[(.ref o0), (.int (ofNat m_))] ∧ Z.Warmed39 U.vm ∧ U.heap = h0) (fun _ _ _ _ _ => True) (fun _ U o U' => ∃ v L, o = .returned v ∧ rm26_Q Z o0 m_ b ct k Cn Lc h0 n0 v U'.heap L ∧ FrameEnd U o U' L rM3_1_512_55.cells rM3_1_512_55.slots) := by
 refine MetFree.of_bodySF (plainFor_of_name pn_rm26) hisR ?_
 intro p e s m args below meth c s₁ Bd hml0 hP hK
 obtain ⟨rfl, hZ, hh⟩ := hP
 have hx := Bd.exec
 have hby := Bd.bytes
 have hml : c.maxLocals = 3 := hml0
 have hown : s.vm.findClass "java/lang/AbstractStringBuilder" = some m.cls := findClass_of_methodNamed Bd.named
 have hnm := (name_of_methodNamed Bd.named Bd.method).1
 have X0 : Stand p l e rM3_1_512_55 s m #[(.ref o0), (.int (ofNat m_))] below meth c s₁ [] 0 0 := Stand.of_body Bd
 have e0 : s₁.heap = h0 := by rw [← hh, Bd.state]; rfl
 have N0 := Fr.nil n0
 have K0 := Keep.refl h0 [o0]
 refine own_enter (QQ := rm26_Q Z o0 m_ b ct k Cn Lc h0 n0) (ef_rm26 m o0 m_) ?_
 show own_Run p e below s _ _ _ s₁ (mkF m 0 #[.val (.ref o0), .val (.int (ofNat m_)), .unset] [])
 refine oP s₁ (mkF m 1 #[oR o0, oI (ofNat m_), .unset] [(.ref o0)]) (fun t k => ?_) ?_
 ·skip
  refine XS.aloadN X0.here hx rfl (d25 hby 0) rfl rfl ?_
  exact k
 obtain ⟨T1, X1, e1, st1⟩ := getF X0 hx hZ hown (host := "") (Or.inl (own_w hw 118)) Via.refl e0 F_value_o0 (g := (mkF m 1 #[oR o0, oI (ofNat m_), .unset] [(.ref o0)])) rfl rfl (d25 hby 1)
 refine own_step st1 ?_
 obtain ⟨cl2, Arcl2, -, Scl2, Mcl2, -, -⟩ := id V_b
 refine oP T1 (mkF m 6 #[oR o0, oI (ofNat m_), .unset] [(.ref o0), (.int (ofNat Cn))]) (fun t k => ?_) ?_
 ·skip
  refine X1.arraylength hx (by rw [e1]; exact Arcl2.1) (State.isArrayOf_alike hZ.alike Arcl2.2.1) (g := (mkF m 4 #[oR o0, oI (ofNat m_), .unset] [(.ref b)])) rfl rfl (d25 hby 2) _ ?_
  rw [len_of Scl2 Mcl2]
  show Steps p.tables e below (T1.setTop (mkF m 5 #[oR o0, oI (ofNat m_), .unset] [(.int (ofNat Cn))])) _
  refine XS.aloadN X1.here hx rfl (d25 hby 3) rfl rfl ?_
  exact k
 obtain ⟨T3, X3, e3, st3⟩ := getF X1 hx hZ hown (host := "") (Or.inl (own_w hw 120)) Via.refl e1 F_coder_o0 (g := (mkF m 6 #[oR o0, oI (ofNat m_), .unset] [(.ref o0), (.int (ofNat Cn))])) rfl rfl (d25 hby 4)
 refine own_step st3 ?_
 refine oP T3 (mkF m 10 #[oR o0, oI (ofNat m_), .unset] [(.int ((ofNat Cn) >>> ((0 : Int32) &&& 31)))]) (fun t k => ?_) ?_
 ·skip
  refine XS.ishr X3.here hx rfl (d25 hby 5) rfl ?_
  exact k
 rw [show (((ofNat Cn) >>> ((0 : Int32) &&& 31)) : Int32) = (ofNat Cn) from own_shr0 _]
 refine oP T3 (mkF m 14 #[oR o0, oI (ofNat m_), oI (ofNat Cn)] [(.int ((ofNat m_) - (ofNat Cn)))]) (fun t k => ?_) ?_
 ·skip
  refine XS.istoreN X3.here hx rfl (d25 hby 6) rfl (l' := #[oR o0, oI (ofNat m_), oI (ofNat Cn)]) rfl ?_
  refine XS.iloadN X3.here hx rfl (d25 hby 7) rfl ?_
  refine XS.iloadN X3.here hx rfl (d25 hby 8) rfl ?_
  refine XS.isub X3.here hx rfl (d25 hby 9) rfl ?_
  exact k
 by_cases hc4 : (0 : Int32) < ((ofNat m_) - (ofNat Cn))
 ·skip
  refine oP T3 (mkF m 17 #[oR o0, oI (ofNat m_), oI (ofNat Cn)] []) (fun t k => ?_) ?_
  ·skip
   refine XS.ifNo X3.here hx rfl (d25 hby 10) rfl ((if0 _ _).trans (tlt hc4).2.2.2) ?_
   exact k
  have hlt : Cn < m_ := (own_subp (by omega) (by omega)).mp hc4
  refine oP T3 (mkF m 19 #[oR o0, oI (ofNat m_), oI (ofNat Cn)] [(.ref o0), (.ref o0)]) (fun t k => ?_) ?_
  ·skip
   refine XS.aloadN X3.here hx rfl (d25 hby 11) rfl rfl ?_
   refine XS.aloadN X3.here hx rfl (d25 hby 12) rfl rfl ?_
   exact k
  obtain ⟨T5, X5, e5, st5⟩ := getF X3 hx hZ hown (host := "") (Or.inl (own_w hw 118)) Via.refl e3 F_value_o0 (g := (mkF m 19 #[oR o0, oI (ofNat m_), oI (ofNat Cn)] [(.ref o0), (.ref o0)])) rfl rfl (d25 hby 13)
  refine own_step st5 ?_
  refine oP T5 (mkF m 24 #[oR o0, oI (ofNat m_), oI (ofNat Cn)] [(.int (ofNat m_)), (.ref o0), (.ref b), (.ref o0)]) (fun t k => ?_) ?_
  ·skip
   refine XS.aloadN X5.here hx rfl (d25 hby 14) rfl rfl ?_
   refine XS.iloadN X5.here hx rfl (d25 hby 15) rfl ?_
   exact k
  obtain ⟨cq6, qq6, qr6⟩ := E_o0.cell
  obtain ⟨_, _, ⟨T6, L6, k6, n6⟩, -, X6, ⟨Lc6, hQ6, l6, y6, z6⟩, st6⟩ := X5.privateBack hx (y := yM5) hown (mvT hZ (own_w hw 171)) (mvT hZ (own_w hw 172)) (own_selP (mvT hZ (own_w hw 174)) (Cond.privateMethod_at (mvP hZ (own_w hw 173) (args := #[]))) (mvT hZ (own_w hw 172)) (by decide)) (Cond.privateMethod_at (mvP hZ (own_w hw 173) (args := #[]))) (mvT hZ (own_w hw 175)) (by decide) (backOf (W := 2) (rm30 l Z a0 hw [] o0 m_ b k Cn (own_buf Lc Cn) h0 n0 Z0 E_o0 F_value_o0 F_coder_o0 V_b hC hm hlt) hZ (own_w hw 175) (own_w hw 114) (by decide) (by decide)) (g := (mkF m 24 #[oR o0, oI (ofNat m_), oI (ofNat Cn)] [(.int (ofNat m_)), (.ref o0), (.ref b), (.ref o0)])) rfl (by rw [hml]; rfl) (Steps.refl _) (a := o0) (by rw [e5]; exact qq6) qr6 (argsL := [(.int (ofNat m_))]) (rest := [(.ref b), (.ref o0)]) (lenOf pd_3 rfl) rfl (by show 2 * 0 + _ ≤ _; exact Nat.le_of_eq rfl) (d25 hby 16) (fun _ _ => ⟨rfl, e5, (by decide : 0 + 0 ≤ _), (by decide : 0 + 0 ≤ _)⟩)
  dsimp only [Pt.U, Pt.locs, Pt.cells, Pt.slots] at X6 l6 y6 z6 st6 hQ6
  subst l6 y6 z6
  obtain ⟨rfl, N6q, eq6⟩ := hQ6
  have N6 := Fr.app N0 N6q
  refine own_step (fun t k => st6.trans k) ?_
  refine oP T6 (mkF m 28 #[oR o0, oI (ofNat m_), oI (ofNat Cn)] [(.ref o0), (.int (ofNat (own_nc Cn m_))), (.ref b), (.ref o0)]) (fun t k => ?_) ?_
  ·skip
   refine XS.aloadN X6.here hx rfl (d25 hby 17) rfl rfl ?_
   exact k
  obtain ⟨T7, X7, e7, st7⟩ := getF X6 hx hZ hown (host := "") (Or.inl (own_w hw 120)) Via.refl eq6 F_coder_o0 (g := (mkF m 28 #[oR o0, oI (ofNat m_), oI (ofNat Cn)] [(.ref o0), (.int (ofNat (own_nc Cn m_))), (.ref b), (.ref o0)])) rfl rfl (d25 hby 18)
  refine own_step st7 ?_
  refine oP T7 (mkF m 32 #[oR o0, oI (ofNat m_), oI (ofNat Cn)] [(.int ((ofNat (own_nc Cn m_)) <<< ((0 : Int32) &&& 31))), (.ref b), (.ref o0)]) (fun t k => ?_) ?_
  ·skip
   refine XS.ishl X7.here hx rfl (d25 hby 19) rfl ?_
   exact k
  rw [show (((ofNat (own_nc Cn m_)) <<< ((0 : Int32) &&& 31)) : Int32) = (ofNat (own_nc Cn m_)) from own_shl0 _]
  obtain ⟨_, _, ⟨T8, L8, k8, n8⟩, -, X8, ⟨Lc8, hQ8, l8, y8, z8⟩, st8⟩ := Jvm.LawKit.callS X7 hx (y := yM6) hown (mvT hZ (own_w hw 185)) (mvT hZ (own_w hw 186)) (mvT hZ (own_w hw 187)) (mvT hZ (own_w hw 188)) (by decide) (backOf (W := 1) (rm33 l Z a0 hw [] b (own_nc Cn m_) k Cn (own_buf Lc Cn) h0 n0 Z0 V_b A_b (own_bufl hL) (own_nclt hlt) (own_ncl hC hm)) hZ (own_w hw 188) (own_w hw 187) (by decide) (by decide)) (g := (mkF m 32 #[oR o0, oI (ofNat m_), oI (ofNat Cn)] [(.int (ofNat (own_nc Cn m_))), (.ref b), (.ref o0)])) rfl (by rw [hml]; rfl) (argsL := [(.ref b), (.int (ofNat (own_nc Cn m_)))]) (rest := [(.ref o0)]) (lenOf pd_4 rfl) rfl (by show 2 * 0 + _ ≤ _; exact Nat.le_of_eq rfl) (d25 hby 20) (fun _ _ => ⟨rfl, e7, (by decide : 0 + 1 ≤ _), (by decide : 0 + 512 ≤ _)⟩)
  dsimp only [Pt.U, Pt.locs, Pt.cells, Pt.slots] at X8 l8 y8 z8 st8 hQ8
  subst l8 y8 z8
  obtain ⟨cp8, kc8, rfl, N8q, g8, Kq8, Vc8, Ac8⟩ := hQ8
  have N8 := Fr.app N6 N8q
  refine own_step st8 ?_
  have ne9 : o0 ≠ cp8 := Nat.ne_of_lt (Nat.lt_of_lt_of_le F_value_o0.lt (Nat.le_of_eq g8.symm))
  have g_cp8 : n0 ≤ cp8 := Nat.le_trans Z0 (Nat.le_of_eq g8.symm)
  have sz_cp8 : h0.size ≤ cp8 := Nat.le_trans K0.1 (Nat.le_of_eq g8.symm)
  have F11 := F_value_o0.keep Kq8 nin0
  have F12 := F_coder_o0.keep Kq8 nin0
  have F13 := F_count_o0.keep Kq8 nin0
  have A14 := E_o0.keep Kq8
  have K18 := K0.trans Kq8 all0
  rw [own_grown hL (Nat.le_of_lt (own_nclt hlt))] at Vc8
  obtain ⟨T19, h19, X19, e19, W19, st19⟩ := putF X8 hx hZ hown (host := "") (Or.inl (own_w hw 118)) Via.refl rfl F11 A14 (Or.inl (own_w hw 119)) (own_w hw 105) (ty := (.array .byte)) (by decide) rfl rfl (g := (mkF m 35 #[oR o0, oI (ofNat m_), oI (ofNat Cn)] [(.ref cp8), (.ref o0)])) rfl rfl (d25 hby 21)
  have F20 := F11.same W19
  have F21 := F12.other W19 (Or.inr (slot_ne (Or.inl (own_w hw 121)) (Or.inl (own_w hw 119)) (by decide) (t := .byte) (t' := (.array .byte)) (by decide) (by decide)))
  have F22 := F13.other W19 (Or.inr (slot_ne (Or.inl (own_w hw 144)) (Or.inl (own_w hw 119)) (by decide) (t := .int) (t' := (.array .byte)) (by decide) (by decide)))
  have A23 := A14.wr W19
  have A25 := Ac8.wr W19
  have V27 := Vc8.other W19 (Ne.symm ne9)
  have K19 := K18.wr W19 (Or.inl (List.mem_of_getElem? (i := 0) rfl))
  have N19 := Fr.snoc X19 N8 g_o0
  refine own_step st19 ?_
  refine own_retV X19 hx Bd.returns (d25 hby 22) (BodyLoose.notSynchronized Bd) (by decide) (by decide) ?_
  rw [show T19.heap = h19 from e19]
  exact ⟨cp8, kc8, own_nc Cn m_, rfl, N19, K19, A23, F20, F21, F22, V27, A25, (if_neg (Nat.not_le.mpr hlt)).symm, g_cp8, (Ne.symm ne9), Or.inr sz_cp8⟩
 ·skip
  refine oP T3 (mkF m 38 #[oR o0, oI (ofNat m_), oI (ofNat Cn)] []) (fun t k => ?_) ?_
  ·skip
   refine XS.ifYes X3.here hx rfl (pc0 := 14) (pc' := 38) rfl (d25 hby 10) rfl ((if0 _ _).trans (flt hc4).2.2.2) (by decide) (by decide) ?_
   exact k
  refine own_retV X3 hx Bd.returns (d25 hby 22) (BodyLoose.notSynchronized Bd) (by decide) (by decide) ?_
  rw [show T3.heap = h0 from e3]
  exact ⟨b, k, Cn, rfl, N0, K0, E_o0, F_value_o0, F_coder_o0, F_count_o0, V_b, A_b, (if_pos (Nat.le_of_not_lt fun q => hc4 ((own_subp (by omega) (by omega)).mpr q))).symm, g_b, neb, Or.inl rfl⟩
def D27 : List (Nat × Instr × Nat) := [(0, .getstatic 18, 3), (3, .ifCond .eq 18, 3), (6, .aload_n 0, 1), (7, .getfield 22, 3), (10, .aload_n 1, 1), (11, .invokevirtual 40, 3), (14, .if_icmp .eq 7, 3), (17, .aload_n 0, 1), (18, .invokevirtual 195, 3), (21, .return_, 1)]
theorem A27 : ∀ q ∈ D27, decode jdk_68_method_71_code q.1 = .ok q.2 := by decide +kernel
theorem d27 {c : Code} (h0 : c.code = jdk_68_method_71_code) (i : Nat) {pc n : Nat} {q : Instr} (h : D27[i]? = some (pc, q, n) := by rfl) : decode c.code pc = .ok (q, n) := hb h0 (A27 (pc, q, n) (List.mem_of_getElem? h))
theorem pn_rm28 : plainName "java/lang/AbstractStringBuilder" = true := by first | (simp [plainName, overriddenIn]; done) | decide +kernel
theorem ef_rm28 (m : MethodId) (o0 : Addr) (o1 : Addr) : entryFrame m #[(.ref o0), (.ref o1)] 2 = mkF m 0 #[.val (.ref o0), .val (.ref o1)] [] := by first | (simp [entryFrame, mkF, argsToLocals, Value.category, maxLocals]; done) | rfl
def rm28_Q (Z : State) (o0 : Addr) (o1 : Addr) (cs : Int32) (h0 : Heap) (n0 : Nat) (v : Option Value) (h : Heap) (L : List Loc) : Prop := v = none ∧ Fr n0 L ∧ h = h0
set_option maxRecDepth 65536 in
set_option maxHeartbeats 40000000 in
theorem rm28 (l : Launch) (Z : State) (a0 : Array Value) (hw : ∀ d ∈ tables_1, d.before a0 Z = true) (ws : List Jvm.Cond) (o0 : Addr) (o1 : Addr) (cs : Int32) (h0 : Heap) (n0 : Nat) (Z0 : n0 ≤ h0.size) (O0 : Old Z n0 h0) (S_cs : Sta Z Z.heap "java/lang/String" "COMPACT_STRINGS" "Z" (.int cs)) (hcs : ¬ cs = (0 : Int32)) (E_o0 : Exa Z h0 o0 "java/lang/StringBuilder") (F_coder_o0 : Fld Z h0 o0 "java/lang/AbstractStringBuilder" "coder" "B" (.int 0)) (E_o1 : Exa Z h0 o1 "java/lang/String") (F_coder_o1 : Fld Z h0 o1 "java/lang/String" "coder" "B" (.int 0)) :
  MetFree l yM8 (head1 (Jvm.Cond.code yM8 jdk_68_method_71_code 2 none :: ws) rM1_0_0_13) (fun a U => a = #[(.ref o0), (.ref o1)] ∧ Z.Warmed39 U.vm ∧ U.heap = h0) (fun _ _ _ _ _ => True) (fun _ U o U' => ∃ v L, o = .returned v ∧ rm28_Q Z o0 o1 cs h0 n0 v U'.heap L ∧ FrameEnd U o U' L rM1_0_0_13.cells rM1_0_0_13.slots) := by
 refine MetFree.of_bodySF (plainFor_of_name pn_rm28) hisR ?_
 intro p e s m args below meth c s₁ Bd hml0 hP hK
 obtain ⟨rfl, hZ, hh⟩ := hP
 have hx := Bd.exec
 have hby := Bd.bytes
 have hml : c.maxLocals = 2 := hml0
 have hown : s.vm.findClass "java/lang/AbstractStringBuilder" = some m.cls := findClass_of_methodNamed Bd.named
 have hnm := (name_of_methodNamed Bd.named Bd.method).1
 have X0 : Stand p l e rM1_0_0_13 s m #[(.ref o0), (.ref o1)] below meth c s₁ [] 0 0 := Stand.of_body Bd
 have e0 : s₁.heap = h0 := by rw [← hh, Bd.state]; rfl
 have N0 := Fr.nil n0
 refine own_enter (QQ := rm28_Q Z o0 o1 cs h0 n0) (ef_rm28 m o0 o1) ?_
 show own_Run p e below s _ _ _ s₁ (mkF m 0 #[.val (.ref o0), .val (.ref o1)] [])
 obtain ⟨T1, X1, e1, st1⟩ := getS2 X0 hx hZ hown (host := "") (Or.inl (own_w hw 117)) Via.refl e0 (S_cs.ext O0.2) (g := (mkF m 0 #[oR o0, oR o1] [])) rfl (d27 hby 0)
 refine own_step st1 ?_
 refine oP T1 (mkF m 7 #[oR o0, oR o1] [(.ref o0)]) (fun t k => ?_) ?_
 ·skip
  refine XS.ifNo X1.here hx rfl (d27 hby 1) rfl ((if0 _ _).trans (feq hcs).1) ?_
  refine XS.aloadN X1.here hx rfl (d27 hby 2) rfl rfl ?_
  exact k
 obtain ⟨T3, X3, e3, st3⟩ := getF X1 hx hZ hown (host := "") (Or.inl (own_w hw 120)) Via.refl e1 F_coder_o0 (g := (mkF m 7 #[oR o0, oR o1] [(.ref o0)])) rfl rfl (d27 hby 3)
 refine own_step st3 ?_
 refine oP T3 (mkF m 11 #[oR o0, oR o1] [(.ref o1), (.int 0)]) (fun t k => ?_) ?_
 ·skip
  refine XS.aloadN X3.here hx rfl (d27 hby 4) rfl rfl ?_
  exact k
 obtain ⟨cq4, kq4, q4a, q4b, q4c⟩ := isOf hZ e3 E_o1
 obtain ⟨_, _, ⟨T4, L4, k4, n4⟩, -, X4, ⟨Lc4, hQ4, l4, y4, z4⟩, st4⟩ := X3.virtualBack hx (y := yM0) (z := yM0) hown (mvT hZ (own_w hw 160)) (mvT hZ (own_w hw 139)) (notFace_of_selects (args := #[]) (mvT hZ (own_w hw 141))) (mvT hZ (own_w hw 141)) (mvT hZ (own_w hw 140)) (by decide) (backOf (W := 1) (rm25 l Z a0 hw [] o1 cs h0 n0 Z0 O0 S_cs hcs E_o1 F_coder_o1) hZ (own_w hw 142) (own_w hw 3) (by decide) (by decide)) q4a q4c (g := (mkF m 11 #[oR o0, oR o1] [(.ref o1), (.int 0)])) rfl (by rw [hml]; rfl) (Steps.refl _) (argsL := []) (rest := [(.int 0)]) (lenOf pd_0 rfl) rfl (by show 2 * 0 + _ ≤ _; exact Nat.le_of_eq rfl) (d27 hby 5) (fun _ _ => ⟨rfl, e3, (by decide : 0 + 0 ≤ _), (by decide : 0 + 0 ≤ _)⟩)
 dsimp only [Pt.U, Pt.locs, Pt.cells, Pt.slots] at X4 l4 y4 z4 st4 hQ4
 subst l4 y4 z4
 obtain ⟨rfl, N4q, eq4⟩ := hQ4
 have N4 := Fr.app N0 N4q
 refine own_step (fun t k => st4.trans k) ?_
 refine oP T4 (mkF m 21 #[oR o0, oR o1] []) (fun t k => ?_) ?_
 ·skip
  refine XS.icmpYes X4.here hx rfl (pc0 := 14) (pc' := 21) rfl (d27 hby 6) rfl (teq rfl).1 (by decide) (by decide) ?_
  exact k
 refine own_retV X4 hx Bd.returns (d27 hby 9) (BodyLoose.notSynchronized Bd) (by decide) (by decide) ?_
 rw [show T4.heap = h0 from eq4]
 exact ⟨rfl, N4, rfl⟩
def D28 : List (Nat × Instr × Nat) := [(0, .aload_n 0, 1), (1, .invokevirtual 335, 3), (4, .iload_n 3, 1), (5, .if_icmp .ne 23, 3), (8, .aload_n 0, 1), (9, .getfield 9, 3), (12, .iconst 0, 1), (13, .aload_n 1, 1), (14, .iload_n 2, 1), (15, .iload_n 3, 1), (16, .ishl, 1), (17, .aload_n 0, 1), (18, .getfield 9, 3), (21, .arraylength, 1), (22, .invokestatic 212, 3), (25, .goto 18, 3), (28, .aload_n 0, 1), (29, .getfield 9, 3), (32, .iconst 0, 1), (33, .aload_n 1, 1), (34, .iload_n 2, 1), (35, .aload_n 0, 1), (36, .getfield 9, 3), (39, .arraylength, 1), (40, .invokestatic 106, 3), (43, .return_, 1)]
theorem A28 : ∀ q ∈ D28, decode jdk_42_method_147_code q.1 = .ok q.2 := by decide +kernel
theorem d28 {c : Code} (h0 : c.code = jdk_42_method_147_code) (i : Nat) {pc n : Nat} {q : Instr} (h : D28[i]? = some (pc, q, n) := by rfl) : decode c.code pc = .ok (q, n) := hb h0 (A28 (pc, q, n) (List.mem_of_getElem? h))
theorem pn_rm29 : plainName "java/lang/String" = true := by first | (simp [plainName, overriddenIn]; done) | decide +kernel
theorem ef_rm29 (m : MethodId) (o0 : Addr) (o1 : Addr) (cn : Nat) : entryFrame m #[(.ref o0), (.ref o1), (.int (ofNat cn)), (.int 0)] 4 = mkF m 0 #[.val (.ref o0), .val (.ref o1), .val (.int (ofNat cn)), .val (.int 0)] [] := by first | (simp [entryFrame, mkF, argsToLocals, Value.category, maxLocals]; done) | rfl
def rm29_Q (Z : State) (o0 : Addr) (o1 : Addr) (cn : Nat) (cs : Int32) (sb : Addr) (k : ClassId) (n : Nat) (vs : List Value) (k2 : ClassId) (Cn : Nat) (vd : List Value) (h0 : Heap) (n0 : Nat) (v : Option Value) (h : Heap) (L : List Loc) : Prop := v = none ∧ Fr n0 L ∧ Keep h0 h [o1] ∧ Arv Z h o1 k2 .byte (ofNat Cn) (vd.take cn ++ vs ++ vd.drop (cn + n)) (.int 0)
set_option maxRecDepth 65536 in
set_option maxHeartbeats 40000000 in
theorem rm29 (l : Launch) (Z : State) (a0 : Array Value) (hw : ∀ d ∈ tables_1, d.before a0 Z = true) (ws : List Jvm.Cond) (o0 : Addr) (o1 : Addr) (cn : Nat) (cs : Int32) (sb : Addr) (k : ClassId) (n : Nat) (vs : List Value) (k2 : ClassId) (Cn : Nat) (vd : List Value) (h0 : Heap) (n0 : Nat) (Z0 : n0 ≤ h0.size) (O0 : Old Z n0 h0) (S_cs : Sta Z Z.heap "java/lang/String" "COMPACT_STRINGS" "Z" (.int cs)) (hcs : ¬ cs = (0 : Int32)) (E_o0 : Exa Z h0 o0 "java/lang/String") (F_coder_o0 : Fld Z h0 o0 "java/lang/String" "coder" "B" (.int 0)) (F_value_o0 : Fld Z h0 o0 "java/lang/String" "value" "[B" (.ref sb)) (V_sb : Arv Z h0 sb k .byte (ofNat n) vs (.int 0)) (V_o1 : Arv Z h0 o1 k2 .byte (ofNat Cn) vd (.int 0)) (g_o1 : n0 ≤ o1) (ne0 : o0 ≠ o1) (ne1 : sb ≠ o1) (hvs : vs.length = n) (hvd : vd.length = Cn) (hle : cn + n ≤ Cn) (hC : Cn ≤ 1024) :
  MetFree l yM9 (head1 (Jvm.Cond.code yM9 jdk_42_method_147_code 4 none :: ws) rM1_0_0_40) (fun a U => a = #[(.ref o0), (.ref o1), (.int (ofNat cn)), (.int 0)] ∧ Z.Warmed39 U.vm ∧ U.heap = h0) (fun _ _ _ _ _ => True) (fun _ U o U' => ∃ v L, o = .returned v ∧ rm29_Q Z o0 o1 cn cs sb k n vs k2 Cn vd h0 n0 v U'.heap L ∧ FrameEnd U o U' L rM1_0_0_40.cells rM1_0_0_40.slots) := by
 refine MetFree.of_bodySF (plainFor_of_name pn_rm29) hisR ?_
 intro p e s m args below meth c s₁ Bd hml0 hP hK
 obtain ⟨rfl, hZ, hh⟩ := hP
 have hx := Bd.exec
 have hby := Bd.bytes
 have hml : c.maxLocals = 4 := hml0
 have hown : s.vm.findClass "java/lang/String" = some m.cls := findClass_of_methodNamed Bd.named
 have hnm := (name_of_methodNamed Bd.named Bd.method).1
 have X0 : Stand p l e rM1_0_0_40 s m #[(.ref o0), (.ref o1), (.int (ofNat cn)), (.int 0)] below meth c s₁ [] 0 0 := Stand.of_body Bd
 have e0 : s₁.heap = h0 := by rw [← hh, Bd.state]; rfl
 have N0 := Fr.nil n0
 have K0 := Keep.refl h0 [o1]
 refine own_enter (QQ := rm29_Q Z o0 o1 cn cs sb k n vs k2 Cn vd h0 n0) (ef_rm29 m o0 o1 cn) ?_
 show own_Run p e below s _ _ _ s₁ (mkF m 0 #[.val (.ref o0), .val (.ref o1), .val (.int (ofNat cn)), .val (.int 0)] [])
 refine oP s₁ (mkF m 1 #[oR o0, oR o1, oI (ofNat cn), oI 0] [(.ref o0)]) (fun t k => ?_) ?_
 ·skip
  refine XS.aloadN X0.here hx rfl (d28 hby 0) rfl rfl ?_
  exact k
 obtain ⟨cq1, kq1, q1a, q1b, q1c⟩ := isOf hZ e0 E_o0
 obtain ⟨_, _, ⟨T1, L1, k1, n1⟩, -, X1, ⟨Lc1, hQ1, l1, y1, z1⟩, st1⟩ := X0.virtualBack hx (y := yM0) (z := yM0) hown (mvT hZ (own_w hw 138)) (mvT hZ (own_w hw 139)) (notFace_of_selects (args := #[]) (mvT hZ (own_w hw 141))) (mvT hZ (own_w hw 141)) (mvT hZ (own_w hw 140)) (by decide) (backOf (W := 0) (rm25 l Z a0 hw [] o0 cs h0 n0 Z0 O0 S_cs hcs E_o0 F_coder_o0) hZ (own_w hw 142) (own_w hw 3) (by decide) (by decide)) q1a q1c (g := (mkF m 1 #[oR o0, oR o1, oI (ofNat cn), oI 0] [(.ref o0)])) rfl (by rw [hml]; rfl) (Steps.refl _) (argsL := []) (rest := []) (lenOf pd_0 rfl) rfl (by show 2 * 0 + _ ≤ _; exact Nat.le_of_eq rfl) (d28 hby 1) (fun _ _ => ⟨rfl, e0, (by decide : 0 + 0 ≤ _), (by decide : 0 + 0 ≤ _)⟩)
 dsimp only [Pt.U, Pt.locs, Pt.cells, Pt.slots] at X1 l1 y1 z1 st1 hQ1
 subst l1 y1 z1
 obtain ⟨rfl, N1q, eq1⟩ := hQ1
 have N1 := Fr.app N0 N1q
 refine own_step (fun t k => st1.trans k) ?_
 refine oP T1 (mkF m 9 #[oR o0, oR o1, oI (ofNat cn), oI 0] [(.ref o0)]) (fun t k => ?_) ?_
 ·skip
  refine XS.iloadN X1.here hx rfl (d28 hby 2) rfl ?_
  refine XS.icmpNo X1.here hx rfl (d28 hby 3) rfl (teq rfl).2 ?_
  refine XS.aloadN X1.here hx rfl (d28 hby 4) rfl rfl ?_
  exact k
 obtain ⟨T3, X3, e3, st3⟩ := getF X1 hx hZ hown (host := "") (Or.inl (own_w hw 28)) Via.refl eq1 F_value_o0 (g := (mkF m 9 #[oR o0, oR o1, oI (ofNat cn), oI 0] [(.ref o0)])) rfl rfl (d28 hby 5)
 refine own_step st3 ?_
 refine oP T3 (mkF m 17 #[oR o0, oR o1, oI (ofNat cn), oI 0] [(.int ((ofNat cn) <<< ((0 : Int32) &&& 31))), (.ref o1), (.int 0), (.ref sb)]) (fun t k => ?_) ?_
 ·skip
  refine XS.iconst X3.here hx rfl (d28 hby 6) ?_
  refine XS.aloadN X3.here hx rfl (d28 hby 7) rfl rfl ?_
  refine XS.iloadN X3.here hx rfl (d28 hby 8) rfl ?_
  refine XS.iloadN X3.here hx rfl (d28 hby 9) rfl ?_
  refine XS.ishl X3.here hx rfl (d28 hby 10) rfl ?_
  exact k
 rw [show (((ofNat cn) <<< ((0 : Int32) &&& 31)) : Int32) = (ofNat cn) from own_shl0 _]
 refine oP T3 (mkF m 18 #[oR o0, oR o1, oI (ofNat cn), oI 0] [(.ref o0), (.int (ofNat cn)), (.ref o1), (.int 0), (.ref sb)]) (fun t k => ?_) ?_
 ·skip
  refine XS.aloadN X3.here hx rfl (d28 hby 11) rfl rfl ?_
  exact k
 obtain ⟨T4, X4, e4, st4⟩ := getF X3 hx hZ hown (host := "") (Or.inl (own_w hw 28)) Via.refl e3 F_value_o0 (g := (mkF m 18 #[oR o0, oR o1, oI (ofNat cn), oI 0] [(.ref o0), (.int (ofNat cn)), (.ref o1), (.int 0), (.ref sb)])) rfl rfl (d28 hby 12)
 refine own_step st4 ?_
 obtain ⟨cl5, Arcl5, -, Scl5, Mcl5, -, -⟩ := id V_sb
 refine oP T4 (mkF m 22 #[oR o0, oR o1, oI (ofNat cn), oI 0] [(.int (ofNat n)), (.int (ofNat cn)), (.ref o1), (.int 0), (.ref sb)]) (fun t k => ?_) ?_
 ·skip
  refine X4.arraylength hx (by rw [e4]; exact Arcl5.1) (State.isArrayOf_alike hZ.alike Arcl5.2.1) (g := (mkF m 21 #[oR o0, oR o1, oI (ofNat cn), oI 0] [(.ref sb), (.int (ofNat cn)), (.ref o1), (.int 0), (.ref sb)])) rfl rfl (d28 hby 13) _ ?_
  rw [len_of Scl5 Mcl5]
  exact k
 obtain ⟨T6, h6, Lq6, X6, e6, N6, Kq6, Va6, st6⟩ := cpA X4 hx hZ hown (own_w hw 166) (own_w hw 169) (own_w hw 167) (own_w hw 168) e4 V_sb V_o1 (Or.inl ⟨rfl, rfl⟩) (sp := (0 : Int32)) (dp := (ofNat cn)) (nn := (ofNat n)) (us := vs) (by decide) (own_nn _ (by omega)) (own_nn _ (by omega)) (by rw [own_tn (by omega)]; exact Nat.le_of_eq (Nat.zero_add _)) (by rw [own_tn (by omega), own_tn (by omega), own_tn (by omega)]; omega) (own_us (by omega) hvs) (by rw [own_tn (by omega), own_tn (by omega)]; omega) N1 g_o1 (g := (mkF m 22 #[oR o0, oR o1, oI (ofNat cn), oI 0] [(.int (ofNat n)), (.int (ofNat cn)), (.ref o1), (.int 0), (.ref sb)])) rfl (by rw [hml]; rfl) (rest := []) rfl (d28 hby 14) (by decide) (W := 0) (by show 2 * 0 + _ ≤ _; exact Nat.le_of_eq rfl) (by decide)
 have V7 : Arv Z h6 o1 k2 .byte (ofNat Cn) (vd.take cn ++ vs ++ vd.drop (cn + n)) (.int 0) := by have q := Va6; rw [own_tn (show cn < 2147483648 by omega), own_tn (show n < 2147483648 by omega)] at q; exact q
 have K14 := K0.trans Kq6 (allS (Or.inl (List.mem_of_getElem? (i := 0) rfl)) all0)
 refine own_step st6 ?_
 refine oP T6 (mkF m 43 #[oR o0, oR o1, oI (ofNat cn), oI 0] []) (fun t k => ?_) ?_
 ·skip
  refine XS.goto X6.here hx rfl (pc0 := 25) (pc' := 43) rfl (d28 hby 15) (by decide) (by decide) ?_
  exact k
 refine own_retV X6 hx Bd.returns (d28 hby 25) (BodyLoose.notSynchronized Bd) (by decide) (by decide) ?_
 rw [show T6.heap = h6 from e6]
 exact ⟨rfl, N6, K14, V7⟩
def D26 : List (Nat × Instr × Nat) := [(0, .aload_n 0, 1), (1, .aload_n 2, 1), (2, .invokevirtual 397, 3), (5, .aload_n 2, 1), (6, .aload_n 0, 1), (7, .getfield 15, 3), (10, .iload_n 1, 1), (11, .aload_n 0, 1), (12, .getfield 22, 3), (15, .invokevirtual 399, 3), (18, .return_, 1)]
theorem A26 : ∀ q ∈ D26, decode jdk_68_method_73_code q.1 = .ok q.2 := by decide +kernel
theorem d26 {c : Code} (h0 : c.code = jdk_68_method_73_code) (i : Nat) {pc n : Nat} {q : Instr} (h : D26[i]? = some (pc, q, n) := by rfl) : decode c.code pc = .ok (q, n) := hb h0 (A26 (pc, q, n) (List.mem_of_getElem? h))
theorem pn_rm27 : plainName "java/lang/AbstractStringBuilder" = true := by first | (simp [plainName, overriddenIn]; done) | decide +kernel
theorem ef_rm27 (m : MethodId) (o0 : Addr) (cn : Nat) (o2 : Addr) : entryFrame m #[(.ref o0), (.int (ofNat cn)), (.ref o2)] 3 = mkF m 0 #[.val (.ref o0), .val (.int (ofNat cn)), .val (.ref o2)] [] := by first | (simp [entryFrame, mkF, argsToLocals, Value.category, maxLocals]; done) | rfl
def rm27_Q (Z : State) (o0 : Addr) (cn : Nat) (o2 : Addr) (cs : Int32) (b : Addr) (sb : Addr) (k : ClassId) (n : Nat) (vs : List Value) (k2 : ClassId) (Cn : Nat) (vd : List Value) (h0 : Heap) (n0 : Nat) (v : Option Value) (h : Heap) (L : List Loc) : Prop := v = none ∧ Fr n0 L ∧ Keep h0 h [b] ∧ Arv Z h b k2 .byte (ofNat Cn) (vd.take cn ++ vs ++ vd.drop (cn + n)) (.int 0)
set_option maxRecDepth 65536 in
set_option maxHeartbeats 40000000 in
theorem rm27 (l : Launch) (Z : State) (a0 : Array Value) (hw : ∀ d ∈ tables_1, d.before a0 Z = true) (ws : List Jvm.Cond) (o0 : Addr) (cn : Nat) (o2 : Addr) (cs : Int32) (b : Addr) (sb : Addr) (k : ClassId) (n : Nat) (vs : List Value) (k2 : ClassId) (Cn : Nat) (vd : List Value) (h0 : Heap) (n0 : Nat) (Z0 : n0 ≤ h0.size) (O0 : Old Z n0 h0) (S_cs : Sta Z Z.heap "java/lang/String" "COMPACT_STRINGS" "Z" (.int cs)) (hcs : ¬ cs = (0 : Int32)) (E_o0 : Exa Z h0 o0 "java/lang/StringBuilder") (F_value_o0 : Fld Z h0 o0 "java/lang/AbstractStringBuilder" "value" "[B" (.ref b)) (F_coder_o0 : Fld Z h0 o0 "java/lang/AbstractStringBuilder" "coder" "B" (.int 0)) (E_o2 : Exa Z h0 o2 "java/lang/String") (F_coder_o2 : Fld Z h0 o2 "java/lang/String" "coder" "B" (.int 0)) (F_value_o2 : Fld Z h0 o2 "java/lang/String" "value" "[B" (.ref sb)) (V_sb : Arv Z h0 sb k .byte (ofNat n) vs (.int 0)) (V_b : Arv Z h0 b k2 .byte (ofNat Cn) vd (.int 0)) (g_b : n0 ≤ b) (ne_o0_b : o0 ≠ b) (ne_o2_b : o2 ≠ b) (ne_sb_b : sb ≠ b) (hvs : vs.length = n) (hvd : vd.length = Cn) (hle : cn + n ≤ Cn) (hC : Cn ≤ 1024) :
  MetFree l yM10 (head1 (Jvm.Cond.code yM10 jdk_68_method_73_code 3 none :: ws) rM2_0_0_55) (fun a U => a = #[(.ref o0), (.int (ofNat cn)), (.ref o2)] ∧ Z.Warmed39 U.vm ∧ U.heap = h0) (fun _ _ _ _ _ => True) (fun _ U o U' => ∃ v L, o = .returned v ∧ rm27_Q Z o0 cn o2 cs b sb k n vs k2 Cn vd h0 n0 v U'.heap L ∧ FrameEnd U o U' L rM2_0_0_55.cells rM2_0_0_55.slots) := by
 refine MetFree.of_bodySF (plainFor_of_name pn_rm27) hisR ?_
 intro p e s m args below meth c s₁ Bd hml0 hP hK
 obtain ⟨rfl, hZ, hh⟩ := hP
 have hx := Bd.exec
 have hby := Bd.bytes
 have hml : c.maxLocals = 3 := hml0
 have hown : s.vm.findClass "java/lang/AbstractStringBuilder" = some m.cls := findClass_of_methodNamed Bd.named
 have hnm := (name_of_methodNamed Bd.named Bd.method).1
 have X0 : Stand p l e rM2_0_0_55 s m #[(.ref o0), (.int (ofNat cn)), (.ref o2)] below meth c s₁ [] 0 0 := Stand.of_body Bd
 have e0 : s₁.heap = h0 := by rw [← hh, Bd.state]; rfl
 have N0 := Fr.nil n0
 have K0 := Keep.refl h0 [b]
 refine own_enter (QQ := rm27_Q Z o0 cn o2 cs b sb k n vs k2 Cn vd h0 n0) (ef_rm27 m o0 cn o2) ?_
 show own_Run p e below s _ _ _ s₁ (mkF m 0 #[.val (.ref o0), .val (.int (ofNat cn)), .val (.ref o2)] [])
 refine oP s₁ (mkF m 2 #[oR o0, oI (ofNat cn), oR o2] [(.ref o2), (.ref o0)]) (fun t k => ?_) ?_
 ·skip
  refine XS.aloadN X0.here hx rfl (d26 hby 0) rfl rfl ?_
  refine XS.aloadN X0.here hx rfl (d26 hby 1) rfl rfl ?_
  exact k
 obtain ⟨cq1, qq1, qr1⟩ := E_o0.cell
 obtain ⟨_, _, ⟨T1, L1, k1, n1⟩, -, X1, ⟨Lc1, hQ1, l1, y1, z1⟩, st1⟩ := X0.privateBack hx (y := yM8) hown (mvT hZ (own_w hw 155)) (mvT hZ (own_w hw 156)) (own_selP (mvT hZ (own_w hw 158)) (Cond.privateMethod_at (mvP hZ (own_w hw 157) (args := #[]))) (mvT hZ (own_w hw 156)) (by decide)) (Cond.privateMethod_at (mvP hZ (own_w hw 157) (args := #[]))) (mvT hZ (own_w hw 159)) (by decide) (backOf (W := 0) (rm28 l Z a0 hw [] o0 o2 cs h0 n0 Z0 O0 S_cs hcs E_o0 F_coder_o0 E_o2 F_coder_o2) hZ (own_w hw 159) (own_w hw 114) (by decide) (by decide)) (g := (mkF m 2 #[oR o0, oI (ofNat cn), oR o2] [(.ref o2), (.ref o0)])) rfl (by rw [hml]; rfl) (Steps.refl _) (a := o0) (by rw [e0]; exact qq1) qr1 (argsL := [(.ref o2)]) (rest := []) (lenOf pd_5 rfl) rfl (by show 2 * 0 + _ ≤ _; exact Nat.le_of_eq rfl) (d26 hby 2) (fun _ _ => ⟨rfl, e0, (by decide : 0 + 0 ≤ _), (by decide : 0 + 0 ≤ _)⟩)
 dsimp only [Pt.U, Pt.locs, Pt.cells, Pt.slots] at X1 l1 y1 z1 st1 hQ1
 subst l1 y1 z1
 obtain ⟨rfl, N1q, eq1⟩ := hQ1
 have N1 := Fr.app N0 N1q
 refine own_step (fun t k => st1.trans k) ?_
 refine oP T1 (mkF m 7 #[oR o0, oI (ofNat cn), oR o2] [(.ref o0), (.ref o2)]) (fun t k => ?_) ?_
 ·skip
  refine XS.aloadN X1.here hx rfl (d26 hby 3) rfl rfl ?_
  refine XS.aloadN X1.here hx rfl (d26 hby 4) rfl rfl ?_
  exact k
 obtain ⟨T2, X2, e2, st2⟩ := getF X1 hx hZ hown (host := "") (Or.inl (own_w hw 118)) Via.refl eq1 F_value_o0 (g := (mkF m 7 #[oR o0, oI (ofNat cn), oR o2] [(.ref o0), (.ref o2)])) rfl rfl (d26 hby 5)
 refine own_step st2 ?_
 refine oP T2 (mkF m 12 #[oR o0, oI (ofNat cn), oR o2] [(.ref o0), (.int (ofNat cn)), (.ref b), (.ref o2)]) (fun t k => ?_) ?_
 ·skip
  refine XS.iloadN X2.here hx rfl (d26 hby 6) rfl ?_
  refine XS.aloadN X2.here hx rfl (d26 hby 7) rfl rfl ?_
  exact k
 obtain ⟨T3, X3, e3, st3⟩ := getF X2 hx hZ hown (host := "") (Or.inl (own_w hw 120)) Via.refl e2 F_coder_o0 (g := (mkF m 12 #[oR o0, oI (ofNat cn), oR o2] [(.ref o0), (.int (ofNat cn)), (.ref b), (.ref o2)])) rfl rfl (d26 hby 8)
 refine own_step st3 ?_
 obtain ⟨cq4, kq4, q4a, q4b, q4c⟩ := isOf hZ e3 E_o2
 obtain ⟨_, _, ⟨T4, L4, k4, n4⟩, -, X4, ⟨Lc4, hQ4, l4, y4, z4⟩, st4⟩ := X3.virtualBack hx (y := yM9) (z := yM9) hown (mvT hZ (own_w hw 161)) (mvT hZ (own_w hw 162)) (notFace_of_selects (args := #[]) (mvT hZ (own_w hw 164))) (mvT hZ (own_w hw 164)) (mvT hZ (own_w hw 163)) (by decide) (backOf (W := 0) (rm29 l Z a0 hw [] o2 b cn cs sb k n vs k2 Cn vd h0 n0 Z0 O0 S_cs hcs E_o2 F_coder_o2 F_value_o2 V_sb V_b g_b ne_o2_b ne_sb_b hvs hvd hle hC) hZ (own_w hw 165) (own_w hw 3) (by decide) (by decide)) q4a q4c (g := (mkF m 15 #[oR o0, oI (ofNat cn), oR o2] [(.int 0), (.int (ofNat cn)), (.ref b), (.ref o2)])) rfl (by rw [hml]; rfl) (Steps.refl _) (argsL := [(.ref b), (.int (ofNat cn)), (.int 0)]) (rest := []) (lenOf pd_6 rfl) rfl (by show 2 * 0 + _ ≤ _; exact Nat.le_of_eq rfl) (d26 hby 9) (fun _ _ => ⟨rfl, e3, (by decide : 0 + 0 ≤ _), (by decide : 0 + 0 ≤ _)⟩)
 dsimp only [Pt.U, Pt.locs, Pt.cells, Pt.slots] at X4 l4 y4 z4 st4 hQ4
 subst l4 y4 z4
 obtain ⟨rfl, N4q, Kq4, Vq4⟩ := hQ4
 have N4 := Fr.app N1 N4q
 refine own_step (fun t k => st4.trans k) ?_
 have K14 := K0.trans Kq4 (allS (Or.inl (List.mem_of_getElem? (i := 0) rfl)) all0)
 refine own_retV X4 hx Bd.returns (d26 hby 10) (BodyLoose.notSynchronized Bd) (by decide) (by decide) ?_
 exact ⟨rfl, N4, K14, Vq4⟩
theorem own_capl (C m : Nat) : m ≤ own_cap C m := by
 unfold own_cap own_nc
 split <;> omega
theorem own_capb {C m : Nat} (hC : C ≤ 250) (hm : m ≤ 250) : own_cap C m ≤ 512 := by
 unfold own_cap own_nc
 split <;> omega
theorem own_ktr {h0 h1 h2 : Heap} {o b b1 : Addr} (K : Keep h0 h1 [o, b]) (K' : Keep h1 h2 [b1]) (hb : b1 = b ∨ h0.size ≤ b1) : Keep h0 h2 [o, b] :=
 K.trans K' (allS (hb.elim (fun q => Or.inl (by rw [q]; simp)) Or.inr) all0)
def D22 : List (Nat × Instr × Nat) := [(0, .aload_n 1, 1), (1, .ifnonnull 8, 3), (4, .aload_n 0, 1), (5, .invokevirtual 204, 3), (8, .areturn, 1), (9, .aload_n 1, 1), (10, .invokevirtual 32, 3), (13, .istore_n 2, 1), (14, .aload_n 0, 1), (15, .aload_n 0, 1), (16, .getfield 79, 3), (19, .iload_n 2, 1), (20, .iadd, 1), (21, .invokevirtual 100, 3), (24, .aload_n 0, 1), (25, .aload_n 0, 1), (26, .getfield 79, 3), (29, .aload_n 1, 1), (30, .invokevirtual 208, 3), (33, .aload_n 0, 1), (34, .dup, 1), (35, .getfield 79, 3), (38, .iload_n 2, 1), (39, .iadd, 1), (40, .putfield 79, 3), (43, .aload_n 0, 1), (44, .areturn, 1)]
theorem A22 : ∀ q ∈ D22, decode jdk_68_method_22_code q.1 = .ok q.2 := by decide +kernel
theorem d22 {c : Code} (h0 : c.code = jdk_68_method_22_code) (i : Nat) {pc n : Nat} {q : Instr} (h : D22[i]? = some (pc, q, n) := by rfl) : decode c.code pc = .ok (q, n) := hb h0 (A22 (pc, q, n) (List.mem_of_getElem? h))
theorem pn_rm23 : plainName "java/lang/AbstractStringBuilder" = true := by first | (simp [plainName, overriddenIn]; done) | decide +kernel
theorem ef_rm23 (m : MethodId) (o0 : Addr) (o1 : Addr) : entryFrame m #[(.ref o0), (.ref o1)] 3 = mkF m 0 #[.val (.ref o0), .val (.ref o1), .unset] [] := by first | (simp [entryFrame, mkF, argsToLocals, Value.category, maxLocals]; done) | rfl
def rm23_Q (Z : State) (o0 : Addr) (o1 : Addr) (cs : Int32) (b : Addr) (sb : Addr) (k : ClassId) (n : Nat) (vs : List Value) (k2 : ClassId) (Cn : Nat) (Lc : List Value) (h0 : Heap) (n0 : Nat) (v : Option Value) (h : Heap) (L : List Loc) : Prop := ∃ (b1 : Addr) (k1 : ClassId) (C1 : Nat), v = some (.ref o0) ∧ Fr n0 L ∧ Keep h0 h [o0, b] ∧ Exa Z h o0 "java/lang/StringBuilder" ∧ Fld Z h o0 "java/lang/AbstractStringBuilder" "value" "[B" (.ref b1) ∧ Fld Z h o0 "java/lang/AbstractStringBuilder" "coder" "B" (.int 0) ∧ Fld Z h o0 "java/lang/AbstractStringBuilder" "count" "I" (.int (ofNat (Lc.length + n))) ∧ Arv Z h b1 k1 .byte (ofNat C1) (own_buf (Lc ++ vs) C1) (.int 0) ∧ Exa Z h b1 "[B" ∧ C1 = own_cap Cn (Lc.length + n) ∧ n0 ≤ b1 ∧ b1 ≠ o0 ∧ (b1 = b ∨ h0.size ≤ b1)
set_option maxRecDepth 65536 in
set_option maxHeartbeats 40000000 in
theorem rm23 (l : Launch) (Z : State) (a0 : Array Value) (hw : ∀ d ∈ tables_1, d.before a0 Z = true) (ws : List Jvm.Cond) (o0 : Addr) (o1 : Addr) (cs : Int32) (b : Addr) (sb : Addr) (k : ClassId) (n : Nat) (vs : List Value) (k2 : ClassId) (Cn : Nat) (Lc : List Value) (h0 : Heap) (n0 : Nat) (Z0 : n0 ≤ h0.size) (O0 : Old Z n0 h0) (S_cs : Sta Z Z.heap "java/lang/String" "COMPACT_STRINGS" "Z" (.int cs)) (hcs : ¬ cs = (0 : Int32)) (E_o0 : Exa Z h0 o0 "java/lang/StringBuilder") (F_value_o0 : Fld Z h0 o0 "java/lang/AbstractStringBuilder" "value" "[B" (.ref b)) (F_coder_o0 : Fld Z h0 o0 "java/lang/AbstractStringBuilder" "coder" "B" (.int 0)) (F_count_o0 : Fld Z h0 o0 "java/lang/AbstractStringBuilder" "count" "I" (.int (ofNat Lc.length))) (g_o0 : n0 ≤ o0) (V_b : Arv Z h0 b k2 .byte (ofNat Cn) (own_buf Lc Cn) (.int 0)) (A_b : Exa Z h0 b "[B") (g_b : n0 ≤ b) (E_o1 : Exa Z h0 o1 "java/lang/String") (F_coder_o1 : Fld Z h0 o1 "java/lang/String" "coder" "B" (.int 0)) (F_value_o1 : Fld Z h0 o1 "java/lang/String" "value" "[B" (.ref sb)) (V_sb : Arv Z h0 sb k .byte (ofNat n) vs (.int 0)) (ne_o1_o0 : o1 ≠ o0) (ne_sb_o0 : sb ≠ o0) (ne_b_o0 : b ≠ o0) (ne_o1_b : o1 ≠ b) (ne_sb_b : sb ≠ b) (hvs : vs.length = n) (hL : Lc.length ≤ Cn) (hC : Cn ≤ 250) (hm : Lc.length + n ≤ 250) :
  MetFree l yM11 (head1 (Jvm.Cond.code yM11 jdk_68_method_22_code 3 (some (.object "java/lang/AbstractStringBuilder")) :: ws) rM4_1_512_69) (fun a U => a = #[(.ref o0), (.ref o1)] ∧ Z.Warmed39 U.vm ∧ U.heap = h0) (fun _ _ _ _ _ => True) (fun _ U o U' => ∃ v L, o = .returned v ∧ rm23_Q Z o0 o1 cs b sb k n vs k2 Cn Lc h0 n0 v U'.heap L ∧ FrameEnd U o U' L rM4_1_512_69.cells rM4_1_512_69.slots) := by
 refine MetFree.of_bodySF (plainFor_of_name pn_rm23) hisR ?_
 intro p e s m args below meth c s₁ Bd hml0 hP hK
 obtain ⟨rfl, hZ, hh⟩ := hP
 have hx := Bd.exec
 have hby := Bd.bytes
 have hml : c.maxLocals = 3 := hml0
 have hown : s.vm.findClass "java/lang/AbstractStringBuilder" = some m.cls := findClass_of_methodNamed Bd.named
 have hnm := (name_of_methodNamed Bd.named Bd.method).1
 have X0 : Stand p l e rM4_1_512_69 s m #[(.ref o0), (.ref o1)] below meth c s₁ [] 0 0 := Stand.of_body Bd
 have e0 : s₁.heap = h0 := by rw [← hh, Bd.state]; rfl
 have N0 := Fr.nil n0
 have K0 := Keep.refl h0 [o0, b]
 refine own_enter (QQ := rm23_Q Z o0 o1 cs b sb k n vs k2 Cn Lc h0 n0) (ef_rm23 m o0 o1) ?_
 show own_Run p e below s _ _ _ s₁ (mkF m 0 #[.val (.ref o0), .val (.ref o1), .unset] [])
 refine oP s₁ (mkF m 10 #[oR o0, oR o1, .unset] [(.ref o1)]) (fun t k => ?_) ?_
 ·skip
  refine XS.aloadN X0.here hx rfl (d22 hby 0) rfl rfl ?_
  refine XS.ifnonnullYes X0.here hx rfl (pc0 := 1) (pc' := 9) rfl (d22 hby 1) rfl (by decide) (by decide) ?_
  refine XS.aloadN X0.here hx rfl (d22 hby 5) rfl rfl ?_
  exact k
 obtain ⟨cq1, kq1, q1a, q1b, q1c⟩ := isOf hZ e0 E_o1
 obtain ⟨_, _, ⟨T1, L1, k1, n1⟩, -, X1, ⟨Lc1, hQ1, l1, y1, z1⟩, st1⟩ := X0.virtualBack hx (y := yM1) (z := yM1) hown (mvT hZ (own_w hw 133)) (mvT hZ (own_w hw 134)) (notFace_of_selects (args := #[]) (mvT hZ (own_w hw 136))) (mvT hZ (own_w hw 136)) (mvT hZ (own_w hw 135)) (by decide) (backOf (W := 0) (rm24 l Z a0 hw [] o1 cs sb k (ofNat n) vs h0 n0 Z0 O0 S_cs hcs E_o1 F_coder_o1 F_value_o1 V_sb) hZ (own_w hw 137) (own_w hw 3) (by decide) (by decide)) q1a q1c (g := (mkF m 10 #[oR o0, oR o1, .unset] [(.ref o1)])) rfl (by rw [hml]; rfl) (Steps.refl _) (argsL := []) (rest := []) (lenOf pd_7 rfl) rfl (by show 2 * 0 + _ ≤ _; exact Nat.le_of_eq rfl) (d22 hby 6) (fun _ _ => ⟨rfl, e0, (by decide : 0 + 0 ≤ _), (by decide : 0 + 0 ≤ _)⟩)
 dsimp only [Pt.U, Pt.locs, Pt.cells, Pt.slots] at X1 l1 y1 z1 st1 hQ1
 subst l1 y1 z1
 obtain ⟨rfl, N1q, eq1⟩ := hQ1
 have N1 := Fr.app N0 N1q
 refine own_step (fun t k => st1.trans k) ?_
 refine oP T1 (mkF m 16 #[oR o0, oR o1, oI (ofNat n)] [(.ref o0), (.ref o0)]) (fun t k => ?_) ?_
 ·skip
  refine XS.istoreN X1.here hx rfl (d22 hby 7) rfl (l' := #[oR o0, oR o1, oI (ofNat n)]) rfl ?_
  refine XS.aloadN X1.here hx rfl (d22 hby 8) rfl rfl ?_
  refine XS.aloadN X1.here hx rfl (d22 hby 9) rfl rfl ?_
  exact k
 obtain ⟨T2, X2, e2, st2⟩ := getF X1 hx hZ hown (host := "") (Or.inl (own_w hw 143)) Via.refl eq1 F_count_o0 (g := (mkF m 16 #[oR o0, oR o1, oI (ofNat n)] [(.ref o0), (.ref o0)])) rfl rfl (d22 hby 10)
 refine own_step st2 ?_
 refine oP T2 (mkF m 21 #[oR o0, oR o1, oI (ofNat n)] [(.int ((ofNat Lc.length) + (ofNat n))), (.ref o0)]) (fun t k => ?_) ?_
 ·skip
  refine XS.iloadN X2.here hx rfl (d22 hby 11) rfl ?_
  refine XS.iadd X2.here hx rfl (d22 hby 12) rfl ?_
  exact k
 rw [show (((ofNat Lc.length) + (ofNat n)) : Int32) = (ofNat (Lc.length + n)) from own_add _ _]
 obtain ⟨cq3, qq3, qr3⟩ := E_o0.cell
 obtain ⟨_, _, ⟨T3, L3, k3, n3⟩, -, X3, ⟨Lc3, hQ3, l3, y3, z3⟩, st3⟩ := X2.privateBack hx (y := yM7) hown (mvT hZ (own_w hw 145)) (mvT hZ (own_w hw 146)) (own_selP (mvT hZ (own_w hw 148)) (Cond.privateMethod_at (mvP hZ (own_w hw 147) (args := #[]))) (mvT hZ (own_w hw 146)) (by decide)) (Cond.privateMethod_at (mvP hZ (own_w hw 147) (args := #[]))) (mvT hZ (own_w hw 149)) (by decide) (backOf (W := 0) (rm26 l Z a0 hw [] o0 (Lc.length + n) b (ofNat Lc.length) k2 Cn Lc h0 n0 Z0 E_o0 F_value_o0 F_coder_o0 F_count_o0 g_o0 V_b A_b g_b ne_b_o0 hL hC hm) hZ (own_w hw 149) (own_w hw 114) (by decide) (by decide)) (g := (mkF m 21 #[oR o0, oR o1, oI (ofNat n)] [(.int (ofNat (Lc.length + n))), (.ref o0)])) rfl (by rw [hml]; rfl) (Steps.refl _) (a := o0) (by rw [e2]; exact qq3) qr3 (argsL := [(.int (ofNat (Lc.length + n)))]) (rest := []) (lenOf pd_8 rfl) rfl (by show 2 * 0 + _ ≤ _; exact Nat.le_of_eq rfl) (d22 hby 13) (fun _ _ => ⟨rfl, e2, (by decide : 0 + 1 ≤ _), (by decide : 0 + 512 ≤ _)⟩)
 dsimp only [Pt.U, Pt.locs, Pt.cells, Pt.slots] at X3 l3 y3 z3 st3 hQ3
 subst l3 y3 z3
 obtain ⟨b1, k1, C1, rfl, N3q, Kq3, E1, F1, G1, H1, V1, A1, hC1, g_b1, ne_b1_o0, hb1⟩ := hQ3
 have N3 := Fr.app N1 N3q
 refine own_step (fun t k => st3.trans k) ?_
 have ne_o1_b1 : o1 ≠ b1 := own_ne2 hb1 ne_o1_b E_o1.lt
 have ne_sb_b1 : sb ≠ b1 := own_ne2 hb1 ne_sb_b V_sb.lt
 have F4 := F_coder_o1.keep Kq3 (ninS ne_o1_o0 nin0)
 have F5 := F_value_o1.keep Kq3 (ninS ne_o1_o0 nin0)
 have A7 := E_o1.keep Kq3
 have V8 := V_sb.keep Kq3 (ninS ne_sb_o0 nin0)
 have O9 := O0.keep Kq3 (allS g_o0 all0)
 have Z10 := Nat.le_trans Z0 Kq3.1
 have K11 := K0.trans Kq3 (allS (Or.inl (List.mem_of_getElem? (i := 0) rfl)) all0)
 have hle1 : Lc.length + n ≤ C1 := by rw [hC1]; exact own_capl _ _
 have hC1b : C1 ≤ 512 := by rw [hC1]; exact own_capb hC hm
 refine oP T3 (mkF m 26 #[oR o0, oR o1, oI (ofNat n)] [(.ref o0), (.ref o0)]) (fun t k => ?_) ?_
 ·skip
  refine XS.aloadN X3.here hx rfl (d22 hby 14) rfl rfl ?_
  refine XS.aloadN X3.here hx rfl (d22 hby 15) rfl rfl ?_
  exact k
 obtain ⟨T12, X12, e12, st12⟩ := getF X3 hx hZ hown (host := "") (Or.inl (own_w hw 143)) Via.refl rfl H1 (g := (mkF m 26 #[oR o0, oR o1, oI (ofNat n)] [(.ref o0), (.ref o0)])) rfl rfl (d22 hby 16)
 refine own_step st12 ?_
 refine oP T12 (mkF m 30 #[oR o0, oR o1, oI (ofNat n)] [(.ref o1), (.int (ofNat Lc.length)), (.ref o0)]) (fun t k => ?_) ?_
 ·skip
  refine XS.aloadN X12.here hx rfl (d22 hby 17) rfl rfl ?_
  exact k
 obtain ⟨cq13, qq13, qr13⟩ := E1.cell
 obtain ⟨_, _, ⟨T13, L13, k13, n13⟩, -, X13, ⟨Lc13, hQ13, l13, y13, z13⟩, st13⟩ := X12.privateBack hx (y := yM10) hown (mvT hZ (own_w hw 150)) (mvT hZ (own_w hw 151)) (own_selP (mvT hZ (own_w hw 153)) (Cond.privateMethod_at (mvP hZ (own_w hw 152) (args := #[]))) (mvT hZ (own_w hw 151)) (by decide)) (Cond.privateMethod_at (mvP hZ (own_w hw 152) (args := #[]))) (mvT hZ (own_w hw 154)) (by decide) (backOf (W := 0) (rm27 l Z a0 hw [] o0 Lc.length o1 cs b1 sb k n vs k1 C1 (own_buf Lc C1) T3.heap n0 Z10 O9 S_cs hcs E1 F1 G1 A7 F4 F5 V8 V1 g_b1 (Ne.symm ne_b1_o0) ne_o1_b1 ne_sb_b1 hvs (own_bufl (by omega)) hle1 (by omega)) hZ (own_w hw 154) (own_w hw 114) (by decide) (by decide)) (g := (mkF m 30 #[oR o0, oR o1, oI (ofNat n)] [(.ref o1), (.int (ofNat Lc.length)), (.ref o0)])) rfl (by rw [hml]; rfl) (Steps.refl _) (a := o0) (by rw [e12]; exact qq13) qr13 (argsL := [(.int (ofNat Lc.length)), (.ref o1)]) (rest := []) (lenOf pd_9 rfl) rfl (by show 2 * 0 + _ ≤ _; exact Nat.le_of_eq rfl) (d22 hby 18) (fun _ _ => ⟨rfl, e12, (by decide : 1 + 0 ≤ _), (by decide : 512 + 0 ≤ _)⟩)
 dsimp only [Pt.U, Pt.locs, Pt.cells, Pt.slots] at X13 l13 y13 z13 st13 hQ13
 subst l13 y13 z13
 obtain ⟨rfl, N13q, Kq13, Vq13⟩ := hQ13
 have N13 := Fr.app N3 N13q
 refine own_step (fun t k => st13.trans k) ?_
 have F16 := F1.keep Kq13 (ninS (Ne.symm ne_b1_o0) nin0)
 have F17 := G1.keep Kq13 (ninS (Ne.symm ne_b1_o0) nin0)
 have F18 := H1.keep Kq13 (ninS (Ne.symm ne_b1_o0) nin0)
 have A19 := E1.keep Kq13
 have A21 := A1.keep Kq13
 have K25 := own_ktr K11 Kq13 hb1
 rw [own_put rfl hvs hle1] at Vq13
 refine oP T13 (mkF m 35 #[oR o0, oR o1, oI (ofNat n)] [(.ref o0), (.ref o0)]) (fun t k => ?_) ?_
 ·skip
  refine XS.aloadN X13.here hx rfl (d22 hby 19) rfl rfl ?_
  refine XS.dup X13.here hx rfl (d22 hby 20) rfl rfl ?_
  exact k
 obtain ⟨T26, X26, e26, st26⟩ := getF X13 hx hZ hown (host := "") (Or.inl (own_w hw 143)) Via.refl rfl F18 (g := (mkF m 35 #[oR o0, oR o1, oI (ofNat n)] [(.ref o0), (.ref o0)])) rfl rfl (d22 hby 21)
 refine own_step st26 ?_
 refine oP T26 (mkF m 40 #[oR o0, oR o1, oI (ofNat n)] [(.int ((ofNat Lc.length) + (ofNat n))), (.ref o0)]) (fun t k => ?_) ?_
 ·skip
  refine XS.iloadN X26.here hx rfl (d22 hby 22) rfl ?_
  refine XS.iadd X26.here hx rfl (d22 hby 23) rfl ?_
  exact k
 rw [show (((ofNat Lc.length) + (ofNat n)) : Int32) = (ofNat (Lc.length + n)) from own_add _ _]
 obtain ⟨T27, h27, X27, e27, W27, st27⟩ := putF X26 hx hZ hown (host := "") (Or.inl (own_w hw 143)) Via.refl e26 F18 A19 (Or.inl (own_w hw 144)) (own_w hw 105) (ty := .int) (by decide) rfl rfl (g := (mkF m 40 #[oR o0, oR o1, oI (ofNat n)] [(.int (ofNat (Lc.length + n))), (.ref o0)])) rfl rfl (d22 hby 24)
 have F28 := F18.same W27
 have F31 := F16.other W27 (Or.inr (slot_ne (Or.inl (own_w hw 119)) (Or.inl (own_w hw 144)) (by decide) (t := (.array .byte)) (t' := .int) (by decide) (by decide)))
 have F32 := F17.other W27 (Or.inr (slot_ne (Or.inl (own_w hw 121)) (Or.inl (own_w hw 144)) (by decide) (t := .byte) (t' := .int) (by decide) (by decide)))
 have A33 := A19.wr W27
 have A35 := A21.wr W27
 have V37 := Vq13.other W27 ne_b1_o0
 have K27 := K25.wr W27 (Or.inl (List.mem_of_getElem? (i := 0) rfl))
 have N27 := Fr.snoc X27 N13 g_o0
 refine own_step st27 ?_
 refine oP T27 (mkF m 44 #[oR o0, oR o1, oI (ofNat n)] [(.ref o0)]) (fun t k => ?_) ?_
 ·skip
  refine XS.aloadN X27.here hx rfl (d22 hby 25) rfl rfl ?_
  exact k
 refine own_retA X27 hx Bd.returns rfl rfl (d22 hby 26) (BodyLoose.notSynchronized Bd) (by decide) (by decide) ?_
 rw [show T27.heap = h27 from e27]
 exact ⟨b1, k1, C1, rfl, N27, K27, A33, F31, F32, F28, V37, A35, hC1, g_b1, ne_b1_o0, hb1⟩
def D21 : List (Nat × Instr × Nat) := [(0, .aload_n 0, 1), (1, .aload_n 1, 1), (2, .invokespecial 29, 3), (5, .pop, 1), (6, .aload_n 0, 1), (7, .areturn, 1)]
theorem A21 : ∀ q ∈ D21, decode jdk_67_method_7_code q.1 = .ok q.2 := by decide +kernel
theorem d21 {c : Code} (h0 : c.code = jdk_67_method_7_code) (i : Nat) {pc n : Nat} {q : Instr} (h : D21[i]? = some (pc, q, n) := by rfl) : decode c.code pc = .ok (q, n) := hb h0 (A21 (pc, q, n) (List.mem_of_getElem? h))
theorem pn_rm22 : plainName "java/lang/StringBuilder" = true := by first | (simp [plainName, overriddenIn]; done) | decide +kernel
theorem ef_rm22 (m : MethodId) (o0 : Addr) (o1 : Addr) : entryFrame m #[(.ref o0), (.ref o1)] 2 = mkF m 0 #[.val (.ref o0), .val (.ref o1)] [] := by first | (simp [entryFrame, mkF, argsToLocals, Value.category, maxLocals]; done) | rfl
def rm22_Q (Z : State) (o0 : Addr) (o1 : Addr) (cs : Int32) (b : Addr) (sb : Addr) (k : ClassId) (n : Nat) (vs : List Value) (k2 : ClassId) (Cn : Nat) (Lc : List Value) (h0 : Heap) (n0 : Nat) (v : Option Value) (h : Heap) (L : List Loc) : Prop := ∃ (b1 : Addr) (k1 : ClassId) (C1 : Nat), v = some (.ref o0) ∧ Fr n0 L ∧ Keep h0 h [o0, b] ∧ Exa Z h o0 "java/lang/StringBuilder" ∧ Fld Z h o0 "java/lang/AbstractStringBuilder" "value" "[B" (.ref b1) ∧ Fld Z h o0 "java/lang/AbstractStringBuilder" "coder" "B" (.int 0) ∧ Fld Z h o0 "java/lang/AbstractStringBuilder" "count" "I" (.int (ofNat (Lc.length + n))) ∧ Arv Z h b1 k1 .byte (ofNat C1) (own_buf (Lc ++ vs) C1) (.int 0) ∧ Exa Z h b1 "[B" ∧ C1 = own_cap Cn (Lc.length + n) ∧ n0 ≤ b1 ∧ b1 ≠ o0 ∧ (b1 = b ∨ h0.size ≤ b1)
set_option maxRecDepth 65536 in
set_option maxHeartbeats 40000000 in
theorem rm22 (l : Launch) (Z : State) (a0 : Array Value) (hw : ∀ d ∈ tables_1, d.before a0 Z = true) (ws : List Jvm.Cond) (o0 : Addr) (o1 : Addr) (cs : Int32) (b : Addr) (sb : Addr) (k : ClassId) (n : Nat) (vs : List Value) (k2 : ClassId) (Cn : Nat) (Lc : List Value) (h0 : Heap) (n0 : Nat) (Z0 : n0 ≤ h0.size) (O0 : Old Z n0 h0) (S_cs : Sta Z Z.heap "java/lang/String" "COMPACT_STRINGS" "Z" (.int cs)) (hcs : ¬ cs = (0 : Int32)) (E_o0 : Exa Z h0 o0 "java/lang/StringBuilder") (F_value_o0 : Fld Z h0 o0 "java/lang/AbstractStringBuilder" "value" "[B" (.ref b)) (F_coder_o0 : Fld Z h0 o0 "java/lang/AbstractStringBuilder" "coder" "B" (.int 0)) (F_count_o0 : Fld Z h0 o0 "java/lang/AbstractStringBuilder" "count" "I" (.int (ofNat Lc.length))) (g_o0 : n0 ≤ o0) (V_b : Arv Z h0 b k2 .byte (ofNat Cn) (own_buf Lc Cn) (.int 0)) (A_b : Exa Z h0 b "[B") (g_b : n0 ≤ b) (E_o1 : Exa Z h0 o1 "java/lang/String") (F_coder_o1 : Fld Z h0 o1 "java/lang/String" "coder" "B" (.int 0)) (F_value_o1 : Fld Z h0 o1 "java/lang/String" "value" "[B" (.ref sb)) (V_sb : Arv Z h0 sb k .byte (ofNat n) vs (.int 0)) (ne_o1_o0 : o1 ≠ o0) (ne_sb_o0 : sb ≠ o0) (ne_b_o0 : b ≠ o0) (ne_o1_b : o1 ≠ b) (ne_sb_b : sb ≠ b) (hvs : vs.length = n) (hL : Lc.length ≤ Cn) (hC : Cn ≤ 250) (hm : Lc.length + n ≤ 250) :
  MetFree l yM12 (head1 (Jvm.Cond.code yM12 jdk_67_method_7_code 2 (some (.object "java/lang/StringBuilder")) :: ws) rM5_1_512_83) (fun a U => a = #[(.ref o0), (.ref o1)] ∧ Z.Warmed39 U.vm ∧ U.heap = h0) (fun _ _ _ _ _ => True) (fun _ U o U' => ∃ v L, o = .returned v ∧ rm22_Q Z o0 o1 cs b sb k n vs k2 Cn Lc h0 n0 v U'.heap L ∧ FrameEnd U o U' L rM5_1_512_83.cells rM5_1_512_83.slots) := by
 refine MetFree.of_bodySF (plainFor_of_name pn_rm22) hisR ?_
 intro p e s m args below meth c s₁ Bd hml0 hP hK
 obtain ⟨rfl, hZ, hh⟩ := hP
 have hx := Bd.exec
 have hby := Bd.bytes
 have hml : c.maxLocals = 2 := hml0
 have hown : s.vm.findClass "java/lang/StringBuilder" = some m.cls := findClass_of_methodNamed Bd.named
 have hnm := (name_of_methodNamed Bd.named Bd.method).1
 have X0 : Stand p l e rM5_1_512_83 s m #[(.ref o0), (.ref o1)] below meth c s₁ [] 0 0 := Stand.of_body Bd
 have e0 : s₁.heap = h0 := by rw [← hh, Bd.state]; rfl
 have N0 := Fr.nil n0
 have K0 := Keep.refl h0 [o0, b]
 refine own_enter (QQ := rm22_Q Z o0 o1 cs b sb k n vs k2 Cn Lc h0 n0) (ef_rm22 m o0 o1) ?_
 show own_Run p e below s _ _ _ s₁ (mkF m 0 #[.val (.ref o0), .val (.ref o1)] [])
 refine oP s₁ (mkF m 2 #[oR o0, oR o1] [(.ref o1), (.ref o0)]) (fun t k => ?_) ?_
 ·skip
  refine XS.aloadN X0.here hx rfl (d21 hby 0) rfl rfl ?_
  refine XS.aloadN X0.here hx rfl (d21 hby 1) rfl rfl ?_
  exact k
 obtain ⟨_, _, ⟨T1, L1, k1, n1⟩, -, X1, ⟨Lc1, hQ1, l1, y1, z1⟩, st1⟩ := superBack X0 hx hZ (y := yM11) hown (own_w hw 128) (own_same (z := yM7) (own_w hw 131) (own_w hw 148) rfl (by decide)) (own_w hw 129) (own_w hw 130) (by decide) (backOf (W := 0) (rm23 l Z a0 hw [] o0 o1 cs b sb k n vs k2 Cn Lc h0 n0 Z0 O0 S_cs hcs E_o0 F_value_o0 F_coder_o0 F_count_o0 g_o0 V_b A_b g_b E_o1 F_coder_o1 F_value_o1 V_sb ne_o1_o0 ne_sb_o0 ne_b_o0 ne_o1_b ne_sb_b hvs hL hC hm) hZ (own_w hw 132) (own_w hw 114) (by decide) (by decide)) e0 (Ins.self E_o0) (g := (mkF m 2 #[oR o0, oR o1] [(.ref o1), (.ref o0)])) rfl (by rw [hml]; rfl) (own_w hw 132) (argsL := [(.ref o1)]) (rest := []) (lenOf pd_10 rfl) rfl (by show 2 * 0 + _ ≤ _; exact Nat.le_of_eq rfl) (d21 hby 2) (fun _ _ => ⟨rfl, e0, (by decide : 0 + 1 ≤ _), (by decide : 0 + 512 ≤ _)⟩)
 dsimp only [Pt.U, Pt.locs, Pt.cells, Pt.slots] at X1 l1 y1 z1 st1 hQ1
 subst l1 y1 z1
 obtain ⟨b1, k1, C1, rfl, N1q, Kq1, E1, F1, G1, H1, V1, A1, hC1, g_b1, ne_b1_o0, hb1⟩ := hQ1
 have N1 := Fr.app N0 N1q
 refine own_step (fun t k => st1.trans k) ?_
 refine oP T1 (mkF m 7 #[oR o0, oR o1] [(.ref o0)]) (fun t k => ?_) ?_
 ·skip
  refine XS.pop X1.here hx rfl (d21 hby 3) rfl rfl ?_
  refine XS.aloadN X1.here hx rfl (d21 hby 4) rfl rfl ?_
  exact k
 refine own_retA X1 hx Bd.returns rfl rfl (d21 hby 5) (BodyLoose.notSynchronized Bd) (by decide) (by decide) ?_
 exact ⟨b1, k1, C1, rfl, N1, Kq1, E1, F1, G1, H1, V1, A1, hC1, g_b1, ne_b1_o0, hb1⟩
def D20 : List (Nat × Instr × Nat) := [(0, .aload_n 0, 1), (1, .invokespecial 3, 3), (4, .getstatic 18, 3), (7, .ifCond .eq 18, 3), (10, .aload_n 0, 1), (11, .iload_n 1, 1), (12, .newarray .byte, 2), (14, .putfield 15, 3), (17, .aload_n 0, 1), (18, .iconst 0, 1), (19, .putfield 22, 3), (22, .goto 16, 3), (25, .aload_n 0, 1), (26, .iload_n 1, 1), (27, .invokestatic 26, 3), (30, .putfield 15, 3), (33, .aload_n 0, 1), (34, .iconst 1, 1), (35, .putfield 22, 3), (38, .return_, 1)]
theorem A20 : ∀ q ∈ D20, decode jdk_68_method_2_code q.1 = .ok q.2 := by decide +kernel
theorem d20 {c : Code} (h0 : c.code = jdk_68_method_2_code) (i : Nat) {pc n : Nat} {q : Instr} (h : D20[i]? = some (pc, q, n) := by rfl) : decode c.code pc = .ok (q, n) := hb h0 (A20 (pc, q, n) (List.mem_of_getElem? h))
theorem pn_rm21 : plainName "java/lang/AbstractStringBuilder" = true := by first | (simp [plainName, overriddenIn]; done) | decide +kernel
theorem ef_rm21 (m : MethodId) (o0 : Addr) : entryFrame m #[(.ref o0), (.int 16)] 2 = mkF m 0 #[.val (.ref o0), .val (.int 16)] [] := by first | (simp [entryFrame, mkF, argsToLocals, Value.category, maxLocals]; done) | rfl
def rm21_Q (Z : State) (o0 : Addr) (cs : Int32) (h0 : Heap) (n0 : Nat) (v : Option Value) (h : Heap) (L : List Loc) : Prop := ∃ (b : Addr) (k1 : ClassId), v = none ∧ Fr n0 L ∧ Keep h0 h [o0] ∧ Exa Z h o0 "java/lang/StringBuilder" ∧ Fld Z h o0 "java/lang/AbstractStringBuilder" "value" "[B" (.ref b) ∧ Fld Z h o0 "java/lang/AbstractStringBuilder" "coder" "B" (.int 0) ∧ Fld Z h o0 "java/lang/AbstractStringBuilder" "count" "I" (.int (ofNat 0)) ∧ Arv Z h b k1 .byte (ofNat 16) (own_buf [] 16) (.int 0) ∧ Exa Z h b "[B" ∧ h0.size ≤ b
set_option maxRecDepth 65536 in
set_option maxHeartbeats 40000000 in
theorem rm21 (l : Launch) (Z : State) (a0 : Array Value) (hw : ∀ d ∈ tables_1, d.before a0 Z = true) (ws : List Jvm.Cond) (o0 : Addr) (cs : Int32) (h0 : Heap) (n0 : Nat) (Z0 : n0 ≤ h0.size) (O0 : Old Z n0 h0) (S_cs : Sta Z Z.heap "java/lang/String" "COMPACT_STRINGS" "Z" (.int cs)) (hcs : ¬ cs = (0 : Int32)) (E_o0 : Exa Z h0 o0 "java/lang/StringBuilder") (F_value_o0 : Fld Z h0 o0 "java/lang/AbstractStringBuilder" "value" "[B" .null) (F_coder_o0 : Fld Z h0 o0 "java/lang/AbstractStringBuilder" "coder" "B" (.int 0)) (F_count_o0 : Fld Z h0 o0 "java/lang/AbstractStringBuilder" "count" "I" (.int 0)) (g_o0 : n0 ≤ o0) :
  MetFree l yM13 (head1 (Jvm.Cond.code yM13 jdk_68_method_2_code 2 none :: ws) rM1_1_16_12) (fun a U => a = #[(.ref o0), (.int 16)] ∧ Z.Warmed39 U.vm ∧ U.heap = h0) (fun _ _ _ _ _ => True) (fun _ U o U' => ∃ v L, o = .returned v ∧ rm21_Q Z o0 cs h0 n0 v U'.heap L ∧ FrameEnd U o U' L rM1_1_16_12.cells rM1_1_16_12.slots) := by
 refine MetFree.of_bodySF (plainFor_of_name pn_rm21) hisR ?_
 intro p e s m args below meth c s₁ Bd hml0 hP hK
 obtain ⟨rfl, hZ, hh⟩ := hP
 have hx := Bd.exec
 have hby := Bd.bytes
 have hml : c.maxLocals = 2 := hml0
 have hown : s.vm.findClass "java/lang/AbstractStringBuilder" = some m.cls := findClass_of_methodNamed Bd.named
 have hnm := (name_of_methodNamed Bd.named Bd.method).1
 have X0 : Stand p l e rM1_1_16_12 s m #[(.ref o0), (.int 16)] below meth c s₁ [] 0 0 := Stand.of_body Bd
 have e0 : s₁.heap = h0 := by rw [← hh, Bd.state]; rfl
 have N0 := Fr.nil n0
 have K0 := Keep.refl h0 [o0]
 refine own_enter (QQ := rm21_Q Z o0 cs h0 n0) (ef_rm21 m o0) ?_
 show own_Run p e below s _ _ _ s₁ (mkF m 0 #[.val (.ref o0), .val (.int 16)] [])
 refine oP s₁ (mkF m 1 #[oR o0, oI 16] [(.ref o0)]) (fun t k => ?_) ?_
 ·skip
  refine XS.aloadN X0.here hx rfl (d20 hby 0) rfl rfl ?_
  exact k
 obtain ⟨T1, X1, e1, st1⟩ := initO X0 hx hZ hown (own_w hw 116) (own_w hw 12) (own_w hw 13) e0 (g := (mkF m 1 #[oR o0, oI 16] [(.ref o0)])) rfl (by rw [hml]; rfl) rfl (d20 hby 1) (by decide) (W := 0) (by show 2 * 0 + _ ≤ _; exact Nat.le_of_eq rfl) (by decide)
 refine own_step st1 ?_
 obtain ⟨T2, X2, e2, st2⟩ := getS2 X1 hx hZ hown (host := "") (Or.inl (own_w hw 117)) Via.refl e1 (S_cs.ext O0.2) (g := (mkF m 4 #[oR o0, oI 16] [])) rfl (d20 hby 2)
 refine own_step st2 ?_
 refine oP T2 (mkF m 12 #[oR o0, oI 16] [(.int 16), (.ref o0)]) (fun t k => ?_) ?_
 ·skip
  refine XS.ifNo X2.here hx rfl (d20 hby 3) rfl ((if0 _ _).trans (feq hcs).1) ?_
  refine XS.aloadN X2.here hx rfl (d20 hby 4) rfl rfl ?_
  refine XS.iloadN X2.here hx rfl (d20 hby 5) rfl ?_
  exact k
 obtain ⟨T4, h4, k4, X4, e4, E4, B4, A4, st4⟩ := newPE X2 hx hZ (own_w hw 19) e2 (g := (mkF m 12 #[oR o0, oI 16] [(.int 16), (.ref o0)])) rfl (d20 hby 6 (q := .newarray .byte)) rfl (by decide) (cap := 16) (by decide) (by decide) (by decide) (by decide) (ad := "[B") (by decide)
 obtain ⟨b4, g4⟩ : ∃ z, z = h0.size := ⟨_, rfl⟩
 have ne5 : o0 ≠ b4 := Nat.ne_of_lt (Nat.lt_of_lt_of_le F_value_o0.lt (Nat.le_of_eq g4.symm))
 have sz_b4 : h0.size ≤ b4 := Nat.le_trans K0.1 (Nat.le_of_eq g4.symm)
 rw [← g4] at A4 B4 st4
 have F6 := F_value_o0.ext E4
 have F7 := F_coder_o0.ext E4
 have F8 := F_count_o0.ext E4
 have A9 := E_o0.ext E4
 have K4 := K0.ext E4
 have V11 : Arv Z h4 b4 k4 .byte (16 : Int32) [(.int 0), (.int 0), (.int 0), (.int 0), (.int 0), (.int 0), (.int 0), (.int 0), (.int 0), (.int 0), (.int 0), (.int 0), (.int 0), (.int 0), (.int 0), (.int 0)] (.int 0) := (Arv.new B4 (by decide)).pad (pad_rep [] (.int 0) 16)
 refine own_step st4 ?_
 obtain ⟨T13, h13, X13, e13, W13, st13⟩ := putF X4 hx hZ hown (host := "") (Or.inl (own_w hw 118)) Via.refl e4 F6 A9 (Or.inl (own_w hw 119)) (own_w hw 105) (ty := (.array .byte)) (by decide) rfl rfl (g := (mkF m 14 #[oR o0, oI 16] [(.ref b4), (.ref o0)])) rfl rfl (d20 hby 7)
 have F14 := F6.same W13
 have F15 := F7.other W13 (Or.inr (slot_ne (Or.inl (own_w hw 121)) (Or.inl (own_w hw 119)) (by decide) (t := .byte) (t' := (.array .byte)) (by decide) (by decide)))
 have F16 := F8.other W13 (Or.inr (slot_ne (Or.inl (own_w hw 144)) (Or.inl (own_w hw 119)) (by decide) (t := .int) (t' := (.array .byte)) (by decide) (by decide)))
 have A17 := A9.wr W13
 have A18 := A4.wr W13
 have V19 := V11.other W13 (Ne.symm ne5)
 have K13 := K4.wr W13 (Or.inl (List.mem_of_getElem? (i := 0) rfl))
 have N13 := Fr.snoc X13 N0 g_o0
 refine own_step st13 ?_
 refine oP T13 (mkF m 19 #[oR o0, oI 16] [(.int 0), (.ref o0)]) (fun t k => ?_) ?_
 ·skip
  refine XS.aloadN X13.here hx rfl (d20 hby 8) rfl rfl ?_
  refine XS.iconst X13.here hx rfl (d20 hby 9) ?_
  exact k
 obtain ⟨T22, h22, X22, e22, W22, st22⟩ := putFN X13 hx hZ hown (own_w hw 120) Via.refl e13 F15 A17 (Or.inl (own_w hw 121)) (own_w hw 105) (ty := .byte) (v' := (.int (nar .byte (0 : Int32)))) (by decide) rfl (fits_nar_byte _) (g := (mkF m 19 #[oR o0, oI 16] [(.int 0), (.ref o0)])) rfl rfl (d20 hby 10)
 have F23 := F15.same W22
 have F24 := F14.other W22 (Or.inr (slot_ne (Or.inl (own_w hw 119)) (Or.inl (own_w hw 121)) (by decide) (t := (.array .byte)) (t' := .byte) (by decide) (by decide)))
 have F25 := F16.other W22 (Or.inr (slot_ne (Or.inl (own_w hw 144)) (Or.inl (own_w hw 121)) (by decide) (t := .int) (t' := .byte) (by decide) (by decide)))
 have A26 := A17.wr W22
 have A27 := A18.wr W22
 have V28 := V19.other W22 (Ne.symm ne5)
 have K22 := K13.wr W22 (Or.inl (List.mem_of_getElem? (i := 0) rfl))
 have N22 := Fr.snoc X22 N13 g_o0
 refine own_step st22 ?_
 refine oP T22 (mkF m 38 #[oR o0, oI 16] []) (fun t k => ?_) ?_
 ·skip
  refine XS.goto X22.here hx rfl (pc0 := 22) (pc' := 38) rfl (d20 hby 11) (by decide) (by decide) ?_
  exact k
 refine own_retV X22 hx Bd.returns (d20 hby 19) (BodyLoose.notSynchronized Bd) (by decide) (by decide) ?_
 rw [show T22.heap = h22 from e22]
 exact ⟨b4, k4, rfl, N22, K22, A26, F24, F23, F25, V28, A27, sz_b4⟩
def D19 : List (Nat × Instr × Nat) := [(0, .aload_n 0, 1), (1, .bipush 16, 2), (3, .invokespecial 1, 3), (6, .return_, 1)]
theorem A19 : ∀ q ∈ D19, decode jdk_67_method_1_code q.1 = .ok q.2 := by decide +kernel
theorem d19 {c : Code} (h0 : c.code = jdk_67_method_1_code) (i : Nat) {pc n : Nat} {q : Instr} (h : D19[i]? = some (pc, q, n) := by rfl) : decode c.code pc = .ok (q, n) := hb h0 (A19 (pc, q, n) (List.mem_of_getElem? h))
theorem pn_rm20 : plainName "java/lang/StringBuilder" = true := by first | (simp [plainName, overriddenIn]; done) | decide +kernel
theorem ef_rm20 (m : MethodId) (o0 : Addr) : entryFrame m #[(.ref o0)] 1 = mkF m 0 #[.val (.ref o0)] [] := by first | (simp [entryFrame, mkF, argsToLocals, Value.category, maxLocals]; done) | rfl
def rm20_Q (Z : State) (o0 : Addr) (cs : Int32) (h0 : Heap) (n0 : Nat) (v : Option Value) (h : Heap) (L : List Loc) : Prop := ∃ (b : Addr) (k1 : ClassId), v = none ∧ Fr n0 L ∧ Keep h0 h [o0] ∧ Exa Z h o0 "java/lang/StringBuilder" ∧ Fld Z h o0 "java/lang/AbstractStringBuilder" "value" "[B" (.ref b) ∧ Fld Z h o0 "java/lang/AbstractStringBuilder" "coder" "B" (.int 0) ∧ Fld Z h o0 "java/lang/AbstractStringBuilder" "count" "I" (.int (ofNat 0)) ∧ Arv Z h b k1 .byte (ofNat 16) (own_buf [] 16) (.int 0) ∧ Exa Z h b "[B" ∧ h0.size ≤ b
set_option maxRecDepth 65536 in
set_option maxHeartbeats 40000000 in
theorem rm20 (l : Launch) (Z : State) (a0 : Array Value) (hw : ∀ d ∈ tables_1, d.before a0 Z = true) (ws : List Jvm.Cond) (o0 : Addr) (cs : Int32) (h0 : Heap) (n0 : Nat) (Z0 : n0 ≤ h0.size) (O0 : Old Z n0 h0) (S_cs : Sta Z Z.heap "java/lang/String" "COMPACT_STRINGS" "Z" (.int cs)) (hcs : ¬ cs = (0 : Int32)) (E_o0 : Exa Z h0 o0 "java/lang/StringBuilder") (F_value_o0 : Fld Z h0 o0 "java/lang/AbstractStringBuilder" "value" "[B" .null) (F_coder_o0 : Fld Z h0 o0 "java/lang/AbstractStringBuilder" "coder" "B" (.int 0)) (F_count_o0 : Fld Z h0 o0 "java/lang/AbstractStringBuilder" "count" "I" (.int 0)) (g_o0 : n0 ≤ o0) :
  MetFree l yM14 (head1 (Jvm.Cond.code yM14 jdk_67_method_1_code 1 none :: ws) rM2_1_16_25) (fun a U => a = #[(.ref o0)] ∧ Z.Warmed39 U.vm ∧ U.heap = h0) (fun _ _ _ _ _ => True) (fun _ U o U' => ∃ v L, o = .returned v ∧ rm20_Q Z o0 cs h0 n0 v U'.heap L ∧ FrameEnd U o U' L rM2_1_16_25.cells rM2_1_16_25.slots) := by
 refine MetFree.of_bodySF (plainFor_of_name pn_rm20) hisR ?_
 intro p e s m args below meth c s₁ Bd hml0 hP hK
 obtain ⟨rfl, hZ, hh⟩ := hP
 have hx := Bd.exec
 have hby := Bd.bytes
 have hml : c.maxLocals = 1 := hml0
 have hown : s.vm.findClass "java/lang/StringBuilder" = some m.cls := findClass_of_methodNamed Bd.named
 have hnm := (name_of_methodNamed Bd.named Bd.method).1
 have X0 : Stand p l e rM2_1_16_25 s m #[(.ref o0)] below meth c s₁ [] 0 0 := Stand.of_body Bd
 have e0 : s₁.heap = h0 := by rw [← hh, Bd.state]; rfl
 have N0 := Fr.nil n0
 have K0 := Keep.refl h0 [o0]
 refine own_enter (QQ := rm20_Q Z o0 cs h0 n0) (ef_rm20 m o0) ?_
 show own_Run p e below s _ _ _ s₁ (mkF m 0 #[.val (.ref o0)] [])
 refine oP s₁ (mkF m 3 #[oR o0] [(.int 16), (.ref o0)]) (fun t k => ?_) ?_
 ·skip
  refine XS.aloadN X0.here hx rfl (d19 hby 0) rfl rfl ?_
  refine XS.bipush X0.here hx rfl (d19 hby 1) ?_
  exact k
 obtain ⟨_, _, ⟨T1, L1, k1, n1⟩, -, X1, ⟨Lc1, hQ1, l1, y1, z1⟩, st1⟩ := X0.specialBack hx (y := yM13) rfl hown (mvT hZ (own_w hw 110)) (mvT hZ (own_w hw 111)) (mvT hZ (own_w hw 115)) (by decide) (backOf (W := 0) (rm21 l Z a0 hw [] o0 cs h0 n0 Z0 O0 S_cs hcs E_o0 F_value_o0 F_coder_o0 F_count_o0 g_o0) hZ (own_w hw 115) (own_w hw 114) (by decide) (by decide)) (g := (mkF m 3 #[oR o0] [(.int 16), (.ref o0)])) rfl (by rw [hml]; rfl) (Steps.refl _) (a := o0) (argsL := [(.int 16)]) (rest := []) (lenOf pd_8 rfl) rfl (by show 2 * 0 + _ ≤ _; exact Nat.le_of_eq rfl) (d19 hby 2) (fun _ _ => ⟨rfl, e0, (by decide : 0 + 1 ≤ _), (by decide : 0 + 16 ≤ _)⟩)
 dsimp only [Pt.U, Pt.locs, Pt.cells, Pt.slots] at X1 l1 y1 z1 st1 hQ1
 subst l1 y1 z1
 obtain ⟨b, k1, rfl, N1q, Kq1, r1⟩ := hQ1
 have N1 := Fr.app N0 N1q
 refine own_step (fun t k => st1.trans k) ?_
 refine own_retV X1 hx Bd.returns (d19 hby 3) (BodyLoose.notSynchronized Bd) (by decide) (by decide) ?_
 exact ⟨b, k1, rfl, N1, Kq1, r1⟩
def D37 : List (Nat × Instr × Nat) := [(0, .aload_n 0, 1), (1, .getfield 15, 3), (4, .areturn, 1)]
theorem A37 : ∀ q ∈ D37, decode jdk_68_method_64_code q.1 = .ok q.2 := by decide +kernel
theorem d37 {c : Code} (h0 : c.code = jdk_68_method_64_code) (i : Nat) {pc n : Nat} {q : Instr} (h : D37[i]? = some (pc, q, n) := by rfl) : decode c.code pc = .ok (q, n) := hb h0 (A37 (pc, q, n) (List.mem_of_getElem? h))
theorem pn_rm38 : plainName "java/lang/AbstractStringBuilder" = true := by first | (simp [plainName, overriddenIn]; done) | decide +kernel
theorem ef_rm38 (m : MethodId) (o0 : Addr) : entryFrame m #[(.ref o0)] 1 = mkF m 0 #[.val (.ref o0)] [] := by first | (simp [entryFrame, mkF, argsToLocals, Value.category, maxLocals]; done) | rfl
def rm38_Q (Z : State) (o0 : Addr) (b : Addr) (h0 : Heap) (n0 : Nat) (v : Option Value) (h : Heap) (L : List Loc) : Prop := v = some (.ref b) ∧ Fr n0 L ∧ h = h0
set_option maxRecDepth 65536 in
set_option maxHeartbeats 40000000 in
theorem rm38 (l : Launch) (Z : State) (a0 : Array Value) (hw : ∀ d ∈ tables_1, d.before a0 Z = true) (ws : List Jvm.Cond) (o0 : Addr) (b : Addr) (h0 : Heap) (n0 : Nat) (Z0 : n0 ≤ h0.size) (E_o0 : Exa Z h0 o0 "java/lang/StringBuilder") (F_value_o0 : Fld Z h0 o0 "java/lang/AbstractStringBuilder" "value" "[B" (.ref b)) :
  MetFree l yM15 (head1 (Jvm.Cond.code yM15 jdk_68_method_64_code 1 (some (.array .byte)) :: ws) rM0_0_0_0) (fun a U => a = #[(.ref o0)] ∧ Z.Warmed39 U.vm ∧ U.heap = h0) (fun _ _ _ _ _ => True) (fun _ U o U' => ∃ v L, o = .returned v ∧ rm38_Q Z o0 b h0 n0 v U'.heap L ∧ FrameEnd U o U' L rM0_0_0_0.cells rM0_0_0_0.slots) := by
 refine MetFree.of_bodySF (plainFor_of_name pn_rm38) hisR ?_
 intro p e s m args below meth c s₁ Bd hml0 hP hK
 obtain ⟨rfl, hZ, hh⟩ := hP
 have hx := Bd.exec
 have hby := Bd.bytes
 have hml : c.maxLocals = 1 := hml0
 have hown : s.vm.findClass "java/lang/AbstractStringBuilder" = some m.cls := findClass_of_methodNamed Bd.named
 have hnm := (name_of_methodNamed Bd.named Bd.method).1
 have X0 : Stand p l e rM0_0_0_0 s m #[(.ref o0)] below meth c s₁ [] 0 0 := Stand.of_body Bd
 have e0 : s₁.heap = h0 := by rw [← hh, Bd.state]; rfl
 have N0 := Fr.nil n0
 refine own_enter (QQ := rm38_Q Z o0 b h0 n0) (ef_rm38 m o0) ?_
 show own_Run p e below s _ _ _ s₁ (mkF m 0 #[.val (.ref o0)] [])
 refine oP s₁ (mkF m 1 #[oR o0] [(.ref o0)]) (fun t k => ?_) ?_
 ·skip
  refine XS.aloadN X0.here hx rfl (d37 hby 0) rfl rfl ?_
  exact k
 obtain ⟨T1, X1, e1, st1⟩ := getF X0 hx hZ hown (host := "") (Or.inl (own_w hw 118)) Via.refl e0 F_value_o0 (g := (mkF m 1 #[oR o0] [(.ref o0)])) rfl rfl (d37 hby 1)
 refine own_step st1 ?_
 refine own_retA X1 hx Bd.returns rfl rfl (d37 hby 2) (BodyLoose.notSynchronized Bd) (by decide) (by decide) ?_
 rw [show T1.heap = h0 from e1]
 exact ⟨rfl, N0, rfl⟩
def D39 : List (Nat × Instr × Nat) := [(0, .aload_n 0, 1), (1, .getfield 79, 3), (4, .ireturn, 1)]
theorem A39 : ∀ q ∈ D39, decode jdk_68_method_6_code q.1 = .ok q.2 := by decide +kernel
theorem d39 {c : Code} (h0 : c.code = jdk_68_method_6_code) (i : Nat) {pc n : Nat} {q : Instr} (h : D39[i]? = some (pc, q, n) := by rfl) : decode c.code pc = .ok (q, n) := hb h0 (A39 (pc, q, n) (List.mem_of_getElem? h))
theorem pn_rm40 : plainName "java/lang/AbstractStringBuilder" = true := by first | (simp [plainName, overriddenIn]; done) | decide +kernel
theorem ef_rm40 (m : MethodId) (o0 : Addr) : entryFrame m #[(.ref o0)] 1 = mkF m 0 #[.val (.ref o0)] [] := by first | (simp [entryFrame, mkF, argsToLocals, Value.category, maxLocals]; done) | rfl
def rm40_Q (Z : State) (o0 : Addr) (ct : Int32) (h0 : Heap) (n0 : Nat) (v : Option Value) (h : Heap) (L : List Loc) : Prop := v = some (.int ct) ∧ Fr n0 L ∧ h = h0
set_option maxRecDepth 65536 in
set_option maxHeartbeats 40000000 in
theorem rm40 (l : Launch) (Z : State) (a0 : Array Value) (hw : ∀ d ∈ tables_1, d.before a0 Z = true) (ws : List Jvm.Cond) (o0 : Addr) (ct : Int32) (h0 : Heap) (n0 : Nat) (Z0 : n0 ≤ h0.size) (E_o0 : Exa Z h0 o0 "java/lang/StringBuilder") (F_count_o0 : Fld Z h0 o0 "java/lang/AbstractStringBuilder" "count" "I" (.int ct)) :
  MetFree l yM16 (head1 (Jvm.Cond.code yM16 jdk_68_method_6_code 1 (some .int) :: ws) rM0_0_0_0) (fun a U => a = #[(.ref o0)] ∧ Z.Warmed39 U.vm ∧ U.heap = h0) (fun _ _ _ _ _ => True) (fun _ U o U' => ∃ v L, o = .returned v ∧ rm40_Q Z o0 ct h0 n0 v U'.heap L ∧ FrameEnd U o U' L rM0_0_0_0.cells rM0_0_0_0.slots) := by
 refine MetFree.of_bodySF (plainFor_of_name pn_rm40) hisR ?_
 intro p e s m args below meth c s₁ Bd hml0 hP hK
 obtain ⟨rfl, hZ, hh⟩ := hP
 have hx := Bd.exec
 have hby := Bd.bytes
 have hml : c.maxLocals = 1 := hml0
 have hown : s.vm.findClass "java/lang/AbstractStringBuilder" = some m.cls := findClass_of_methodNamed Bd.named
 have hnm := (name_of_methodNamed Bd.named Bd.method).1
 have X0 : Stand p l e rM0_0_0_0 s m #[(.ref o0)] below meth c s₁ [] 0 0 := Stand.of_body Bd
 have e0 : s₁.heap = h0 := by rw [← hh, Bd.state]; rfl
 have N0 := Fr.nil n0
 refine own_enter (QQ := rm40_Q Z o0 ct h0 n0) (ef_rm40 m o0) ?_
 show own_Run p e below s _ _ _ s₁ (mkF m 0 #[.val (.ref o0)] [])
 refine oP s₁ (mkF m 1 #[oR o0] [(.ref o0)]) (fun t k => ?_) ?_
 ·skip
  refine XS.aloadN X0.here hx rfl (d39 hby 0) rfl rfl ?_
  exact k
 obtain ⟨T1, X1, e1, st1⟩ := getF X0 hx hZ hown (host := "") (Or.inl (own_w hw 143)) Via.refl e0 F_count_o0 (g := (mkF m 1 #[oR o0] [(.ref o0)])) rfl rfl (d39 hby 1)
 refine own_step st1 ?_
 refine own_retI X1 hx Bd.returns (d39 hby 2) (BodyLoose.notSynchronized Bd) (by decide) (by decide) ?_
 rw [show T1.heap = h0 from e1]
 exact ⟨rfl, N0, rfl⟩
def D38 : List (Nat × Instr × Nat) := [(0, .aload_n 0, 1), (1, .invokespecial 343, 3), (4, .ireturn, 1)]
theorem A38 : ∀ q ∈ D38, decode jdk_67_method_93_code q.1 = .ok q.2 := by decide +kernel
theorem d38 {c : Code} (h0 : c.code = jdk_67_method_93_code) (i : Nat) {pc n : Nat} {q : Instr} (h : D38[i]? = some (pc, q, n) := by rfl) : decode c.code pc = .ok (q, n) := hb h0 (A38 (pc, q, n) (List.mem_of_getElem? h))
theorem pn_rm39 : plainName "java/lang/StringBuilder" = true := by first | (simp [plainName, overriddenIn]; done) | decide +kernel
theorem ef_rm39 (m : MethodId) (o0 : Addr) : entryFrame m #[(.ref o0)] 1 = mkF m 0 #[.val (.ref o0)] [] := by first | (simp [entryFrame, mkF, argsToLocals, Value.category, maxLocals]; done) | rfl
def rm39_Q (Z : State) (o0 : Addr) (ct : Int32) (h0 : Heap) (n0 : Nat) (v : Option Value) (h : Heap) (L : List Loc) : Prop := v = some (.int ct) ∧ Fr n0 L ∧ h = h0
set_option maxRecDepth 65536 in
set_option maxHeartbeats 40000000 in
theorem rm39 (l : Launch) (Z : State) (a0 : Array Value) (hw : ∀ d ∈ tables_1, d.before a0 Z = true) (ws : List Jvm.Cond) (o0 : Addr) (ct : Int32) (h0 : Heap) (n0 : Nat) (Z0 : n0 ≤ h0.size) (E_o0 : Exa Z h0 o0 "java/lang/StringBuilder") (F_count_o0 : Fld Z h0 o0 "java/lang/AbstractStringBuilder" "count" "I" (.int ct)) :
  MetFree l yM17 (head1 (Jvm.Cond.code yM17 jdk_67_method_93_code 1 (some .int) :: ws) rM1_0_0_12) (fun a U => a = #[(.ref o0)] ∧ Z.Warmed39 U.vm ∧ U.heap = h0) (fun _ _ _ _ _ => True) (fun _ U o U' => ∃ v L, o = .returned v ∧ rm39_Q Z o0 ct h0 n0 v U'.heap L ∧ FrameEnd U o U' L rM1_0_0_12.cells rM1_0_0_12.slots) := by
 refine MetFree.of_bodySF (plainFor_of_name pn_rm39) hisR ?_
 intro p e s m args below meth c s₁ Bd hml0 hP hK
 obtain ⟨rfl, hZ, hh⟩ := hP
 have hx := Bd.exec
 have hby := Bd.bytes
 have hml : c.maxLocals = 1 := hml0
 have hown : s.vm.findClass "java/lang/StringBuilder" = some m.cls := findClass_of_methodNamed Bd.named
 have hnm := (name_of_methodNamed Bd.named Bd.method).1
 have X0 : Stand p l e rM1_0_0_12 s m #[(.ref o0)] below meth c s₁ [] 0 0 := Stand.of_body Bd
 have e0 : s₁.heap = h0 := by rw [← hh, Bd.state]; rfl
 have N0 := Fr.nil n0
 refine own_enter (QQ := rm39_Q Z o0 ct h0 n0) (ef_rm39 m o0) ?_
 show own_Run p e below s _ _ _ s₁ (mkF m 0 #[.val (.ref o0)] [])
 refine oP s₁ (mkF m 1 #[oR o0] [(.ref o0)]) (fun t k => ?_) ?_
 ·skip
  refine XS.aloadN X0.here hx rfl (d38 hby 0) rfl rfl ?_
  exact k
 obtain ⟨_, _, ⟨T1, L1, k1, n1⟩, -, X1, ⟨Lc1, hQ1, l1, y1, z1⟩, st1⟩ := superBack X0 hx hZ (y := yM16) hown (own_w hw 217) (own_same (z := yM7) (own_w hw 212) (own_w hw 148) rfl (by decide)) (own_w hw 213) (own_w hw 130) (by decide) (backOf (W := 0) (rm40 l Z a0 hw [] o0 ct h0 n0 Z0 E_o0 F_count_o0) hZ (own_w hw 218) (own_w hw 114) (by decide) (by decide)) e0 (Ins.self E_o0) (g := (mkF m 1 #[oR o0] [(.ref o0)])) rfl (by rw [hml]; rfl) (own_w hw 218) (argsL := []) (rest := []) (lenOf pd_7 rfl) rfl (by show 2 * 0 + _ ≤ _; exact Nat.le_of_eq rfl) (d38 hby 1) (fun _ _ => ⟨rfl, e0, (by decide : 0 + 0 ≤ _), (by decide : 0 + 0 ≤ _)⟩)
 dsimp only [Pt.U, Pt.locs, Pt.cells, Pt.slots] at X1 l1 y1 z1 st1 hQ1
 subst l1 y1 z1
 obtain ⟨rfl, N1q, eq1⟩ := hQ1
 have N1 := Fr.app N0 N1q
 refine own_step (fun t k => st1.trans k) ?_
 refine own_retI X1 hx Bd.returns (d38 hby 2) (BodyLoose.notSynchronized Bd) (by decide) (by decide) ?_
 rw [show T1.heap = h0 from eq1]
 exact ⟨rfl, N1, rfl⟩
def D40 : List (Nat × Instr × Nat) := [(0, .getstatic 18, 3), (3, .ifCond .eq 14, 3), (6, .aload_n 0, 1), (7, .getfield 22, 3), (10, .ifCond .ne 7, 3), (13, .iconst 1, 1), (14, .goto 4, 3), (17, .iconst 0, 1), (18, .ireturn, 1)]
theorem A40 : ∀ q ∈ D40, decode jdk_68_method_68_code q.1 = .ok q.2 := by decide +kernel
theorem d40 {c : Code} (h0 : c.code = jdk_68_method_68_code) (i : Nat) {pc n : Nat} {q : Instr} (h : D40[i]? = some (pc, q, n) := by rfl) : decode c.code pc = .ok (q, n) := hb h0 (A40 (pc, q, n) (List.mem_of_getElem? h))
theorem pn_rm41 : plainName "java/lang/AbstractStringBuilder" = true := by first | (simp [plainName, overriddenIn]; done) | decide +kernel
theorem ef_rm41 (m : MethodId) (o0 : Addr) : entryFrame m #[(.ref o0)] 1 = mkF m 0 #[.val (.ref o0)] [] := by first | (simp [entryFrame, mkF, argsToLocals, Value.category, maxLocals]; done) | rfl
def rm41_Q (Z : State) (o0 : Addr) (cs : Int32) (h0 : Heap) (n0 : Nat) (v : Option Value) (h : Heap) (L : List Loc) : Prop := v = some (.int 1) ∧ Fr n0 L ∧ h = h0
set_option maxRecDepth 65536 in
set_option maxHeartbeats 40000000 in
theorem rm41 (l : Launch) (Z : State) (a0 : Array Value) (hw : ∀ d ∈ tables_1, d.before a0 Z = true) (ws : List Jvm.Cond) (o0 : Addr) (cs : Int32) (h0 : Heap) (n0 : Nat) (Z0 : n0 ≤ h0.size) (O0 : Old Z n0 h0) (S_cs : Sta Z Z.heap "java/lang/String" "COMPACT_STRINGS" "Z" (.int cs)) (hcs : ¬ cs = (0 : Int32)) (E_o0 : Exa Z h0 o0 "java/lang/StringBuilder") (F_coder_o0 : Fld Z h0 o0 "java/lang/AbstractStringBuilder" "coder" "B" (.int 0)) :
  MetFree l yM18 (head1 (Jvm.Cond.code yM18 jdk_68_method_68_code 1 (some .boolean) :: ws) rM0_0_0_0) (fun a U => a = #[(.ref o0)] ∧ Z.Warmed39 U.vm ∧ U.heap = h0) (fun _ _ _ _ _ => True) (fun _ U o U' => ∃ v L, o = .returned v ∧ rm41_Q Z o0 cs h0 n0 v U'.heap L ∧ FrameEnd U o U' L rM0_0_0_0.cells rM0_0_0_0.slots) := by
 refine MetFree.of_bodySF (plainFor_of_name pn_rm41) hisR ?_
 intro p e s m args below meth c s₁ Bd hml0 hP hK
 obtain ⟨rfl, hZ, hh⟩ := hP
 have hx := Bd.exec
 have hby := Bd.bytes
 have hml : c.maxLocals = 1 := hml0
 have hown : s.vm.findClass "java/lang/AbstractStringBuilder" = some m.cls := findClass_of_methodNamed Bd.named
 have hnm := (name_of_methodNamed Bd.named Bd.method).1
 have X0 : Stand p l e rM0_0_0_0 s m #[(.ref o0)] below meth c s₁ [] 0 0 := Stand.of_body Bd
 have e0 : s₁.heap = h0 := by rw [← hh, Bd.state]; rfl
 have N0 := Fr.nil n0
 refine own_enter (QQ := rm41_Q Z o0 cs h0 n0) (ef_rm41 m o0) ?_
 show own_Run p e below s _ _ _ s₁ (mkF m 0 #[.val (.ref o0)] [])
 obtain ⟨T1, X1, e1, st1⟩ := getS2 X0 hx hZ hown (host := "") (Or.inl (own_w hw 117)) Via.refl e0 (S_cs.ext O0.2) (g := (mkF m 0 #[oR o0] [])) rfl (d40 hby 0)
 refine own_step st1 ?_
 refine oP T1 (mkF m 7 #[oR o0] [(.ref o0)]) (fun t k => ?_) ?_
 ·skip
  refine XS.ifNo X1.here hx rfl (d40 hby 1) rfl ((if0 _ _).trans (feq hcs).1) ?_
  refine XS.aloadN X1.here hx rfl (d40 hby 2) rfl rfl ?_
  exact k
 obtain ⟨T3, X3, e3, st3⟩ := getF X1 hx hZ hown (host := "") (Or.inl (own_w hw 120)) Via.refl e1 F_coder_o0 (g := (mkF m 7 #[oR o0] [(.ref o0)])) rfl rfl (d40 hby 3)
 refine own_step st3 ?_
 refine oP T3 (mkF m 18 #[oR o0] [(.int 1)]) (fun t k => ?_) ?_
 ·skip
  refine XS.ifNo X3.here hx rfl (d40 hby 4) rfl ((if0 _ _).trans (teq rfl).2) ?_
  refine XS.iconst X3.here hx rfl (d40 hby 5) ?_
  refine XS.goto X3.here hx rfl (pc0 := 14) (pc' := 18) rfl (d40 hby 6) (by decide) (by decide) ?_
  exact k
 refine own_retN X3 hx (t := .boolean) Bd.returns (by simp) (d40 hby 8) (BodyLoose.notSynchronized Bd) (by decide) (by decide) ?_
 rw [show T3.heap = h0 from e3]
 exact ⟨rfl, N0, rfl⟩
def D43 : List (Nat × Instr × Nat) := [(0, .iload_n 1, 1), (1, .iload_n 0, 1), (2, .if_icmp .ge 35, 3), (5, .new 43, 3), (8, .dup, 1), (9, .new 45, 3), (12, .dup, 1), (13, .invokespecial 47, 3), (16, .iload_n 0, 1), (17, .invokevirtual 54, 3), (20, .ldc_w 337, 3), (23, .invokevirtual 50, 3), (26, .iload_n 1, 1), (27, .invokevirtual 54, 3), (30, .invokevirtual 61, 3), (33, .invokespecial 65, 3), (36, .athrow, 1), (37, .return_, 1)]
theorem A43 : ∀ q ∈ D43, decode jdk_65_method_131_code q.1 = .ok q.2 := by decide +kernel
theorem d43 {c : Code} (h0 : c.code = jdk_65_method_131_code) (i : Nat) {pc n : Nat} {q : Instr} (h : D43[i]? = some (pc, q, n) := by rfl) : decode c.code pc = .ok (q, n) := hb h0 (A43 (pc, q, n) (List.mem_of_getElem? h))
theorem pn_rm44 : plainName "java/util/Arrays" = true := by first | (simp [plainName, overriddenIn]; done) | decide +kernel
theorem ef_rm44 (m : MethodId) (c_ : Nat) : entryFrame m #[(.int 0), (.int (ofNat c_))] 2 = mkF m 0 #[.val (.int 0), .val (.int (ofNat c_))] [] := by first | (simp [entryFrame, mkF, argsToLocals, Value.category, maxLocals]; done) | rfl
def rm44_Q (Z : State) (c_ : Nat)  (h0 : Heap) (n0 : Nat) (v : Option Value) (h : Heap) (L : List Loc) : Prop := v = none ∧ Fr n0 L ∧ h = h0
set_option maxRecDepth 65536 in
set_option maxHeartbeats 40000000 in
theorem rm44 (l : Launch) (Z : State) (a0 : Array Value) (hw : ∀ d ∈ tables_1, d.before a0 Z = true) (ws : List Jvm.Cond) (c_ : Nat)  (h0 : Heap) (n0 : Nat) (Z0 : n0 ≤ h0.size) (hc : c_ ≤ 1024) :
  MetFree l yM19 (head1 (Jvm.Cond.code yM19 jdk_65_method_131_code 2 none :: ws) rM0_0_0_0) (fun a U => a = #[(.int 0), (.int (ofNat c_))] ∧ Z.Warmed39 U.vm ∧ U.heap = h0) (fun _ _ _ _ _ => True) (fun _ U o U' => ∃ v L, o = .returned v ∧ rm44_Q Z c_ h0 n0 v U'.heap L ∧ FrameEnd U o U' L rM0_0_0_0.cells rM0_0_0_0.slots) := by
 refine MetFree.of_bodySF (plainFor_of_name pn_rm44) hisR ?_
 intro p e s m args below meth c s₁ Bd hml0 hP hK
 obtain ⟨rfl, hZ, hh⟩ := hP
 have hx := Bd.exec
 have hby := Bd.bytes
 have hml : c.maxLocals = 2 := hml0
 have hown : s.vm.findClass "java/util/Arrays" = some m.cls := findClass_of_methodNamed Bd.named
 have hnm := (name_of_methodNamed Bd.named Bd.method).1
 have X0 : Stand p l e rM0_0_0_0 s m #[(.int 0), (.int (ofNat c_))] below meth c s₁ [] 0 0 := Stand.of_body Bd
 have e0 : s₁.heap = h0 := by rw [← hh, Bd.state]; rfl
 have N0 := Fr.nil n0
 refine own_enter (QQ := rm44_Q Z c_ h0 n0) (ef_rm44 m c_) ?_
 show own_Run p e below s _ _ _ s₁ (mkF m 0 #[.val (.int 0), .val (.int (ofNat c_))] [])
 refine oP s₁ (mkF m 37 #[oI 0, oI (ofNat c_)] []) (fun t k => ?_) ?_
 ·skip
  refine XS.iloadN X0.here hx rfl (d43 hby 0) rfl ?_
  refine XS.iloadN X0.here hx rfl (d43 hby 1) rfl ?_
  refine XS.icmpYes X0.here hx rfl (pc0 := 2) (pc' := 37) rfl (d43 hby 2) rfl (flt (own_nn _ (by omega))).2.1 (by decide) (by decide) ?_
  exact k
 refine own_retV X0 hx Bd.returns (d43 hby 17) (BodyLoose.notSynchronized Bd) (by decide) (by decide) ?_
 rw [show s₁.heap = h0 from e0]
 exact ⟨rfl, N0, rfl⟩
theorem own_sub0 (x : Int32) : x - (0 : Int32) = x := by simp
theorem own_cp1 {vs : List Value} {C : Nat} (hC : C < 2147483648) : (List.replicate C (Value.int 0)).take (0 : Int32).toNatClampNeg ++ vs ++ (List.replicate C (Value.int 0)).drop ((0 : Int32).toNatClampNeg + (ofNat C).toNatClampNeg) = vs := by
 rw [own_tn hC, show (0 : Int32).toNatClampNeg = 0 from rfl]
 simp
def D42 : List (Nat × Instr × Nat) := [(0, .iload_n 1, 1), (1, .iload_n 2, 1), (2, .invokestatic 343, 3), (5, .iload_n 2, 1), (6, .iload_n 1, 1), (7, .isub, 1), (8, .istore_n 3, 1), (9, .iload_n 3, 1), (10, .newarray .byte, 2), (12, .astore 4, 2), (14, .aload_n 0, 1), (15, .iload_n 1, 1), (16, .aload 4, 2), (18, .iconst 0, 1), (19, .aload_n 0, 1), (20, .arraylength, 1), (21, .iload_n 1, 1), (22, .isub, 1), (23, .iload_n 3, 1), (24, .invokestatic 304, 3), (27, .invokestatic 150, 3), (30, .aload 4, 2), (32, .areturn, 1)]
theorem A42 : ∀ q ∈ D42, decode jdk_65_method_133_code q.1 = .ok q.2 := by decide +kernel
theorem d42 {c : Code} (h0 : c.code = jdk_65_method_133_code) (i : Nat) {pc n : Nat} {q : Instr} (h : D42[i]? = some (pc, q, n) := by rfl) : decode c.code pc = .ok (q, n) := hb h0 (A42 (pc, q, n) (List.mem_of_getElem? h))
theorem pn_rm43 : plainName "java/util/Arrays" = true := by first | (simp [plainName, overriddenIn]; done) | decide +kernel
theorem ef_rm43 (m : MethodId) (o0 : Addr) (c_ : Nat) : entryFrame m #[(.ref o0), (.int 0), (.int (ofNat c_))] 5 = mkF m 0 #[.val (.ref o0), .val (.int 0), .val (.int (ofNat c_)), .unset, .unset] [] := by first | (simp [entryFrame, mkF, argsToLocals, Value.category, maxLocals]; done) | rfl
def rm43_Q (Z : State) (o0 : Addr) (c_ : Nat) (k : ClassId) (Cn : Nat) (vs : List Value) (h0 : Heap) (n0 : Nat) (v : Option Value) (h : Heap) (L : List Loc) : Prop := ∃ (b : Addr) (k1 : ClassId), v = some (.ref b) ∧ Fr n0 L ∧ b = h0.size ∧ Keep h0 h [] ∧ Arv Z h b k1 .byte (ofNat c_) (vs.take c_) (.int 0) ∧ Exa Z h b "[B"
set_option maxRecDepth 65536 in
set_option maxHeartbeats 40000000 in
theorem rm43 (l : Launch) (Z : State) (a0 : Array Value) (hw : ∀ d ∈ tables_1, d.before a0 Z = true) (ws : List Jvm.Cond) (o0 : Addr) (c_ : Nat) (k : ClassId) (Cn : Nat) (vs : List Value) (h0 : Heap) (n0 : Nat) (Z0 : n0 ≤ h0.size) (V_o0 : Arv Z h0 o0 k .byte (ofNat Cn) vs (.int 0)) (hvs : vs.length = Cn) (hle : c_ ≤ Cn) (hc : c_ ≤ 256) (hCn : Cn ≤ 1024) :
  MetFree l yM20 (head1 (Jvm.Cond.code yM20 jdk_65_method_133_code 5 (some (.array .byte)) :: ws) rM1_1_256_40) (fun a U => a = #[(.ref o0), (.int 0), (.int (ofNat c_))] ∧ Z.Warmed39 U.vm ∧ U.heap = h0) (fun _ _ _ _ _ => True) (fun _ U o U' => ∃ v L, o = .returned v ∧ rm43_Q Z o0 c_ k Cn vs h0 n0 v U'.heap L ∧ FrameEnd U o U' L rM1_1_256_40.cells rM1_1_256_40.slots) := by
 refine MetFree.of_bodySF (plainFor_of_name pn_rm43) hisR ?_
 intro p e s m args below meth c s₁ Bd hml0 hP hK
 obtain ⟨rfl, hZ, hh⟩ := hP
 have hx := Bd.exec
 have hby := Bd.bytes
 have hml : c.maxLocals = 5 := hml0
 have hown : s.vm.findClass "java/util/Arrays" = some m.cls := findClass_of_methodNamed Bd.named
 have hnm := (name_of_methodNamed Bd.named Bd.method).1
 have X0 : Stand p l e rM1_1_256_40 s m #[(.ref o0), (.int 0), (.int (ofNat c_))] below meth c s₁ [] 0 0 := Stand.of_body Bd
 have e0 : s₁.heap = h0 := by rw [← hh, Bd.state]; rfl
 have N0 := Fr.nil n0
 have K0 := Keep.refl h0 []
 refine own_enter (QQ := rm43_Q Z o0 c_ k Cn vs h0 n0) (ef_rm43 m o0 c_) ?_
 show own_Run p e below s _ _ _ s₁ (mkF m 0 #[.val (.ref o0), .val (.int 0), .val (.int (ofNat c_)), .unset, .unset] [])
 refine oP s₁ (mkF m 2 #[oR o0, oI 0, oI (ofNat c_), .unset, .unset] [(.int (ofNat c_)), (.int 0)]) (fun t k => ?_) ?_
 ·skip
  refine XS.iloadN X0.here hx rfl (d42 hby 0) rfl ?_
  refine XS.iloadN X0.here hx rfl (d42 hby 1) rfl ?_
  exact k
 obtain ⟨_, _, ⟨T1, L1, k1, n1⟩, -, X1, ⟨Lc1, hQ1, l1, y1, z1⟩, st1⟩ := Jvm.LawKit.callS X0 hx (y := yM19) hown (mvT hZ (own_w hw 230)) (mvT hZ (own_w hw 231)) (mvT hZ (own_w hw 187)) (mvT hZ (own_w hw 232)) (by decide) (backOf (W := 0) (rm44 l Z a0 hw [] c_  h0 n0 Z0 (by omega)) hZ (own_w hw 232) (own_w hw 187) (by decide) (by decide)) (g := (mkF m 2 #[oR o0, oI 0, oI (ofNat c_), .unset, .unset] [(.int (ofNat c_)), (.int 0)])) rfl (by rw [hml]; rfl) (argsL := [(.int 0), (.int (ofNat c_))]) (rest := []) (lenOf pd_11 rfl) rfl (by show 2 * 0 + _ ≤ _; exact Nat.le_of_eq rfl) (d42 hby 2) (fun _ _ => ⟨rfl, e0, (by decide : 0 + 0 ≤ _), (by decide : 0 + 0 ≤ _)⟩)
 dsimp only [Pt.U, Pt.locs, Pt.cells, Pt.slots] at X1 l1 y1 z1 st1 hQ1
 subst l1 y1 z1
 obtain ⟨rfl, N1q, eq1⟩ := hQ1
 have N1 := Fr.app N0 N1q
 refine own_step st1 ?_
 refine oP T1 (mkF m 8 #[oR o0, oI 0, oI (ofNat c_), .unset, .unset] [(.int ((ofNat c_) - (0 : Int32)))]) (fun t k => ?_) ?_
 ·skip
  refine XS.iloadN X1.here hx rfl (d42 hby 3) rfl ?_
  refine XS.iloadN X1.here hx rfl (d42 hby 4) rfl ?_
  refine XS.isub X1.here hx rfl (d42 hby 5) rfl ?_
  exact k
 rw [show (((ofNat c_) - (0 : Int32)) : Int32) = (ofNat c_) from own_sub0 _]
 refine oP T1 (mkF m 10 #[oR o0, oI 0, oI (ofNat c_), oI (ofNat c_), .unset] [(.int (ofNat c_))]) (fun t k => ?_) ?_
 ·skip
  refine XS.istoreN X1.here hx rfl (d42 hby 6) rfl (l' := #[oR o0, oI 0, oI (ofNat c_), oI (ofNat c_), .unset]) rfl ?_
  refine XS.iloadN X1.here hx rfl (d42 hby 7) rfl ?_
  exact k
 obtain ⟨T2, h2, k2, X2, e2, E2, B2, A2, st2⟩ := newPE X1 hx hZ (own_w hw 19) eq1 (g := (mkF m 10 #[oR o0, oI 0, oI (ofNat c_), oI (ofNat c_), .unset] [(.int (ofNat c_))])) rfl (d42 hby 8 (q := .newarray .byte)) rfl (own_nn _ (by omega)) (cap := 256) (by rw [own_tn (by omega)]; omega) (by decide) (by decide) (by decide) (ad := "[B") (by decide)
 obtain ⟨b2, g2⟩ : ∃ z, z = h0.size := ⟨_, rfl⟩
 have g_b2 : n0 ≤ b2 := Nat.le_trans Z0 (Nat.le_of_eq g2.symm)
 have sz_b2 : h0.size ≤ b2 := Nat.le_trans K0.1 (Nat.le_of_eq g2.symm)
 rw [← g2] at A2 B2 st2
 have V4 := V_o0.ext E2
 have K2 := K0.ext E2
 have V5 : Arv Z h2 b2 k2 .byte (ofNat c_) [] (.int 0) := Arv.new B2 (own_nn _ (by omega))
 have Z6 := Nat.le_trans Z0 E2.1
 refine own_step st2 ?_
 refine oP T2 (mkF m 20 #[oR o0, oI 0, oI (ofNat c_), oI (ofNat c_), oR b2] [(.ref o0), (.int 0), (.ref b2), (.int 0), (.ref o0)]) (fun t k => ?_) ?_
 ·skip
  refine XS.astore X2.here hx rfl (d42 hby 9) rfl rfl (l' := #[oR o0, oI 0, oI (ofNat c_), oI (ofNat c_), oR b2]) rfl ?_
  refine XS.aloadN X2.here hx rfl (d42 hby 10) rfl rfl ?_
  refine XS.iloadN X2.here hx rfl (d42 hby 11) rfl ?_
  refine XS.aload X2.here hx rfl (d42 hby 12) rfl rfl ?_
  refine XS.iconst X2.here hx rfl (d42 hby 13) ?_
  refine XS.aloadN X2.here hx rfl (d42 hby 14) rfl rfl ?_
  exact k
 obtain ⟨cl7, Arcl7, -, Scl7, Mcl7, -, -⟩ := id V4
 refine oP T2 (mkF m 23 #[oR o0, oI 0, oI (ofNat c_), oI (ofNat c_), oR b2] [(.int ((ofNat Cn) - (0 : Int32))), (.int 0), (.ref b2), (.int 0), (.ref o0)]) (fun t k => ?_) ?_
 ·skip
  refine X2.arraylength hx (by rw [e2]; exact Arcl7.1) (State.isArrayOf_alike hZ.alike Arcl7.2.1) (g := (mkF m 20 #[oR o0, oI 0, oI (ofNat c_), oI (ofNat c_), oR b2] [(.ref o0), (.int 0), (.ref b2), (.int 0), (.ref o0)])) rfl rfl (d42 hby 15) _ ?_
  rw [len_of Scl7 Mcl7]
  show Steps p.tables e below (T2.setTop (mkF m 21 #[oR o0, oI 0, oI (ofNat c_), oI (ofNat c_), oR b2] [(.int (ofNat Cn)), (.int 0), (.ref b2), (.int 0), (.ref o0)])) _
  refine XS.iloadN X2.here hx rfl (d42 hby 16) rfl ?_
  refine XS.isub X2.here hx rfl (d42 hby 17) rfl ?_
  exact k
 rw [show (((ofNat Cn) - (0 : Int32)) : Int32) = (ofNat Cn) from own_sub0 _]
 refine oP T2 (mkF m 24 #[oR o0, oI 0, oI (ofNat c_), oI (ofNat c_), oR b2] [(.int (ofNat c_)), (.int (ofNat Cn)), (.int 0), (.ref b2), (.int 0), (.ref o0)]) (fun t k => ?_) ?_
 ·skip
  refine XS.iloadN X2.here hx rfl (d42 hby 18) rfl ?_
  exact k
 obtain ⟨_, _, ⟨T8, L8, k8, n8⟩, -, X8, ⟨Lc8, hQ8, l8, y8, z8⟩, st8⟩ := Jvm.LawKit.callS X2 hx (y := yM3) hown (mvT hZ (own_w hw 189)) (mvT hZ (own_w hw 190)) (mvT hZ (own_w hw 78)) (mvT hZ (own_w hw 191)) (by decide) (backOf (W := 4) (rm34 l Z a0 hw [] (ofNat Cn) (ofNat c_)  h2 n0 Z6) hZ (own_w hw 191) (own_w hw 78) (by decide) (by decide)) (g := (mkF m 24 #[oR o0, oI 0, oI (ofNat c_), oI (ofNat c_), oR b2] [(.int (ofNat c_)), (.int (ofNat Cn)), (.int 0), (.ref b2), (.int 0), (.ref o0)])) rfl (by rw [hml]; rfl) (argsL := [(.int (ofNat Cn)), (.int (ofNat c_))]) (rest := [(.int 0), (.ref b2), (.int 0), (.ref o0)]) (lenOf pd_1 rfl) rfl (by show 2 * 0 + _ ≤ _; exact Nat.le_of_eq rfl) (d42 hby 19) (fun _ _ => ⟨rfl, e2, (by decide : 1 + 0 ≤ _), (by decide : 256 + 0 ≤ _)⟩)
 dsimp only [Pt.U, Pt.locs, Pt.cells, Pt.slots] at X8 l8 y8 z8 st8 hQ8
 subst l8 y8 z8
 obtain ⟨rfl, N8q, eq8⟩ := hQ8
 have N8 := Fr.app N1 N8q
 refine own_step st8 ?_
 rw [show ((own_min32 (ofNat Cn) (ofNat c_)) : Int32) = (ofNat c_) from (own_minn (by omega) (by omega)).trans (by rw [Nat.min_eq_right (by omega)])]
 have V9 : Arv Z h2 b2 k2 .byte (ofNat c_) (List.replicate c_ (.int 0)) (.int 0) := V5.pad (pad_rep [] (.int 0) c_)
 obtain ⟨T10, h10, Lq10, X10, e10, N10, Kq10, Va10, st10⟩ := cpA X8 hx hZ hown (own_w hw 192) (own_w hw 169) (own_w hw 167) (own_w hw 168) eq8 V4 V9 (Or.inl ⟨rfl, rfl⟩) (sp := (0 : Int32)) (dp := (0 : Int32)) (nn := (ofNat c_)) (us := (vs.take c_)) (by decide) (by decide) (own_nn _ (by omega)) (by rw [own_tn (by omega), own_tn (by omega)]; show 0 + c_ ≤ Cn; omega) (by rw [own_tn (by omega)]; show 0 + c_ ≤ c_; omega) (own_us2 (N := 0) (by omega) (by omega)) (by rw [own_tn (by omega), List.length_replicate]; show 0 + c_ ≤ c_; omega) N8 g_b2 (g := (mkF m 27 #[oR o0, oI 0, oI (ofNat c_), oI (ofNat c_), oR b2] [(.int (ofNat c_)), (.int 0), (.ref b2), (.int 0), (.ref o0)])) rfl (by rw [hml]; rfl) (rest := []) rfl (d42 hby 20) (by decide) (W := 0) (by show 2 * 0 + _ ≤ _; exact Nat.le_of_eq rfl) (by decide)
 have V11 : Arv Z h10 b2 k2 .byte (ofNat c_) (vs.take c_) (.int 0) := by have q := Va10; rw [own_cp1 (by omega)] at q; exact q
 have A12 := A2.keep Kq10
 have K15 := K2.trans Kq10 (allS (Or.inr sz_b2) all0)
 refine own_step st10 ?_
 refine oP T10 (mkF m 32 #[oR o0, oI 0, oI (ofNat c_), oI (ofNat c_), oR b2] [(.ref b2)]) (fun t k => ?_) ?_
 ·skip
  refine XS.aload X10.here hx rfl (d42 hby 21) rfl rfl ?_
  exact k
 refine own_retA X10 hx Bd.returns rfl rfl (d42 hby 22) (BodyLoose.notSynchronized Bd) (by decide) (by decide) ?_
 rw [show T10.heap = h10 from e10]
 exact ⟨b2, k2, rfl, N10, g2, K15, V11, A12⟩
def D41 : List (Nat × Instr × Nat) := [(0, .iload_n 1, 1), (1, .ifCond .ne 9, 3), (4, .iload_n 2, 1), (5, .aload_n 0, 1), (6, .arraylength, 1), (7, .if_icmp .eq 10, 3), (10, .aload_n 0, 1), (11, .iload_n 1, 1), (12, .iload_n 2, 1), (13, .invokestatic 339, 3), (16, .areturn, 1), (17, .aload_n 0, 1), (18, .invokevirtual 310, 3), (21, .checkcast 311, 3), (24, .areturn, 1)]
theorem A41 : ∀ q ∈ D41, decode jdk_65_method_132_code q.1 = .ok q.2 := by decide +kernel
theorem d41 {c : Code} (h0 : c.code = jdk_65_method_132_code) (i : Nat) {pc n : Nat} {q : Instr} (h : D41[i]? = some (pc, q, n) := by rfl) : decode c.code pc = .ok (q, n) := hb h0 (A41 (pc, q, n) (List.mem_of_getElem? h))
theorem pn_rm42 : plainName "java/util/Arrays" = true := by first | (simp [plainName, overriddenIn]; done) | decide +kernel
theorem ef_rm42 (m : MethodId) (o0 : Addr) (c_ : Nat) : entryFrame m #[(.ref o0), (.int 0), (.int (ofNat c_))] 3 = mkF m 0 #[.val (.ref o0), .val (.int 0), .val (.int (ofNat c_))] [] := by first | (simp [entryFrame, mkF, argsToLocals, Value.category, maxLocals]; done) | rfl
def rm42_Q (Z : State) (o0 : Addr) (c_ : Nat) (k : ClassId) (Cn : Nat) (vs : List Value) (h0 : Heap) (n0 : Nat) (v : Option Value) (h : Heap) (L : List Loc) : Prop := ∃ (b : Addr) (k1 : ClassId), v = some (.ref b) ∧ Fr n0 L ∧ b = h0.size ∧ Keep h0 h [] ∧ Arv Z h b k1 .byte (ofNat c_) (vs.take c_) (.int 0) ∧ Exa Z h b "[B"
set_option maxRecDepth 65536 in
set_option maxHeartbeats 40000000 in
theorem rm42 (l : Launch) (Z : State) (a0 : Array Value) (hw : ∀ d ∈ tables_1, d.before a0 Z = true) (ws : List Jvm.Cond) (o0 : Addr) (c_ : Nat) (k : ClassId) (Cn : Nat) (vs : List Value) (h0 : Heap) (n0 : Nat) (Z0 : n0 ≤ h0.size) (V_o0 : Arv Z h0 o0 k .byte (ofNat Cn) vs (.int 0)) (A_o0 : Exa Z h0 o0 "[B") (hvs : vs.length = Cn) (hle : c_ ≤ Cn) (hc : c_ ≤ 256) (hCn : Cn ≤ 1024) :
  MetFree l yM21 (head1 (Jvm.Cond.code yM21 jdk_65_method_132_code 3 (some (.array .byte)) :: ws) rM2_1_256_56) (fun a U => a = #[(.ref o0), (.int 0), (.int (ofNat c_))] ∧ Z.Warmed39 U.vm ∧ U.heap = h0) (fun _ _ _ _ _ => True) (fun _ U o U' => ∃ v L, o = .returned v ∧ rm42_Q Z o0 c_ k Cn vs h0 n0 v U'.heap L ∧ FrameEnd U o U' L rM2_1_256_56.cells rM2_1_256_56.slots) := by
 refine MetFree.of_bodySF (plainFor_of_name pn_rm42) hisR ?_
 intro p e s m args below meth c s₁ Bd hml0 hP hK
 obtain ⟨rfl, hZ, hh⟩ := hP
 have hx := Bd.exec
 have hby := Bd.bytes
 have hml : c.maxLocals = 3 := hml0
 have hown : s.vm.findClass "java/util/Arrays" = some m.cls := findClass_of_methodNamed Bd.named
 have hnm := (name_of_methodNamed Bd.named Bd.method).1
 have X0 : Stand p l e rM2_1_256_56 s m #[(.ref o0), (.int 0), (.int (ofNat c_))] below meth c s₁ [] 0 0 := Stand.of_body Bd
 have e0 : s₁.heap = h0 := by rw [← hh, Bd.state]; rfl
 have N0 := Fr.nil n0
 have K0 := Keep.refl h0 []
 refine own_enter (QQ := rm42_Q Z o0 c_ k Cn vs h0 n0) (ef_rm42 m o0 c_) ?_
 show own_Run p e below s _ _ _ s₁ (mkF m 0 #[.val (.ref o0), .val (.int 0), .val (.int (ofNat c_))] [])
 refine oP s₁ (mkF m 6 #[oR o0, oI 0, oI (ofNat c_)] [(.ref o0), (.int (ofNat c_))]) (fun t k => ?_) ?_
 ·skip
  refine XS.iloadN X0.here hx rfl (d41 hby 0) rfl ?_
  refine XS.ifNo X0.here hx rfl (d41 hby 1) rfl ((if0 _ _).trans (teq rfl).2) ?_
  refine XS.iloadN X0.here hx rfl (d41 hby 2) rfl ?_
  refine XS.aloadN X0.here hx rfl (d41 hby 3) rfl rfl ?_
  exact k
 obtain ⟨cl2, Arcl2, -, Scl2, Mcl2, -, -⟩ := id V_o0
 refine oP s₁ (mkF m 7 #[oR o0, oI 0, oI (ofNat c_)] [(.int (ofNat Cn)), (.int (ofNat c_))]) (fun t k => ?_) ?_
 ·skip
  refine X0.arraylength hx (by rw [e0]; exact Arcl2.1) (State.isArrayOf_alike hZ.alike Arcl2.2.1) (g := (mkF m 6 #[oR o0, oI 0, oI (ofNat c_)] [(.ref o0), (.int (ofNat c_))])) rfl rfl (d41 hby 4) _ ?_
  rw [len_of Scl2 Mcl2]
  exact k
 by_cases hc3 : (ofNat c_) = (ofNat Cn)
 ·skip
  refine oP s₁ (mkF m 18 #[oR o0, oI 0, oI (ofNat c_)] [(.ref o0)]) (fun t k => ?_) ?_
  ·skip
   refine XS.icmpYes X0.here hx rfl (pc0 := 7) (pc' := 17) rfl (d41 hby 5) rfl (teq hc3).1 (by decide) (by decide) ?_
   refine XS.aloadN X0.here hx rfl (d41 hby 11) rfl rfl ?_
   exact k
  obtain ⟨T4, h4, X4, e4, E4, V4, A4, st4⟩ := own_clone X0 hx hZ hown (own_w hw 256) (own_w hw 257) (own_w hw 261) (own_w hw 259) (own_w hw 260) (own_w hw 262) e0 V_o0 A_o0 (g := (mkF m 18 #[oR o0, oI 0, oI (ofNat c_)] [(.ref o0)])) rfl (by rw [hml]; rfl) rfl (d41 hby 12) (by decide) (W := 0) (cap := 256) (by show 2 * 0 + _ ≤ _; exact Nat.le_of_eq rfl) (by decide) (by rw [← hc3, own_tn (by omega)]; omega) (by decide) (by decide)
  obtain ⟨b4, g4⟩ : ∃ z, z = h0.size := ⟨_, rfl⟩
  rw [← g4] at A4 V4 st4
  have K4 := K0.ext E4
  refine own_step st4 ?_
  obtain ⟨T9, X9, e9, st9⟩ := castY X4 hx hZ hown (own_w hw 263) e4 (Ins.self A4) (g := (mkF m 21 #[oR o0, oI 0, oI (ofNat c_)] [(.ref b4)])) rfl rfl (d41 hby 13)
  refine own_step st9 ?_
  refine own_retA X9 hx Bd.returns rfl rfl (d41 hby 14) (BodyLoose.notSynchronized Bd) (by decide) (by decide) ?_
  rw [show T9.heap = h4 from e9]
  obtain rfl : c_ = Cn := (own_eqn (by omega) (by omega)).mp hc3
  exact ⟨b4, k, rfl, N0, g4, K4, by rw [List.take_of_length_le (Nat.le_of_eq hvs)]; exact V4, A4⟩
 ·skip
  refine oP s₁ (mkF m 13 #[oR o0, oI 0, oI (ofNat c_)] [(.int (ofNat c_)), (.int 0), (.ref o0)]) (fun t k => ?_) ?_
  ·skip
   refine XS.icmpNo X0.here hx rfl (d41 hby 5) rfl (feq hc3).1 ?_
   refine XS.aloadN X0.here hx rfl (d41 hby 6) rfl rfl ?_
   refine XS.iloadN X0.here hx rfl (d41 hby 7) rfl ?_
   refine XS.iloadN X0.here hx rfl (d41 hby 8) rfl ?_
   exact k
  obtain ⟨_, _, ⟨T10, L10, k10, n10⟩, -, X10, ⟨Lc10, hQ10, l10, y10, z10⟩, st10⟩ := Jvm.LawKit.callS X0 hx (y := yM20) hown (mvT hZ (own_w hw 227)) (mvT hZ (own_w hw 228)) (mvT hZ (own_w hw 187)) (mvT hZ (own_w hw 229)) (by decide) (backOf (W := 0) (rm43 l Z a0 hw [] o0 c_ k Cn vs h0 n0 Z0 V_o0 hvs hle hc hCn) hZ (own_w hw 229) (own_w hw 187) (by decide) (by decide)) (g := (mkF m 13 #[oR o0, oI 0, oI (ofNat c_)] [(.int (ofNat c_)), (.int 0), (.ref o0)])) rfl (by rw [hml]; rfl) (argsL := [(.ref o0), (.int 0), (.int (ofNat c_))]) (rest := []) (lenOf pd_12 rfl) rfl (by show 2 * 0 + _ ≤ _; exact Nat.le_of_eq rfl) (d41 hby 9) (fun _ _ => ⟨rfl, e0, (by decide : 0 + 1 ≤ _), (by decide : 0 + 256 ≤ _)⟩)
  dsimp only [Pt.U, Pt.locs, Pt.cells, Pt.slots] at X10 l10 y10 z10 st10 hQ10
  subst l10 y10 z10
  obtain ⟨cb, kb, rfl, N10q, g10, Kq10, Vc10, Ac10⟩ := hQ10
  have N10 := Fr.app N0 N10q
  refine own_step st10 ?_
  refine own_retA X10 hx Bd.returns rfl rfl (d41 hby 10) (BodyLoose.notSynchronized Bd) (by decide) (by decide) ?_
  exact ⟨cb, kb, rfl, N10, g10, Kq10, Vc10, Ac10⟩
theorem own_bufk {L : List Value} {C : Nat} : (own_buf L C).take L.length = L := by simp [own_buf]
def D36 : List (Nat × Instr × Nat) := [(0, .aload_n 0, 1), (1, .invokespecial 1, 3), (4, .aload_n 1, 1), (5, .invokevirtual 552, 3), (8, .astore_n 3, 1), (9, .aload_n 1, 1), (10, .invokevirtual 549, 3), (13, .istore 4, 2), (15, .aload_n 1, 1), (16, .invokevirtual 1047, 3), (19, .ifCond .eq 22, 3), (22, .aload_n 0, 1), (23, .iconst 0, 1), (24, .putfield 15, 3), (27, .aload_n 0, 1), (28, .aload_n 3, 1), (29, .iconst 0, 1), (30, .iload 4, 2), (32, .invokestatic 54, 3), (35, .putfield 9, 3), (38, .goto 59, 3), (41, .getstatic 38, 3), (44, .ifCond .eq 35, 3), (47, .aload_n 1, 1), (48, .getfield 1048, 3), (51, .ifCond .eq 28, 3), (54, .aload_n 0, 1), (55, .aload_n 3, 1), (56, .iconst 0, 1), (57, .iload 4, 2), (59, .invokestatic 1051, 3), (62, .putfield 9, 3), (65, .aload_n 0, 1), (66, .aload_n 0, 1), (67, .getfield 9, 3), (70, .iload 4, 2), (72, .invokestatic 47, 3), (75, .putfield 15, 3), (78, .return_, 1), (79, .aload_n 0, 1), (80, .iconst 1, 1), (81, .putfield 15, 3), (84, .aload_n 0, 1), (85, .aload_n 3, 1), (86, .iconst 0, 1), (87, .iload 4, 2), (89, .iconst 1, 1), (90, .ishl, 1), (91, .invokestatic 54, 3), (94, .putfield 9, 3), (97, .return_, 1)]
theorem A36 : ∀ q ∈ D36, decode jdk_42_method_150_code q.1 = .ok q.2 := by decide +kernel
theorem d36 {c : Code} (h0 : c.code = jdk_42_method_150_code) (i : Nat) {pc n : Nat} {q : Instr} (h : D36[i]? = some (pc, q, n) := by rfl) : decode c.code pc = .ok (q, n) := hb h0 (A36 (pc, q, n) (List.mem_of_getElem? h))
theorem pn_rm37 : plainName "java/lang/String" = true := by first | (simp [plainName, overriddenIn]; done) | decide +kernel
theorem ef_rm37 (m : MethodId) (o0 : Addr) (o1 : Addr) : entryFrame m #[(.ref o0), (.ref o1), .null] 5 = mkF m 0 #[.val (.ref o0), .val (.ref o1), .val .null, .unset, .unset] [] := by first | (simp [entryFrame, mkF, argsToLocals, Value.category, maxLocals]; done) | rfl
def rm37_Q (Z : State) (o0 : Addr) (o1 : Addr) (cs : Int32) (b : Addr) (k : ClassId) (Cn : Nat) (Lc : List Value) (h0 : Heap) (n0 : Nat) (v : Option Value) (h : Heap) (L : List Loc) : Prop := ∃ (t : Addr) (k1 : ClassId), v = none ∧ Fr n0 L ∧ Keep h0 h [o0] ∧ Exa Z h o0 "java/lang/String" ∧ Fld Z h o0 "java/lang/String" "coder" "B" (.int 0) ∧ Fld Z h o0 "java/lang/String" "value" "[B" (.ref t) ∧ Arv Z h t k1 .byte (ofNat Lc.length) Lc (.int 0) ∧ h0.size ≤ t
set_option maxRecDepth 65536 in
set_option maxHeartbeats 40000000 in
theorem rm37 (l : Launch) (Z : State) (a0 : Array Value) (hw : ∀ d ∈ tables_1, d.before a0 Z = true) (ws : List Jvm.Cond) (o0 : Addr) (o1 : Addr) (cs : Int32) (b : Addr) (k : ClassId) (Cn : Nat) (Lc : List Value) (h0 : Heap) (n0 : Nat) (Z0 : n0 ≤ h0.size) (O0 : Old Z n0 h0) (S_cs : Sta Z Z.heap "java/lang/String" "COMPACT_STRINGS" "Z" (.int cs)) (hcs : ¬ cs = (0 : Int32)) (E_o0 : Exa Z h0 o0 "java/lang/String") (F_value_o0 : Fld Z h0 o0 "java/lang/String" "value" "[B" .null) (F_coder_o0 : Fld Z h0 o0 "java/lang/String" "coder" "B" (.int 0)) (g_o0 : n0 ≤ o0) (E_o1 : Exa Z h0 o1 "java/lang/StringBuilder") (F_value_o1 : Fld Z h0 o1 "java/lang/AbstractStringBuilder" "value" "[B" (.ref b)) (F_coder_o1 : Fld Z h0 o1 "java/lang/AbstractStringBuilder" "coder" "B" (.int 0)) (F_count_o1 : Fld Z h0 o1 "java/lang/AbstractStringBuilder" "count" "I" (.int (ofNat Lc.length))) (V_b : Arv Z h0 b k .byte (ofNat Cn) (own_buf Lc Cn) (.int 0)) (A_b : Exa Z h0 b "[B") (ne1 : o1 ≠ o0) (neb : b ≠ o0) (hL : Lc.length ≤ Cn) (hl : Lc.length ≤ 250) (hCn : Cn ≤ 1024) :
  MetFree l yM22 (head1 (Jvm.Cond.code yM22 jdk_42_method_150_code 5 none :: ws) rM3_1_256_71) (fun a U => a = #[(.ref o0), (.ref o1), .null] ∧ Z.Warmed39 U.vm ∧ U.heap = h0) (fun _ _ _ _ _ => True) (fun _ U o U' => ∃ v L, o = .returned v ∧ rm37_Q Z o0 o1 cs b k Cn Lc h0 n0 v U'.heap L ∧ FrameEnd U o U' L rM3_1_256_71.cells rM3_1_256_71.slots) := by
 refine MetFree.of_bodySF (plainFor_of_name pn_rm37) hisR ?_
 intro p e s m args below meth c s₁ Bd hml0 hP hK
 obtain ⟨rfl, hZ, hh⟩ := hP
 have hx := Bd.exec
 have hby := Bd.bytes
 have hml : c.maxLocals = 5 := hml0
 have hown : s.vm.findClass "java/lang/String" = some m.cls := findClass_of_methodNamed Bd.named
 have hnm := (name_of_methodNamed Bd.named Bd.method).1
 have X0 : Stand p l e rM3_1_256_71 s m #[(.ref o0), (.ref o1), .null] below meth c s₁ [] 0 0 := Stand.of_body Bd
 have e0 : s₁.heap = h0 := by rw [← hh, Bd.state]; rfl
 have N0 := Fr.nil n0
 have K0 := Keep.refl h0 [o0]
 refine own_enter (QQ := rm37_Q Z o0 o1 cs b k Cn Lc h0 n0) (ef_rm37 m o0 o1) ?_
 show own_Run p e below s _ _ _ s₁ (mkF m 0 #[.val (.ref o0), .val (.ref o1), .val .null, .unset, .unset] [])
 refine oP s₁ (mkF m 1 #[oR o0, oR o1, .val .null, .unset, .unset] [(.ref o0)]) (fun t k => ?_) ?_
 ·skip
  refine XS.aloadN X0.here hx rfl (d36 hby 0) rfl rfl ?_
  exact k
 obtain ⟨T1, X1, e1, st1⟩ := initO X0 hx hZ hown (own_w hw 11) (own_w hw 12) (own_w hw 13) e0 (g := (mkF m 1 #[oR o0, oR o1, .val .null, .unset, .unset] [(.ref o0)])) rfl (by rw [hml]; rfl) rfl (d36 hby 1) (by decide) (W := 0) (by show 2 * 0 + _ ≤ _; exact Nat.le_of_eq rfl) (by decide)
 refine own_step st1 ?_
 refine oP T1 (mkF m 5 #[oR o0, oR o1, .val .null, .unset, .unset] [(.ref o1)]) (fun t k => ?_) ?_
 ·skip
  refine XS.aloadN X1.here hx rfl (d36 hby 2) rfl rfl ?_
  exact k
 obtain ⟨cq2, kq2, q2a, q2b, q2c⟩ := isOf hZ e1 E_o1
 obtain ⟨_, _, ⟨T2, L2, k2, n2⟩, -, X2, ⟨Lc2, hQ2, l2, y2, z2⟩, st2⟩ := X1.virtualBack hx (y := yM15) (z := yM15) hown (mvT hZ (own_w hw 206)) (mvT hZ (own_w hw 207)) (notFace_of_selects (args := #[]) (mvT hZ (own_w hw 209))) (mvT hZ (own_w hw 209)) (mvT hZ (own_w hw 208)) (by decide) (backOf (W := 0) (rm38 l Z a0 hw [] o1 b h0 n0 Z0 E_o1 F_value_o1) hZ (own_w hw 210) (own_w hw 114) (by decide) (by decide)) q2a q2c (g := (mkF m 5 #[oR o0, oR o1, .val .null, .unset, .unset] [(.ref o1)])) rfl (by rw [hml]; rfl) (Steps.refl _) (argsL := []) (rest := []) (lenOf pd_13 rfl) rfl (by show 2 * 0 + _ ≤ _; exact Nat.le_of_eq rfl) (d36 hby 3) (fun _ _ => ⟨rfl, e1, (by decide : 0 + 0 ≤ _), (by decide : 0 + 0 ≤ _)⟩)
 dsimp only [Pt.U, Pt.locs, Pt.cells, Pt.slots] at X2 l2 y2 z2 st2 hQ2
 subst l2 y2 z2
 obtain ⟨rfl, N2q, eq2⟩ := hQ2
 have N2 := Fr.app N0 N2q
 refine own_step (fun t k => st2.trans k) ?_
 refine oP T2 (mkF m 10 #[oR o0, oR o1, .val .null, oR b, .unset] [(.ref o1)]) (fun t k => ?_) ?_
 ·skip
  refine XS.astoreN X2.here hx rfl (d36 hby 4) rfl rfl (l' := #[oR o0, oR o1, .val .null, oR b, .unset]) rfl ?_
  refine XS.aloadN X2.here hx rfl (d36 hby 5) rfl rfl ?_
  exact k
 obtain ⟨cq3, kq3, q3a, q3b, q3c⟩ := isOf hZ eq2 E_o1
 obtain ⟨_, _, ⟨T3, L3, k3, n3⟩, -, X3, ⟨Lc3, hQ3, l3, y3, z3⟩, st3⟩ := X2.virtualBack hx (y := yM16) (z := yM17) hown (mvT hZ (own_w hw 211)) (mvT hZ (own_w hw 212)) (own_nf (args := #[]) (z := yM7) (mvT hZ (own_w hw 148)) rfl) (mvT hZ (own_w hw 214)) (mvT hZ (own_w hw 215)) (by decide) (backOf (W := 0) (rm39 l Z a0 hw [] o1 (ofNat Lc.length) h0 n0 Z0 E_o1 F_count_o1) hZ (own_w hw 216) (own_w hw 106) (by decide) (by decide)) q3a q3c (g := (mkF m 10 #[oR o0, oR o1, .val .null, oR b, .unset] [(.ref o1)])) rfl (by rw [hml]; rfl) (Steps.refl _) (argsL := []) (rest := []) (lenOf pd_7 rfl) rfl (by show 2 * 0 + _ ≤ _; exact Nat.le_of_eq rfl) (d36 hby 6) (fun _ _ => ⟨rfl, eq2, (by decide : 0 + 0 ≤ _), (by decide : 0 + 0 ≤ _)⟩)
 dsimp only [Pt.U, Pt.locs, Pt.cells, Pt.slots] at X3 l3 y3 z3 st3 hQ3
 subst l3 y3 z3
 obtain ⟨rfl, N3q, eq3⟩ := hQ3
 have N3 := Fr.app N2 N3q
 refine own_step (fun t k => st3.trans k) ?_
 refine oP T3 (mkF m 16 #[oR o0, oR o1, .val .null, oR b, oI (ofNat Lc.length)] [(.ref o1)]) (fun t k => ?_) ?_
 ·skip
  refine XS.istore X3.here hx rfl (d36 hby 7) rfl (l' := #[oR o0, oR o1, .val .null, oR b, oI (ofNat Lc.length)]) rfl ?_
  refine XS.aloadN X3.here hx rfl (d36 hby 8) rfl rfl ?_
  exact k
 obtain ⟨cq4, kq4, q4a, q4b, q4c⟩ := isOf hZ eq3 E_o1
 obtain ⟨_, _, ⟨T4, L4, k4, n4⟩, -, X4, ⟨Lc4, hQ4, l4, y4, z4⟩, st4⟩ := X3.virtualBack hx (y := yM18) (z := yM18) hown (mvT hZ (own_w hw 219)) (mvT hZ (own_w hw 220)) (notFace_of_selects (args := #[]) (mvT hZ (own_w hw 222))) (mvT hZ (own_w hw 222)) (mvT hZ (own_w hw 221)) (by decide) (backOf (W := 0) (rm41 l Z a0 hw [] o1 cs h0 n0 Z0 O0 S_cs hcs E_o1 F_coder_o1) hZ (own_w hw 223) (own_w hw 114) (by decide) (by decide)) q4a q4c (g := (mkF m 16 #[oR o0, oR o1, .val .null, oR b, oI (ofNat Lc.length)] [(.ref o1)])) rfl (by rw [hml]; rfl) (Steps.refl _) (argsL := []) (rest := []) (lenOf pd_14 rfl) rfl (by show 2 * 0 + _ ≤ _; exact Nat.le_of_eq rfl) (d36 hby 9) (fun _ _ => ⟨rfl, eq3, (by decide : 0 + 0 ≤ _), (by decide : 0 + 0 ≤ _)⟩)
 dsimp only [Pt.U, Pt.locs, Pt.cells, Pt.slots] at X4 l4 y4 z4 st4 hQ4
 subst l4 y4 z4
 obtain ⟨rfl, N4q, eq4⟩ := hQ4
 have N4 := Fr.app N3 N4q
 refine own_step (fun t k => st4.trans k) ?_
 refine oP T4 (mkF m 24 #[oR o0, oR o1, .val .null, oR b, oI (ofNat Lc.length)] [(.int 0), (.ref o0)]) (fun t k => ?_) ?_
 ·skip
  refine XS.ifNo X4.here hx rfl (d36 hby 10) rfl ((if0 _ _).trans (feq (by decide)).1) ?_
  refine XS.aloadN X4.here hx rfl (d36 hby 11) rfl rfl ?_
  refine XS.iconst X4.here hx rfl (d36 hby 12) ?_
  exact k
 obtain ⟨T6, h6, X6, e6, W6, st6⟩ := putFN X4 hx hZ hown (own_w hw 26) Via.refl eq4 F_coder_o0 E_o0 (Or.inr ⟨(own_w hw 27), rfl, hnm⟩) (own_w hw 2) (ty := .byte) (v' := (.int (nar .byte (0 : Int32)))) (by decide) rfl (fits_nar_byte _) (g := (mkF m 24 #[oR o0, oR o1, .val .null, oR b, oI (ofNat Lc.length)] [(.int 0), (.ref o0)])) rfl rfl (d36 hby 13)
 have F7 := F_coder_o0.same W6
 have F8 := F_value_o0.other W6 (Or.inr (slot_ne (Or.inr (own_w hw 29)) (Or.inr (own_w hw 27)) (by decide) (t := (.array .byte)) (t' := .byte) (by decide) (by decide)))
 have A12 := E_o0.wr W6
 have A14 := A_b.wr W6
 have V15 := V_b.other W6 neb
 have Z17 := Nat.le_trans Z0 (Keep.of_wr W6).1
 have K6 := K0.wr W6 (Or.inl (List.mem_of_getElem? (i := 0) rfl))
 have N6 := Fr.snoc X6 N4 g_o0
 refine own_step st6 ?_
 refine oP T6 (mkF m 32 #[oR o0, oR o1, .val .null, oR b, oI (ofNat Lc.length)] [(.int (ofNat Lc.length)), (.int 0), (.ref b), (.ref o0)]) (fun t k => ?_) ?_
 ·skip
  refine XS.aloadN X6.here hx rfl (d36 hby 14) rfl rfl ?_
  refine XS.aloadN X6.here hx rfl (d36 hby 15) rfl rfl ?_
  refine XS.iconst X6.here hx rfl (d36 hby 16) ?_
  refine XS.iload X6.here hx rfl (d36 hby 17) rfl ?_
  exact k
 obtain ⟨_, _, ⟨T18, L18, k18, n18⟩, -, X18, ⟨Lc18, hQ18, l18, y18, z18⟩, st18⟩ := Jvm.LawKit.callS X6 hx (y := yM21) hown (mvT hZ (own_w hw 224)) (mvT hZ (own_w hw 225)) (mvT hZ (own_w hw 187)) (mvT hZ (own_w hw 226)) (by decide) (backOf (W := 1) (rm42 l Z a0 hw [] b Lc.length k Cn (own_buf Lc Cn) h6 n0 Z17 V15 A14 (own_bufl hL) hL (by omega) hCn) hZ (own_w hw 226) (own_w hw 187) (by decide) (by decide)) (g := (mkF m 32 #[oR o0, oR o1, .val .null, oR b, oI (ofNat Lc.length)] [(.int (ofNat Lc.length)), (.int 0), (.ref b), (.ref o0)])) rfl (by rw [hml]; rfl) (argsL := [(.ref b), (.int 0), (.int (ofNat Lc.length))]) (rest := [(.ref o0)]) (lenOf pd_12 rfl) rfl (by show 2 * 0 + _ ≤ _; exact Nat.le_of_eq rfl) (d36 hby 18) (fun _ _ => ⟨rfl, e6, (by decide : 0 + 1 ≤ _), (by decide : 0 + 256 ≤ _)⟩)
 dsimp only [Pt.U, Pt.locs, Pt.cells, Pt.slots] at X18 l18 y18 z18 st18 hQ18
 subst l18 y18 z18
 obtain ⟨cp18, kc18, rfl, N18q, g18, Kq18, Vc18, Ac18⟩ := hQ18
 have N18 := Fr.app N6 N18q
 refine own_step st18 ?_
 have ne19 : o0 ≠ cp18 := Nat.ne_of_lt (Nat.lt_of_lt_of_le F8.lt (Nat.le_of_eq g18.symm))
 have sz_cp18 : h0.size ≤ cp18 := Nat.le_trans K6.1 (Nat.le_of_eq g18.symm)
 have F22 := F8.keep Kq18 nin0
 have F23 := F7.keep Kq18 nin0
 have A27 := A12.keep Kq18
 have K33 := K6.trans Kq18 all0
 rw [own_bufk] at Vc18
 obtain ⟨T34, h34, X34, e34, W34, st34⟩ := putF X18 hx hZ hown (host := "") (Or.inl (own_w hw 28)) Via.refl rfl F22 A27 (Or.inr ⟨(own_w hw 29), rfl, hnm⟩) (own_w hw 2) (ty := (.array .byte)) (by decide) rfl rfl (g := (mkF m 35 #[oR o0, oR o1, .val .null, oR b, oI (ofNat Lc.length)] [(.ref cp18), (.ref o0)])) rfl rfl (d36 hby 19)
 have F35 := F22.same W34
 have F36 := F23.other W34 (Or.inr (slot_ne (Or.inr (own_w hw 27)) (Or.inr (own_w hw 29)) (by decide) (t := .byte) (t' := (.array .byte)) (by decide) (by decide)))
 have A40 := A27.wr W34
 have V45 := Vc18.other W34 (Ne.symm ne19)
 have K34 := K33.wr W34 (Or.inl (List.mem_of_getElem? (i := 0) rfl))
 have N34 := Fr.snoc X34 N18 g_o0
 refine own_step st34 ?_
 refine oP T34 (mkF m 97 #[oR o0, oR o1, .val .null, oR b, oI (ofNat Lc.length)] []) (fun t k => ?_) ?_
 ·skip
  refine XS.goto X34.here hx rfl (pc0 := 38) (pc' := 97) rfl (d36 hby 20) (by decide) (by decide) ?_
  exact k
 refine own_retV X34 hx Bd.returns (d36 hby 50) (BodyLoose.notSynchronized Bd) (by decide) (by decide) ?_
 rw [show T34.heap = h34 from e34]
 exact ⟨cp18, kc18, rfl, N34, K34, A40, F36, F35, V45, sz_cp18⟩
def D35 : List (Nat × Instr × Nat) := [(0, .aload_n 0, 1), (1, .aload_n 1, 1), (2, .aconst_null, 1), (3, .invokespecial 489, 3), (6, .return_, 1)]
theorem A35 : ∀ q ∈ D35, decode jdk_42_method_53_code q.1 = .ok q.2 := by decide +kernel
theorem d35 {c : Code} (h0 : c.code = jdk_42_method_53_code) (i : Nat) {pc n : Nat} {q : Instr} (h : D35[i]? = some (pc, q, n) := by rfl) : decode c.code pc = .ok (q, n) := hb h0 (A35 (pc, q, n) (List.mem_of_getElem? h))
theorem pn_rm36 : plainName "java/lang/String" = true := by first | (simp [plainName, overriddenIn]; done) | decide +kernel
theorem ef_rm36 (m : MethodId) (o0 : Addr) (o1 : Addr) : entryFrame m #[(.ref o0), (.ref o1)] 2 = mkF m 0 #[.val (.ref o0), .val (.ref o1)] [] := by first | (simp [entryFrame, mkF, argsToLocals, Value.category, maxLocals]; done) | rfl
def rm36_Q (Z : State) (o0 : Addr) (o1 : Addr) (cs : Int32) (b : Addr) (k : ClassId) (Cn : Nat) (Lc : List Value) (h0 : Heap) (n0 : Nat) (v : Option Value) (h : Heap) (L : List Loc) : Prop := ∃ (t : Addr) (k1 : ClassId), v = none ∧ Fr n0 L ∧ Keep h0 h [o0] ∧ Exa Z h o0 "java/lang/String" ∧ Fld Z h o0 "java/lang/String" "coder" "B" (.int 0) ∧ Fld Z h o0 "java/lang/String" "value" "[B" (.ref t) ∧ Arv Z h t k1 .byte (ofNat Lc.length) Lc (.int 0) ∧ h0.size ≤ t
set_option maxRecDepth 65536 in
set_option maxHeartbeats 40000000 in
theorem rm36 (l : Launch) (Z : State) (a0 : Array Value) (hw : ∀ d ∈ tables_1, d.before a0 Z = true) (ws : List Jvm.Cond) (o0 : Addr) (o1 : Addr) (cs : Int32) (b : Addr) (k : ClassId) (Cn : Nat) (Lc : List Value) (h0 : Heap) (n0 : Nat) (Z0 : n0 ≤ h0.size) (O0 : Old Z n0 h0) (S_cs : Sta Z Z.heap "java/lang/String" "COMPACT_STRINGS" "Z" (.int cs)) (hcs : ¬ cs = (0 : Int32)) (E_o0 : Exa Z h0 o0 "java/lang/String") (F_value_o0 : Fld Z h0 o0 "java/lang/String" "value" "[B" .null) (F_coder_o0 : Fld Z h0 o0 "java/lang/String" "coder" "B" (.int 0)) (g_o0 : n0 ≤ o0) (E_o1 : Exa Z h0 o1 "java/lang/StringBuilder") (F_value_o1 : Fld Z h0 o1 "java/lang/AbstractStringBuilder" "value" "[B" (.ref b)) (F_coder_o1 : Fld Z h0 o1 "java/lang/AbstractStringBuilder" "coder" "B" (.int 0)) (F_count_o1 : Fld Z h0 o1 "java/lang/AbstractStringBuilder" "count" "I" (.int (ofNat Lc.length))) (V_b : Arv Z h0 b k .byte (ofNat Cn) (own_buf Lc Cn) (.int 0)) (A_b : Exa Z h0 b "[B") (ne1 : o1 ≠ o0) (neb : b ≠ o0) (hL : Lc.length ≤ Cn) (hl : Lc.length ≤ 250) (hCn : Cn ≤ 1024) :
  MetFree l yM23 (head1 (Jvm.Cond.code yM23 jdk_42_method_53_code 2 none :: ws) rM4_1_256_87) (fun a U => a = #[(.ref o0), (.ref o1)] ∧ Z.Warmed39 U.vm ∧ U.heap = h0) (fun _ _ _ _ _ => True) (fun _ U o U' => ∃ v L, o = .returned v ∧ rm36_Q Z o0 o1 cs b k Cn Lc h0 n0 v U'.heap L ∧ FrameEnd U o U' L rM4_1_256_87.cells rM4_1_256_87.slots) := by
 refine MetFree.of_bodySF (plainFor_of_name pn_rm36) hisR ?_
 intro p e s m args below meth c s₁ Bd hml0 hP hK
 obtain ⟨rfl, hZ, hh⟩ := hP
 have hx := Bd.exec
 have hby := Bd.bytes
 have hml : c.maxLocals = 2 := hml0
 have hown : s.vm.findClass "java/lang/String" = some m.cls := findClass_of_methodNamed Bd.named
 have hnm := (name_of_methodNamed Bd.named Bd.method).1
 have X0 : Stand p l e rM4_1_256_87 s m #[(.ref o0), (.ref o1)] below meth c s₁ [] 0 0 := Stand.of_body Bd
 have e0 : s₁.heap = h0 := by rw [← hh, Bd.state]; rfl
 have N0 := Fr.nil n0
 have K0 := Keep.refl h0 [o0]
 refine own_enter (QQ := rm36_Q Z o0 o1 cs b k Cn Lc h0 n0) (ef_rm36 m o0 o1) ?_
 show own_Run p e below s _ _ _ s₁ (mkF m 0 #[.val (.ref o0), .val (.ref o1)] [])
 refine oP s₁ (mkF m 3 #[oR o0, oR o1] [.null, (.ref o1), (.ref o0)]) (fun t k => ?_) ?_
 ·skip
  refine XS.aloadN X0.here hx rfl (d35 hby 0) rfl rfl ?_
  refine XS.aloadN X0.here hx rfl (d35 hby 1) rfl rfl ?_
  refine XS.aconstNull X0.here hx rfl (d35 hby 2) ?_
  exact k
 obtain ⟨_, _, ⟨T1, L1, k1, n1⟩, -, X1, ⟨Lc1, hQ1, l1, y1, z1⟩, st1⟩ := X0.specialBack hx (y := yM22) rfl hown (mvT hZ (own_w hw 203)) (mvT hZ (own_w hw 204)) (mvT hZ (own_w hw 205)) (by decide) (backOf (W := 0) (rm37 l Z a0 hw [] o0 o1 cs b k Cn Lc h0 n0 Z0 O0 S_cs hcs E_o0 F_value_o0 F_coder_o0 g_o0 E_o1 F_value_o1 F_coder_o1 F_count_o1 V_b A_b  ne1 neb hL hl hCn) hZ (own_w hw 205) (own_w hw 3) (by decide) (by decide)) (g := (mkF m 3 #[oR o0, oR o1] [.null, (.ref o1), (.ref o0)])) rfl (by rw [hml]; rfl) (Steps.refl _) (a := o0) (argsL := [(.ref o1), .null]) (rest := []) (lenOf pd_15 rfl) rfl (by show 2 * 0 + _ ≤ _; exact Nat.le_of_eq rfl) (d35 hby 3) (fun _ _ => ⟨rfl, e0, (by decide : 0 + 1 ≤ _), (by decide : 0 + 256 ≤ _)⟩)
 dsimp only [Pt.U, Pt.locs, Pt.cells, Pt.slots] at X1 l1 y1 z1 st1 hQ1
 subst l1 y1 z1
 obtain ⟨t, k1, rfl, N1q, Kq1, r1⟩ := hQ1
 have N1 := Fr.app N0 N1q
 refine own_step (fun t k => st1.trans k) ?_
 refine own_retV X1 hx Bd.returns (d35 hby 4) (BodyLoose.notSynchronized Bd) (by decide) (by decide) ?_
 exact ⟨t, k1, rfl, N1, Kq1, r1⟩
def D34 : List (Nat × Instr × Nat) := [(0, .new 18, 3), (3, .dup, 1), (4, .aload_n 0, 1), (5, .invokespecial 137, 3), (8, .areturn, 1)]
theorem A34 : ∀ q ∈ D34, decode jdk_67_method_42_code q.1 = .ok q.2 := by decide +kernel
theorem d34 {c : Code} (h0 : c.code = jdk_67_method_42_code) (i : Nat) {pc n : Nat} {q : Instr} (h : D34[i]? = some (pc, q, n) := by rfl) : decode c.code pc = .ok (q, n) := hb h0 (A34 (pc, q, n) (List.mem_of_getElem? h))
theorem pn_rm35 : plainName "java/lang/StringBuilder" = true := by first | (simp [plainName, overriddenIn]; done) | decide +kernel
theorem ef_rm35 (m : MethodId) (o0 : Addr) : entryFrame m #[(.ref o0)] 1 = mkF m 0 #[.val (.ref o0)] [] := by first | (simp [entryFrame, mkF, argsToLocals, Value.category, maxLocals]; done) | rfl
def rm35_Q (Z : State) (o0 : Addr) (cs : Int32) (b : Addr) (k : ClassId) (Cn : Nat) (Lc : List Value) (h0 : Heap) (n0 : Nat) (v : Option Value) (h : Heap) (L : List Loc) : Prop := ∃ (r : Addr) (t : Addr) (k1 : ClassId), v = some (.ref r) ∧ Fr n0 L ∧ Keep h0 h [] ∧ h0.size ≤ r ∧ Exa Z h r "java/lang/String" ∧ Fld Z h r "java/lang/String" "coder" "B" (.int 0) ∧ Fld Z h r "java/lang/String" "value" "[B" (.ref t) ∧ Arv Z h t k1 .byte (ofNat Lc.length) Lc (.int 0) ∧ h0.size ≤ t
set_option maxRecDepth 65536 in
set_option maxHeartbeats 40000000 in
theorem rm35 (l : Launch) (Z : State) (a0 : Array Value) (hw : ∀ d ∈ tables_1, d.before a0 Z = true) (ws : List Jvm.Cond) (o0 : Addr) (cs : Int32) (b : Addr) (k : ClassId) (Cn : Nat) (Lc : List Value) (h0 : Heap) (n0 : Nat) (Z0 : n0 ≤ h0.size) (O0 : Old Z n0 h0) (S_cs : Sta Z Z.heap "java/lang/String" "COMPACT_STRINGS" "Z" (.int cs)) (hcs : ¬ cs = (0 : Int32)) (E_o0 : Exa Z h0 o0 "java/lang/StringBuilder") (F_value_o0 : Fld Z h0 o0 "java/lang/AbstractStringBuilder" "value" "[B" (.ref b)) (F_coder_o0 : Fld Z h0 o0 "java/lang/AbstractStringBuilder" "coder" "B" (.int 0)) (F_count_o0 : Fld Z h0 o0 "java/lang/AbstractStringBuilder" "count" "I" (.int (ofNat Lc.length))) (V_b : Arv Z h0 b k .byte (ofNat Cn) (own_buf Lc Cn) (.int 0)) (A_b : Exa Z h0 b "[B") (hL : Lc.length ≤ Cn) (hl : Lc.length ≤ 250) (hCn : Cn ≤ 1024) :
  MetFree l yM24 (head1 (Jvm.Cond.code yM24 jdk_67_method_42_code 1 (some (.object "java/lang/String")) :: ws) rM5_2_260_101) (fun a U => a = #[(.ref o0)] ∧ Z.Warmed39 U.vm ∧ U.heap = h0) (fun _ _ _ _ _ => True) (fun _ U o U' => ∃ v L, o = .returned v ∧ rm35_Q Z o0 cs b k Cn Lc h0 n0 v U'.heap L ∧ FrameEnd U o U' L rM5_2_260_101.cells rM5_2_260_101.slots) := by
 refine MetFree.of_bodySF (plainFor_of_name pn_rm35) hisR ?_
 intro p e s m args below meth c s₁ Bd hml0 hP hK
 obtain ⟨rfl, hZ, hh⟩ := hP
 have hx := Bd.exec
 have hby := Bd.bytes
 have hml : c.maxLocals = 1 := hml0
 have hown : s.vm.findClass "java/lang/StringBuilder" = some m.cls := findClass_of_methodNamed Bd.named
 have hnm := (name_of_methodNamed Bd.named Bd.method).1
 have X0 : Stand p l e rM5_2_260_101 s m #[(.ref o0)] below meth c s₁ [] 0 0 := Stand.of_body Bd
 have e0 : s₁.heap = h0 := by rw [← hh, Bd.state]; rfl
 have N0 := Fr.nil n0
 have K0 := Keep.refl h0 []
 refine own_enter (QQ := rm35_Q Z o0 cs b k Cn Lc h0 n0) (ef_rm35 m o0) ?_
 show own_Run p e below s _ _ _ s₁ (mkF m 0 #[.val (.ref o0)] [])
 obtain ⟨T1, h1, X1, e1, E1, A1, D1, -, st1⟩ := newO X0 hx hZ hown (own_w hw 199) (own_w hw 2) (own_w hw 3) e0 (g := (mkF m 0 #[oR o0] [])) rfl (d34 hby 0) (by decide) (by decide)
 obtain ⟨b1, g1⟩ : ∃ z, z = h0.size := ⟨_, rfl⟩
 have ne2 : o0 ≠ b1 := Nat.ne_of_lt (Nat.lt_of_lt_of_le F_value_o0.lt (Nat.le_of_eq g1.symm))
 have ne3 : b ≠ b1 := Nat.ne_of_lt (Nat.lt_of_lt_of_le A_b.lt (Nat.le_of_eq g1.symm))
 have g_b1 : n0 ≤ b1 := Nat.le_trans Z0 (Nat.le_of_eq g1.symm)
 have sz_b1 : h0.size ≤ b1 := Nat.le_trans K0.1 (Nat.le_of_eq g1.symm)
 rw [← g1] at A1 D1 st1
 have F4 := F_value_o0.ext E1
 have F5 := F_coder_o0.ext E1
 have F6 := F_count_o0.ext E1
 have A7 := E_o0.ext E1
 have A8 := A_b.ext E1
 have V9 := V_b.ext E1
 have O10 := O0.ext E1
 have K1 := K0.ext E1
 have F11 : Fld Z h1 b1 "java/lang/String" "coder" "B" (.int 0) := D1 (Or.inr (own_w hw 27)) (ty := .byte) (by decide)
 have F12 : Fld Z h1 b1 "java/lang/String" "value" "[B" .null := D1 (Or.inr (own_w hw 29)) (ty := (.array .byte)) (by decide)
 have Z13 := Nat.le_trans Z0 E1.1
 refine own_step st1 ?_
 refine oP T1 (mkF m 5 #[oR o0] [(.ref o0), (.ref b1), (.ref b1)]) (fun t k => ?_) ?_
 ·skip
  refine XS.dup X1.here hx rfl (d34 hby 1) rfl rfl ?_
  refine XS.aloadN X1.here hx rfl (d34 hby 2) rfl rfl ?_
  exact k
 obtain ⟨_, _, ⟨T14, L14, k14, n14⟩, -, X14, ⟨Lc14, hQ14, l14, y14, z14⟩, st14⟩ := X1.specialBack hx (y := yM23) rfl hown (mvT hZ (own_w hw 200)) (mvT hZ (own_w hw 201)) (mvT hZ (own_w hw 202)) (by decide) (backOf (W := 1) (rm36 l Z a0 hw [] b1 o0 cs b k Cn Lc h1 n0 Z13 O10 S_cs hcs A1 F12 F11 g_b1 A7 F4 F5 F6 V9 A8 ne2 ne3 hL hl hCn) hZ (own_w hw 202) (own_w hw 3) (by decide) (by decide)) (g := (mkF m 5 #[oR o0] [(.ref o0), (.ref b1), (.ref b1)])) rfl (by rw [hml]; rfl) (Steps.refl _) (a := b1) (argsL := [(.ref o0)]) (rest := [(.ref b1)]) (lenOf pd_16 rfl) rfl (by show 2 * 0 + _ ≤ _; exact Nat.le_of_eq rfl) (d34 hby 3) (fun _ _ => ⟨rfl, e1, (by decide : 1 + 1 ≤ _), (by decide : 4 + 256 ≤ _)⟩)
 dsimp only [Pt.U, Pt.locs, Pt.cells, Pt.slots] at X14 l14 y14 z14 st14 hQ14
 subst l14 y14 z14
 obtain ⟨t, k1, rfl, N14q, Kq14, Er, Cr, Vr, Vt, szt⟩ := hQ14
 have N14 := Fr.app N0 N14q
 refine own_step (fun t k => st14.trans k) ?_
 have Kz := K1.trans Kq14 (allS (Or.inr sz_b1) all0)
 have szt2 : h0.size ≤ t := Nat.le_trans K1.1 szt
 refine own_retA X14 hx Bd.returns rfl rfl (d34 hby 4) (BodyLoose.notSynchronized Bd) (by decide) (by decide) ?_
 exact ⟨b1, t, k1, rfl, N14, Kz, sz_b1, Er, Cr, Vr, Vt, szt2⟩
theorem own_st10 {a0 a1 a2 a3 a4 a5 a6 a7 a8 a9 : Value} {s10 : Slot} (h : One s10) (x : Int32) : storeLocals #[.val a0, .val a1, .val a2, .val a3, .val a4, .val a5, .val a6, .val a7, .val a8, .val a9, s10] 10 (.int x) = some #[.val a0, .val a1, .val a2, .val a3, .val a4, .val a5, .val a6, .val a7, .val a8, .val a9, .val (.int x)] := by
 rcases h with rfl | ⟨w, rfl, hw⟩
 ·rfl
 ·cases w <;> first | rfl | (simp [Value.category] at hw)
def D48 : List (Nat × Instr × Nat) := [(0, .iload 6, 2), (2, .ifCond .eq 9, 3), (5, .getstatic 111, 3), (8, .goto 6, 3), (11, .getstatic 115, 3), (14, .astore 7, 2), (16, .iload_n 2, 1), (17, .istore 8, 2), (19, .iload 5, 2), (21, .istore 9, 2), (23, .iload 8, 2), (25, .iload_n 3, 1), (26, .if_icmp .ge 126, 3), (29, .aload_n 1, 1), (30, .iload 8, 2), (32, .iinc 8 1, 3), (35, .baload, 1), (36, .sipush 255, 3), (39, .iand, 1), (40, .bipush 16, 2), (42, .ishl, 1), (43, .aload_n 1, 1), (44, .iload 8, 2), (46, .iinc 8 1, 3), (49, .baload, 1), (50, .sipush 255, 3), (53, .iand, 1), (54, .bipush 8, 2), (56, .ishl, 1), (57, .ior, 1), (58, .aload_n 1, 1), (59, .iload 8, 2), (61, .iinc 8 1, 3), (64, .baload, 1), (65, .sipush 255, 3), (68, .iand, 1), (69, .ior, 1), (70, .istore 10, 2), (72, .aload 4, 2), (74, .iload 9, 2), (76, .iinc 9 1, 3), (79, .aload 7, 2), (81, .iload 10, 2), (83, .bipush 18, 2), (85, .iushr, 1), (86, .bipush 63, 2), (88, .iand, 1), (89, .caload, 1), (90, .i2b, 1), (91, .bastore, 1), (92, .aload 4, 2), (94, .iload 9, 2), (96, .iinc 9 1, 3), (99, .aload 7, 2), (101, .iload 10, 2), (103, .bipush 12, 2), (105, .iushr, 1), (106, .bipush 63, 2), (108, .iand, 1), (109, .caload, 1), (110, .i2b, 1), (111, .bastore, 1), (112, .aload 4, 2), (114, .iload 9, 2), (116, .iinc 9 1, 3), (119, .aload 7, 2), (121, .iload 10, 2), (123, .bipush 6, 2), (125, .iushr, 1), (126, .bipush 63, 2), (128, .iand, 1), (129, .caload, 1), (130, .i2b, 1), (131, .bastore, 1), (132, .aload 4, 2), (134, .iload 9, 2), (136, .iinc 9 1, 3), (139, .aload 7, 2), (141, .iload 10, 2), (143, .bipush 63, 2), (145, .iand, 1), (146, .caload, 1), (147, .i2b, 1), (148, .bastore, 1), (149, .goto (-126), 3), (152, .return_, 1)]
theorem A48 : ∀ q ∈ D48, decode jdk_2452_method_9_code q.1 = .ok q.2 := by decide +kernel
theorem d48 {c : Code} (h0 : c.code = jdk_2452_method_9_code) (i : Nat) {pc n : Nat} {q : Instr} (h : D48[i]? = some (pc, q, n) := by rfl) : decode c.code pc = .ok (q, n) := hb h0 (A48 (pc, q, n) (List.mem_of_getElem? h))
theorem pn_rm49 : plainName "java/util/Base64$Encoder" = true := by first | (simp [plainName, overriddenIn]; done) | decide +kernel
theorem ef_rm49 (m : MethodId) (o0 : Addr) (o1 : Addr) (o4 : Addr) (sp : Nat) (gn : Nat) (dp : Nat) : entryFrame m #[(.ref o0), (.ref o1), (.int (ofNat sp)), (.int (ofNat (sp + 3 * gn))), (.ref o4), (.int (ofNat dp)), (.int 0)] 11 = mkF m 0 #[.val (.ref o0), .val (.ref o1), .val (.int (ofNat sp)), .val (.int (ofNat (sp + 3 * gn))), .val (.ref o4), .val (.int (ofNat dp)), .val (.int 0), .unset, .unset, .unset, .unset] [] := by first | (simp [entryFrame, mkF, argsToLocals, Value.category, maxLocals]; done) | rfl
def rm49_Q (Z : State) (o0 : Addr) (o1 : Addr) (o4 : Addr) (sp : Nat) (gn : Nat) (dp : Nat) (tb : Addr) (kt : ClassId) (k : ClassId) (xs : List Int32) (k2 : ClassId) (Dn : Nat) (vd : List Value) (h0 : Heap) (n0 : Nat) (v : Option Value) (h : Heap) (L : List Loc) : Prop := v = none ∧ Fr n0 L ∧ Keep h0 h [o4] ∧ Arv Z h o4 k2 .byte (ofNat Dn) (own_blk xs gn sp dp vd) (.int 0)
set_option maxRecDepth 65536 in
set_option maxHeartbeats 40000000 in
theorem rm49 (l : Launch) (Z : State) (a0 : Array Value) (hw : ∀ d ∈ tables_1, d.before a0 Z = true) (ws : List Jvm.Cond) (o0 : Addr) (o1 : Addr) (o4 : Addr) (sp : Nat) (gn : Nat) (dp : Nat) (tb : Addr) (kt : ClassId) (k : ClassId) (xs : List Int32) (k2 : ClassId) (Dn : Nat) (vd : List Value) (h0 : Heap) (n0 : Nat) (Z0 : n0 ≤ h0.size) (O0 : Old Z n0 h0) (S_tb : Sta Z Z.heap "java/util/Base64$Encoder" "toBase64" "[C" (.ref tb)) (V_tb : Arv Z Z.heap tb kt .char (64 : Int32) own_tbl (.int 0)) (V_o1 : Arv Z h0 o1 k .byte (ofNat xs.length) (own_xs xs) (.int 0)) (V_o4 : Arv Z h0 o4 k2 .byte (ofNat Dn) vd (.int 0)) (g_o4 : n0 ≤ o4) (ne14 : o1 ≠ o4) (hx_ : sp + 3 * gn ≤ xs.length) (hxl : xs.length ≤ 1024) (hd : dp + 4 * gn ≤ Dn) (hvd : vd.length = Dn) (hDn : Dn ≤ 1024) :
  MetFree l yM25 (head1 (Jvm.Cond.code yM25 jdk_2452_method_9_code 11 none :: ws) rM0_0_0_0) (fun a U => a = #[(.ref o0), (.ref o1), (.int (ofNat sp)), (.int (ofNat (sp + 3 * gn))), (.ref o4), (.int (ofNat dp)), (.int 0)] ∧ Z.Warmed39 U.vm ∧ U.heap = h0) (fun _ _ _ _ _ => True) (fun _ U o U' => ∃ v L, o = .returned v ∧ rm49_Q Z o0 o1 o4 sp gn dp tb kt k xs k2 Dn vd h0 n0 v U'.heap L ∧ FrameEnd U o U' L rM0_0_0_0.cells rM0_0_0_0.slots) := by
 refine MetFree.of_bodySF (plainFor_of_name pn_rm49) hisR ?_
 intro p e s m args below meth c s₁ Bd hml0 hP hK
 obtain ⟨rfl, hZ, hh⟩ := hP
 have hx := Bd.exec
 have hby := Bd.bytes
 have hml : c.maxLocals = 11 := hml0
 have hown : s.vm.findClass "java/util/Base64$Encoder" = some m.cls := findClass_of_methodNamed Bd.named
 have hnm := (name_of_methodNamed Bd.named Bd.method).1
 have X0 : Stand p l e rM0_0_0_0 s m #[(.ref o0), (.ref o1), (.int (ofNat sp)), (.int (ofNat (sp + 3 * gn))), (.ref o4), (.int (ofNat dp)), (.int 0)] below meth c s₁ [] 0 0 := Stand.of_body Bd
 have e0 : s₁.heap = h0 := by rw [← hh, Bd.state]; rfl
 have N0 := Fr.nil n0
 have K0 := Keep.refl h0 [o4]
 refine own_enter (QQ := rm49_Q Z o0 o1 o4 sp gn dp tb kt k xs k2 Dn vd h0 n0) (ef_rm49 m o0 o1 o4 sp gn dp) ?_
 show own_Run p e below s _ _ _ s₁ (mkF m 0 #[.val (.ref o0), .val (.ref o1), .val (.int (ofNat sp)), .val (.int (ofNat (sp + 3 * gn))), .val (.ref o4), .val (.int (ofNat dp)), .val (.int 0), .unset, .unset, .unset, .unset] [])
 have loop : ∀ (g i j : Nat) (T : State) (hp : Heap) (lc : List Loc) (s10 : Slot) (vw : List Value), i + 3 * g = sp + 3 * gn → j + 4 * g ≤ Dn → vw.length = Dn → own_blk xs g i j vw = own_blk xs gn sp dp vd → ∀ (X : Stand p l e rM0_0_0_0 s m #[(.ref o0), (.ref o1), (.int (ofNat sp)), (.int (ofNat (sp + 3 * gn))), (.ref o4), (.int (ofNat dp)), (.int 0)] below meth c T lc 0 0) (eT : T.heap = hp) (Nl : Fr n0 lc) (Kl : Keep h0 hp [o4]) (Ol : Old Z n0 hp) (Vs : Arv Z hp o1 k .byte (ofNat xs.length) (own_xs xs) (.int 0)) (Vd : Arv Z hp o4 k2 .byte (ofNat Dn) vw (.int 0)), One s10 → own_Run p e below s (rm49_Q Z o0 o1 o4 sp gn dp tb kt k xs k2 Dn vd h0 n0) 0 0 T (mkF m 23 #[.val (.ref o0), .val (.ref o1), .val (.int (ofNat sp)), .val (.int (ofNat (sp + 3 * gn))), .val (.ref o4), .val (.int (ofNat dp)), .val (.int 0), .val (.ref tb), .val (.int (ofNat i)), .val (.int (ofNat j)), s10] []) := by
  intro g
  induction g with
  | zero =>
   intro i j T hp lc s10 vw hi hj hl hR X eT Nl Kl Ol Vs Vd h10
   refine oP T (mkF m 152 #[oR o0, oR o1, oI (ofNat sp), oI (ofNat (sp + 3 * gn)), oR o4, oI (ofNat dp), oI 0, oR tb, oI (ofNat i), oI (ofNat j), s10] []) (fun t k => ?_) ?_
   ·skip
    refine XS.iload X.here hx rfl (d48 hby 10) rfl ?_
    refine XS.iloadN X.here hx rfl (d48 hby 11) rfl ?_
    refine XS.icmpYes X.here hx rfl (pc0 := 26) (pc' := 152) rfl (d48 hby 12) rfl (flt (fun q => absurd ((own_lt (by omega) (by omega)).mp q) (by omega))).2.1 (by decide) (by decide) ?_
    exact k
   refine own_retV X hx Bd.returns (d48 hby 85) (BodyLoose.notSynchronized Bd) (by decide) (by decide) ?_
   rw [show T.heap = hp from eT]
   exact ⟨rfl, Nl, Kl, hR ▸ Vd⟩
  | succ g ih =>
   intro i j T hp lc s10 vw hi hj hl hR X eT Nl Kl Ol Vs Vd h10
   refine oP T (mkF m 35 #[oR o0, oR o1, oI (ofNat sp), oI (ofNat (sp + 3 * gn)), oR o4, oI (ofNat dp), oI 0, oR tb, oI ((ofNat i) + (1 : Int32)), oI (ofNat j), s10] [(.int (ofNat i)), (.ref o1)]) (fun t k => ?_) ?_
   ·skip
    refine XS.iload X.here hx rfl (d48 hby 10) rfl ?_
    refine XS.iloadN X.here hx rfl (d48 hby 11) rfl ?_
    refine XS.icmpNo X.here hx rfl (d48 hby 12) rfl (tlt ((own_lt (by omega) (by omega)).mpr (by omega))).2.1 ?_
    refine XS.aloadN X.here hx rfl (d48 hby 13) rfl rfl ?_
    refine XS.iload X.here hx rfl (d48 hby 14) rfl ?_
    refine XS.iinc X.here hx rfl (d48 hby 15) rfl (l' := #[oR o0, oR o1, oI (ofNat sp), oI (ofNat (sp + 3 * gn)), oR o4, oI (ofNat dp), oI 0, oR tb, oI ((ofNat i) + (1 : Int32)), oI (ofNat j), s10]) rfl ?_
    exact k
   rw [show (((ofNat i) + (1 : Int32)) : Int32) = (ofNat (i + 1)) from own_add i 1]
   obtain ⟨cl3, Arcl3, qcl3, Scl3, Mcl3, Hcl3, Gcl3⟩ := id Vs
   have hincl3 : ¬ ((ofNat i) < 0 ∨ cl3.slots.size ≤ ((ofNat i)).toNatClampNeg) := inb_of Scl3 (own_tin (by omega) (by omega))
   have hatcl3 : cl3.slots[((ofNat i)).toNatClampNeg]? = some (.int (own_g xs i)) := Hcl3.at hincl3 (own_xat xs (by omega))
   refine oP T (mkF m 40 #[oR o0, oR o1, oI (ofNat sp), oI (ofNat (sp + 3 * gn)), oR o4, oI (ofNat dp), oI 0, oR tb, oI (ofNat (i + 1)), oI (ofNat j), s10] [(.int ((own_g xs i) &&& (255 : Int32)))]) (fun t k => ?_) ?_
   ·skip
    refine X.baloadBytes hx (j := (ofNat i)) (v := (.int (own_g xs i))) (by rw [eT]; exact Arcl3.1) (State.isArrayOf_alike hZ.alike Arcl3.2.1) Arcl3.2.2 hincl3 hatcl3 (g := (mkF m 35 #[oR o0, oR o1, oI (ofNat sp), oI (ofNat (sp + 3 * gn)), oR o4, oI (ofNat dp), oI 0, oR tb, oI (ofNat (i + 1)), oI (ofNat j), s10] [(.int (ofNat i)), (.ref o1)])) rfl rfl (d48 hby 16) _ ?_
    refine XS.sipush X.here hx rfl (d48 hby 17) ?_
    refine XS.iand X.here hx rfl (d48 hby 18) rfl ?_
    exact k
   rw [show (((own_g xs i) &&& (255 : Int32)) : Int32) = (ofNat (own_ug xs i)) from own_a255 _]
   refine oP T (mkF m 49 #[oR o0, oR o1, oI (ofNat sp), oI (ofNat (sp + 3 * gn)), oR o4, oI (ofNat dp), oI 0, oR tb, oI ((ofNat (i + 1)) + (1 : Int32)), oI (ofNat j), s10] [(.int (ofNat (i + 1))), (.ref o1), (.int ((ofNat (own_ug xs i)) <<< ((16 : Int32) &&& 31)))]) (fun t k => ?_) ?_
   ·skip
    refine XS.bipush X.here hx rfl (d48 hby 19) ?_
    refine XS.ishl X.here hx rfl (d48 hby 20) rfl ?_
    refine XS.aloadN X.here hx rfl (d48 hby 21) rfl rfl ?_
    refine XS.iload X.here hx rfl (d48 hby 22) rfl ?_
    refine XS.iinc X.here hx rfl (d48 hby 23) rfl (l' := #[oR o0, oR o1, oI (ofNat sp), oI (ofNat (sp + 3 * gn)), oR o4, oI (ofNat dp), oI 0, oR tb, oI ((ofNat (i + 1)) + (1 : Int32)), oI (ofNat j), s10]) rfl ?_
    exact k
   rw [show (((ofNat (i + 1)) + (1 : Int32)) : Int32) = (ofNat (i + 2)) from own_add (i + 1) 1]
   obtain ⟨cl4, Arcl4, qcl4, Scl4, Mcl4, Hcl4, Gcl4⟩ := id Vs
   have hincl4 : ¬ ((ofNat (i + 1)) < 0 ∨ cl4.slots.size ≤ ((ofNat (i + 1))).toNatClampNeg) := inb_of Scl4 (own_tin (by omega) (by omega))
   have hatcl4 : cl4.slots[((ofNat (i + 1))).toNatClampNeg]? = some (.int (own_g xs (i + 1))) := Hcl4.at hincl4 (own_xat xs (by omega))
   refine oP T (mkF m 54 #[oR o0, oR o1, oI (ofNat sp), oI (ofNat (sp + 3 * gn)), oR o4, oI (ofNat dp), oI 0, oR tb, oI (ofNat (i + 2)), oI (ofNat j), s10] [(.int ((own_g xs (i + 1)) &&& (255 : Int32))), (.int ((ofNat (own_ug xs i)) <<< ((16 : Int32) &&& 31)))]) (fun t k => ?_) ?_
   ·skip
    refine X.baloadBytes hx (j := (ofNat (i + 1))) (v := (.int (own_g xs (i + 1)))) (by rw [eT]; exact Arcl4.1) (State.isArrayOf_alike hZ.alike Arcl4.2.1) Arcl4.2.2 hincl4 hatcl4 (g := (mkF m 49 #[oR o0, oR o1, oI (ofNat sp), oI (ofNat (sp + 3 * gn)), oR o4, oI (ofNat dp), oI 0, oR tb, oI (ofNat (i + 2)), oI (ofNat j), s10] [(.int (ofNat (i + 1))), (.ref o1), (.int ((ofNat (own_ug xs i)) <<< ((16 : Int32) &&& 31)))])) rfl rfl (d48 hby 24) _ ?_
    refine XS.sipush X.here hx rfl (d48 hby 25) ?_
    refine XS.iand X.here hx rfl (d48 hby 26) rfl ?_
    exact k
   rw [show (((own_g xs (i + 1)) &&& (255 : Int32)) : Int32) = (ofNat (own_ug xs (i + 1))) from own_a255 _]
   refine oP T (mkF m 64 #[oR o0, oR o1, oI (ofNat sp), oI (ofNat (sp + 3 * gn)), oR o4, oI (ofNat dp), oI 0, oR tb, oI ((ofNat (i + 2)) + (1 : Int32)), oI (ofNat j), s10] [(.int (ofNat (i + 2))), (.ref o1), (.int (((ofNat (own_ug xs i)) <<< ((16 : Int32) &&& 31)) ||| ((ofNat (own_ug xs (i + 1))) <<< ((8 : Int32) &&& 31))))]) (fun t k => ?_) ?_
   ·skip
    refine XS.bipush X.here hx rfl (d48 hby 27) ?_
    refine XS.ishl X.here hx rfl (d48 hby 28) rfl ?_
    refine XS.ior X.here hx rfl (d48 hby 29) rfl ?_
    refine XS.aloadN X.here hx rfl (d48 hby 30) rfl rfl ?_
    refine XS.iload X.here hx rfl (d48 hby 31) rfl ?_
    refine XS.iinc X.here hx rfl (d48 hby 32) rfl (l' := #[oR o0, oR o1, oI (ofNat sp), oI (ofNat (sp + 3 * gn)), oR o4, oI (ofNat dp), oI 0, oR tb, oI ((ofNat (i + 2)) + (1 : Int32)), oI (ofNat j), s10]) rfl ?_
    exact k
   rw [show (((ofNat (i + 2)) + (1 : Int32)) : Int32) = (ofNat (i + 3)) from own_add (i + 2) 1]
   obtain ⟨cl5, Arcl5, qcl5, Scl5, Mcl5, Hcl5, Gcl5⟩ := id Vs
   have hincl5 : ¬ ((ofNat (i + 2)) < 0 ∨ cl5.slots.size ≤ ((ofNat (i + 2))).toNatClampNeg) := inb_of Scl5 (own_tin (by omega) (by omega))
   have hatcl5 : cl5.slots[((ofNat (i + 2))).toNatClampNeg]? = some (.int (own_g xs (i + 2))) := Hcl5.at hincl5 (own_xat xs (by omega))
   refine oP T (mkF m 69 #[oR o0, oR o1, oI (ofNat sp), oI (ofNat (sp + 3 * gn)), oR o4, oI (ofNat dp), oI 0, oR tb, oI (ofNat (i + 3)), oI (ofNat j), s10] [(.int ((own_g xs (i + 2)) &&& (255 : Int32))), (.int (((ofNat (own_ug xs i)) <<< ((16 : Int32) &&& 31)) ||| ((ofNat (own_ug xs (i + 1))) <<< ((8 : Int32) &&& 31))))]) (fun t k => ?_) ?_
   ·skip
    refine X.baloadBytes hx (j := (ofNat (i + 2))) (v := (.int (own_g xs (i + 2)))) (by rw [eT]; exact Arcl5.1) (State.isArrayOf_alike hZ.alike Arcl5.2.1) Arcl5.2.2 hincl5 hatcl5 (g := (mkF m 64 #[oR o0, oR o1, oI (ofNat sp), oI (ofNat (sp + 3 * gn)), oR o4, oI (ofNat dp), oI 0, oR tb, oI (ofNat (i + 3)), oI (ofNat j), s10] [(.int (ofNat (i + 2))), (.ref o1), (.int (((ofNat (own_ug xs i)) <<< ((16 : Int32) &&& 31)) ||| ((ofNat (own_ug xs (i + 1))) <<< ((8 : Int32) &&& 31))))])) rfl rfl (d48 hby 33) _ ?_
    refine XS.sipush X.here hx rfl (d48 hby 34) ?_
    refine XS.iand X.here hx rfl (d48 hby 35) rfl ?_
    exact k
   rw [show (((own_g xs (i + 2)) &&& (255 : Int32)) : Int32) = (ofNat (own_ug xs (i + 2))) from own_a255 _]
   refine oP T (mkF m 70 #[oR o0, oR o1, oI (ofNat sp), oI (ofNat (sp + 3 * gn)), oR o4, oI (ofNat dp), oI 0, oR tb, oI (ofNat (i + 3)), oI (ofNat j), s10] [(.int ((((ofNat (own_ug xs i)) <<< ((16 : Int32) &&& 31)) ||| ((ofNat (own_ug xs (i + 1))) <<< ((8 : Int32) &&& 31))) ||| (ofNat (own_ug xs (i + 2)))))]) (fun t k => ?_) ?_
   ·skip
    refine XS.ior X.here hx rfl (d48 hby 36) rfl ?_
    exact k
   rw [show (((((ofNat (own_ug xs i)) <<< ((16 : Int32) &&& 31)) ||| ((ofNat (own_ug xs (i + 1))) <<< ((8 : Int32) &&& 31))) ||| (ofNat (own_ug xs (i + 2)))) : Int32) = (ofNat ((own_ug xs i) * 65536 + (own_ug xs (i + 1)) * 256 + (own_ug xs (i + 2)))) from own_b3 (own_ugb _ _) (own_ugb _ _)]
   refine oP T (mkF m 79 #[oR o0, oR o1, oI (ofNat sp), oI (ofNat (sp + 3 * gn)), oR o4, oI (ofNat dp), oI 0, oR tb, oI (ofNat (i + 3)), oI ((ofNat j) + (1 : Int32)), oI (ofNat ((own_ug xs i) * 65536 + (own_ug xs (i + 1)) * 256 + (own_ug xs (i + 2))))] [(.int (ofNat j)), (.ref o4)]) (fun t k => ?_) ?_
   ·skip
    refine XS.istore X.here hx rfl (d48 hby 37) rfl (l' := #[oR o0, oR o1, oI (ofNat sp), oI (ofNat (sp + 3 * gn)), oR o4, oI (ofNat dp), oI 0, oR tb, oI (ofNat (i + 3)), oI (ofNat j), oI (ofNat ((own_ug xs i) * 65536 + (own_ug xs (i + 1)) * 256 + (own_ug xs (i + 2))))]) (own_st10 h10 _) ?_
    refine XS.aload X.here hx rfl (d48 hby 38) rfl rfl ?_
    refine XS.iload X.here hx rfl (d48 hby 39) rfl ?_
    refine XS.iinc X.here hx rfl (d48 hby 40) rfl (l' := #[oR o0, oR o1, oI (ofNat sp), oI (ofNat (sp + 3 * gn)), oR o4, oI (ofNat dp), oI 0, oR tb, oI (ofNat (i + 3)), oI ((ofNat j) + (1 : Int32)), oI (ofNat ((own_ug xs i) * 65536 + (own_ug xs (i + 1)) * 256 + (own_ug xs (i + 2))))]) rfl ?_
    exact k
   rw [show (((ofNat j) + (1 : Int32)) : Int32) = (ofNat (j + 1)) from own_add j 1]
   refine oP T (mkF m 89 #[oR o0, oR o1, oI (ofNat sp), oI (ofNat (sp + 3 * gn)), oR o4, oI (ofNat dp), oI 0, oR tb, oI (ofNat (i + 3)), oI (ofNat (j + 1)), oI (ofNat ((own_ug xs i) * 65536 + (own_ug xs (i + 1)) * 256 + (own_ug xs (i + 2))))] [(.int ((((ofNat ((own_ug xs i) * 65536 + (own_ug xs (i + 1)) * 256 + (own_ug xs (i + 2)))).toUInt32 >>> ((18 : Int32) &&& 31).toUInt32).toInt32) &&& (63 : Int32))), (.ref tb), (.int (ofNat j)), (.ref o4)]) (fun t k => ?_) ?_
   ·skip
    refine XS.aload X.here hx rfl (d48 hby 41) rfl rfl ?_
    refine XS.iload X.here hx rfl (d48 hby 42) rfl ?_
    refine XS.bipush X.here hx rfl (d48 hby 43) ?_
    refine XS.iushr X.here hx rfl (d48 hby 44) rfl ?_
    refine XS.bipush X.here hx rfl (d48 hby 45) ?_
    refine XS.iand X.here hx rfl (d48 hby 46) rfl ?_
    exact k
   rw [show (((((ofNat ((own_ug xs i) * 65536 + (own_ug xs (i + 1)) * 256 + (own_ug xs (i + 2)))).toUInt32 >>> ((18 : Int32) &&& 31).toUInt32).toInt32) &&& (63 : Int32)) : Int32) = (ofNat (own_i0 (own_ug xs i))) from own_x0 (own_ugb _ _) (own_ugb _ _) (own_ugb _ _)]
   obtain ⟨cl6, Arcl6, qcl6, Scl6, Mcl6, Hcl6, Gcl6⟩ := id (V_tb.ext Ol.2)
   have hincl6 : ¬ ((ofNat (own_i0 (own_ug xs i))) < 0 ∨ cl6.slots.size ≤ ((ofNat (own_i0 (own_ug xs i)))).toNatClampNeg) := inb_of Scl6 (own_tin (N := 64) (own_i0l (own_ugb _ _)) (by decide))
   have hatcl6 : cl6.slots[((ofNat (own_i0 (own_ug xs i)))).toNatClampNeg]? = some (.int (own_sn (own_i0 (own_ug xs i)))) := Hcl6.at hincl6 (own_tat (own_i0l (own_ugb _ _)))
   refine oP T (mkF m 90 #[oR o0, oR o1, oI (ofNat sp), oI (ofNat (sp + 3 * gn)), oR o4, oI (ofNat dp), oI 0, oR tb, oI (ofNat (i + 3)), oI (ofNat (j + 1)), oI (ofNat ((own_ug xs i) * 65536 + (own_ug xs (i + 1)) * 256 + (own_ug xs (i + 2))))] [(.int (own_sn (own_i0 (own_ug xs i)))), (.int (ofNat j)), (.ref o4)]) (fun t k => ?_) ?_
   ·skip
    refine X.caload hx (j := (ofNat (own_i0 (own_ug xs i)))) (v := (.int (own_sn (own_i0 (own_ug xs i))))) (by rw [eT]; exact Arcl6.1) (State.isArrayOf_alike hZ.alike Arcl6.2.1) Arcl6.2.2 hincl6 hatcl6 (g := (mkF m 89 #[oR o0, oR o1, oI (ofNat sp), oI (ofNat (sp + 3 * gn)), oR o4, oI (ofNat dp), oI 0, oR tb, oI (ofNat (i + 3)), oI (ofNat (j + 1)), oI (ofNat ((own_ug xs i) * 65536 + (own_ug xs (i + 1)) * 256 + (own_ug xs (i + 2))))] [(.int (ofNat (own_i0 (own_ug xs i)))), (.ref tb), (.int (ofNat j)), (.ref o4)])) rfl rfl (d48 hby 47) _ ?_
    exact k
   refine oP T (mkF m 91 #[oR o0, oR o1, oI (ofNat sp), oI (ofNat (sp + 3 * gn)), oR o4, oI (ofNat dp), oI 0, oR tb, oI (ofNat (i + 3)), oI (ofNat (j + 1)), oI (ofNat ((own_ug xs i) * 65536 + (own_ug xs (i + 1)) * 256 + (own_ug xs (i + 2))))] [(.int ((own_sn (own_i0 (own_ug xs i))).toInt8.toInt32)), (.int (ofNat j)), (.ref o4)]) (fun t k => ?_) ?_
   ·skip
    refine XS.i2b X.here hx rfl (d48 hby 48) rfl ?_
    exact k
   rw [show (((own_sn (own_i0 (own_ug xs i))).toInt8.toInt32) : Int32) = (own_sn (own_i0 (own_ug xs i))) from (own_snb _ (own_i0l (own_ugb _ _))).1]
   obtain ⟨cl7, Arcl7, qcl7, Scl7, Mcl7, Hcl7, Gcl7⟩ := Vd
   have hincl7 : ¬ ((ofNat j) < 0 ∨ cl7.slots.size ≤ ((ofNat j)).toNatClampNeg) := inb_of Scl7 (own_tin (by omega) (by omega))
   obtain ⟨T8, h8, X8, e8, W8, st8⟩ := stB X hx hZ eT Arcl7 (j := (ofNat j)) hincl7 (g := (mkF m 91 #[oR o0, oR o1, oI (ofNat sp), oI (ofNat (sp + 3 * gn)), oR o4, oI (ofNat dp), oI 0, oR tb, oI (ofNat (i + 3)), oI (ofNat (j + 1)), oI (ofNat ((own_ug xs i) * 65536 + (own_ug xs (i + 1)) * 256 + (own_ug xs (i + 2))))] [(.int (own_sn (own_i0 (own_ug xs i)))), (.int (ofNat j)), (.ref o4)])) rfl rfl (d48 hby 49)
   have V9 := Arv.set Arcl7 qcl7 Scl7 Mcl7 Hcl7 Gcl7 (fits_nar_byte _) W8 j (own_tn (by omega)) (by (try simp only [List.length_set]); omega)
   have V10 := Vs.other W8 ne14
   have O11 := Ol.wr W8 g_o4
   have K8 := Kl.wr W8 (Or.inl (List.mem_of_getElem? (i := 0) rfl))
   have N8 := Fr.snoc X8 Nl g_o4
   refine own_step st8 ?_
   have V13 : Arv Z h8 o4 k2 .byte (ofNat Dn) ((vw).set j (.int (own_sn (own_i0 (own_ug xs i))))) (.int 0) := by have q := V9; rw [(own_snb _ (own_i0l (own_ugb _ _))).1] at q; exact q
   refine oP T8 (mkF m 99 #[oR o0, oR o1, oI (ofNat sp), oI (ofNat (sp + 3 * gn)), oR o4, oI (ofNat dp), oI 0, oR tb, oI (ofNat (i + 3)), oI ((ofNat (j + 1)) + (1 : Int32)), oI (ofNat ((own_ug xs i) * 65536 + (own_ug xs (i + 1)) * 256 + (own_ug xs (i + 2))))] [(.int (ofNat (j + 1))), (.ref o4)]) (fun t k => ?_) ?_
   ·skip
    refine XS.aload X8.here hx rfl (d48 hby 50) rfl rfl ?_
    refine XS.iload X8.here hx rfl (d48 hby 51) rfl ?_
    refine XS.iinc X8.here hx rfl (d48 hby 52) rfl (l' := #[oR o0, oR o1, oI (ofNat sp), oI (ofNat (sp + 3 * gn)), oR o4, oI (ofNat dp), oI 0, oR tb, oI (ofNat (i + 3)), oI ((ofNat (j + 1)) + (1 : Int32)), oI (ofNat ((own_ug xs i) * 65536 + (own_ug xs (i + 1)) * 256 + (own_ug xs (i + 2))))]) rfl ?_
    exact k
   rw [show (((ofNat (j + 1)) + (1 : Int32)) : Int32) = (ofNat (j + 2)) from own_add (j + 1) 1]
   refine oP T8 (mkF m 109 #[oR o0, oR o1, oI (ofNat sp), oI (ofNat (sp + 3 * gn)), oR o4, oI (ofNat dp), oI 0, oR tb, oI (ofNat (i + 3)), oI (ofNat (j + 2)), oI (ofNat ((own_ug xs i) * 65536 + (own_ug xs (i + 1)) * 256 + (own_ug xs (i + 2))))] [(.int ((((ofNat ((own_ug xs i) * 65536 + (own_ug xs (i + 1)) * 256 + (own_ug xs (i + 2)))).toUInt32 >>> ((12 : Int32) &&& 31).toUInt32).toInt32) &&& (63 : Int32))), (.ref tb), (.int (ofNat (j + 1))), (.ref o4)]) (fun t k => ?_) ?_
   ·skip
    refine XS.aload X8.here hx rfl (d48 hby 53) rfl rfl ?_
    refine XS.iload X8.here hx rfl (d48 hby 54) rfl ?_
    refine XS.bipush X8.here hx rfl (d48 hby 55) ?_
    refine XS.iushr X8.here hx rfl (d48 hby 56) rfl ?_
    refine XS.bipush X8.here hx rfl (d48 hby 57) ?_
    refine XS.iand X8.here hx rfl (d48 hby 58) rfl ?_
    exact k
   rw [show (((((ofNat ((own_ug xs i) * 65536 + (own_ug xs (i + 1)) * 256 + (own_ug xs (i + 2)))).toUInt32 >>> ((12 : Int32) &&& 31).toUInt32).toInt32) &&& (63 : Int32)) : Int32) = (ofNat (own_i1 (own_ug xs i) (own_ug xs (i + 1)))) from own_x1 (own_ugb _ _) (own_ugb _ _) (own_ugb _ _)]
   obtain ⟨cl14, Arcl14, qcl14, Scl14, Mcl14, Hcl14, Gcl14⟩ := id (V_tb.ext O11.2)
   have hincl14 : ¬ ((ofNat (own_i1 (own_ug xs i) (own_ug xs (i + 1)))) < 0 ∨ cl14.slots.size ≤ ((ofNat (own_i1 (own_ug xs i) (own_ug xs (i + 1))))).toNatClampNeg) := inb_of Scl14 (own_tin (N := 64) (own_i1l (own_ugb _ _)) (by decide))
   have hatcl14 : cl14.slots[((ofNat (own_i1 (own_ug xs i) (own_ug xs (i + 1))))).toNatClampNeg]? = some (.int (own_sn (own_i1 (own_ug xs i) (own_ug xs (i + 1))))) := Hcl14.at hincl14 (own_tat (own_i1l (own_ugb _ _)))
   refine oP T8 (mkF m 110 #[oR o0, oR o1, oI (ofNat sp), oI (ofNat (sp + 3 * gn)), oR o4, oI (ofNat dp), oI 0, oR tb, oI (ofNat (i + 3)), oI (ofNat (j + 2)), oI (ofNat ((own_ug xs i) * 65536 + (own_ug xs (i + 1)) * 256 + (own_ug xs (i + 2))))] [(.int (own_sn (own_i1 (own_ug xs i) (own_ug xs (i + 1))))), (.int (ofNat (j + 1))), (.ref o4)]) (fun t k => ?_) ?_
   ·skip
    refine X8.caload hx (j := (ofNat (own_i1 (own_ug xs i) (own_ug xs (i + 1))))) (v := (.int (own_sn (own_i1 (own_ug xs i) (own_ug xs (i + 1)))))) (by rw [e8]; exact Arcl14.1) (State.isArrayOf_alike hZ.alike Arcl14.2.1) Arcl14.2.2 hincl14 hatcl14 (g := (mkF m 109 #[oR o0, oR o1, oI (ofNat sp), oI (ofNat (sp + 3 * gn)), oR o4, oI (ofNat dp), oI 0, oR tb, oI (ofNat (i + 3)), oI (ofNat (j + 2)), oI (ofNat ((own_ug xs i) * 65536 + (own_ug xs (i + 1)) * 256 + (own_ug xs (i + 2))))] [(.int (ofNat (own_i1 (own_ug xs i) (own_ug xs (i + 1))))), (.ref tb), (.int (ofNat (j + 1))), (.ref o4)])) rfl rfl (d48 hby 59) _ ?_
    exact k
   refine oP T8 (mkF m 111 #[oR o0, oR o1, oI (ofNat sp), oI (ofNat (sp + 3 * gn)), oR o4, oI (ofNat dp), oI 0, oR tb, oI (ofNat (i + 3)), oI (ofNat (j + 2)), oI (ofNat ((own_ug xs i) * 65536 + (own_ug xs (i + 1)) * 256 + (own_ug xs (i + 2))))] [(.int ((own_sn (own_i1 (own_ug xs i) (own_ug xs (i + 1)))).toInt8.toInt32)), (.int (ofNat (j + 1))), (.ref o4)]) (fun t k => ?_) ?_
   ·skip
    refine XS.i2b X8.here hx rfl (d48 hby 60) rfl ?_
    exact k
   rw [show (((own_sn (own_i1 (own_ug xs i) (own_ug xs (i + 1)))).toInt8.toInt32) : Int32) = (own_sn (own_i1 (own_ug xs i) (own_ug xs (i + 1)))) from (own_snb _ (own_i1l (own_ugb _ _))).1]
   obtain ⟨cl15, Arcl15, qcl15, Scl15, Mcl15, Hcl15, Gcl15⟩ := V13
   have hincl15 : ¬ ((ofNat (j + 1)) < 0 ∨ cl15.slots.size ≤ ((ofNat (j + 1))).toNatClampNeg) := inb_of Scl15 (own_tin (by omega) (by omega))
   obtain ⟨T16, h16, X16, e16, W16, st16⟩ := stB X8 hx hZ e8 Arcl15 (j := (ofNat (j + 1))) hincl15 (g := (mkF m 111 #[oR o0, oR o1, oI (ofNat sp), oI (ofNat (sp + 3 * gn)), oR o4, oI (ofNat dp), oI 0, oR tb, oI (ofNat (i + 3)), oI (ofNat (j + 2)), oI (ofNat ((own_ug xs i) * 65536 + (own_ug xs (i + 1)) * 256 + (own_ug xs (i + 2))))] [(.int (own_sn (own_i1 (own_ug xs i) (own_ug xs (i + 1))))), (.int (ofNat (j + 1))), (.ref o4)])) rfl rfl (d48 hby 61)
   have V17 := Arv.set Arcl15 qcl15 Scl15 Mcl15 Hcl15 Gcl15 (fits_nar_byte _) W16 (j + 1) (own_tn (by omega)) (by (try simp only [List.length_set]); omega)
   have V18 := V10.other W16 ne14
   have O19 := O11.wr W16 g_o4
   have K16 := K8.wr W16 (Or.inl (List.mem_of_getElem? (i := 0) rfl))
   have N16 := Fr.snoc X16 N8 g_o4
   refine own_step st16 ?_
   have V21 : Arv Z h16 o4 k2 .byte (ofNat Dn) ((((vw).set j (.int (own_sn (own_i0 (own_ug xs i)))))).set (j + 1) (.int (own_sn (own_i1 (own_ug xs i) (own_ug xs (i + 1)))))) (.int 0) := by have q := V17; rw [(own_snb _ (own_i1l (own_ugb _ _))).1] at q; exact q
   refine oP T16 (mkF m 119 #[oR o0, oR o1, oI (ofNat sp), oI (ofNat (sp + 3 * gn)), oR o4, oI (ofNat dp), oI 0, oR tb, oI (ofNat (i + 3)), oI ((ofNat (j + 2)) + (1 : Int32)), oI (ofNat ((own_ug xs i) * 65536 + (own_ug xs (i + 1)) * 256 + (own_ug xs (i + 2))))] [(.int (ofNat (j + 2))), (.ref o4)]) (fun t k => ?_) ?_
   ·skip
    refine XS.aload X16.here hx rfl (d48 hby 62) rfl rfl ?_
    refine XS.iload X16.here hx rfl (d48 hby 63) rfl ?_
    refine XS.iinc X16.here hx rfl (d48 hby 64) rfl (l' := #[oR o0, oR o1, oI (ofNat sp), oI (ofNat (sp + 3 * gn)), oR o4, oI (ofNat dp), oI 0, oR tb, oI (ofNat (i + 3)), oI ((ofNat (j + 2)) + (1 : Int32)), oI (ofNat ((own_ug xs i) * 65536 + (own_ug xs (i + 1)) * 256 + (own_ug xs (i + 2))))]) rfl ?_
    exact k
   rw [show (((ofNat (j + 2)) + (1 : Int32)) : Int32) = (ofNat (j + 3)) from own_add (j + 2) 1]
   refine oP T16 (mkF m 129 #[oR o0, oR o1, oI (ofNat sp), oI (ofNat (sp + 3 * gn)), oR o4, oI (ofNat dp), oI 0, oR tb, oI (ofNat (i + 3)), oI (ofNat (j + 3)), oI (ofNat ((own_ug xs i) * 65536 + (own_ug xs (i + 1)) * 256 + (own_ug xs (i + 2))))] [(.int ((((ofNat ((own_ug xs i) * 65536 + (own_ug xs (i + 1)) * 256 + (own_ug xs (i + 2)))).toUInt32 >>> ((6 : Int32) &&& 31).toUInt32).toInt32) &&& (63 : Int32))), (.ref tb), (.int (ofNat (j + 2))), (.ref o4)]) (fun t k => ?_) ?_
   ·skip
    refine XS.aload X16.here hx rfl (d48 hby 65) rfl rfl ?_
    refine XS.iload X16.here hx rfl (d48 hby 66) rfl ?_
    refine XS.bipush X16.here hx rfl (d48 hby 67) ?_
    refine XS.iushr X16.here hx rfl (d48 hby 68) rfl ?_
    refine XS.bipush X16.here hx rfl (d48 hby 69) ?_
    refine XS.iand X16.here hx rfl (d48 hby 70) rfl ?_
    exact k
   rw [show (((((ofNat ((own_ug xs i) * 65536 + (own_ug xs (i + 1)) * 256 + (own_ug xs (i + 2)))).toUInt32 >>> ((6 : Int32) &&& 31).toUInt32).toInt32) &&& (63 : Int32)) : Int32) = (ofNat (own_i2 (own_ug xs (i + 1)) (own_ug xs (i + 2)))) from own_x2 (own_ugb _ _) (own_ugb _ _) (own_ugb _ _)]
   obtain ⟨cl22, Arcl22, qcl22, Scl22, Mcl22, Hcl22, Gcl22⟩ := id (V_tb.ext O19.2)
   have hincl22 : ¬ ((ofNat (own_i2 (own_ug xs (i + 1)) (own_ug xs (i + 2)))) < 0 ∨ cl22.slots.size ≤ ((ofNat (own_i2 (own_ug xs (i + 1)) (own_ug xs (i + 2))))).toNatClampNeg) := inb_of Scl22 (own_tin (N := 64) (own_i2l (own_ugb _ _)) (by decide))
   have hatcl22 : cl22.slots[((ofNat (own_i2 (own_ug xs (i + 1)) (own_ug xs (i + 2))))).toNatClampNeg]? = some (.int (own_sn (own_i2 (own_ug xs (i + 1)) (own_ug xs (i + 2))))) := Hcl22.at hincl22 (own_tat (own_i2l (own_ugb _ _)))
   refine oP T16 (mkF m 130 #[oR o0, oR o1, oI (ofNat sp), oI (ofNat (sp + 3 * gn)), oR o4, oI (ofNat dp), oI 0, oR tb, oI (ofNat (i + 3)), oI (ofNat (j + 3)), oI (ofNat ((own_ug xs i) * 65536 + (own_ug xs (i + 1)) * 256 + (own_ug xs (i + 2))))] [(.int (own_sn (own_i2 (own_ug xs (i + 1)) (own_ug xs (i + 2))))), (.int (ofNat (j + 2))), (.ref o4)]) (fun t k => ?_) ?_
   ·skip
    refine X16.caload hx (j := (ofNat (own_i2 (own_ug xs (i + 1)) (own_ug xs (i + 2))))) (v := (.int (own_sn (own_i2 (own_ug xs (i + 1)) (own_ug xs (i + 2)))))) (by rw [e16]; exact Arcl22.1) (State.isArrayOf_alike hZ.alike Arcl22.2.1) Arcl22.2.2 hincl22 hatcl22 (g := (mkF m 129 #[oR o0, oR o1, oI (ofNat sp), oI (ofNat (sp + 3 * gn)), oR o4, oI (ofNat dp), oI 0, oR tb, oI (ofNat (i + 3)), oI (ofNat (j + 3)), oI (ofNat ((own_ug xs i) * 65536 + (own_ug xs (i + 1)) * 256 + (own_ug xs (i + 2))))] [(.int (ofNat (own_i2 (own_ug xs (i + 1)) (own_ug xs (i + 2))))), (.ref tb), (.int (ofNat (j + 2))), (.ref o4)])) rfl rfl (d48 hby 71) _ ?_
    exact k
   refine oP T16 (mkF m 131 #[oR o0, oR o1, oI (ofNat sp), oI (ofNat (sp + 3 * gn)), oR o4, oI (ofNat dp), oI 0, oR tb, oI (ofNat (i + 3)), oI (ofNat (j + 3)), oI (ofNat ((own_ug xs i) * 65536 + (own_ug xs (i + 1)) * 256 + (own_ug xs (i + 2))))] [(.int ((own_sn (own_i2 (own_ug xs (i + 1)) (own_ug xs (i + 2)))).toInt8.toInt32)), (.int (ofNat (j + 2))), (.ref o4)]) (fun t k => ?_) ?_
   ·skip
    refine XS.i2b X16.here hx rfl (d48 hby 72) rfl ?_
    exact k
   rw [show (((own_sn (own_i2 (own_ug xs (i + 1)) (own_ug xs (i + 2)))).toInt8.toInt32) : Int32) = (own_sn (own_i2 (own_ug xs (i + 1)) (own_ug xs (i + 2)))) from (own_snb _ (own_i2l (own_ugb _ _))).1]
   obtain ⟨cl23, Arcl23, qcl23, Scl23, Mcl23, Hcl23, Gcl23⟩ := V21
   have hincl23 : ¬ ((ofNat (j + 2)) < 0 ∨ cl23.slots.size ≤ ((ofNat (j + 2))).toNatClampNeg) := inb_of Scl23 (own_tin (by omega) (by omega))
   obtain ⟨T24, h24, X24, e24, W24, st24⟩ := stB X16 hx hZ e16 Arcl23 (j := (ofNat (j + 2))) hincl23 (g := (mkF m 131 #[oR o0, oR o1, oI (ofNat sp), oI (ofNat (sp + 3 * gn)), oR o4, oI (ofNat dp), oI 0, oR tb, oI (ofNat (i + 3)), oI (ofNat (j + 3)), oI (ofNat ((own_ug xs i) * 65536 + (own_ug xs (i + 1)) * 256 + (own_ug xs (i + 2))))] [(.int (own_sn (own_i2 (own_ug xs (i + 1)) (own_ug xs (i + 2))))), (.int (ofNat (j + 2))), (.ref o4)])) rfl rfl (d48 hby 73)
   have V25 := Arv.set Arcl23 qcl23 Scl23 Mcl23 Hcl23 Gcl23 (fits_nar_byte _) W24 (j + 2) (own_tn (by omega)) (by (try simp only [List.length_set]); omega)
   have V26 := V18.other W24 ne14
   have O27 := O19.wr W24 g_o4
   have K24 := K16.wr W24 (Or.inl (List.mem_of_getElem? (i := 0) rfl))
   have N24 := Fr.snoc X24 N16 g_o4
   refine own_step st24 ?_
   have V29 : Arv Z h24 o4 k2 .byte (ofNat Dn) ((((((vw).set j (.int (own_sn (own_i0 (own_ug xs i)))))).set (j + 1) (.int (own_sn (own_i1 (own_ug xs i) (own_ug xs (i + 1))))))).set (j + 2) (.int (own_sn (own_i2 (own_ug xs (i + 1)) (own_ug xs (i + 2)))))) (.int 0) := by have q := V25; rw [(own_snb _ (own_i2l (own_ugb _ _))).1] at q; exact q
   refine oP T24 (mkF m 139 #[oR o0, oR o1, oI (ofNat sp), oI (ofNat (sp + 3 * gn)), oR o4, oI (ofNat dp), oI 0, oR tb, oI (ofNat (i + 3)), oI ((ofNat (j + 3)) + (1 : Int32)), oI (ofNat ((own_ug xs i) * 65536 + (own_ug xs (i + 1)) * 256 + (own_ug xs (i + 2))))] [(.int (ofNat (j + 3))), (.ref o4)]) (fun t k => ?_) ?_
   ·skip
    refine XS.aload X24.here hx rfl (d48 hby 74) rfl rfl ?_
    refine XS.iload X24.here hx rfl (d48 hby 75) rfl ?_
    refine XS.iinc X24.here hx rfl (d48 hby 76) rfl (l' := #[oR o0, oR o1, oI (ofNat sp), oI (ofNat (sp + 3 * gn)), oR o4, oI (ofNat dp), oI 0, oR tb, oI (ofNat (i + 3)), oI ((ofNat (j + 3)) + (1 : Int32)), oI (ofNat ((own_ug xs i) * 65536 + (own_ug xs (i + 1)) * 256 + (own_ug xs (i + 2))))]) rfl ?_
    exact k
   rw [show (((ofNat (j + 3)) + (1 : Int32)) : Int32) = (ofNat (j + 4)) from own_add (j + 3) 1]
   refine oP T24 (mkF m 146 #[oR o0, oR o1, oI (ofNat sp), oI (ofNat (sp + 3 * gn)), oR o4, oI (ofNat dp), oI 0, oR tb, oI (ofNat (i + 3)), oI (ofNat (j + 4)), oI (ofNat ((own_ug xs i) * 65536 + (own_ug xs (i + 1)) * 256 + (own_ug xs (i + 2))))] [(.int ((ofNat ((own_ug xs i) * 65536 + (own_ug xs (i + 1)) * 256 + (own_ug xs (i + 2)))) &&& (63 : Int32))), (.ref tb), (.int (ofNat (j + 3))), (.ref o4)]) (fun t k => ?_) ?_
   ·skip
    refine XS.aload X24.here hx rfl (d48 hby 77) rfl rfl ?_
    refine XS.iload X24.here hx rfl (d48 hby 78) rfl ?_
    refine XS.bipush X24.here hx rfl (d48 hby 79) ?_
    refine XS.iand X24.here hx rfl (d48 hby 80) rfl ?_
    exact k
   rw [show (((ofNat ((own_ug xs i) * 65536 + (own_ug xs (i + 1)) * 256 + (own_ug xs (i + 2)))) &&& (63 : Int32)) : Int32) = (ofNat (own_i3 (own_ug xs (i + 2)))) from own_x3]
   obtain ⟨cl30, Arcl30, qcl30, Scl30, Mcl30, Hcl30, Gcl30⟩ := id (V_tb.ext O27.2)
   have hincl30 : ¬ ((ofNat (own_i3 (own_ug xs (i + 2)))) < 0 ∨ cl30.slots.size ≤ ((ofNat (own_i3 (own_ug xs (i + 2))))).toNatClampNeg) := inb_of Scl30 (own_tin (N := 64) (own_i3l _) (by decide))
   have hatcl30 : cl30.slots[((ofNat (own_i3 (own_ug xs (i + 2))))).toNatClampNeg]? = some (.int (own_sn (own_i3 (own_ug xs (i + 2))))) := Hcl30.at hincl30 (own_tat (own_i3l _))
   refine oP T24 (mkF m 147 #[oR o0, oR o1, oI (ofNat sp), oI (ofNat (sp + 3 * gn)), oR o4, oI (ofNat dp), oI 0, oR tb, oI (ofNat (i + 3)), oI (ofNat (j + 4)), oI (ofNat ((own_ug xs i) * 65536 + (own_ug xs (i + 1)) * 256 + (own_ug xs (i + 2))))] [(.int (own_sn (own_i3 (own_ug xs (i + 2))))), (.int (ofNat (j + 3))), (.ref o4)]) (fun t k => ?_) ?_
   ·skip
    refine X24.caload hx (j := (ofNat (own_i3 (own_ug xs (i + 2))))) (v := (.int (own_sn (own_i3 (own_ug xs (i + 2)))))) (by rw [e24]; exact Arcl30.1) (State.isArrayOf_alike hZ.alike Arcl30.2.1) Arcl30.2.2 hincl30 hatcl30 (g := (mkF m 146 #[oR o0, oR o1, oI (ofNat sp), oI (ofNat (sp + 3 * gn)), oR o4, oI (ofNat dp), oI 0, oR tb, oI (ofNat (i + 3)), oI (ofNat (j + 4)), oI (ofNat ((own_ug xs i) * 65536 + (own_ug xs (i + 1)) * 256 + (own_ug xs (i + 2))))] [(.int (ofNat (own_i3 (own_ug xs (i + 2))))), (.ref tb), (.int (ofNat (j + 3))), (.ref o4)])) rfl rfl (d48 hby 81) _ ?_
    exact k
   refine oP T24 (mkF m 148 #[oR o0, oR o1, oI (ofNat sp), oI (ofNat (sp + 3 * gn)), oR o4, oI (ofNat dp), oI 0, oR tb, oI (ofNat (i + 3)), oI (ofNat (j + 4)), oI (ofNat ((own_ug xs i) * 65536 + (own_ug xs (i + 1)) * 256 + (own_ug xs (i + 2))))] [(.int ((own_sn (own_i3 (own_ug xs (i + 2)))).toInt8.toInt32)), (.int (ofNat (j + 3))), (.ref o4)]) (fun t k => ?_) ?_
   ·skip
    refine XS.i2b X24.here hx rfl (d48 hby 82) rfl ?_
    exact k
   rw [show (((own_sn (own_i3 (own_ug xs (i + 2)))).toInt8.toInt32) : Int32) = (own_sn (own_i3 (own_ug xs (i + 2)))) from (own_snb _ (own_i3l _)).1]
   obtain ⟨cl31, Arcl31, qcl31, Scl31, Mcl31, Hcl31, Gcl31⟩ := V29
   have hincl31 : ¬ ((ofNat (j + 3)) < 0 ∨ cl31.slots.size ≤ ((ofNat (j + 3))).toNatClampNeg) := inb_of Scl31 (own_tin (by omega) (by omega))
   obtain ⟨T32, h32, X32, e32, W32, st32⟩ := stB X24 hx hZ e24 Arcl31 (j := (ofNat (j + 3))) hincl31 (g := (mkF m 148 #[oR o0, oR o1, oI (ofNat sp), oI (ofNat (sp + 3 * gn)), oR o4, oI (ofNat dp), oI 0, oR tb, oI (ofNat (i + 3)), oI (ofNat (j + 4)), oI (ofNat ((own_ug xs i) * 65536 + (own_ug xs (i + 1)) * 256 + (own_ug xs (i + 2))))] [(.int (own_sn (own_i3 (own_ug xs (i + 2))))), (.int (ofNat (j + 3))), (.ref o4)])) rfl rfl (d48 hby 83)
   have V33 := Arv.set Arcl31 qcl31 Scl31 Mcl31 Hcl31 Gcl31 (fits_nar_byte _) W32 (j + 3) (own_tn (by omega)) (by (try simp only [List.length_set]); omega)
   have V34 := V26.other W32 ne14
   have O35 := O27.wr W32 g_o4
   have K32 := K24.wr W32 (Or.inl (List.mem_of_getElem? (i := 0) rfl))
   have N32 := Fr.snoc X32 N24 g_o4
   refine own_step st32 ?_
   have V37 : Arv Z h32 o4 k2 .byte (ofNat Dn) ((((((((vw).set j (.int (own_sn (own_i0 (own_ug xs i)))))).set (j + 1) (.int (own_sn (own_i1 (own_ug xs i) (own_ug xs (i + 1))))))).set (j + 2) (.int (own_sn (own_i2 (own_ug xs (i + 1)) (own_ug xs (i + 2))))))).set (j + 3) (.int (own_sn (own_i3 (own_ug xs (i + 2)))))) (.int 0) := by have q := V33; rw [(own_snb _ (own_i3l _)).1] at q; exact q
   refine oP T32 (mkF m 23 #[oR o0, oR o1, oI (ofNat sp), oI (ofNat (sp + 3 * gn)), oR o4, oI (ofNat dp), oI 0, oR tb, oI (ofNat (i + 3)), oI (ofNat (j + 4)), oI (ofNat ((own_ug xs i) * 65536 + (own_ug xs (i + 1)) * 256 + (own_ug xs (i + 2))))] []) (fun t k => ?_) ?_
   ·skip
    refine XS.goto X32.here hx rfl (pc0 := 149) (pc' := 23) rfl (d48 hby 84) (by decide) (by decide) ?_
    exact k
   exact ih (i + 3) (j + 4) _ _ _ _ ((((((((vw).set j (.int (own_sn (own_i0 (own_ug xs i)))))).set (j + 1) (.int (own_sn (own_i1 (own_ug xs i) (own_ug xs (i + 1))))))).set (j + 2) (.int (own_sn (own_i2 (own_ug xs (i + 1)) (own_ug xs (i + 2))))))).set (j + 3) (.int (own_sn (own_i3 (own_ug xs (i + 2)))))) (by omega) (by omega) (by simp only [List.length_set]; exact hl) hR X32 e32 N32 K32 O35 V34 V37 (One.val rfl)
 refine oP s₁ (mkF m 11 #[oR o0, oR o1, oI (ofNat sp), oI (ofNat (sp + 3 * gn)), oR o4, oI (ofNat dp), oI 0, .unset, .unset, .unset, .unset] []) (fun t k => ?_) ?_
 ·skip
  refine XS.iload X0.here hx rfl (d48 hby 0) rfl ?_
  refine XS.ifYes X0.here hx rfl (pc0 := 2) (pc' := 11) rfl (d48 hby 1) rfl ((if0 _ _).trans (teq rfl).1) (by decide) (by decide) ?_
  exact k
 obtain ⟨T39, X39, e39, st39⟩ := getS2 X0 hx hZ hown (host := "") (Or.inl (own_w hw 88)) Via.refl e0 (S_tb.ext O0.2) (g := (mkF m 11 #[oR o0, oR o1, oI (ofNat sp), oI (ofNat (sp + 3 * gn)), oR o4, oI (ofNat dp), oI 0, .unset, .unset, .unset, .unset] [])) rfl (d48 hby 4)
 refine own_step st39 ?_
 refine oP T39 (mkF m 23 #[oR o0, oR o1, oI (ofNat sp), oI (ofNat (sp + 3 * gn)), oR o4, oI (ofNat dp), oI 0, oR tb, oI (ofNat sp), oI (ofNat dp), .unset] []) (fun t k => ?_) ?_
 ·skip
  refine XS.astore X39.here hx rfl (d48 hby 5) rfl rfl (l' := #[oR o0, oR o1, oI (ofNat sp), oI (ofNat (sp + 3 * gn)), oR o4, oI (ofNat dp), oI 0, oR tb, .unset, .unset, .unset]) rfl ?_
  refine XS.iloadN X39.here hx rfl (d48 hby 6) rfl ?_
  refine XS.istore X39.here hx rfl (d48 hby 7) rfl (l' := #[oR o0, oR o1, oI (ofNat sp), oI (ofNat (sp + 3 * gn)), oR o4, oI (ofNat dp), oI 0, oR tb, oI (ofNat sp), .unset, .unset]) rfl ?_
  refine XS.iload X39.here hx rfl (d48 hby 8) rfl ?_
  refine XS.istore X39.here hx rfl (d48 hby 9) rfl (l' := #[oR o0, oR o1, oI (ofNat sp), oI (ofNat (sp + 3 * gn)), oR o4, oI (ofNat dp), oI 0, oR tb, oI (ofNat sp), oI (ofNat dp), .unset]) rfl ?_
  exact k
 exact loop gn sp dp _ _ _ .unset vd rfl hd hvd rfl X39 e39 N0 K0 O0 V_o1 V_o4 One.u
def D9 : List (Nat × Instr × Nat) := [(0, .aload_n 0, 1), (1, .ifnonnull 11, 3), (4, .new 84, 3), (7, .dup, 1), (8, .invokespecial 86, 3), (11, .athrow, 1), (12, .aload_n 0, 1), (13, .areturn, 1)]
theorem A9 : ∀ q ∈ D9, decode jdk_31_method_10_code q.1 = .ok q.2 := by decide +kernel
theorem d9 {c : Code} (h0 : c.code = jdk_31_method_10_code) (i : Nat) {pc n : Nat} {q : Instr} (h : D9[i]? = some (pc, q, n) := by rfl) : decode c.code pc = .ok (q, n) := hb h0 (A9 (pc, q, n) (List.mem_of_getElem? h))
theorem pn_rm9 : plainName "java/util/Objects" = true := by first | (simp [plainName, overriddenIn]; done) | decide +kernel
theorem ef_rm9 (m : MethodId) (o0 : Addr) : entryFrame m #[(.ref o0)] 1 = mkF m 0 #[.val (.ref o0)] [] := by first | (simp [entryFrame, mkF, argsToLocals, Value.category, maxLocals]; done) | rfl
def rm9_Q (Z : State) (o0 : Addr)  (h0 : Heap) (n0 : Nat) (v : Option Value) (h : Heap) (L : List Loc) : Prop := v = some (.ref o0) ∧ Fr n0 L ∧ h = h0
set_option maxRecDepth 65536 in
set_option maxHeartbeats 40000000 in
theorem rm9 (l : Launch) (Z : State) (a0 : Array Value) (hw : ∀ d ∈ tables_1, d.before a0 Z = true) (ws : List Jvm.Cond) (o0 : Addr)  (h0 : Heap) (n0 : Nat) (Z0 : n0 ≤ h0.size)  :
  MetFree l yM26 (head1 (Jvm.Cond.code yM26 jdk_31_method_10_code 1 (some (.object "java/lang/Object")) :: ws) rM0_0_0_0) (fun a U => a = #[(.ref o0)] ∧ Z.Warmed39 U.vm ∧ U.heap = h0) (fun _ _ _ _ _ => True) (fun _ U o U' => ∃ v L, o = .returned v ∧ rm9_Q Z o0 h0 n0 v U'.heap L ∧ FrameEnd U o U' L rM0_0_0_0.cells rM0_0_0_0.slots) := by
 refine MetFree.of_bodySF (plainFor_of_name pn_rm9) hisR ?_
 intro p e s m args below meth c s₁ Bd hml0 hP hK
 obtain ⟨rfl, hZ, hh⟩ := hP
 have hx := Bd.exec
 have hby := Bd.bytes
 have hml : c.maxLocals = 1 := hml0
 have hown : s.vm.findClass "java/util/Objects" = some m.cls := findClass_of_methodNamed Bd.named
 have hnm := (name_of_methodNamed Bd.named Bd.method).1
 have X0 : Stand p l e rM0_0_0_0 s m #[(.ref o0)] below meth c s₁ [] 0 0 := Stand.of_body Bd
 have e0 : s₁.heap = h0 := by rw [← hh, Bd.state]; rfl
 have N0 := Fr.nil n0
 refine own_enter (QQ := rm9_Q Z o0 h0 n0) (ef_rm9 m o0) ?_
 show own_Run p e below s _ _ _ s₁ (mkF m 0 #[.val (.ref o0)] [])
 refine oP s₁ (mkF m 13 #[oR o0] [(.ref o0)]) (fun t k => ?_) ?_
 ·skip
  refine XS.aloadN X0.here hx rfl (d9 hby 0) rfl rfl ?_
  refine XS.ifnonnullYes X0.here hx rfl (pc0 := 1) (pc' := 12) rfl (d9 hby 1) rfl (by decide) (by decide) ?_
  refine XS.aloadN X0.here hx rfl (d9 hby 6) rfl rfl ?_
  exact k
 refine own_retA X0 hx Bd.returns rfl rfl (d9 hby 7) (BodyLoose.notSynchronized Bd) (by decide) (by decide) ?_
 rw [show s₁.heap = h0 from e0]
 exact ⟨rfl, N0, rfl⟩
def D10 : List (Nat × Instr × Nat) := [(0, .aload_n 0, 1), (1, .invokespecial 1, 3), (4, .aload_n 0, 1), (5, .iload_n 1, 1), (6, .putfield 7, 3), (9, .aload_n 0, 1), (10, .aload_n 2, 1), (11, .putfield 13, 3), (14, .aload_n 0, 1), (15, .iload_n 3, 1), (16, .putfield 17, 3), (19, .aload_n 0, 1), (20, .iload 4, 2), (22, .putfield 21, 3), (25, .return_, 1)]
theorem A10 : ∀ q ∈ D10, decode jdk_2452_method_1_code q.1 = .ok q.2 := by decide +kernel
theorem d10 {c : Code} (h0 : c.code = jdk_2452_method_1_code) (i : Nat) {pc n : Nat} {q : Instr} (h : D10[i]? = some (pc, q, n) := by rfl) : decode c.code pc = .ok (q, n) := hb h0 (A10 (pc, q, n) (List.mem_of_getElem? h))
theorem pn_rm10 : plainName "java/util/Base64$Encoder" = true := by first | (simp [plainName, overriddenIn]; done) | decide +kernel
theorem ef_rm10 (m : MethodId) (o0 : Addr) (o2 : Addr) : entryFrame m #[(.ref o0), (.int 0), (.ref o2), (.int 64), (.int 1)] 5 = mkF m 0 #[.val (.ref o0), .val (.int 0), .val (.ref o2), .val (.int 64), .val (.int 1)] [] := by first | (simp [entryFrame, mkF, argsToLocals, Value.category, maxLocals]; done) | rfl
def rm10_Q (Z : State) (o0 : Addr) (o2 : Addr)  (h0 : Heap) (n0 : Nat) (v : Option Value) (h : Heap) (L : List Loc) : Prop := v = none ∧ Fr n0 L ∧ Keep h0 h [o0] ∧ Exa Z h o0 "java/util/Base64$Encoder" ∧ Fld Z h o0 "java/util/Base64$Encoder" "isURL" "Z" (.int 0) ∧ Fld Z h o0 "java/util/Base64$Encoder" "newline" "[B" (.ref o2) ∧ Fld Z h o0 "java/util/Base64$Encoder" "linemax" "I" (.int 64) ∧ Fld Z h o0 "java/util/Base64$Encoder" "doPadding" "Z" (.int 1)
set_option maxRecDepth 65536 in
set_option maxHeartbeats 40000000 in
theorem rm10 (l : Launch) (Z : State) (a0 : Array Value) (hw : ∀ d ∈ tables_1, d.before a0 Z = true) (ws : List Jvm.Cond) (o0 : Addr) (o2 : Addr)  (h0 : Heap) (n0 : Nat) (Z0 : n0 ≤ h0.size) (E_o0 : Exa Z h0 o0 "java/util/Base64$Encoder") (F_isURL_o0 : Fld Z h0 o0 "java/util/Base64$Encoder" "isURL" "Z" (.int 0)) (F_newline_o0 : Fld Z h0 o0 "java/util/Base64$Encoder" "newline" "[B" .null) (F_linemax_o0 : Fld Z h0 o0 "java/util/Base64$Encoder" "linemax" "I" (.int 0)) (F_doPadding_o0 : Fld Z h0 o0 "java/util/Base64$Encoder" "doPadding" "Z" (.int 0)) (g_o0 : n0 ≤ o0) :
  MetFree l yM27 (head1 (Jvm.Cond.code yM27 jdk_2452_method_1_code 5 none :: ws) rM1_0_0_12) (fun a U => a = #[(.ref o0), (.int 0), (.ref o2), (.int 64), (.int 1)] ∧ Z.Warmed39 U.vm ∧ U.heap = h0) (fun _ _ _ _ _ => True) (fun _ U o U' => ∃ v L, o = .returned v ∧ rm10_Q Z o0 o2 h0 n0 v U'.heap L ∧ FrameEnd U o U' L rM1_0_0_12.cells rM1_0_0_12.slots) := by
 refine MetFree.of_bodySF (plainFor_of_name pn_rm10) hisR ?_
 intro p e s m args below meth c s₁ Bd hml0 hP hK
 obtain ⟨rfl, hZ, hh⟩ := hP
 have hx := Bd.exec
 have hby := Bd.bytes
 have hml : c.maxLocals = 5 := hml0
 have hown : s.vm.findClass "java/util/Base64$Encoder" = some m.cls := findClass_of_methodNamed Bd.named
 have hnm := (name_of_methodNamed Bd.named Bd.method).1
 have X0 : Stand p l e rM1_0_0_12 s m #[(.ref o0), (.int 0), (.ref o2), (.int 64), (.int 1)] below meth c s₁ [] 0 0 := Stand.of_body Bd
 have e0 : s₁.heap = h0 := by rw [← hh, Bd.state]; rfl
 have N0 := Fr.nil n0
 have K0 := Keep.refl h0 [o0]
 refine own_enter (QQ := rm10_Q Z o0 o2 h0 n0) (ef_rm10 m o0 o2) ?_
 show own_Run p e below s _ _ _ s₁ (mkF m 0 #[.val (.ref o0), .val (.int 0), .val (.ref o2), .val (.int 64), .val (.int 1)] [])
 refine oP s₁ (mkF m 1 #[oR o0, oI 0, oR o2, oI 64, oI 1] [(.ref o0)]) (fun t k => ?_) ?_
 ·skip
  refine XS.aloadN X0.here hx rfl (d10 hby 0) rfl rfl ?_
  exact k
 obtain ⟨T1, X1, e1, st1⟩ := initO X0 hx hZ hown (own_w hw 52) (own_w hw 12) (own_w hw 13) e0 (g := (mkF m 1 #[oR o0, oI 0, oR o2, oI 64, oI 1] [(.ref o0)])) rfl (by rw [hml]; rfl) rfl (d10 hby 1) (by decide) (W := 0) (by show 2 * 0 + _ ≤ _; exact Nat.le_of_eq rfl) (by decide)
 refine own_step st1 ?_
 refine oP T1 (mkF m 6 #[oR o0, oI 0, oR o2, oI 64, oI 1] [(.int 0), (.ref o0)]) (fun t k => ?_) ?_
 ·skip
  refine XS.aloadN X1.here hx rfl (d10 hby 2) rfl rfl ?_
  refine XS.iloadN X1.here hx rfl (d10 hby 3) rfl ?_
  exact k
 obtain ⟨T2, h2, X2, e2, W2, st2⟩ := putFN X1 hx hZ hown (own_w hw 53) Via.refl e1 F_isURL_o0 E_o0 (Or.inr ⟨(own_w hw 54), rfl, hnm⟩) (own_w hw 46) (ty := .boolean) (v' := (.int (nar .boolean (0 : Int32)))) (by decide) rfl (fits_nar_bool _) (g := (mkF m 6 #[oR o0, oI 0, oR o2, oI 64, oI 1] [(.int 0), (.ref o0)])) rfl rfl (d10 hby 4)
 have F3 := F_isURL_o0.same W2
 have F4 := F_newline_o0.other W2 (Or.inr (slot_ne (Or.inr (own_w hw 56)) (Or.inr (own_w hw 54)) (by decide) (t := (.array .byte)) (t' := .boolean) (by decide) (by decide)))
 have F5 := F_linemax_o0.other W2 (Or.inr (slot_ne (Or.inr (own_w hw 58)) (Or.inr (own_w hw 54)) (by decide) (t := .int) (t' := .boolean) (by decide) (by decide)))
 have F6 := F_doPadding_o0.other W2 (Or.inr (slot_ne (Or.inr (own_w hw 60)) (Or.inr (own_w hw 54)) (by decide) (t := .boolean) (t' := .boolean) (by decide) (by decide)))
 have A7 := E_o0.wr W2
 have K2 := K0.wr W2 (Or.inl (List.mem_of_getElem? (i := 0) rfl))
 have N2 := Fr.snoc X2 N0 g_o0
 refine own_step st2 ?_
 refine oP T2 (mkF m 11 #[oR o0, oI 0, oR o2, oI 64, oI 1] [(.ref o2), (.ref o0)]) (fun t k => ?_) ?_
 ·skip
  refine XS.aloadN X2.here hx rfl (d10 hby 5) rfl rfl ?_
  refine XS.aloadN X2.here hx rfl (d10 hby 6) rfl rfl ?_
  exact k
 obtain ⟨T9, h9, X9, e9, W9, st9⟩ := putF X2 hx hZ hown (host := "") (Or.inl (own_w hw 55)) Via.refl e2 F4 A7 (Or.inr ⟨(own_w hw 56), rfl, hnm⟩) (own_w hw 46) (ty := (.array .byte)) (by decide) rfl rfl (g := (mkF m 11 #[oR o0, oI 0, oR o2, oI 64, oI 1] [(.ref o2), (.ref o0)])) rfl rfl (d10 hby 7)
 have F10 := F4.same W9
 have F11 := F3.other W9 (Or.inr (slot_ne (Or.inr (own_w hw 54)) (Or.inr (own_w hw 56)) (by decide) (t := .boolean) (t' := (.array .byte)) (by decide) (by decide)))
 have F12 := F5.other W9 (Or.inr (slot_ne (Or.inr (own_w hw 58)) (Or.inr (own_w hw 56)) (by decide) (t := .int) (t' := (.array .byte)) (by decide) (by decide)))
 have F13 := F6.other W9 (Or.inr (slot_ne (Or.inr (own_w hw 60)) (Or.inr (own_w hw 56)) (by decide) (t := .boolean) (t' := (.array .byte)) (by decide) (by decide)))
 have A14 := A7.wr W9
 have K9 := K2.wr W9 (Or.inl (List.mem_of_getElem? (i := 0) rfl))
 have N9 := Fr.snoc X9 N2 g_o0
 refine own_step st9 ?_
 refine oP T9 (mkF m 16 #[oR o0, oI 0, oR o2, oI 64, oI 1] [(.int 64), (.ref o0)]) (fun t k => ?_) ?_
 ·skip
  refine XS.aloadN X9.here hx rfl (d10 hby 8) rfl rfl ?_
  refine XS.iloadN X9.here hx rfl (d10 hby 9) rfl ?_
  exact k
 obtain ⟨T16, h16, X16, e16, W16, st16⟩ := putF X9 hx hZ hown (host := "") (Or.inl (own_w hw 57)) Via.refl e9 F12 A14 (Or.inr ⟨(own_w hw 58), rfl, hnm⟩) (own_w hw 46) (ty := .int) (by decide) rfl rfl (g := (mkF m 16 #[oR o0, oI 0, oR o2, oI 64, oI 1] [(.int 64), (.ref o0)])) rfl rfl (d10 hby 10)
 have F17 := F12.same W16
 have F18 := F11.other W16 (Or.inr (slot_ne (Or.inr (own_w hw 54)) (Or.inr (own_w hw 58)) (by decide) (t := .boolean) (t' := .int) (by decide) (by decide)))
 have F19 := F10.other W16 (Or.inr (slot_ne (Or.inr (own_w hw 56)) (Or.inr (own_w hw 58)) (by decide) (t := (.array .byte)) (t' := .int) (by decide) (by decide)))
 have F20 := F13.other W16 (Or.inr (slot_ne (Or.inr (own_w hw 60)) (Or.inr (own_w hw 58)) (by decide) (t := .boolean) (t' := .int) (by decide) (by decide)))
 have A21 := A14.wr W16
 have K16 := K9.wr W16 (Or.inl (List.mem_of_getElem? (i := 0) rfl))
 have N16 := Fr.snoc X16 N9 g_o0
 refine own_step st16 ?_
 refine oP T16 (mkF m 22 #[oR o0, oI 0, oR o2, oI 64, oI 1] [(.int 1), (.ref o0)]) (fun t k => ?_) ?_
 ·skip
  refine XS.aloadN X16.here hx rfl (d10 hby 11) rfl rfl ?_
  refine XS.iload X16.here hx rfl (d10 hby 12) rfl ?_
  exact k
 obtain ⟨T23, h23, X23, e23, W23, st23⟩ := putFN X16 hx hZ hown (own_w hw 59) Via.refl e16 F20 A21 (Or.inr ⟨(own_w hw 60), rfl, hnm⟩) (own_w hw 46) (ty := .boolean) (v' := (.int (nar .boolean (1 : Int32)))) (by decide) rfl (fits_nar_bool _) (g := (mkF m 22 #[oR o0, oI 0, oR o2, oI 64, oI 1] [(.int 1), (.ref o0)])) rfl rfl (d10 hby 13)
 have F24 := F20.same W23
 have F25 := F18.other W23 (Or.inr (slot_ne (Or.inr (own_w hw 54)) (Or.inr (own_w hw 60)) (by decide) (t := .boolean) (t' := .boolean) (by decide) (by decide)))
 have F26 := F19.other W23 (Or.inr (slot_ne (Or.inr (own_w hw 56)) (Or.inr (own_w hw 60)) (by decide) (t := (.array .byte)) (t' := .boolean) (by decide) (by decide)))
 have F27 := F17.other W23 (Or.inr (slot_ne (Or.inr (own_w hw 58)) (Or.inr (own_w hw 60)) (by decide) (t := .int) (t' := .boolean) (by decide) (by decide)))
 have A28 := A21.wr W23
 have K23 := K16.wr W23 (Or.inl (List.mem_of_getElem? (i := 0) rfl))
 have N23 := Fr.snoc X23 N16 g_o0
 refine own_step st23 ?_
 refine own_retV X23 hx Bd.returns (d10 hby 14) (BodyLoose.notSynchronized Bd) (by decide) (by decide) ?_
 rw [show T23.heap = h23 from e23]
 exact ⟨rfl, N23, K23, A28, F25, F26, F27, F24⟩
def D8 : List (Nat × Instr × Nat) := [(0, .aload_n 1, 1), (1, .invokestatic 19, 3), (4, .pop, 1), (5, .getstatic 25, 3), (8, .astore_n 2, 1), (9, .aload_n 1, 1), (10, .astore_n 3, 1), (11, .aload_n 3, 1), (12, .arraylength, 1), (13, .istore 4, 2), (15, .iconst 0, 1), (16, .istore 5, 2), (18, .iload 5, 2), (20, .iload 4, 2), (22, .if_icmp .ge 60, 3), (25, .aload_n 3, 1), (26, .iload 5, 2), (28, .baload, 1), (29, .istore 6, 2), (31, .aload_n 2, 1), (32, .iload 6, 2), (34, .sipush 255, 3), (37, .iand, 1), (38, .iaload, 1), (39, .iconst (-1), 1), (40, .if_icmp .eq 36, 3), (43, .new 31, 3), (46, .dup, 1), (47, .new 33, 3), (50, .dup, 1), (51, .invokespecial 35, 3), (54, .ldc 36, 2), (56, .invokevirtual 38, 3), (59, .iload 6, 2), (61, .bipush 16, 2), (63, .invokestatic 42, 3), (66, .invokevirtual 38, 3), (69, .invokevirtual 48, 3), (72, .invokespecial 51, 3), (75, .athrow, 1), (76, .iinc 5 1, 3), (79, .goto (-61), 3), (82, .iload_n 0, 1), (83, .bipush (-4), 2), (85, .iand, 1), (86, .istore_n 0, 1), (87, .iload_n 0, 1), (88, .ifCond .gt 7, 3), (91, .getstatic 7, 3), (94, .areturn, 1), (95, .new 8, 3), (98, .dup, 1), (99, .iconst 0, 1), (100, .aload_n 1, 1), (101, .iload_n 0, 1), (102, .iconst 1, 1), (103, .invokespecial 54, 3), (106, .areturn, 1)]
theorem A8 : ∀ q ∈ D8, decode jdk_2448_method_5_code q.1 = .ok q.2 := by decide +kernel
theorem d8 {c : Code} (h0 : c.code = jdk_2448_method_5_code) (i : Nat) {pc n : Nat} {q : Instr} (h : D8[i]? = some (pc, q, n) := by rfl) : decode c.code pc = .ok (q, n) := hb h0 (A8 (pc, q, n) (List.mem_of_getElem? h))
theorem pn_rm8 : plainName "java/util/Base64" = true := by first | (simp [plainName, overriddenIn]; done) | decide +kernel
theorem ef_rm8 (m : MethodId) (o1 : Addr) : entryFrame m #[(.int 64), (.ref o1)] 7 = mkF m 0 #[.val (.int 64), .val (.ref o1), .unset, .unset, .unset, .unset, .unset] [] := by first | (simp [entryFrame, mkF, argsToLocals, Value.category, maxLocals]; done) | rfl
def rm8_Q (Z : State) (o1 : Addr) (fb : Addr) (k : ClassId) (h0 : Heap) (n0 : Nat) (v : Option Value) (h : Heap) (L : List Loc) : Prop := ∃ en : Addr, v = some (.ref en) ∧ Fr n0 L ∧ en = h0.size ∧ Keep h0 h [] ∧ Exa Z h en "java/util/Base64$Encoder" ∧ Fld Z h en "java/util/Base64$Encoder" "isURL" "Z" (.int 0) ∧ Fld Z h en "java/util/Base64$Encoder" "newline" "[B" (.ref o1) ∧ Fld Z h en "java/util/Base64$Encoder" "linemax" "I" (.int 64) ∧ Fld Z h en "java/util/Base64$Encoder" "doPadding" "Z" (.int 1)
set_option maxRecDepth 65536 in
set_option maxHeartbeats 40000000 in
theorem rm8 (l : Launch) (Z : State) (a0 : Array Value) (hw : ∀ d ∈ tables_1, d.before a0 Z = true) (ws : List Jvm.Cond) (o1 : Addr) (fb : Addr) (k : ClassId) (h0 : Heap) (n0 : Nat) (Z0 : n0 ≤ h0.size) (O0 : Old Z n0 h0) (S_fb : Sta Z Z.heap "java/util/Base64$Decoder" "fromBase64" "[I" (.ref fb)) (V_fb : ∃ cl, Arr Z Z.heap fb cl .int ∧ ¬ ((10 : Int32) < 0 ∨ cl.slots.size ≤ (10 : Int32).toNatClampNeg) ∧ cl.slots[(10 : Int32).toNatClampNeg]? = some (.int (-1 : Int32))) (V_o1 : Arv Z h0 o1 k .byte (1 : Int32) [(.int 10)] (.int 0)) (A_o1 : Exa Z h0 o1 "[B") :
  MetFree l yM28 (head1 (Jvm.Cond.code yM28 jdk_2448_method_5_code 7 (some (.object "java/util/Base64$Encoder")) :: ws) rM2_1_4_29) (fun a U => a = #[(.int 64), (.ref o1)] ∧ Z.Warmed39 U.vm ∧ U.heap = h0) (fun _ _ _ _ _ => True) (fun _ U o U' => ∃ v L, o = .returned v ∧ rm8_Q Z o1 fb k h0 n0 v U'.heap L ∧ FrameEnd U o U' L rM2_1_4_29.cells rM2_1_4_29.slots) := by
 refine MetFree.of_bodySF (plainFor_of_name pn_rm8) hisR ?_
 intro p e s m args below meth c s₁ Bd hml0 hP hK
 obtain ⟨rfl, hZ, hh⟩ := hP
 have hx := Bd.exec
 have hby := Bd.bytes
 have hml : c.maxLocals = 7 := hml0
 have hown : s.vm.findClass "java/util/Base64" = some m.cls := findClass_of_methodNamed Bd.named
 have hnm := (name_of_methodNamed Bd.named Bd.method).1
 have X0 : Stand p l e rM2_1_4_29 s m #[(.int 64), (.ref o1)] below meth c s₁ [] 0 0 := Stand.of_body Bd
 have e0 : s₁.heap = h0 := by rw [← hh, Bd.state]; rfl
 have N0 := Fr.nil n0
 have K0 := Keep.refl h0 []
 refine own_enter (QQ := rm8_Q Z o1 fb k h0 n0) (ef_rm8 m o1) ?_
 show own_Run p e below s _ _ _ s₁ (mkF m 0 #[.val (.int 64), .val (.ref o1), .unset, .unset, .unset, .unset, .unset] [])
 refine oP s₁ (mkF m 1 #[oI 64, oR o1, .unset, .unset, .unset, .unset, .unset] [(.ref o1)]) (fun t k => ?_) ?_
 ·skip
  refine XS.aloadN X0.here hx rfl (d8 hby 0) rfl rfl ?_
  exact k
 obtain ⟨_, _, ⟨T1, L1, k1, n1⟩, -, X1, ⟨Lc1, hQ1, l1, y1, z1⟩, st1⟩ := Jvm.LawKit.callS X0 hx (y := yM26) hown (mvT hZ (own_w hw 39)) (mvT hZ (own_w hw 40)) (mvT hZ (own_w hw 41)) (mvT hZ (own_w hw 42)) (by decide) (backOf (W := 0) (rm9 l Z a0 hw [] o1  h0 n0 Z0) hZ (own_w hw 42) (own_w hw 41) (by decide) (by decide)) (g := (mkF m 1 #[oI 64, oR o1, .unset, .unset, .unset, .unset, .unset] [(.ref o1)])) rfl (by rw [hml]; rfl) (argsL := [(.ref o1)]) (rest := []) (lenOf pd_17 rfl) rfl (by show 2 * 0 + _ ≤ _; exact Nat.le_of_eq rfl) (d8 hby 1) (fun _ _ => ⟨rfl, e0, (by decide : 0 + 0 ≤ _), (by decide : 0 + 0 ≤ _)⟩)
 dsimp only [Pt.U, Pt.locs, Pt.cells, Pt.slots] at X1 l1 y1 z1 st1 hQ1
 subst l1 y1 z1
 obtain ⟨rfl, N1q, eq1⟩ := hQ1
 have N1 := Fr.app N0 N1q
 refine own_step st1 ?_
 refine oP T1 (mkF m 5 #[oI 64, oR o1, .unset, .unset, .unset, .unset, .unset] []) (fun t k => ?_) ?_
 ·skip
  refine XS.pop X1.here hx rfl (d8 hby 2) rfl rfl ?_
  exact k
 refine oP T1 (mkF m 12 #[oI 64, oR o1, oR fb, oR o1, .unset, .unset, .unset] [(.ref o1)]) (fun t k => ?_) ?_
 ·skip
  refine own_getSR X1 hx hZ hown (own_w hw 43) eq1 (S_fb.ext O0.2) (g := (mkF m 5 #[oI 64, oR o1, .unset, .unset, .unset, .unset, .unset] [])) rfl (d8 hby 3) _ ?_
  refine XS.astoreN X1.here hx rfl (d8 hby 4) rfl rfl (l' := #[oI 64, oR o1, oR fb, .unset, .unset, .unset, .unset]) rfl ?_
  refine XS.aloadN X1.here hx rfl (d8 hby 5) rfl rfl ?_
  refine XS.astoreN X1.here hx rfl (d8 hby 6) rfl rfl (l' := #[oI 64, oR o1, oR fb, oR o1, .unset, .unset, .unset]) rfl ?_
  refine XS.aloadN X1.here hx rfl (d8 hby 7) rfl rfl ?_
  exact k
 obtain ⟨cl2, Arcl2, -, Scl2, Mcl2, -, -⟩ := id V_o1
 refine oP T1 (mkF m 28 #[oI 64, oR o1, oR fb, oR o1, oI 1, oI 0, .unset] [(.int 0), (.ref o1)]) (fun t k => ?_) ?_
 ·skip
  refine X1.arraylength hx (by rw [eq1]; exact Arcl2.1) (State.isArrayOf_alike hZ.alike Arcl2.2.1) (g := (mkF m 12 #[oI 64, oR o1, oR fb, oR o1, .unset, .unset, .unset] [(.ref o1)])) rfl rfl (d8 hby 8) _ ?_
  rw [len_of Scl2 Mcl2]
  show Steps p.tables e below (T1.setTop (mkF m 13 #[oI 64, oR o1, oR fb, oR o1, .unset, .unset, .unset] [(.int 1)])) _
  refine XS.istore X1.here hx rfl (d8 hby 9) rfl (l' := #[oI 64, oR o1, oR fb, oR o1, oI 1, .unset, .unset]) rfl ?_
  refine XS.iconst X1.here hx rfl (d8 hby 10) ?_
  refine XS.istore X1.here hx rfl (d8 hby 11) rfl (l' := #[oI 64, oR o1, oR fb, oR o1, oI 1, oI 0, .unset]) rfl ?_
  refine XS.iload X1.here hx rfl (d8 hby 12) rfl ?_
  refine XS.iload X1.here hx rfl (d8 hby 13) rfl ?_
  refine XS.icmpNo X1.here hx rfl (d8 hby 14) rfl (tlt (by decide)).2.1 ?_
  refine XS.aloadN X1.here hx rfl (d8 hby 15) rfl rfl ?_
  refine XS.iload X1.here hx rfl (d8 hby 16) rfl ?_
  exact k
 obtain ⟨cl4, Arcl4, qcl4, Scl4, Mcl4, Hcl4, Gcl4⟩ := id V_o1
 have hincl4 : ¬ ((0 : Int32) < 0 ∨ cl4.slots.size ≤ ((0 : Int32)).toNatClampNeg) := inb_of Scl4 ⟨by decide, by decide⟩
 have hatcl4 : cl4.slots[((0 : Int32)).toNatClampNeg]? = some (.int 10) := Hcl4.at hincl4 rfl
 refine oP T1 (mkF m 38 #[oI 64, oR o1, oR fb, oR o1, oI 1, oI 0, oI 10] [(.int ((10 : Int32) &&& (255 : Int32))), (.ref fb)]) (fun t k => ?_) ?_
 ·skip
  refine X1.baloadBytes hx (j := (0 : Int32)) (v := (.int 10)) (by rw [eq1]; exact Arcl4.1) (State.isArrayOf_alike hZ.alike Arcl4.2.1) Arcl4.2.2 hincl4 hatcl4 (g := (mkF m 28 #[oI 64, oR o1, oR fb, oR o1, oI 1, oI 0, .unset] [(.int 0), (.ref o1)])) rfl rfl (d8 hby 17) _ ?_
  refine XS.istore X1.here hx rfl (d8 hby 18) rfl (l' := #[oI 64, oR o1, oR fb, oR o1, oI 1, oI 0, oI 10]) rfl ?_
  refine XS.aloadN X1.here hx rfl (d8 hby 19) rfl rfl ?_
  refine XS.iload X1.here hx rfl (d8 hby 20) rfl ?_
  refine XS.sipush X1.here hx rfl (d8 hby 21) ?_
  refine XS.iand X1.here hx rfl (d8 hby 22) rfl ?_
  exact k
 rw [show (((10 : Int32) &&& (255 : Int32)) : Int32) = (10 : Int32) from by decide]
 obtain ⟨cfb, Ar_fb, in_fb, at_fb⟩ := V_fb
 refine oP T1 (mkF m 86 #[oI 64, oR o1, oR fb, oR o1, oI 1, oI 1, oI 10] [(.int ((64 : Int32) &&& (-4 : Int32)))]) (fun t k => ?_) ?_
 ·skip
  refine X1.iaload hx (j := (10 : Int32)) (v := (.int (-1 : Int32))) (by rw [eq1]; exact (Ar_fb.ext O0.2).1) (State.isArrayOf_alike hZ.alike Ar_fb.2.1) Ar_fb.2.2 in_fb at_fb (g := (mkF m 38 #[oI 64, oR o1, oR fb, oR o1, oI 1, oI 0, oI 10] [(.int 10), (.ref fb)])) rfl rfl (d8 hby 23) _ ?_
  refine XS.iconst X1.here hx rfl (d8 hby 24) ?_
  refine XS.icmpYes X1.here hx rfl (pc0 := 40) (pc' := 76) rfl (d8 hby 25) rfl (teq rfl).1 (by decide) (by decide) ?_
  refine XS.iinc X1.here hx rfl (d8 hby 40) rfl (l' := #[oI 64, oR o1, oR fb, oR o1, oI 1, oI 1, oI 10]) rfl ?_
  refine XS.goto X1.here hx rfl (pc0 := 79) (pc' := 18) rfl (d8 hby 41) (by decide) (by decide) ?_
  refine XS.iload X1.here hx rfl (d8 hby 12) rfl ?_
  refine XS.iload X1.here hx rfl (d8 hby 13) rfl ?_
  refine XS.icmpYes X1.here hx rfl (pc0 := 22) (pc' := 82) rfl (d8 hby 14) rfl (flt (by decide)).2.1 (by decide) (by decide) ?_
  refine XS.iloadN X1.here hx rfl (d8 hby 42) rfl ?_
  refine XS.bipush X1.here hx rfl (d8 hby 43) ?_
  refine XS.iand X1.here hx rfl (d8 hby 44) rfl ?_
  exact k
 rw [show (((64 : Int32) &&& (-4 : Int32)) : Int32) = (64 : Int32) from by decide]
 refine oP T1 (mkF m 95 #[oI 64, oR o1, oR fb, oR o1, oI 1, oI 1, oI 10] []) (fun t k => ?_) ?_
 ·skip
  refine XS.istoreN X1.here hx rfl (d8 hby 45) rfl (l' := #[oI 64, oR o1, oR fb, oR o1, oI 1, oI 1, oI 10]) rfl ?_
  refine XS.iloadN X1.here hx rfl (d8 hby 46) rfl ?_
  refine XS.ifYes X1.here hx rfl (pc0 := 88) (pc' := 95) rfl (d8 hby 47) rfl ((if0 _ _).trans (tlt (by decide)).2.2.1) (by decide) (by decide) ?_
  exact k
 obtain ⟨T8, h8, X8, e8, E8, A8, D8, -, st8⟩ := newO X1 hx hZ hown (own_w hw 45) (own_w hw 46) (own_w hw 47) eq1 (g := (mkF m 95 #[oI 64, oR o1, oR fb, oR o1, oI 1, oI 1, oI 10] [])) rfl (d8 hby 50) (by decide) (by decide)
 obtain ⟨b8, g8⟩ : ∃ z, z = h0.size := ⟨_, rfl⟩
 have g_b8 : n0 ≤ b8 := Nat.le_trans Z0 (Nat.le_of_eq g8.symm)
 have sz_b8 : h0.size ≤ b8 := Nat.le_trans K0.1 (Nat.le_of_eq g8.symm)
 rw [← g8] at A8 D8 st8
 have K8 := K0.ext E8
 have F13 : Fld Z h8 b8 "java/util/Base64$Encoder" "isURL" "Z" (.int 0) := D8 (Or.inr (own_w hw 54)) (ty := .boolean) (by decide)
 have F14 : Fld Z h8 b8 "java/util/Base64$Encoder" "newline" "[B" .null := D8 (Or.inr (own_w hw 56)) (ty := (.array .byte)) (by decide)
 have F15 : Fld Z h8 b8 "java/util/Base64$Encoder" "linemax" "I" (.int 0) := D8 (Or.inr (own_w hw 58)) (ty := .int) (by decide)
 have F16 : Fld Z h8 b8 "java/util/Base64$Encoder" "doPadding" "Z" (.int 0) := D8 (Or.inr (own_w hw 60)) (ty := .boolean) (by decide)
 have Z17 := Nat.le_trans Z0 E8.1
 refine own_step st8 ?_
 refine oP T8 (mkF m 103 #[oI 64, oR o1, oR fb, oR o1, oI 1, oI 1, oI 10] [(.int 1), (.int 64), (.ref o1), (.int 0), (.ref b8), (.ref b8)]) (fun t k => ?_) ?_
 ·skip
  refine XS.dup X8.here hx rfl (d8 hby 51) rfl rfl ?_
  refine XS.iconst X8.here hx rfl (d8 hby 52) ?_
  refine XS.aloadN X8.here hx rfl (d8 hby 53) rfl rfl ?_
  refine XS.iloadN X8.here hx rfl (d8 hby 54) rfl ?_
  refine XS.iconst X8.here hx rfl (d8 hby 55) ?_
  exact k
 obtain ⟨_, _, ⟨T18, L18, k18, n18⟩, -, X18, ⟨Lc18, hQ18, l18, y18, z18⟩, st18⟩ := own_specialR X8 hx hZ (y := yM27) rfl hown (own_w hw 48) (own_w hw 49) (own_w hw 51) (by decide) (backOf (W := 1) (rm10 l Z a0 hw [] b8 o1  h8 n0 Z17 A8 F13 F14 F15 F16 g_b8) hZ (own_w hw 51) (own_w hw 47) (by decide) (by decide)) (g := (mkF m 103 #[oI 64, oR o1, oR fb, oR o1, oI 1, oI 1, oI 10] [(.int 1), (.int 64), (.ref o1), (.int 0), (.ref b8), (.ref b8)])) rfl (by rw [hml]; rfl) (a := b8) (argsL := [(.int 0), (.ref o1), (.int 64), (.int 1)]) (rest := [(.ref b8)]) (lenOf pd_18 rfl) rfl (by show 2 * 0 + _ ≤ _; exact Nat.le_of_eq rfl) (d8 hby 56) (fun _ _ => ⟨rfl, e8, (by decide : 1 + 0 ≤ _), (by decide : 4 + 0 ≤ _)⟩)
 dsimp only [Pt.U, Pt.locs, Pt.cells, Pt.slots] at X18 l18 y18 z18 st18 hQ18
 subst l18 y18 z18
 obtain ⟨rfl, N18q, Kq18, Eq18, Fq18⟩ := hQ18
 have N18 := Fr.app N1 N18q
 refine own_step (fun t k => st18.trans k) ?_
 have K23 := K8.trans Kq18 (allS (Or.inr sz_b8) all0)
 refine own_retA X18 hx Bd.returns rfl rfl (d8 hby 57) (BodyLoose.notSynchronized Bd) (by decide) (by decide) ?_
 exact ⟨b8, rfl, N18, g8, K23, Eq18, Fq18⟩
def D13 : List (Nat × Instr × Nat) := [(0, .iload_n 0, 1), (1, .iload_n 1, 1), (2, .iadd, 1), (3, .istore_n 2, 1), (4, .iload_n 0, 1), (5, .iload_n 2, 1), (6, .ixor, 1), (7, .iload_n 1, 1), (8, .iload_n 2, 1), (9, .ixor, 1), (10, .iand, 1), (11, .ifCond .ge 13, 3), (14, .new 109, 3), (17, .dup, 1), (18, .ldc 111, 2), (20, .invokespecial 113, 3), (23, .athrow, 1), (24, .iload_n 2, 1), (25, .ireturn, 1)]
theorem A13 : ∀ q ∈ D13, decode jdk_29_method_24_code q.1 = .ok q.2 := by decide +kernel
theorem d13 {c : Code} (h0 : c.code = jdk_29_method_24_code) (i : Nat) {pc n : Nat} {q : Instr} (h : D13[i]? = some (pc, q, n) := by rfl) : decode c.code pc = .ok (q, n) := hb h0 (A13 (pc, q, n) (List.mem_of_getElem? h))
theorem ef_rm14 (m : MethodId) (p0 : Int32) (p1 : Int32) : entryFrame m #[(.int p0), (.int p1)] 3 = mkF m 0 #[.val (.int p0), .val (.int p1), .unset] [] := by first | (simp [entryFrame, mkF, argsToLocals, Value.category, maxLocals]; done) | rfl
def rm14_Q (Z : State) (p0 : Int32) (p1 : Int32)  (h0 : Heap) (n0 : Nat) (v : Option Value) (h : Heap) (L : List Loc) : Prop := v = some (.int (p0 + p1)) ∧ Fr n0 L ∧ h = h0
set_option maxRecDepth 65536 in
set_option maxHeartbeats 40000000 in
theorem rm14 (l : Launch) (Z : State) (a0 : Array Value) (hw : ∀ d ∈ tables_1, d.before a0 Z = true) (ws : List Jvm.Cond) (p0 : Int32) (p1 : Int32)  (h0 : Heap) (n0 : Nat) (Z0 : n0 ≤ h0.size) (hov : ¬ ((p0 ^^^ (p0 + p1)) &&& (p1 ^^^ (p0 + p1))) < (0 : Int32)) :
  MetFree l yM29 (head1 (Jvm.Cond.code yM29 jdk_29_method_24_code 3 (some .int) :: ws) rM0_0_0_0) (fun a U => a = #[(.int p0), (.int p1)] ∧ Z.Warmed39 U.vm ∧ U.heap = h0) (fun _ _ _ _ _ => True) (fun _ U o U' => ∃ v L, o = .returned v ∧ rm14_Q Z p0 p1 h0 n0 v U'.heap L ∧ FrameEnd U o U' L rM0_0_0_0.cells rM0_0_0_0.slots) := by
 refine MetFree.of_bodySF (Jvm.Free.JP.mathPlain rfl (by decide +kernel)) hisR ?_
 intro p e s m args below meth c s₁ Bd hml0 hP hK
 obtain ⟨rfl, hZ, hh⟩ := hP
 have hx := Bd.exec
 have hby := Bd.bytes
 have hml : c.maxLocals = 3 := hml0
 have hown : s.vm.findClass "java/lang/Math" = some m.cls := findClass_of_methodNamed Bd.named
 have hnm := (name_of_methodNamed Bd.named Bd.method).1
 have X0 : Stand p l e rM0_0_0_0 s m #[(.int p0), (.int p1)] below meth c s₁ [] 0 0 := Stand.of_body Bd
 have e0 : s₁.heap = h0 := by rw [← hh, Bd.state]; rfl
 have N0 := Fr.nil n0
 refine own_enter (QQ := rm14_Q Z p0 p1 h0 n0) (ef_rm14 m p0 p1) ?_
 show own_Run p e below s _ _ _ s₁ (mkF m 0 #[.val (.int p0), .val (.int p1), .unset] [])
 refine oP s₁ (mkF m 25 #[oI p0, oI p1, oI (p0 + p1)] [(.int (p0 + p1))]) (fun t k => ?_) ?_
 ·skip
  refine XS.iloadN X0.here hx rfl (d13 hby 0) rfl ?_
  refine XS.iloadN X0.here hx rfl (d13 hby 1) rfl ?_
  refine XS.iadd X0.here hx rfl (d13 hby 2) rfl ?_
  refine XS.istoreN X0.here hx rfl (d13 hby 3) rfl (l' := #[oI p0, oI p1, oI (p0 + p1)]) rfl ?_
  refine XS.iloadN X0.here hx rfl (d13 hby 4) rfl ?_
  refine XS.iloadN X0.here hx rfl (d13 hby 5) rfl ?_
  refine XS.ixor X0.here hx rfl (d13 hby 6) rfl ?_
  refine XS.iloadN X0.here hx rfl (d13 hby 7) rfl ?_
  refine XS.iloadN X0.here hx rfl (d13 hby 8) rfl ?_
  refine XS.ixor X0.here hx rfl (d13 hby 9) rfl ?_
  refine XS.iand X0.here hx rfl (d13 hby 10) rfl ?_
  refine XS.ifYes X0.here hx rfl (pc0 := 11) (pc' := 24) rfl (d13 hby 11) rfl ((if0 _ _).trans (flt hov).2.1) (by decide) (by decide) ?_
  refine XS.iloadN X0.here hx rfl (d13 hby 17) rfl ?_
  exact k
 refine own_retI X0 hx Bd.returns (d13 hby 18) (BodyLoose.notSynchronized Bd) (by decide) (by decide) ?_
 rw [show s₁.heap = h0 from e0]
 exact ⟨rfl, N0, rfl⟩
def D14 : List (Nat × Instr × Nat) := [(0, .iload_n 0, 1), (1, .i2l, 1), (2, .iload_n 1, 1), (3, .i2l, 1), (4, .lmul, 1), (5, .lstore_n 2, 1), (6, .lload_n 2, 1), (7, .l2i, 1), (8, .i2l, 1), (9, .lload_n 2, 1), (10, .lcmp, 1), (11, .ifCond .eq 13, 3), (14, .new 109, 3), (17, .dup, 1), (18, .ldc 111, 2), (20, .invokespecial 113, 3), (23, .athrow, 1), (24, .lload_n 2, 1), (25, .l2i, 1), (26, .ireturn, 1)]
theorem A14 : ∀ q ∈ D14, decode jdk_29_method_28_code q.1 = .ok q.2 := by decide +kernel
theorem d14 {c : Code} (h0 : c.code = jdk_29_method_28_code) (i : Nat) {pc n : Nat} {q : Instr} (h : D14[i]? = some (pc, q, n) := by rfl) : decode c.code pc = .ok (q, n) := hb h0 (A14 (pc, q, n) (List.mem_of_getElem? h))
theorem ef_rm15 (m : MethodId) (p0 : Int32) (p1 : Int32) : entryFrame m #[(.int p0), (.int p1)] 4 = mkF m 0 #[.val (.int p0), .val (.int p1), .unset, .unset] [] := by first | (simp [entryFrame, mkF, argsToLocals, Value.category, maxLocals]; done) | rfl
def rm15_Q (Z : State) (p0 : Int32) (p1 : Int32)  (h0 : Heap) (n0 : Nat) (v : Option Value) (h : Heap) (L : List Loc) : Prop := v = some (.int (p0.toInt64 * p1.toInt64).toInt32) ∧ Fr n0 L ∧ h = h0
set_option maxRecDepth 65536 in
set_option maxHeartbeats 40000000 in
theorem rm15 (l : Launch) (Z : State) (a0 : Array Value) (hw : ∀ d ∈ tables_1, d.before a0 Z = true) (ws : List Jvm.Cond) (p0 : Int32) (p1 : Int32)  (h0 : Heap) (n0 : Nat) (Z0 : n0 ≤ h0.size) (hov : lcmpW (p0.toInt64 * p1.toInt64).toInt32.toInt64 (p0.toInt64 * p1.toInt64) = (0 : Int32)) :
  MetFree l yM30 (head1 (Jvm.Cond.code yM30 jdk_29_method_28_code 4 (some .int) :: ws) rM0_0_0_0) (fun a U => a = #[(.int p0), (.int p1)] ∧ Z.Warmed39 U.vm ∧ U.heap = h0) (fun _ _ _ _ _ => True) (fun _ U o U' => ∃ v L, o = .returned v ∧ rm15_Q Z p0 p1 h0 n0 v U'.heap L ∧ FrameEnd U o U' L rM0_0_0_0.cells rM0_0_0_0.slots) := by
 refine MetFree.of_bodySF (Jvm.Free.JP.mathPlain rfl (by decide +kernel)) hisR ?_
 intro p e s m args below meth c s₁ Bd hml0 hP hK
 obtain ⟨rfl, hZ, hh⟩ := hP
 have hx := Bd.exec
 have hby := Bd.bytes
 have hml : c.maxLocals = 4 := hml0
 have hown : s.vm.findClass "java/lang/Math" = some m.cls := findClass_of_methodNamed Bd.named
 have hnm := (name_of_methodNamed Bd.named Bd.method).1
 have X0 : Stand p l e rM0_0_0_0 s m #[(.int p0), (.int p1)] below meth c s₁ [] 0 0 := Stand.of_body Bd
 have e0 : s₁.heap = h0 := by rw [← hh, Bd.state]; rfl
 have N0 := Fr.nil n0
 refine own_enter (QQ := rm15_Q Z p0 p1 h0 n0) (ef_rm15 m p0 p1) ?_
 show own_Run p e below s _ _ _ s₁ (mkF m 0 #[.val (.int p0), .val (.int p1), .unset, .unset] [])
 refine oP s₁ (mkF m 26 #[oI p0, oI p1, oJ ((p0.toInt64) * (p1.toInt64)), .second] [(.int (((p0.toInt64) * (p1.toInt64)).toInt32))]) (fun t k => ?_) ?_
 ·skip
  refine XS.iloadN X0.here hx rfl (d14 hby 0) rfl ?_
  refine XS.i2l X0.here hx rfl (d14 hby 1) rfl ?_
  refine XS.iloadN X0.here hx rfl (d14 hby 2) rfl ?_
  refine XS.i2l X0.here hx rfl (d14 hby 3) rfl ?_
  refine XS.lmul X0.here hx rfl (d14 hby 4) rfl ?_
  refine XS.lstoreN X0.here hx rfl (d14 hby 5) rfl (l' := #[oI p0, oI p1, oJ ((p0.toInt64) * (p1.toInt64)), .second]) rfl ?_
  refine XS.lloadN X0.here hx rfl (d14 hby 6) rfl ?_
  refine XS.l2i X0.here hx rfl (d14 hby 7) rfl ?_
  refine XS.i2l X0.here hx rfl (d14 hby 8) rfl ?_
  refine XS.lloadN X0.here hx rfl (d14 hby 9) rfl ?_
  refine XS.lcmp X0.here hx rfl (d14 hby 10) rfl ?_
  refine XS.ifYes X0.here hx rfl (pc0 := 11) (pc' := 24) rfl (d14 hby 11) rfl ((if0 _ _).trans (teq hov).1) (by decide) (by decide) ?_
  refine XS.lloadN X0.here hx rfl (d14 hby 17) rfl ?_
  refine XS.l2i X0.here hx rfl (d14 hby 18) rfl ?_
  exact k
 refine own_retI X0 hx Bd.returns (d14 hby 19) (BodyLoose.notSynchronized Bd) (by decide) (by decide) ?_
 rw [show s₁.heap = h0 from e0]
 exact ⟨rfl, N0, rfl⟩
def D57 : List (Nat × Instr × Nat) := [(0, .iconst 0, 1), (1, .istore_n 3, 1), (2, .aload_n 0, 1), (3, .getfield 21, 3), (6, .ifCond .eq 18, 3), (9, .iconst 4, 1), (10, .iload_n 1, 1), (11, .iconst 2, 1), (12, .invokestatic 24, 3), (15, .iconst 3, 1), (16, .idiv, 1), (17, .invokestatic 30, 3), (20, .istore_n 3, 1), (21, .goto 32, 3), (53, .aload_n 0, 1), (54, .getfield 17, 3), (57, .ifCond .le 22, 3), (60, .iload_n 3, 1), (61, .iload_n 3, 1), (62, .iconst 1, 1), (63, .isub, 1), (64, .aload_n 0, 1), (65, .getfield 17, 3), (68, .idiv, 1), (69, .aload_n 0, 1), (70, .getfield 13, 3), (73, .arraylength, 1), (74, .imul, 1), (75, .invokestatic 24, 3), (78, .istore_n 3, 1), (79, .goto 21, 3), (100, .iload_n 3, 1), (101, .ireturn, 1)]
theorem A57 : ∀ q ∈ D57, decode jdk_2452_method_2_code q.1 = .ok q.2 := by decide +kernel
theorem d57 {c : Code} (h0 : c.code = jdk_2452_method_2_code) (i : Nat) {pc n : Nat} {q : Instr} (h : D57[i]? = some (pc, q, n) := by rfl) : decode c.code pc = .ok (q, n) := hb h0 (A57 (pc, q, n) (List.mem_of_getElem? h))
theorem pn_rm13 : plainName "java/util/Base64$Encoder" = true := by first | (simp [plainName, overriddenIn]; done) | decide +kernel
theorem ef_rm13 (m : MethodId) (o0 : Addr) (p1 : Int32) : entryFrame m #[(.ref o0), (.int p1), (.int 1)] 5 = mkF m 0 #[.val (.ref o0), .val (.int p1), .val (.int 1), .unset, .unset] [] := by first | (simp [entryFrame, mkF, argsToLocals, Value.category, maxLocals]; done) | rfl
def rm13_Q (Z : State) (o0 : Addr) (p1 : Int32) (nl : Addr) (k : ClassId) (vn : List Value) (r4 : Int32) (r5 : Int32) (h0 : Heap) (n0 : Nat) (v : Option Value) (h : Heap) (L : List Loc) : Prop := v = some (.int (r4 + r5)) ∧ Fr n0 L ∧ h = h0
set_option maxRecDepth 65536 in
set_option maxHeartbeats 40000000 in
theorem rm13 (l : Launch) (Z : State) (a0 : Array Value) (hw : ∀ d ∈ tables_1, d.before a0 Z = true) (ws : List Jvm.Cond) (o0 : Addr) (p1 : Int32) (nl : Addr) (k : ClassId) (vn : List Value) (r4 : Int32) (r5 : Int32) (h0 : Heap) (n0 : Nat) (Z0 : n0 ≤ h0.size) (E_o0 : Exa Z h0 o0 "java/util/Base64$Encoder") (F_isURL_o0 : Fld Z h0 o0 "java/util/Base64$Encoder" "isURL" "Z" (.int 0)) (F_newline_o0 : Fld Z h0 o0 "java/util/Base64$Encoder" "newline" "[B" (.ref nl)) (F_linemax_o0 : Fld Z h0 o0 "java/util/Base64$Encoder" "linemax" "I" (.int 64)) (F_doPadding_o0 : Fld Z h0 o0 "java/util/Base64$Encoder" "doPadding" "Z" (.int 1)) (V_nl : Arv Z h0 nl k .byte (1 : Int32) vn (.int 0)) (ho1 : ¬ ((p1 ^^^ (p1 + (2 : Int32))) &&& ((2 : Int32) ^^^ (p1 + (2 : Int32)))) < (0 : Int32)) (ho2 : lcmpW ((4 : Int32).toInt64 * ((p1 + (2 : Int32)) / (3 : Int32)).toInt64).toInt32.toInt64 ((4 : Int32).toInt64 * ((p1 + (2 : Int32)) / (3 : Int32)).toInt64) = (0 : Int32)) (hr4 : ((4 : Int32).toInt64 * ((p1 + (2 : Int32)) / (3 : Int32)).toInt64).toInt32 = r4) (hr5 : ((r4 - (1 : Int32)) / (64 : Int32)) * (1 : Int32) = r5) (ho3 : ¬ ((r4 ^^^ (r4 + r5)) &&& (r5 ^^^ (r4 + r5))) < (0 : Int32)) :
  MetFree l yM31 (head1 (Jvm.Cond.codeWith yM31 jdk_2452_method_2_code 5 (some .int) [(2, 79, 82, 33)] :: ws) rM1_0_0_15) (fun a U => a = #[(.ref o0), (.int p1), (.int 1)] ∧ Z.Warmed39 U.vm ∧ U.heap = h0) (fun _ _ _ _ _ => True) (fun _ U o U' => ∃ v L, o = .returned v ∧ rm13_Q Z o0 p1 nl k vn r4 r5 h0 n0 v U'.heap L ∧ FrameEnd U o U' L rM1_0_0_15.cells rM1_0_0_15.slots) := by
 refine MetFree.of_bodySF (plainFor_of_name pn_rm13) hisWith ?_
 intro p e s m args below meth c s₁ Bd hml0 hP hK
 obtain ⟨rfl, hZ, hh⟩ := hP
 have hx := Bd.exec
 have hby := Bd.bytes
 have hml : c.maxLocals = 5 := hml0
 have hown : s.vm.findClass "java/util/Base64$Encoder" = some m.cls := findClass_of_methodNamed Bd.named
 have hnm := (name_of_methodNamed Bd.named Bd.method).1
 have X0 : Stand p l e rM1_0_0_15 s m #[(.ref o0), (.int p1), (.int 1)] below meth c s₁ [] 0 0 := Stand.of_body Bd
 have e0 : s₁.heap = h0 := by rw [← hh, Bd.state]; rfl
 have N0 := Fr.nil n0
 refine own_enter (QQ := rm13_Q Z o0 p1 nl k vn r4 r5 h0 n0) (ef_rm13 m o0 p1) ?_
 show own_Run p e below s _ _ _ s₁ (mkF m 0 #[.val (.ref o0), .val (.int p1), .val (.int 1), .unset, .unset] [])
 refine oP s₁ (mkF m 3 #[oR o0, oI p1, oI 1, oI 0, .unset] [(.ref o0)]) (fun t k => ?_) ?_
 ·skip
  refine XS.iconst X0.here hx rfl (d57 hby 0) ?_
  refine XS.istoreN X0.here hx rfl (d57 hby 1) rfl (l' := #[oR o0, oI p1, oI 1, oI 0, .unset]) rfl ?_
  refine XS.aloadN X0.here hx rfl (d57 hby 2) rfl rfl ?_
  exact k
 obtain ⟨T1, X1, e1, st1⟩ := getF X0 hx hZ hown (host := "") (Or.inl (own_w hw 59)) Via.refl e0 F_doPadding_o0 (g := (mkF m 3 #[oR o0, oI p1, oI 1, oI 0, .unset] [(.ref o0)])) rfl rfl (d57 hby 3)
 refine own_step st1 ?_
 refine oP T1 (mkF m 12 #[oR o0, oI p1, oI 1, oI 0, .unset] [(.int 2), (.int p1), (.int 4)]) (fun t k => ?_) ?_
 ·skip
  refine XS.ifNo X1.here hx rfl (d57 hby 4) rfl ((if0 _ _).trans (feq (by decide)).1) ?_
  refine XS.iconst X1.here hx rfl (d57 hby 5) ?_
  refine XS.iloadN X1.here hx rfl (d57 hby 6) rfl ?_
  refine XS.iconst X1.here hx rfl (d57 hby 7) ?_
  exact k
 obtain ⟨_, _, ⟨T3, L3, k3, n3⟩, -, X3, ⟨Lc3, hQ3, l3, y3, z3⟩, st3⟩ := Jvm.LawKit.callS X1 hx (y := yM29) hown (mvT hZ (own_w hw 76)) (mvT hZ (own_w hw 77)) (mvT hZ (own_w hw 78)) (mvT hZ (own_w hw 79)) (by decide) (backOf (W := 1) (rm14 l Z a0 hw [] p1 (2 : Int32)  h0 n0 Z0 ho1) hZ (own_w hw 79) (own_w hw 78) (by decide) (by decide)) (g := (mkF m 12 #[oR o0, oI p1, oI 1, oI 0, .unset] [(.int 2), (.int p1), (.int 4)])) rfl (by rw [hml]; rfl) (argsL := [(.int p1), (.int 2)]) (rest := [(.int 4)]) (lenOf pd_1 rfl) rfl (by show 2 * 0 + _ ≤ _; exact Nat.le_of_eq rfl) (d57 hby 8) (fun _ _ => ⟨rfl, e1, (by decide : 0 + 0 ≤ _), (by decide : 0 + 0 ≤ _)⟩)
 dsimp only [Pt.U, Pt.locs, Pt.cells, Pt.slots] at X3 l3 y3 z3 st3 hQ3
 subst l3 y3 z3
 obtain ⟨rfl, N3q, eq3⟩ := hQ3
 have N3 := Fr.app N0 N3q
 refine own_step st3 ?_
 refine oP T3 (mkF m 17 #[oR o0, oI p1, oI 1, oI 0, .unset] [(.int ((p1 + (2 : Int32)) / (3 : Int32))), (.int 4)]) (fun t k => ?_) ?_
 ·skip
  refine XS.iconst X3.here hx rfl (d57 hby 9) ?_
  refine XS.idiv X3.here hx rfl (d57 hby 10) rfl (by decide) ?_
  exact k
 obtain ⟨_, _, ⟨T4, L4, k4, n4⟩, -, X4, ⟨Lc4, hQ4, l4, y4, z4⟩, st4⟩ := Jvm.LawKit.callS X3 hx (y := yM30) hown (mvT hZ (own_w hw 80)) (mvT hZ (own_w hw 81)) (mvT hZ (own_w hw 78)) (mvT hZ (own_w hw 82)) (by decide) (backOf (W := 0) (rm15 l Z a0 hw [] (4 : Int32) ((p1 + (2 : Int32)) / (3 : Int32))  h0 n0 Z0 ho2) hZ (own_w hw 82) (own_w hw 78) (by decide) (by decide)) (g := (mkF m 17 #[oR o0, oI p1, oI 1, oI 0, .unset] [(.int ((p1 + (2 : Int32)) / (3 : Int32))), (.int 4)])) rfl (by rw [hml]; rfl) (argsL := [(.int 4), (.int ((p1 + (2 : Int32)) / (3 : Int32)))]) (rest := []) (lenOf pd_1 rfl) rfl (by show 2 * 0 + _ ≤ _; exact Nat.le_of_eq rfl) (d57 hby 11) (fun _ _ => ⟨rfl, eq3, (by decide : 0 + 0 ≤ _), (by decide : 0 + 0 ≤ _)⟩)
 dsimp only [Pt.U, Pt.locs, Pt.cells, Pt.slots] at X4 l4 y4 z4 st4 hQ4
 subst l4 y4 z4
 obtain ⟨rfl, N4q, eq4⟩ := hQ4
 have N4 := Fr.app N3 N4q
 refine own_step st4 ?_
 rw [show (((4 : Int32).toInt64 * ((p1 + (2 : Int32)) / (3 : Int32)).toInt64).toInt32 : Int32) = r4 from hr4]
 refine oP T4 (mkF m 54 #[oR o0, oI p1, oI 1, oI r4, .unset] [(.ref o0)]) (fun t k => ?_) ?_
 ·skip
  refine XS.istoreN X4.here hx rfl (d57 hby 12) rfl (l' := #[oR o0, oI p1, oI 1, oI r4, .unset]) rfl ?_
  refine XS.goto X4.here hx rfl (pc0 := 21) (pc' := 53) rfl (d57 hby 13) (by decide) (by decide) ?_
  refine XS.aloadN X4.here hx rfl (d57 hby 14) rfl rfl ?_
  exact k
 obtain ⟨T5, X5, e5, st5⟩ := getF X4 hx hZ hown (host := "") (Or.inl (own_w hw 57)) Via.refl eq4 F_linemax_o0 (g := (mkF m 54 #[oR o0, oI p1, oI 1, oI r4, .unset] [(.ref o0)])) rfl rfl (d57 hby 15)
 refine own_step st5 ?_
 refine oP T5 (mkF m 65 #[oR o0, oI p1, oI 1, oI r4, .unset] [(.ref o0), (.int (r4 - (1 : Int32))), (.int r4)]) (fun t k => ?_) ?_
 ·skip
  refine XS.ifNo X5.here hx rfl (d57 hby 16) rfl ((if0 _ _).trans (tlt (by decide)).2.2.2) ?_
  refine XS.iloadN X5.here hx rfl (d57 hby 17) rfl ?_
  refine XS.iloadN X5.here hx rfl (d57 hby 18) rfl ?_
  refine XS.iconst X5.here hx rfl (d57 hby 19) ?_
  refine XS.isub X5.here hx rfl (d57 hby 20) rfl ?_
  refine XS.aloadN X5.here hx rfl (d57 hby 21) rfl rfl ?_
  exact k
 obtain ⟨T7, X7, e7, st7⟩ := getF X5 hx hZ hown (host := "") (Or.inl (own_w hw 57)) Via.refl e5 F_linemax_o0 (g := (mkF m 65 #[oR o0, oI p1, oI 1, oI r4, .unset] [(.ref o0), (.int (r4 - (1 : Int32))), (.int r4)])) rfl rfl (d57 hby 22)
 refine own_step st7 ?_
 refine oP T7 (mkF m 70 #[oR o0, oI p1, oI 1, oI r4, .unset] [(.ref o0), (.int ((r4 - (1 : Int32)) / (64 : Int32))), (.int r4)]) (fun t k => ?_) ?_
 ·skip
  refine XS.idiv X7.here hx rfl (d57 hby 23) rfl (by decide) ?_
  refine XS.aloadN X7.here hx rfl (d57 hby 24) rfl rfl ?_
  exact k
 obtain ⟨T8, X8, e8, st8⟩ := getF X7 hx hZ hown (host := "") (Or.inl (own_w hw 55)) Via.refl e7 F_newline_o0 (g := (mkF m 70 #[oR o0, oI p1, oI 1, oI r4, .unset] [(.ref o0), (.int ((r4 - (1 : Int32)) / (64 : Int32))), (.int r4)])) rfl rfl (d57 hby 25)
 refine own_step st8 ?_
 obtain ⟨cl9, Arcl9, -, Scl9, Mcl9, -, -⟩ := id V_nl
 refine oP T8 (mkF m 75 #[oR o0, oI p1, oI 1, oI r4, .unset] [(.int (((r4 - (1 : Int32)) / (64 : Int32)) * (1 : Int32))), (.int r4)]) (fun t k => ?_) ?_
 ·skip
  refine X8.arraylength hx (by rw [e8]; exact Arcl9.1) (State.isArrayOf_alike hZ.alike Arcl9.2.1) (g := (mkF m 73 #[oR o0, oI p1, oI 1, oI r4, .unset] [(.ref nl), (.int ((r4 - (1 : Int32)) / (64 : Int32))), (.int r4)])) rfl rfl (d57 hby 26) _ ?_
  rw [len_of Scl9 Mcl9]
  show Steps p.tables e below (T8.setTop (mkF m 74 #[oR o0, oI p1, oI 1, oI r4, .unset] [(.int 1), (.int ((r4 - (1 : Int32)) / (64 : Int32))), (.int r4)])) _
  refine XS.imul X8.here hx rfl (d57 hby 27) rfl ?_
  exact k
 rw [show ((((r4 - (1 : Int32)) / (64 : Int32)) * (1 : Int32)) : Int32) = r5 from hr5]
 obtain ⟨_, _, ⟨T10, L10, k10, n10⟩, -, X10, ⟨Lc10, hQ10, l10, y10, z10⟩, st10⟩ := Jvm.LawKit.callS X8 hx (y := yM29) hown (mvT hZ (own_w hw 76)) (mvT hZ (own_w hw 77)) (mvT hZ (own_w hw 78)) (mvT hZ (own_w hw 79)) (by decide) (backOf (W := 0) (rm14 l Z a0 hw [] r4 r5  h0 n0 Z0 ho3) hZ (own_w hw 79) (own_w hw 78) (by decide) (by decide)) (g := (mkF m 75 #[oR o0, oI p1, oI 1, oI r4, .unset] [(.int r5), (.int r4)])) rfl (by rw [hml]; rfl) (argsL := [(.int r4), (.int r5)]) (rest := []) (lenOf pd_1 rfl) rfl (by show 2 * 0 + _ ≤ _; exact Nat.le_of_eq rfl) (d57 hby 28) (fun _ _ => ⟨rfl, e8, (by decide : 0 + 0 ≤ _), (by decide : 0 + 0 ≤ _)⟩)
 dsimp only [Pt.U, Pt.locs, Pt.cells, Pt.slots] at X10 l10 y10 z10 st10 hQ10
 subst l10 y10 z10
 obtain ⟨rfl, N10q, eq10⟩ := hQ10
 have N10 := Fr.app N4 N10q
 refine own_step st10 ?_
 refine oP T10 (mkF m 101 #[oR o0, oI p1, oI 1, oI (r4 + r5), .unset] [(.int (r4 + r5))]) (fun t k => ?_) ?_
 ·skip
  refine XS.istoreN X10.here hx rfl (d57 hby 29) rfl (l' := #[oR o0, oI p1, oI 1, oI (r4 + r5), .unset]) rfl ?_
  refine XS.goto X10.here hx rfl (pc0 := 79) (pc' := 100) rfl (d57 hby 30) (by decide) (by decide) ?_
  refine XS.iloadN X10.here hx rfl (d57 hby 31) rfl ?_
  exact k
 refine own_retI X10 hx Bd.returns (d57 hby 32) (BodyLoose.notSynchronized Bd) (by decide) (by decide) ?_
 rw [show T10.heap = h0 from eq10]
 exact ⟨rfl, N10, rfl⟩
theorem own_s16a {a0 a1 a2 a3 a4 a5 a6 a9 : Value} {s7 s8 s10 s11 s12 s13 s14 s15 : Slot} (h : One s10) (x : Int32) : storeLocals #[.val a0, .val a1, .val a2, .val a3, .val a4, .val a5, .val a6, s7, s8, .val a9, s10, s11, s12, s13, s14, s15] 10 (.int x) = some #[.val a0, .val a1, .val a2, .val a3, .val a4, .val a5, .val a6, s7, s8, .val a9, .val (.int x), s11, s12, s13, s14, s15] := by
 rcases h with rfl | ⟨w, rfl, hw⟩
 ·rfl
 ·cases w <;> first | rfl | (simp [Value.category] at hw)
theorem own_s16b {a0 a1 a2 a3 a4 a5 a6 a9 a10 : Value} {s7 s8 s11 s12 s13 s14 s15 : Slot} (h : One s11) (x : Int32) : storeLocals #[.val a0, .val a1, .val a2, .val a3, .val a4, .val a5, .val a6, s7, s8, .val a9, .val a10, s11, s12, s13, s14, s15] 11 (.int x) = some #[.val a0, .val a1, .val a2, .val a3, .val a4, .val a5, .val a6, s7, s8, .val a9, .val a10, .val (.int x), s12, s13, s14, s15] := by
 rcases h with rfl | ⟨w, rfl, hw⟩
 ·rfl
 ·cases w <;> first | rfl | (simp [Value.category] at hw)
theorem own_s16c {a0 a1 a2 a3 a4 a5 a6 a9 a10 : Value} {s7 s8 s11 s12 s13 s14 s15 : Slot} (h : One s11) (x : Int32) : storeLocals #[.val a0, .val a1, .val a2, .val a3, .val a4, .val a5, .val a6, s7, s8, .val a9, .val a10, s11, s12, s13, s14, s15] 11 (.int x) = some #[.val a0, .val a1, .val a2, .val a3, .val a4, .val a5, .val a6, s7, s8, .val a9, .val a10, .val (.int x), s12, s13, s14, s15] := by
 rcases h with rfl | ⟨w, rfl, hw⟩
 ·rfl
 ·cases w <;> first | rfl | (simp [Value.category] at hw)
def D15 : List (Nat × Instr × Nat) := [(0, .aload_n 0, 1), (1, .getfield 7, 3), (4, .ifCond .eq 9, 3), (7, .getstatic 111, 3), (10, .goto 6, 3), (13, .getstatic 115, 3), (16, .astore 5, 2), (18, .iload_n 2, 1), (19, .istore 6, 2), (21, .iload_n 3, 1), (22, .iload_n 2, 1), (23, .isub, 1), (24, .iconst 3, 1), (25, .idiv, 1), (26, .iconst 3, 1), (27, .imul, 1), (28, .istore 7, 2), (30, .iload_n 2, 1), (31, .iload 7, 2), (33, .iadd, 1), (34, .istore 8, 2), (36, .aload_n 0, 1), (37, .getfield 17, 3), (40, .ifCond .le 26, 3), (43, .iload 7, 2), (45, .aload_n 0, 1), (46, .getfield 17, 3), (49, .iconst 4, 1), (50, .idiv, 1), (51, .iconst 3, 1), (52, .imul, 1), (53, .if_icmp .le 13, 3), (56, .aload_n 0, 1), (57, .getfield 17, 3), (60, .iconst 4, 1), (61, .idiv, 1), (62, .iconst 3, 1), (63, .imul, 1), (64, .istore 7, 2), (66, .iconst 0, 1), (67, .istore 9, 2), (69, .iload 6, 2), (71, .iload 8, 2), (73, .if_icmp .ge 116, 3), (76, .iload 6, 2), (78, .iload 7, 2), (80, .iadd, 1), (81, .iload 8, 2), (83, .invokestatic 124, 3), (86, .istore 10, 2), (88, .aload_n 0, 1), (89, .aload_n 1, 1), (90, .iload 6, 2), (92, .iload 10, 2), (94, .aload 4, 2), (96, .iload 9, 2), (98, .aload_n 0, 1), (99, .getfield 7, 3), (102, .invokevirtual 127, 3), (105, .iload 10, 2), (107, .iload 6, 2), (109, .isub, 1), (110, .iconst 3, 1), (111, .idiv, 1), (112, .iconst 4, 1), (113, .imul, 1), (114, .istore 11, 2), (116, .iload 9, 2), (118, .iload 11, 2), (120, .iadd, 1), (121, .istore 9, 2), (123, .iload 10, 2), (125, .istore 6, 2), (127, .iload 11, 2), (129, .aload_n 0, 1), (130, .getfield 17, 3), (133, .if_icmp .ne 53, 3), (136, .iload 6, 2), (138, .iload_n 3, 1), (139, .if_icmp .ge 47, 3), (142, .aload_n 0, 1), (143, .getfield 13, 3), (146, .astore 12, 2), (148, .aload 12, 2), (150, .arraylength, 1), (151, .istore 13, 2), (153, .iconst 0, 1), (154, .istore 14, 2), (156, .iload 14, 2), (158, .iload 13, 2), (160, .if_icmp .ge 26, 3), (163, .aload 12, 2), (165, .iload 14, 2), (167, .baload, 1), (168, .istore 15, 2), (170, .aload 4, 2), (172, .iload 9, 2), (174, .iinc 9 1, 3), (177, .iload 15, 2), (179, .bastore, 1), (180, .iinc 14 1, 3), (183, .goto (-27), 3), (186, .goto (-117), 3), (189, .iload 6, 2), (191, .iload_n 3, 1), (192, .if_icmp .ge 160, 3), (195, .aload_n 1, 1), (196, .iload 6, 2), (198, .iinc 6 1, 3), (201, .baload, 1), (202, .sipush 255, 3), (205, .iand, 1), (206, .istore 10, 2), (208, .aload 4, 2), (210, .iload 9, 2), (212, .iinc 9 1, 3), (215, .aload 5, 2), (217, .iload 10, 2), (219, .iconst 2, 1), (220, .ishr, 1), (221, .caload, 1), (222, .i2b, 1), (223, .bastore, 1), (224, .iload 6, 2), (226, .iload_n 3, 1), (227, .if_icmp .ne 52, 3), (230, .aload 4, 2), (232, .iload 9, 2), (234, .iinc 9 1, 3), (237, .aload 5, 2), (239, .iload 10, 2), (241, .iconst 4, 1), (242, .ishl, 1), (243, .bipush 63, 2), (245, .iand, 1), (246, .caload, 1), (247, .i2b, 1), (248, .bastore, 1), (249, .aload_n 0, 1), (250, .getfield 21, 3), (253, .ifCond .eq 99, 3), (256, .aload 4, 2), (258, .iload 9, 2), (260, .iinc 9 1, 3), (263, .bipush 61, 2), (265, .bastore, 1), (266, .aload 4, 2), (268, .iload 9, 2), (270, .iinc 9 1, 3), (273, .bipush 61, 2), (275, .bastore, 1), (276, .goto 76, 3), (279, .aload_n 1, 1), (280, .iload 6, 2), (282, .iinc 6 1, 3), (285, .baload, 1), (286, .sipush 255, 3), (289, .iand, 1), (290, .istore 11, 2), (292, .aload 4, 2), (294, .iload 9, 2), (296, .iinc 9 1, 3), (299, .aload 5, 2), (301, .iload 10, 2), (303, .iconst 4, 1), (304, .ishl, 1), (305, .bipush 63, 2), (307, .iand, 1), (308, .iload 11, 2), (310, .iconst 4, 1), (311, .ishr, 1), (312, .ior, 1), (313, .caload, 1), (314, .i2b, 1), (315, .bastore, 1), (316, .aload 4, 2), (318, .iload 9, 2), (320, .iinc 9 1, 3), (323, .aload 5, 2), (325, .iload 11, 2), (327, .iconst 2, 1), (328, .ishl, 1), (329, .bipush 63, 2), (331, .iand, 1), (332, .caload, 1), (333, .i2b, 1), (334, .bastore, 1), (335, .aload_n 0, 1), (336, .getfield 21, 3), (339, .ifCond .eq 13, 3), (342, .aload 4, 2), (344, .iload 9, 2), (346, .iinc 9 1, 3), (349, .bipush 61, 2), (351, .bastore, 1), (352, .iload 9, 2), (354, .ireturn, 1)]
theorem A15 : ∀ q ∈ D15, decode jdk_2452_method_10_code q.1 = .ok q.2 := by decide +kernel
theorem d15 {c : Code} (h0 : c.code = jdk_2452_method_10_code) (i : Nat) {pc n : Nat} {q : Instr} (h : D15[i]? = some (pc, q, n) := by rfl) : decode c.code pc = .ok (q, n) := hb h0 (A15 (pc, q, n) (List.mem_of_getElem? h))
theorem pn_rm16 : plainName "java/util/Base64$Encoder" = true := by first | (simp [plainName, overriddenIn]; done) | decide +kernel
theorem ef_rm16 (m : MethodId) (o0 : Addr) (o1 : Addr) (o4 : Addr) (xs : List Int32) : entryFrame m #[(.ref o0), (.ref o1), (.int 0), (.int (ofNat xs.length)), (.ref o4)] 16 = mkF m 0 #[.val (.ref o0), .val (.ref o1), .val (.int 0), .val (.int (ofNat xs.length)), .val (.ref o4), .unset, .unset, .unset, .unset, .unset, .unset, .unset, .unset, .unset, .unset, .unset] [] := by first | (simp [entryFrame, mkF, argsToLocals, Value.category, maxLocals]; done) | rfl
def rm16_Q (Z : State) (o0 : Addr) (o1 : Addr) (o4 : Addr) (xs : List Int32) (tb : Addr) (kt : ClassId) (nl : Addr) (kn : ClassId) (k : ClassId) (k2 : ClassId) (vd : List Value) (h0 : Heap) (n0 : Nat) (v : Option Value) (h : Heap) (L : List Loc) : Prop := v = some (.int (ofNat (own_D xs.length))) ∧ Fr n0 L ∧ Keep h0 h [o4] ∧ Arv Z h o4 k2 .byte (ofNat (own_D xs.length)) (own_en xs vd xs.length) (.int 0)
set_option maxRecDepth 65536 in
set_option maxHeartbeats 40000000 in
theorem rm16 (l : Launch) (Z : State) (a0 : Array Value) (hw : ∀ d ∈ tables_1, d.before a0 Z = true) (ws : List Jvm.Cond) (o0 : Addr) (o1 : Addr) (o4 : Addr) (xs : List Int32) (tb : Addr) (kt : ClassId) (nl : Addr) (kn : ClassId) (k : ClassId) (k2 : ClassId) (vd : List Value) (h0 : Heap) (n0 : Nat) (Z0 : n0 ≤ h0.size) (O0 : Old Z n0 h0) (S_tb : Sta Z Z.heap "java/util/Base64$Encoder" "toBase64" "[C" (.ref tb)) (V_tb : Arv Z Z.heap tb kt .char (64 : Int32) own_tbl (.int 0)) (E_o0 : Exa Z h0 o0 "java/util/Base64$Encoder") (F_isURL_o0 : Fld Z h0 o0 "java/util/Base64$Encoder" "isURL" "Z" (.int 0)) (F_newline_o0 : Fld Z h0 o0 "java/util/Base64$Encoder" "newline" "[B" (.ref nl)) (F_linemax_o0 : Fld Z h0 o0 "java/util/Base64$Encoder" "linemax" "I" (.int 64)) (F_doPadding_o0 : Fld Z h0 o0 "java/util/Base64$Encoder" "doPadding" "Z" (.int 1)) (V_nl : Arv Z h0 nl kn .byte (1 : Int32) [(.int 10)] (.int 0)) (V_o1 : Arv Z h0 o1 k .byte (ofNat xs.length) (own_xs xs) (.int 0)) (V_o4 : Arv Z h0 o4 k2 .byte (ofNat (own_D xs.length)) vd (.int 0)) (g_o4 : n0 ≤ o4) (ne_o0 : o0 ≠ o4) (ne_nl : nl ≠ o4) (ne_o1 : o1 ≠ o4) (hL : own_ok xs.length) (hvd : vd.length = own_D xs.length) :
  MetFree l yM32 (head1 (Jvm.Cond.code yM32 jdk_2452_method_10_code 16 (some .int) :: ws) rM1_0_0_22) (fun a U => a = #[(.ref o0), (.ref o1), (.int 0), (.int (ofNat xs.length)), (.ref o4)] ∧ Z.Warmed39 U.vm ∧ U.heap = h0) (fun _ _ _ _ _ => True) (fun _ U o U' => ∃ v L, o = .returned v ∧ rm16_Q Z o0 o1 o4 xs tb kt nl kn k k2 vd h0 n0 v U'.heap L ∧ FrameEnd U o U' L rM1_0_0_22.cells rM1_0_0_22.slots) := by
 refine MetFree.of_bodySF (plainFor_of_name pn_rm16) hisR ?_
 intro p e s m args below meth c s₁ Bd hml0 hP hK
 obtain ⟨rfl, hZ, hh⟩ := hP
 have hx := Bd.exec
 have hby := Bd.bytes
 have hml : c.maxLocals = 16 := hml0
 have hown : s.vm.findClass "java/util/Base64$Encoder" = some m.cls := findClass_of_methodNamed Bd.named
 have hnm := (name_of_methodNamed Bd.named Bd.method).1
 have X0 : Stand p l e rM1_0_0_22 s m #[(.ref o0), (.ref o1), (.int 0), (.int (ofNat xs.length)), (.ref o4)] below meth c s₁ [] 0 0 := Stand.of_body Bd
 have e0 : s₁.heap = h0 := by rw [← hh, Bd.state]; rfl
 have N0 := Fr.nil n0
 have K0 := Keep.refl h0 [o4]
 have hDb := own_Db xs.length
 have hLl := own_okl hL
 refine own_enter (QQ := rm16_Q Z o0 o1 o4 xs tb kt nl kn k k2 vd h0 n0) (ef_rm16 m o0 o1 o4 xs) ?_
 show own_Run p e below s _ _ _ s₁ (mkF m 0 #[.val (.ref o0), .val (.ref o1), .val (.int 0), .val (.int (ofNat xs.length)), .val (.ref o4), .unset, .unset, .unset, .unset, .unset, .unset, .unset, .unset, .unset, .unset, .unset] [])
 have tail0 : ∀ (i j : Nat) (T : State) (hp : Heap) (lc : List Loc) (vw : List Value) (s7 s8 s10 s11 s12 s13 s14 s15 : Slot) (hi : i = xs.length) (hj : own_D xs.length = j) (hE : own_en xs vd xs.length = vw) (X : Stand p l e rM1_0_0_22 s m #[(.ref o0), (.ref o1), (.int 0), (.int (ofNat xs.length)), (.ref o4)] below meth c T lc 0 0) (eT : T.heap = hp) (Nl : Fr n0 lc) (Kl : Keep h0 hp [o4]) (Ol : Old Z n0 hp) (El : Exa Z hp o0 "java/util/Base64$Encoder") (F0 : Fld Z hp o0 "java/util/Base64$Encoder" "isURL" "Z" (.int 0)) (F1 : Fld Z hp o0 "java/util/Base64$Encoder" "newline" "[B" (.ref nl)) (F2 : Fld Z hp o0 "java/util/Base64$Encoder" "linemax" "I" (.int 64)) (F3 : Fld Z hp o0 "java/util/Base64$Encoder" "doPadding" "Z" (.int 1)) (Vn : Arv Z hp nl kn .byte (1 : Int32) [(.int 10)] (.int 0)) (Vs : Arv Z hp o1 k .byte (ofNat xs.length) (own_xs xs) (.int 0)) (Vd : Arv Z hp o4 k2 .byte (ofNat (own_D xs.length)) vw (.int 0)) (hvw : vw.length = own_D xs.length) , own_Run p e below s (rm16_Q Z o0 o1 o4 xs tb kt nl kn k k2 vd h0 n0) 0 0 T (mkF m 189 #[oR o0, oR o1, oI 0, oI (ofNat xs.length), oR o4, oR tb, oI (ofNat i), s7, s8, oI (ofNat j), s10, s11, s12, s13, s14, s15] []) := by
  intro i j T hp lc vw s7 s8 s10 s11 s12 s13 s14 s15 hi hj hE X eT Nl Kl Ol El F0 F1 F2 F3 Vn Vs Vd hvw 
  refine oP T (mkF m 354 #[oR o0, oR o1, oI 0, oI (ofNat xs.length), oR o4, oR tb, oI (ofNat i), s7, s8, oI (ofNat j), s10, s11, s12, s13, s14, s15] [(.int (ofNat j))]) (fun t k => ?_) ?_
  ·skip
   refine XS.iload X.here hx rfl (d15 hby 103) rfl ?_
   refine XS.iloadN X.here hx rfl (d15 hby 104) rfl ?_
   refine XS.icmpYes X.here hx rfl (pc0 := 192) (pc' := 352) rfl (d15 hby 105) rfl (flt (fun q => absurd ((own_lt (by omega) (by omega)).mp q) (by omega))).2.1 (by decide) (by decide) ?_
   refine XS.iload X.here hx rfl (d15 hby 195) rfl ?_
   exact k
  refine own_retI X hx Bd.returns (d15 hby 196) (BodyLoose.notSynchronized Bd) (by decide) (by decide) ?_
  rw [show T.heap = hp from eT]
  exact ⟨by rw [← hj], Nl, Kl, by rw [hE]; exact Vd⟩
 have tail1 : ∀ (i j : Nat) (T : State) (hp : Heap) (lc : List Loc) (vw : List Value) (s7 s8 s10 s11 s12 s13 s14 s15 : Slot) (hi : i + 1 = xs.length) (hj : own_D xs.length = j + 4) (hE : own_en xs vd xs.length = own_t1 xs i j vw) (X : Stand p l e rM1_0_0_22 s m #[(.ref o0), (.ref o1), (.int 0), (.int (ofNat xs.length)), (.ref o4)] below meth c T lc 0 0) (eT : T.heap = hp) (Nl : Fr n0 lc) (Kl : Keep h0 hp [o4]) (Ol : Old Z n0 hp) (El : Exa Z hp o0 "java/util/Base64$Encoder") (F0 : Fld Z hp o0 "java/util/Base64$Encoder" "isURL" "Z" (.int 0)) (F1 : Fld Z hp o0 "java/util/Base64$Encoder" "newline" "[B" (.ref nl)) (F2 : Fld Z hp o0 "java/util/Base64$Encoder" "linemax" "I" (.int 64)) (F3 : Fld Z hp o0 "java/util/Base64$Encoder" "doPadding" "Z" (.int 1)) (Vn : Arv Z hp nl kn .byte (1 : Int32) [(.int 10)] (.int 0)) (Vs : Arv Z hp o1 k .byte (ofNat xs.length) (own_xs xs) (.int 0)) (Vd : Arv Z hp o4 k2 .byte (ofNat (own_D xs.length)) vw (.int 0)) (hvw : vw.length = own_D xs.length) (hs10 : One s10), own_Run p e below s (rm16_Q Z o0 o1 o4 xs tb kt nl kn k k2 vd h0 n0) 0 0 T (mkF m 189 #[oR o0, oR o1, oI 0, oI (ofNat xs.length), oR o4, oR tb, oI (ofNat i), s7, s8, oI (ofNat j), s10, s11, s12, s13, s14, s15] []) := by
  intro i j T hp lc vw s7 s8 s10 s11 s12 s13 s14 s15 hi hj hE X eT Nl Kl Ol El F0 F1 F2 F3 Vn Vs Vd hvw hs10
  refine oP T (mkF m 201 #[oR o0, oR o1, oI 0, oI (ofNat xs.length), oR o4, oR tb, oI ((ofNat i) + (1 : Int32)), s7, s8, oI (ofNat j), s10, s11, s12, s13, s14, s15] [(.int (ofNat i)), (.ref o1)]) (fun t k => ?_) ?_
  ·skip
   refine XS.iload X.here hx rfl (d15 hby 103) rfl ?_
   refine XS.iloadN X.here hx rfl (d15 hby 104) rfl ?_
   refine XS.icmpNo X.here hx rfl (d15 hby 105) rfl (tlt ((own_lt (by omega) (by omega)).mpr (by omega))).2.1 ?_
   refine XS.aloadN X.here hx rfl (d15 hby 106) rfl rfl ?_
   refine XS.iload X.here hx rfl (d15 hby 107) rfl ?_
   refine XS.iinc X.here hx rfl (d15 hby 108) rfl (l' := #[oR o0, oR o1, oI 0, oI (ofNat xs.length), oR o4, oR tb, oI ((ofNat i) + (1 : Int32)), s7, s8, oI (ofNat j), s10, s11, s12, s13, s14, s15]) rfl ?_
   exact k
  rw [show (((ofNat i) + (1 : Int32)) : Int32) = (ofNat (i + 1)) from own_add i 1]
  obtain ⟨cl3, Arcl3, qcl3, Scl3, Mcl3, Hcl3, Gcl3⟩ := id Vs
  have hincl3 : ¬ ((ofNat i) < 0 ∨ cl3.slots.size ≤ ((ofNat i)).toNatClampNeg) := inb_of Scl3 (own_tin (by omega) (by omega))
  have hatcl3 : cl3.slots[((ofNat i)).toNatClampNeg]? = some (.int (own_g xs i)) := Hcl3.at hincl3 (own_xat xs (by omega))
  refine oP T (mkF m 206 #[oR o0, oR o1, oI 0, oI (ofNat xs.length), oR o4, oR tb, oI (ofNat (i + 1)), s7, s8, oI (ofNat j), s10, s11, s12, s13, s14, s15] [(.int ((own_g xs i) &&& (255 : Int32)))]) (fun t k => ?_) ?_
  ·skip
   refine X.baloadBytes hx (j := (ofNat i)) (v := (.int (own_g xs i))) (by rw [eT]; exact Arcl3.1) (State.isArrayOf_alike hZ.alike Arcl3.2.1) Arcl3.2.2 hincl3 hatcl3 (g := (mkF m 201 #[oR o0, oR o1, oI 0, oI (ofNat xs.length), oR o4, oR tb, oI (ofNat (i + 1)), s7, s8, oI (ofNat j), s10, s11, s12, s13, s14, s15] [(.int (ofNat i)), (.ref o1)])) rfl rfl (d15 hby 109) _ ?_
   refine XS.sipush X.here hx rfl (d15 hby 110) ?_
   refine XS.iand X.here hx rfl (d15 hby 111) rfl ?_
   exact k
  rw [show (((own_g xs i) &&& (255 : Int32)) : Int32) = (ofNat (own_ug xs i)) from own_a255 _]
  refine oP T (mkF m 215 #[oR o0, oR o1, oI 0, oI (ofNat xs.length), oR o4, oR tb, oI (ofNat (i + 1)), s7, s8, oI ((ofNat j) + (1 : Int32)), oI (ofNat (own_ug xs i)), s11, s12, s13, s14, s15] [(.int (ofNat j)), (.ref o4)]) (fun t k => ?_) ?_
  ·skip
   refine XS.istore X.here hx rfl (d15 hby 112) rfl (l' := #[oR o0, oR o1, oI 0, oI (ofNat xs.length), oR o4, oR tb, oI (ofNat (i + 1)), s7, s8, oI (ofNat j), oI (ofNat (own_ug xs i)), s11, s12, s13, s14, s15]) (own_s16a hs10 _) ?_
   refine XS.aload X.here hx rfl (d15 hby 113) rfl rfl ?_
   refine XS.iload X.here hx rfl (d15 hby 114) rfl ?_
   refine XS.iinc X.here hx rfl (d15 hby 115) rfl (l' := #[oR o0, oR o1, oI 0, oI (ofNat xs.length), oR o4, oR tb, oI (ofNat (i + 1)), s7, s8, oI ((ofNat j) + (1 : Int32)), oI (ofNat (own_ug xs i)), s11, s12, s13, s14, s15]) rfl ?_
   exact k
  rw [show (((ofNat j) + (1 : Int32)) : Int32) = (ofNat (j + 1)) from own_add j 1]
  refine oP T (mkF m 221 #[oR o0, oR o1, oI 0, oI (ofNat xs.length), oR o4, oR tb, oI (ofNat (i + 1)), s7, s8, oI (ofNat (j + 1)), oI (ofNat (own_ug xs i)), s11, s12, s13, s14, s15] [(.int ((ofNat (own_ug xs i)) >>> ((2 : Int32) &&& 31))), (.ref tb), (.int (ofNat j)), (.ref o4)]) (fun t k => ?_) ?_
  ·skip
   refine XS.aload X.here hx rfl (d15 hby 116) rfl rfl ?_
   refine XS.iload X.here hx rfl (d15 hby 117) rfl ?_
   refine XS.iconst X.here hx rfl (d15 hby 118) ?_
   refine XS.ishr X.here hx rfl (d15 hby 119) rfl ?_
   exact k
  rw [show (((ofNat (own_ug xs i)) >>> ((2 : Int32) &&& 31)) : Int32) = (ofNat (own_i0 (own_ug xs i))) from own_y0 (own_ugb _ _)]
  obtain ⟨cl4, Arcl4, qcl4, Scl4, Mcl4, Hcl4, Gcl4⟩ := id (V_tb.ext Ol.2)
  have hincl4 : ¬ ((ofNat (own_i0 (own_ug xs i))) < 0 ∨ cl4.slots.size ≤ ((ofNat (own_i0 (own_ug xs i)))).toNatClampNeg) := inb_of Scl4 (own_tin (N := 64) (own_i0l (own_ugb _ _)) (by decide))
  have hatcl4 : cl4.slots[((ofNat (own_i0 (own_ug xs i)))).toNatClampNeg]? = some (.int (own_sn (own_i0 (own_ug xs i)))) := Hcl4.at hincl4 (own_tat (own_i0l (own_ugb _ _)))
  refine oP T (mkF m 222 #[oR o0, oR o1, oI 0, oI (ofNat xs.length), oR o4, oR tb, oI (ofNat (i + 1)), s7, s8, oI (ofNat (j + 1)), oI (ofNat (own_ug xs i)), s11, s12, s13, s14, s15] [(.int (own_sn (own_i0 (own_ug xs i)))), (.int (ofNat j)), (.ref o4)]) (fun t k => ?_) ?_
  ·skip
   refine X.caload hx (j := (ofNat (own_i0 (own_ug xs i)))) (v := (.int (own_sn (own_i0 (own_ug xs i))))) (by rw [eT]; exact Arcl4.1) (State.isArrayOf_alike hZ.alike Arcl4.2.1) Arcl4.2.2 hincl4 hatcl4 (g := (mkF m 221 #[oR o0, oR o1, oI 0, oI (ofNat xs.length), oR o4, oR tb, oI (ofNat (i + 1)), s7, s8, oI (ofNat (j + 1)), oI (ofNat (own_ug xs i)), s11, s12, s13, s14, s15] [(.int (ofNat (own_i0 (own_ug xs i)))), (.ref tb), (.int (ofNat j)), (.ref o4)])) rfl rfl (d15 hby 120) _ ?_
   exact k
  refine oP T (mkF m 223 #[oR o0, oR o1, oI 0, oI (ofNat xs.length), oR o4, oR tb, oI (ofNat (i + 1)), s7, s8, oI (ofNat (j + 1)), oI (ofNat (own_ug xs i)), s11, s12, s13, s14, s15] [(.int ((own_sn (own_i0 (own_ug xs i))).toInt8.toInt32)), (.int (ofNat j)), (.ref o4)]) (fun t k => ?_) ?_
  ·skip
   refine XS.i2b X.here hx rfl (d15 hby 121) rfl ?_
   exact k
  rw [show (((own_sn (own_i0 (own_ug xs i))).toInt8.toInt32) : Int32) = (own_sn (own_i0 (own_ug xs i))) from (own_snb _ (own_i0l (own_ugb _ _))).1]
  obtain ⟨cl5, Arcl5, qcl5, Scl5, Mcl5, Hcl5, Gcl5⟩ := Vd
  have hincl5 : ¬ ((ofNat j) < 0 ∨ cl5.slots.size ≤ ((ofNat j)).toNatClampNeg) := inb_of Scl5 (own_tin (by omega) (by omega))
  obtain ⟨T6, h6, X6, e6, W6, st6⟩ := stB X hx hZ eT Arcl5 (j := (ofNat j)) hincl5 (g := (mkF m 223 #[oR o0, oR o1, oI 0, oI (ofNat xs.length), oR o4, oR tb, oI (ofNat (i + 1)), s7, s8, oI (ofNat (j + 1)), oI (ofNat (own_ug xs i)), s11, s12, s13, s14, s15] [(.int (own_sn (own_i0 (own_ug xs i)))), (.int (ofNat j)), (.ref o4)])) rfl rfl (d15 hby 122)
  have V7 := Arv.set Arcl5 qcl5 Scl5 Mcl5 Hcl5 Gcl5 (fits_nar_byte _) W6 j (own_tn (by omega)) (by (try simp only [List.length_set, own_blkl]); omega)
  have F11 := F3.other W6 (Or.inl ne_o0)
  have O15 := Ol.wr W6 g_o4
  have K6 := Kl.wr W6 (Or.inl (List.mem_of_getElem? (i := 0) rfl))
  have N6 := Fr.snoc X6 Nl g_o4
  refine own_step st6 ?_
  have V17 : Arv Z h6 o4 k2 .byte (ofNat (own_D xs.length)) ((vw).set j (.int (own_sn (own_i0 (own_ug xs i))))) (.int 0) := by have q := V7; rw [(own_snb _ (own_i0l (own_ugb _ _))).1] at q; exact q
  refine oP T6 (mkF m 237 #[oR o0, oR o1, oI 0, oI (ofNat xs.length), oR o4, oR tb, oI (ofNat (i + 1)), s7, s8, oI ((ofNat (j + 1)) + (1 : Int32)), oI (ofNat (own_ug xs i)), s11, s12, s13, s14, s15] [(.int (ofNat (j + 1))), (.ref o4)]) (fun t k => ?_) ?_
  ·skip
   refine XS.iload X6.here hx rfl (d15 hby 123) rfl ?_
   refine XS.iloadN X6.here hx rfl (d15 hby 124) rfl ?_
   refine XS.icmpNo X6.here hx rfl (d15 hby 125) rfl (teq ((own_eqn (by omega) (by omega)).mpr (by omega))).2 ?_
   refine XS.aload X6.here hx rfl (d15 hby 126) rfl rfl ?_
   refine XS.iload X6.here hx rfl (d15 hby 127) rfl ?_
   refine XS.iinc X6.here hx rfl (d15 hby 128) rfl (l' := #[oR o0, oR o1, oI 0, oI (ofNat xs.length), oR o4, oR tb, oI (ofNat (i + 1)), s7, s8, oI ((ofNat (j + 1)) + (1 : Int32)), oI (ofNat (own_ug xs i)), s11, s12, s13, s14, s15]) rfl ?_
   exact k
  rw [show (((ofNat (j + 1)) + (1 : Int32)) : Int32) = (ofNat (j + 2)) from own_add (j + 1) 1]
  refine oP T6 (mkF m 246 #[oR o0, oR o1, oI 0, oI (ofNat xs.length), oR o4, oR tb, oI (ofNat (i + 1)), s7, s8, oI (ofNat (j + 2)), oI (ofNat (own_ug xs i)), s11, s12, s13, s14, s15] [(.int (((ofNat (own_ug xs i)) <<< ((4 : Int32) &&& 31)) &&& (63 : Int32))), (.ref tb), (.int (ofNat (j + 1))), (.ref o4)]) (fun t k => ?_) ?_
  ·skip
   refine XS.aload X6.here hx rfl (d15 hby 129) rfl rfl ?_
   refine XS.iload X6.here hx rfl (d15 hby 130) rfl ?_
   refine XS.iconst X6.here hx rfl (d15 hby 131) ?_
   refine XS.ishl X6.here hx rfl (d15 hby 132) rfl ?_
   refine XS.bipush X6.here hx rfl (d15 hby 133) ?_
   refine XS.iand X6.here hx rfl (d15 hby 134) rfl ?_
   exact k
  rw [show ((((ofNat (own_ug xs i)) <<< ((4 : Int32) &&& 31)) &&& (63 : Int32)) : Int32) = (ofNat (own_i1 (own_ug xs i) 0)) from own_y1' _]
  obtain ⟨cl19, Arcl19, qcl19, Scl19, Mcl19, Hcl19, Gcl19⟩ := id (V_tb.ext O15.2)
  have hincl19 : ¬ ((ofNat (own_i1 (own_ug xs i) 0)) < 0 ∨ cl19.slots.size ≤ ((ofNat (own_i1 (own_ug xs i) 0))).toNatClampNeg) := inb_of Scl19 (own_tin (N := 64) (own_i1l (by decide)) (by decide))
  have hatcl19 : cl19.slots[((ofNat (own_i1 (own_ug xs i) 0))).toNatClampNeg]? = some (.int (own_sn (own_i1 (own_ug xs i) 0))) := Hcl19.at hincl19 (own_tat (own_i1l (by decide)))
  refine oP T6 (mkF m 247 #[oR o0, oR o1, oI 0, oI (ofNat xs.length), oR o4, oR tb, oI (ofNat (i + 1)), s7, s8, oI (ofNat (j + 2)), oI (ofNat (own_ug xs i)), s11, s12, s13, s14, s15] [(.int (own_sn (own_i1 (own_ug xs i) 0))), (.int (ofNat (j + 1))), (.ref o4)]) (fun t k => ?_) ?_
  ·skip
   refine X6.caload hx (j := (ofNat (own_i1 (own_ug xs i) 0))) (v := (.int (own_sn (own_i1 (own_ug xs i) 0)))) (by rw [e6]; exact Arcl19.1) (State.isArrayOf_alike hZ.alike Arcl19.2.1) Arcl19.2.2 hincl19 hatcl19 (g := (mkF m 246 #[oR o0, oR o1, oI 0, oI (ofNat xs.length), oR o4, oR tb, oI (ofNat (i + 1)), s7, s8, oI (ofNat (j + 2)), oI (ofNat (own_ug xs i)), s11, s12, s13, s14, s15] [(.int (ofNat (own_i1 (own_ug xs i) 0))), (.ref tb), (.int (ofNat (j + 1))), (.ref o4)])) rfl rfl (d15 hby 135) _ ?_
   exact k
  refine oP T6 (mkF m 248 #[oR o0, oR o1, oI 0, oI (ofNat xs.length), oR o4, oR tb, oI (ofNat (i + 1)), s7, s8, oI (ofNat (j + 2)), oI (ofNat (own_ug xs i)), s11, s12, s13, s14, s15] [(.int ((own_sn (own_i1 (own_ug xs i) 0)).toInt8.toInt32)), (.int (ofNat (j + 1))), (.ref o4)]) (fun t k => ?_) ?_
  ·skip
   refine XS.i2b X6.here hx rfl (d15 hby 136) rfl ?_
   exact k
  rw [show (((own_sn (own_i1 (own_ug xs i) 0)).toInt8.toInt32) : Int32) = (own_sn (own_i1 (own_ug xs i) 0)) from (own_snb _ (own_i1l (by decide))).1]
  obtain ⟨cl20, Arcl20, qcl20, Scl20, Mcl20, Hcl20, Gcl20⟩ := V17
  have hincl20 : ¬ ((ofNat (j + 1)) < 0 ∨ cl20.slots.size ≤ ((ofNat (j + 1))).toNatClampNeg) := inb_of Scl20 (own_tin (by omega) (by omega))
  obtain ⟨T21, h21, X21, e21, W21, st21⟩ := stB X6 hx hZ e6 Arcl20 (j := (ofNat (j + 1))) hincl20 (g := (mkF m 248 #[oR o0, oR o1, oI 0, oI (ofNat xs.length), oR o4, oR tb, oI (ofNat (i + 1)), s7, s8, oI (ofNat (j + 2)), oI (ofNat (own_ug xs i)), s11, s12, s13, s14, s15] [(.int (own_sn (own_i1 (own_ug xs i) 0))), (.int (ofNat (j + 1))), (.ref o4)])) rfl rfl (d15 hby 137)
  have V22 := Arv.set Arcl20 qcl20 Scl20 Mcl20 Hcl20 Gcl20 (fits_nar_byte _) W21 (j + 1) (own_tn (by omega)) (by (try simp only [List.length_set, own_blkl]); omega)
  have F26 := F11.other W21 (Or.inl ne_o0)
  have K21 := K6.wr W21 (Or.inl (List.mem_of_getElem? (i := 0) rfl))
  have N21 := Fr.snoc X21 N6 g_o4
  refine own_step st21 ?_
  have V32 : Arv Z h21 o4 k2 .byte (ofNat (own_D xs.length)) ((((vw).set j (.int (own_sn (own_i0 (own_ug xs i)))))).set (j + 1) (.int (own_sn (own_i1 (own_ug xs i) 0)))) (.int 0) := by have q := V22; rw [(own_snb _ (own_i1l (by decide))).1] at q; exact q
  refine oP T21 (mkF m 250 #[oR o0, oR o1, oI 0, oI (ofNat xs.length), oR o4, oR tb, oI (ofNat (i + 1)), s7, s8, oI (ofNat (j + 2)), oI (ofNat (own_ug xs i)), s11, s12, s13, s14, s15] [(.ref o0)]) (fun t k => ?_) ?_
  ·skip
   refine XS.aloadN X21.here hx rfl (d15 hby 138) rfl rfl ?_
   exact k
  obtain ⟨T33, X33, e33, st33⟩ := getF X21 hx hZ hown (host := "") (Or.inl (own_w hw 59)) Via.refl e21 F26 (g := (mkF m 250 #[oR o0, oR o1, oI 0, oI (ofNat xs.length), oR o4, oR tb, oI (ofNat (i + 1)), s7, s8, oI (ofNat (j + 2)), oI (ofNat (own_ug xs i)), s11, s12, s13, s14, s15] [(.ref o0)])) rfl rfl (d15 hby 139)
  refine own_step st33 ?_
  refine oP T33 (mkF m 263 #[oR o0, oR o1, oI 0, oI (ofNat xs.length), oR o4, oR tb, oI (ofNat (i + 1)), s7, s8, oI ((ofNat (j + 2)) + (1 : Int32)), oI (ofNat (own_ug xs i)), s11, s12, s13, s14, s15] [(.int (ofNat (j + 2))), (.ref o4)]) (fun t k => ?_) ?_
  ·skip
   refine XS.ifNo X33.here hx rfl (d15 hby 140) rfl ((if0 _ _).trans (feq (by decide)).1) ?_
   refine XS.aload X33.here hx rfl (d15 hby 141) rfl rfl ?_
   refine XS.iload X33.here hx rfl (d15 hby 142) rfl ?_
   refine XS.iinc X33.here hx rfl (d15 hby 143) rfl (l' := #[oR o0, oR o1, oI 0, oI (ofNat xs.length), oR o4, oR tb, oI (ofNat (i + 1)), s7, s8, oI ((ofNat (j + 2)) + (1 : Int32)), oI (ofNat (own_ug xs i)), s11, s12, s13, s14, s15]) rfl ?_
   exact k
  rw [show (((ofNat (j + 2)) + (1 : Int32)) : Int32) = (ofNat (j + 3)) from own_add (j + 2) 1]
  refine oP T33 (mkF m 265 #[oR o0, oR o1, oI 0, oI (ofNat xs.length), oR o4, oR tb, oI (ofNat (i + 1)), s7, s8, oI (ofNat (j + 3)), oI (ofNat (own_ug xs i)), s11, s12, s13, s14, s15] [(.int 61), (.int (ofNat (j + 2))), (.ref o4)]) (fun t k => ?_) ?_
  ·skip
   refine XS.bipush X33.here hx rfl (d15 hby 144) ?_
   exact k
  obtain ⟨cl35, Arcl35, qcl35, Scl35, Mcl35, Hcl35, Gcl35⟩ := V32
  have hincl35 : ¬ ((ofNat (j + 2)) < 0 ∨ cl35.slots.size ≤ ((ofNat (j + 2))).toNatClampNeg) := inb_of Scl35 (own_tin (by omega) (by omega))
  obtain ⟨T36, h36, X36, e36, W36, st36⟩ := stB X33 hx hZ e33 Arcl35 (j := (ofNat (j + 2))) hincl35 (g := (mkF m 265 #[oR o0, oR o1, oI 0, oI (ofNat xs.length), oR o4, oR tb, oI (ofNat (i + 1)), s7, s8, oI (ofNat (j + 3)), oI (ofNat (own_ug xs i)), s11, s12, s13, s14, s15] [(.int 61), (.int (ofNat (j + 2))), (.ref o4)])) rfl rfl (d15 hby 145)
  have V37 := Arv.set Arcl35 qcl35 Scl35 Mcl35 Hcl35 Gcl35 (fits_nar_byte _) W36 (j + 2) (own_tn (by omega)) (by (try simp only [List.length_set, own_blkl]); omega)
  have K36 := K21.wr W36 (Or.inl (List.mem_of_getElem? (i := 0) rfl))
  have N36 := Fr.snoc X36 N21 g_o4
  refine own_step st36 ?_
  have V47 : Arv Z h36 o4 k2 .byte (ofNat (own_D xs.length)) ((((((vw).set j (.int (own_sn (own_i0 (own_ug xs i)))))).set (j + 1) (.int (own_sn (own_i1 (own_ug xs i) 0))))).set (j + 2) (.int 61)) (.int 0) := by have q := V37; rw [show (61 : Int32).toInt8.toInt32 = (61 : Int32) from by decide] at q; exact q
  refine oP T36 (mkF m 273 #[oR o0, oR o1, oI 0, oI (ofNat xs.length), oR o4, oR tb, oI (ofNat (i + 1)), s7, s8, oI ((ofNat (j + 3)) + (1 : Int32)), oI (ofNat (own_ug xs i)), s11, s12, s13, s14, s15] [(.int (ofNat (j + 3))), (.ref o4)]) (fun t k => ?_) ?_
  ·skip
   refine XS.aload X36.here hx rfl (d15 hby 146) rfl rfl ?_
   refine XS.iload X36.here hx rfl (d15 hby 147) rfl ?_
   refine XS.iinc X36.here hx rfl (d15 hby 148) rfl (l' := #[oR o0, oR o1, oI 0, oI (ofNat xs.length), oR o4, oR tb, oI (ofNat (i + 1)), s7, s8, oI ((ofNat (j + 3)) + (1 : Int32)), oI (ofNat (own_ug xs i)), s11, s12, s13, s14, s15]) rfl ?_
   exact k
  rw [show (((ofNat (j + 3)) + (1 : Int32)) : Int32) = (ofNat (j + 4)) from own_add (j + 3) 1]
  refine oP T36 (mkF m 275 #[oR o0, oR o1, oI 0, oI (ofNat xs.length), oR o4, oR tb, oI (ofNat (i + 1)), s7, s8, oI (ofNat (j + 4)), oI (ofNat (own_ug xs i)), s11, s12, s13, s14, s15] [(.int 61), (.int (ofNat (j + 3))), (.ref o4)]) (fun t k => ?_) ?_
  ·skip
   refine XS.bipush X36.here hx rfl (d15 hby 149) ?_
   exact k
  obtain ⟨cl48, Arcl48, qcl48, Scl48, Mcl48, Hcl48, Gcl48⟩ := V47
  have hincl48 : ¬ ((ofNat (j + 3)) < 0 ∨ cl48.slots.size ≤ ((ofNat (j + 3))).toNatClampNeg) := inb_of Scl48 (own_tin (by omega) (by omega))
  obtain ⟨T49, h49, X49, e49, W49, st49⟩ := stB X36 hx hZ e36 Arcl48 (j := (ofNat (j + 3))) hincl48 (g := (mkF m 275 #[oR o0, oR o1, oI 0, oI (ofNat xs.length), oR o4, oR tb, oI (ofNat (i + 1)), s7, s8, oI (ofNat (j + 4)), oI (ofNat (own_ug xs i)), s11, s12, s13, s14, s15] [(.int 61), (.int (ofNat (j + 3))), (.ref o4)])) rfl rfl (d15 hby 150)
  have V50 := Arv.set Arcl48 qcl48 Scl48 Mcl48 Hcl48 Gcl48 (fits_nar_byte _) W49 (j + 3) (own_tn (by omega)) (by (try simp only [List.length_set, own_blkl]); omega)
  have K49 := K36.wr W49 (Or.inl (List.mem_of_getElem? (i := 0) rfl))
  have N49 := Fr.snoc X49 N36 g_o4
  refine own_step st49 ?_
  have V60 : Arv Z h49 o4 k2 .byte (ofNat (own_D xs.length)) ((((((((vw).set j (.int (own_sn (own_i0 (own_ug xs i)))))).set (j + 1) (.int (own_sn (own_i1 (own_ug xs i) 0))))).set (j + 2) (.int 61))).set (j + 3) (.int 61)) (.int 0) := by have q := V50; rw [show (61 : Int32).toInt8.toInt32 = (61 : Int32) from by decide] at q; exact q
  refine oP T49 (mkF m 354 #[oR o0, oR o1, oI 0, oI (ofNat xs.length), oR o4, oR tb, oI (ofNat (i + 1)), s7, s8, oI (ofNat (j + 4)), oI (ofNat (own_ug xs i)), s11, s12, s13, s14, s15] [(.int (ofNat (j + 4)))]) (fun t k => ?_) ?_
  ·skip
   refine XS.goto X49.here hx rfl (pc0 := 276) (pc' := 352) rfl (d15 hby 151) (by decide) (by decide) ?_
   refine XS.iload X49.here hx rfl (d15 hby 195) rfl ?_
   exact k
  refine own_retI X49 hx Bd.returns (d15 hby 196) (BodyLoose.notSynchronized Bd) (by decide) (by decide) ?_
  rw [show T49.heap = h49 from e49]
  exact ⟨by rw [← hj], N49, K49, by rw [hE]; exact V60⟩
 have tail2 : ∀ (i j : Nat) (T : State) (hp : Heap) (lc : List Loc) (vw : List Value) (s7 s8 s10 s11 s12 s13 s14 s15 : Slot) (hi : i + 2 = xs.length) (hj : own_D xs.length = j + 4) (hE : own_en xs vd xs.length = own_t2 xs i j vw) (X : Stand p l e rM1_0_0_22 s m #[(.ref o0), (.ref o1), (.int 0), (.int (ofNat xs.length)), (.ref o4)] below meth c T lc 0 0) (eT : T.heap = hp) (Nl : Fr n0 lc) (Kl : Keep h0 hp [o4]) (Ol : Old Z n0 hp) (El : Exa Z hp o0 "java/util/Base64$Encoder") (F0 : Fld Z hp o0 "java/util/Base64$Encoder" "isURL" "Z" (.int 0)) (F1 : Fld Z hp o0 "java/util/Base64$Encoder" "newline" "[B" (.ref nl)) (F2 : Fld Z hp o0 "java/util/Base64$Encoder" "linemax" "I" (.int 64)) (F3 : Fld Z hp o0 "java/util/Base64$Encoder" "doPadding" "Z" (.int 1)) (Vn : Arv Z hp nl kn .byte (1 : Int32) [(.int 10)] (.int 0)) (Vs : Arv Z hp o1 k .byte (ofNat xs.length) (own_xs xs) (.int 0)) (Vd : Arv Z hp o4 k2 .byte (ofNat (own_D xs.length)) vw (.int 0)) (hvw : vw.length = own_D xs.length) (hs10 : One s10) (hs11 : One s11), own_Run p e below s (rm16_Q Z o0 o1 o4 xs tb kt nl kn k k2 vd h0 n0) 0 0 T (mkF m 189 #[oR o0, oR o1, oI 0, oI (ofNat xs.length), oR o4, oR tb, oI (ofNat i), s7, s8, oI (ofNat j), s10, s11, s12, s13, s14, s15] []) := by
  intro i j T hp lc vw s7 s8 s10 s11 s12 s13 s14 s15 hi hj hE X eT Nl Kl Ol El F0 F1 F2 F3 Vn Vs Vd hvw hs10 hs11
  refine oP T (mkF m 201 #[oR o0, oR o1, oI 0, oI (ofNat xs.length), oR o4, oR tb, oI ((ofNat i) + (1 : Int32)), s7, s8, oI (ofNat j), s10, s11, s12, s13, s14, s15] [(.int (ofNat i)), (.ref o1)]) (fun t k => ?_) ?_
  ·skip
   refine XS.iload X.here hx rfl (d15 hby 103) rfl ?_
   refine XS.iloadN X.here hx rfl (d15 hby 104) rfl ?_
   refine XS.icmpNo X.here hx rfl (d15 hby 105) rfl (tlt ((own_lt (by omega) (by omega)).mpr (by omega))).2.1 ?_
   refine XS.aloadN X.here hx rfl (d15 hby 106) rfl rfl ?_
   refine XS.iload X.here hx rfl (d15 hby 107) rfl ?_
   refine XS.iinc X.here hx rfl (d15 hby 108) rfl (l' := #[oR o0, oR o1, oI 0, oI (ofNat xs.length), oR o4, oR tb, oI ((ofNat i) + (1 : Int32)), s7, s8, oI (ofNat j), s10, s11, s12, s13, s14, s15]) rfl ?_
   exact k
  rw [show (((ofNat i) + (1 : Int32)) : Int32) = (ofNat (i + 1)) from own_add i 1]
  obtain ⟨cl62, Arcl62, qcl62, Scl62, Mcl62, Hcl62, Gcl62⟩ := id Vs
  have hincl62 : ¬ ((ofNat i) < 0 ∨ cl62.slots.size ≤ ((ofNat i)).toNatClampNeg) := inb_of Scl62 (own_tin (by omega) (by omega))
  have hatcl62 : cl62.slots[((ofNat i)).toNatClampNeg]? = some (.int (own_g xs i)) := Hcl62.at hincl62 (own_xat xs (by omega))
  refine oP T (mkF m 206 #[oR o0, oR o1, oI 0, oI (ofNat xs.length), oR o4, oR tb, oI (ofNat (i + 1)), s7, s8, oI (ofNat j), s10, s11, s12, s13, s14, s15] [(.int ((own_g xs i) &&& (255 : Int32)))]) (fun t k => ?_) ?_
  ·skip
   refine X.baloadBytes hx (j := (ofNat i)) (v := (.int (own_g xs i))) (by rw [eT]; exact Arcl62.1) (State.isArrayOf_alike hZ.alike Arcl62.2.1) Arcl62.2.2 hincl62 hatcl62 (g := (mkF m 201 #[oR o0, oR o1, oI 0, oI (ofNat xs.length), oR o4, oR tb, oI (ofNat (i + 1)), s7, s8, oI (ofNat j), s10, s11, s12, s13, s14, s15] [(.int (ofNat i)), (.ref o1)])) rfl rfl (d15 hby 109) _ ?_
   refine XS.sipush X.here hx rfl (d15 hby 110) ?_
   refine XS.iand X.here hx rfl (d15 hby 111) rfl ?_
   exact k
  rw [show (((own_g xs i) &&& (255 : Int32)) : Int32) = (ofNat (own_ug xs i)) from own_a255 _]
  refine oP T (mkF m 215 #[oR o0, oR o1, oI 0, oI (ofNat xs.length), oR o4, oR tb, oI (ofNat (i + 1)), s7, s8, oI ((ofNat j) + (1 : Int32)), oI (ofNat (own_ug xs i)), s11, s12, s13, s14, s15] [(.int (ofNat j)), (.ref o4)]) (fun t k => ?_) ?_
  ·skip
   refine XS.istore X.here hx rfl (d15 hby 112) rfl (l' := #[oR o0, oR o1, oI 0, oI (ofNat xs.length), oR o4, oR tb, oI (ofNat (i + 1)), s7, s8, oI (ofNat j), oI (ofNat (own_ug xs i)), s11, s12, s13, s14, s15]) (own_s16a hs10 _) ?_
   refine XS.aload X.here hx rfl (d15 hby 113) rfl rfl ?_
   refine XS.iload X.here hx rfl (d15 hby 114) rfl ?_
   refine XS.iinc X.here hx rfl (d15 hby 115) rfl (l' := #[oR o0, oR o1, oI 0, oI (ofNat xs.length), oR o4, oR tb, oI (ofNat (i + 1)), s7, s8, oI ((ofNat j) + (1 : Int32)), oI (ofNat (own_ug xs i)), s11, s12, s13, s14, s15]) rfl ?_
   exact k
  rw [show (((ofNat j) + (1 : Int32)) : Int32) = (ofNat (j + 1)) from own_add j 1]
  refine oP T (mkF m 221 #[oR o0, oR o1, oI 0, oI (ofNat xs.length), oR o4, oR tb, oI (ofNat (i + 1)), s7, s8, oI (ofNat (j + 1)), oI (ofNat (own_ug xs i)), s11, s12, s13, s14, s15] [(.int ((ofNat (own_ug xs i)) >>> ((2 : Int32) &&& 31))), (.ref tb), (.int (ofNat j)), (.ref o4)]) (fun t k => ?_) ?_
  ·skip
   refine XS.aload X.here hx rfl (d15 hby 116) rfl rfl ?_
   refine XS.iload X.here hx rfl (d15 hby 117) rfl ?_
   refine XS.iconst X.here hx rfl (d15 hby 118) ?_
   refine XS.ishr X.here hx rfl (d15 hby 119) rfl ?_
   exact k
  rw [show (((ofNat (own_ug xs i)) >>> ((2 : Int32) &&& 31)) : Int32) = (ofNat (own_i0 (own_ug xs i))) from own_y0 (own_ugb _ _)]
  obtain ⟨cl63, Arcl63, qcl63, Scl63, Mcl63, Hcl63, Gcl63⟩ := id (V_tb.ext Ol.2)
  have hincl63 : ¬ ((ofNat (own_i0 (own_ug xs i))) < 0 ∨ cl63.slots.size ≤ ((ofNat (own_i0 (own_ug xs i)))).toNatClampNeg) := inb_of Scl63 (own_tin (N := 64) (own_i0l (own_ugb _ _)) (by decide))
  have hatcl63 : cl63.slots[((ofNat (own_i0 (own_ug xs i)))).toNatClampNeg]? = some (.int (own_sn (own_i0 (own_ug xs i)))) := Hcl63.at hincl63 (own_tat (own_i0l (own_ugb _ _)))
  refine oP T (mkF m 222 #[oR o0, oR o1, oI 0, oI (ofNat xs.length), oR o4, oR tb, oI (ofNat (i + 1)), s7, s8, oI (ofNat (j + 1)), oI (ofNat (own_ug xs i)), s11, s12, s13, s14, s15] [(.int (own_sn (own_i0 (own_ug xs i)))), (.int (ofNat j)), (.ref o4)]) (fun t k => ?_) ?_
  ·skip
   refine X.caload hx (j := (ofNat (own_i0 (own_ug xs i)))) (v := (.int (own_sn (own_i0 (own_ug xs i))))) (by rw [eT]; exact Arcl63.1) (State.isArrayOf_alike hZ.alike Arcl63.2.1) Arcl63.2.2 hincl63 hatcl63 (g := (mkF m 221 #[oR o0, oR o1, oI 0, oI (ofNat xs.length), oR o4, oR tb, oI (ofNat (i + 1)), s7, s8, oI (ofNat (j + 1)), oI (ofNat (own_ug xs i)), s11, s12, s13, s14, s15] [(.int (ofNat (own_i0 (own_ug xs i)))), (.ref tb), (.int (ofNat j)), (.ref o4)])) rfl rfl (d15 hby 120) _ ?_
   exact k
  refine oP T (mkF m 223 #[oR o0, oR o1, oI 0, oI (ofNat xs.length), oR o4, oR tb, oI (ofNat (i + 1)), s7, s8, oI (ofNat (j + 1)), oI (ofNat (own_ug xs i)), s11, s12, s13, s14, s15] [(.int ((own_sn (own_i0 (own_ug xs i))).toInt8.toInt32)), (.int (ofNat j)), (.ref o4)]) (fun t k => ?_) ?_
  ·skip
   refine XS.i2b X.here hx rfl (d15 hby 121) rfl ?_
   exact k
  rw [show (((own_sn (own_i0 (own_ug xs i))).toInt8.toInt32) : Int32) = (own_sn (own_i0 (own_ug xs i))) from (own_snb _ (own_i0l (own_ugb _ _))).1]
  obtain ⟨cl64, Arcl64, qcl64, Scl64, Mcl64, Hcl64, Gcl64⟩ := Vd
  have hincl64 : ¬ ((ofNat j) < 0 ∨ cl64.slots.size ≤ ((ofNat j)).toNatClampNeg) := inb_of Scl64 (own_tin (by omega) (by omega))
  obtain ⟨T65, h65, X65, e65, W65, st65⟩ := stB X hx hZ eT Arcl64 (j := (ofNat j)) hincl64 (g := (mkF m 223 #[oR o0, oR o1, oI 0, oI (ofNat xs.length), oR o4, oR tb, oI (ofNat (i + 1)), s7, s8, oI (ofNat (j + 1)), oI (ofNat (own_ug xs i)), s11, s12, s13, s14, s15] [(.int (own_sn (own_i0 (own_ug xs i)))), (.int (ofNat j)), (.ref o4)])) rfl rfl (d15 hby 122)
  have V66 := Arv.set Arcl64 qcl64 Scl64 Mcl64 Hcl64 Gcl64 (fits_nar_byte _) W65 j (own_tn (by omega)) (by (try simp only [List.length_set, own_blkl]); omega)
  have F70 := F3.other W65 (Or.inl ne_o0)
  have V73 := Vs.other W65 ne_o1
  have O74 := Ol.wr W65 g_o4
  have K65 := Kl.wr W65 (Or.inl (List.mem_of_getElem? (i := 0) rfl))
  have N65 := Fr.snoc X65 Nl g_o4
  refine own_step st65 ?_
  have V76 : Arv Z h65 o4 k2 .byte (ofNat (own_D xs.length)) ((vw).set j (.int (own_sn (own_i0 (own_ug xs i))))) (.int 0) := by have q := V66; rw [(own_snb _ (own_i0l (own_ugb _ _))).1] at q; exact q
  refine oP T65 (mkF m 285 #[oR o0, oR o1, oI 0, oI (ofNat xs.length), oR o4, oR tb, oI ((ofNat (i + 1)) + (1 : Int32)), s7, s8, oI (ofNat (j + 1)), oI (ofNat (own_ug xs i)), s11, s12, s13, s14, s15] [(.int (ofNat (i + 1))), (.ref o1)]) (fun t k => ?_) ?_
  ·skip
   refine XS.iload X65.here hx rfl (d15 hby 123) rfl ?_
   refine XS.iloadN X65.here hx rfl (d15 hby 124) rfl ?_
   refine XS.icmpYes X65.here hx rfl (pc0 := 227) (pc' := 279) rfl (d15 hby 125) rfl (feq (fun q => absurd ((own_eqn (by omega) (by omega)).mp q) (by omega))).2 (by decide) (by decide) ?_
   refine XS.aloadN X65.here hx rfl (d15 hby 152) rfl rfl ?_
   refine XS.iload X65.here hx rfl (d15 hby 153) rfl ?_
   refine XS.iinc X65.here hx rfl (d15 hby 154) rfl (l' := #[oR o0, oR o1, oI 0, oI (ofNat xs.length), oR o4, oR tb, oI ((ofNat (i + 1)) + (1 : Int32)), s7, s8, oI (ofNat (j + 1)), oI (ofNat (own_ug xs i)), s11, s12, s13, s14, s15]) rfl ?_
   exact k
  rw [show (((ofNat (i + 1)) + (1 : Int32)) : Int32) = (ofNat (i + 2)) from own_add (i + 1) 1]
  obtain ⟨cl78, Arcl78, qcl78, Scl78, Mcl78, Hcl78, Gcl78⟩ := id V73
  have hincl78 : ¬ ((ofNat (i + 1)) < 0 ∨ cl78.slots.size ≤ ((ofNat (i + 1))).toNatClampNeg) := inb_of Scl78 (own_tin (by omega) (by omega))
  have hatcl78 : cl78.slots[((ofNat (i + 1))).toNatClampNeg]? = some (.int (own_g xs (i + 1))) := Hcl78.at hincl78 (own_xat xs (by omega))
  refine oP T65 (mkF m 290 #[oR o0, oR o1, oI 0, oI (ofNat xs.length), oR o4, oR tb, oI (ofNat (i + 2)), s7, s8, oI (ofNat (j + 1)), oI (ofNat (own_ug xs i)), s11, s12, s13, s14, s15] [(.int ((own_g xs (i + 1)) &&& (255 : Int32)))]) (fun t k => ?_) ?_
  ·skip
   refine X65.baloadBytes hx (j := (ofNat (i + 1))) (v := (.int (own_g xs (i + 1)))) (by rw [e65]; exact Arcl78.1) (State.isArrayOf_alike hZ.alike Arcl78.2.1) Arcl78.2.2 hincl78 hatcl78 (g := (mkF m 285 #[oR o0, oR o1, oI 0, oI (ofNat xs.length), oR o4, oR tb, oI (ofNat (i + 2)), s7, s8, oI (ofNat (j + 1)), oI (ofNat (own_ug xs i)), s11, s12, s13, s14, s15] [(.int (ofNat (i + 1))), (.ref o1)])) rfl rfl (d15 hby 155) _ ?_
   refine XS.sipush X65.here hx rfl (d15 hby 156) ?_
   refine XS.iand X65.here hx rfl (d15 hby 157) rfl ?_
   exact k
  rw [show (((own_g xs (i + 1)) &&& (255 : Int32)) : Int32) = (ofNat (own_ug xs (i + 1))) from own_a255 _]
  refine oP T65 (mkF m 299 #[oR o0, oR o1, oI 0, oI (ofNat xs.length), oR o4, oR tb, oI (ofNat (i + 2)), s7, s8, oI ((ofNat (j + 1)) + (1 : Int32)), oI (ofNat (own_ug xs i)), oI (ofNat (own_ug xs (i + 1))), s12, s13, s14, s15] [(.int (ofNat (j + 1))), (.ref o4)]) (fun t k => ?_) ?_
  ·skip
   refine XS.istore X65.here hx rfl (d15 hby 158) rfl (l' := #[oR o0, oR o1, oI 0, oI (ofNat xs.length), oR o4, oR tb, oI (ofNat (i + 2)), s7, s8, oI (ofNat (j + 1)), oI (ofNat (own_ug xs i)), oI (ofNat (own_ug xs (i + 1))), s12, s13, s14, s15]) (own_s16b hs11 _) ?_
   refine XS.aload X65.here hx rfl (d15 hby 159) rfl rfl ?_
   refine XS.iload X65.here hx rfl (d15 hby 160) rfl ?_
   refine XS.iinc X65.here hx rfl (d15 hby 161) rfl (l' := #[oR o0, oR o1, oI 0, oI (ofNat xs.length), oR o4, oR tb, oI (ofNat (i + 2)), s7, s8, oI ((ofNat (j + 1)) + (1 : Int32)), oI (ofNat (own_ug xs i)), oI (ofNat (own_ug xs (i + 1))), s12, s13, s14, s15]) rfl ?_
   exact k
  rw [show (((ofNat (j + 1)) + (1 : Int32)) : Int32) = (ofNat (j + 2)) from own_add (j + 1) 1]
  refine oP T65 (mkF m 313 #[oR o0, oR o1, oI 0, oI (ofNat xs.length), oR o4, oR tb, oI (ofNat (i + 2)), s7, s8, oI (ofNat (j + 2)), oI (ofNat (own_ug xs i)), oI (ofNat (own_ug xs (i + 1))), s12, s13, s14, s15] [(.int ((((ofNat (own_ug xs i)) <<< ((4 : Int32) &&& 31)) &&& (63 : Int32)) ||| ((ofNat (own_ug xs (i + 1))) >>> ((4 : Int32) &&& 31)))), (.ref tb), (.int (ofNat (j + 1))), (.ref o4)]) (fun t k => ?_) ?_
  ·skip
   refine XS.aload X65.here hx rfl (d15 hby 162) rfl rfl ?_
   refine XS.iload X65.here hx rfl (d15 hby 163) rfl ?_
   refine XS.iconst X65.here hx rfl (d15 hby 164) ?_
   refine XS.ishl X65.here hx rfl (d15 hby 165) rfl ?_
   refine XS.bipush X65.here hx rfl (d15 hby 166) ?_
   refine XS.iand X65.here hx rfl (d15 hby 167) rfl ?_
   refine XS.iload X65.here hx rfl (d15 hby 168) rfl ?_
   refine XS.iconst X65.here hx rfl (d15 hby 169) ?_
   refine XS.ishr X65.here hx rfl (d15 hby 170) rfl ?_
   refine XS.ior X65.here hx rfl (d15 hby 171) rfl ?_
   exact k
  rw [show (((((ofNat (own_ug xs i)) <<< ((4 : Int32) &&& 31)) &&& (63 : Int32)) ||| ((ofNat (own_ug xs (i + 1))) >>> ((4 : Int32) &&& 31))) : Int32) = (ofNat (own_i1 (own_ug xs i) (own_ug xs (i + 1)))) from own_y1 (own_ugb _ _)]
  obtain ⟨cl79, Arcl79, qcl79, Scl79, Mcl79, Hcl79, Gcl79⟩ := id (V_tb.ext O74.2)
  have hincl79 : ¬ ((ofNat (own_i1 (own_ug xs i) (own_ug xs (i + 1)))) < 0 ∨ cl79.slots.size ≤ ((ofNat (own_i1 (own_ug xs i) (own_ug xs (i + 1))))).toNatClampNeg) := inb_of Scl79 (own_tin (N := 64) (own_i1l (own_ugb _ _)) (by decide))
  have hatcl79 : cl79.slots[((ofNat (own_i1 (own_ug xs i) (own_ug xs (i + 1))))).toNatClampNeg]? = some (.int (own_sn (own_i1 (own_ug xs i) (own_ug xs (i + 1))))) := Hcl79.at hincl79 (own_tat (own_i1l (own_ugb _ _)))
  refine oP T65 (mkF m 314 #[oR o0, oR o1, oI 0, oI (ofNat xs.length), oR o4, oR tb, oI (ofNat (i + 2)), s7, s8, oI (ofNat (j + 2)), oI (ofNat (own_ug xs i)), oI (ofNat (own_ug xs (i + 1))), s12, s13, s14, s15] [(.int (own_sn (own_i1 (own_ug xs i) (own_ug xs (i + 1))))), (.int (ofNat (j + 1))), (.ref o4)]) (fun t k => ?_) ?_
  ·skip
   refine X65.caload hx (j := (ofNat (own_i1 (own_ug xs i) (own_ug xs (i + 1))))) (v := (.int (own_sn (own_i1 (own_ug xs i) (own_ug xs (i + 1)))))) (by rw [e65]; exact Arcl79.1) (State.isArrayOf_alike hZ.alike Arcl79.2.1) Arcl79.2.2 hincl79 hatcl79 (g := (mkF m 313 #[oR o0, oR o1, oI 0, oI (ofNat xs.length), oR o4, oR tb, oI (ofNat (i + 2)), s7, s8, oI (ofNat (j + 2)), oI (ofNat (own_ug xs i)), oI (ofNat (own_ug xs (i + 1))), s12, s13, s14, s15] [(.int (ofNat (own_i1 (own_ug xs i) (own_ug xs (i + 1))))), (.ref tb), (.int (ofNat (j + 1))), (.ref o4)])) rfl rfl (d15 hby 172) _ ?_
   exact k
  refine oP T65 (mkF m 315 #[oR o0, oR o1, oI 0, oI (ofNat xs.length), oR o4, oR tb, oI (ofNat (i + 2)), s7, s8, oI (ofNat (j + 2)), oI (ofNat (own_ug xs i)), oI (ofNat (own_ug xs (i + 1))), s12, s13, s14, s15] [(.int ((own_sn (own_i1 (own_ug xs i) (own_ug xs (i + 1)))).toInt8.toInt32)), (.int (ofNat (j + 1))), (.ref o4)]) (fun t k => ?_) ?_
  ·skip
   refine XS.i2b X65.here hx rfl (d15 hby 173) rfl ?_
   exact k
  rw [show (((own_sn (own_i1 (own_ug xs i) (own_ug xs (i + 1)))).toInt8.toInt32) : Int32) = (own_sn (own_i1 (own_ug xs i) (own_ug xs (i + 1)))) from (own_snb _ (own_i1l (own_ugb _ _))).1]
  obtain ⟨cl80, Arcl80, qcl80, Scl80, Mcl80, Hcl80, Gcl80⟩ := V76
  have hincl80 : ¬ ((ofNat (j + 1)) < 0 ∨ cl80.slots.size ≤ ((ofNat (j + 1))).toNatClampNeg) := inb_of Scl80 (own_tin (by omega) (by omega))
  obtain ⟨T81, h81, X81, e81, W81, st81⟩ := stB X65 hx hZ e65 Arcl80 (j := (ofNat (j + 1))) hincl80 (g := (mkF m 315 #[oR o0, oR o1, oI 0, oI (ofNat xs.length), oR o4, oR tb, oI (ofNat (i + 2)), s7, s8, oI (ofNat (j + 2)), oI (ofNat (own_ug xs i)), oI (ofNat (own_ug xs (i + 1))), s12, s13, s14, s15] [(.int (own_sn (own_i1 (own_ug xs i) (own_ug xs (i + 1))))), (.int (ofNat (j + 1))), (.ref o4)])) rfl rfl (d15 hby 174)
  have V82 := Arv.set Arcl80 qcl80 Scl80 Mcl80 Hcl80 Gcl80 (fits_nar_byte _) W81 (j + 1) (own_tn (by omega)) (by (try simp only [List.length_set, own_blkl]); omega)
  have F86 := F70.other W81 (Or.inl ne_o0)
  have O90 := O74.wr W81 g_o4
  have K81 := K65.wr W81 (Or.inl (List.mem_of_getElem? (i := 0) rfl))
  have N81 := Fr.snoc X81 N65 g_o4
  refine own_step st81 ?_
  have V92 : Arv Z h81 o4 k2 .byte (ofNat (own_D xs.length)) ((((vw).set j (.int (own_sn (own_i0 (own_ug xs i)))))).set (j + 1) (.int (own_sn (own_i1 (own_ug xs i) (own_ug xs (i + 1)))))) (.int 0) := by have q := V82; rw [(own_snb _ (own_i1l (own_ugb _ _))).1] at q; exact q
  refine oP T81 (mkF m 323 #[oR o0, oR o1, oI 0, oI (ofNat xs.length), oR o4, oR tb, oI (ofNat (i + 2)), s7, s8, oI ((ofNat (j + 2)) + (1 : Int32)), oI (ofNat (own_ug xs i)), oI (ofNat (own_ug xs (i + 1))), s12, s13, s14, s15] [(.int (ofNat (j + 2))), (.ref o4)]) (fun t k => ?_) ?_
  ·skip
   refine XS.aload X81.here hx rfl (d15 hby 175) rfl rfl ?_
   refine XS.iload X81.here hx rfl (d15 hby 176) rfl ?_
   refine XS.iinc X81.here hx rfl (d15 hby 177) rfl (l' := #[oR o0, oR o1, oI 0, oI (ofNat xs.length), oR o4, oR tb, oI (ofNat (i + 2)), s7, s8, oI ((ofNat (j + 2)) + (1 : Int32)), oI (ofNat (own_ug xs i)), oI (ofNat (own_ug xs (i + 1))), s12, s13, s14, s15]) rfl ?_
   exact k
  rw [show (((ofNat (j + 2)) + (1 : Int32)) : Int32) = (ofNat (j + 3)) from own_add (j + 2) 1]
  refine oP T81 (mkF m 332 #[oR o0, oR o1, oI 0, oI (ofNat xs.length), oR o4, oR tb, oI (ofNat (i + 2)), s7, s8, oI (ofNat (j + 3)), oI (ofNat (own_ug xs i)), oI (ofNat (own_ug xs (i + 1))), s12, s13, s14, s15] [(.int (((ofNat (own_ug xs (i + 1))) <<< ((2 : Int32) &&& 31)) &&& (63 : Int32))), (.ref tb), (.int (ofNat (j + 2))), (.ref o4)]) (fun t k => ?_) ?_
  ·skip
   refine XS.aload X81.here hx rfl (d15 hby 178) rfl rfl ?_
   refine XS.iload X81.here hx rfl (d15 hby 179) rfl ?_
   refine XS.iconst X81.here hx rfl (d15 hby 180) ?_
   refine XS.ishl X81.here hx rfl (d15 hby 181) rfl ?_
   refine XS.bipush X81.here hx rfl (d15 hby 182) ?_
   refine XS.iand X81.here hx rfl (d15 hby 183) rfl ?_
   exact k
  rw [show ((((ofNat (own_ug xs (i + 1))) <<< ((2 : Int32) &&& 31)) &&& (63 : Int32)) : Int32) = (ofNat (own_i2 (own_ug xs (i + 1)) 0)) from own_y2' _]
  obtain ⟨cl93, Arcl93, qcl93, Scl93, Mcl93, Hcl93, Gcl93⟩ := id (V_tb.ext O90.2)
  have hincl93 : ¬ ((ofNat (own_i2 (own_ug xs (i + 1)) 0)) < 0 ∨ cl93.slots.size ≤ ((ofNat (own_i2 (own_ug xs (i + 1)) 0))).toNatClampNeg) := inb_of Scl93 (own_tin (N := 64) (own_i2l (by decide)) (by decide))
  have hatcl93 : cl93.slots[((ofNat (own_i2 (own_ug xs (i + 1)) 0))).toNatClampNeg]? = some (.int (own_sn (own_i2 (own_ug xs (i + 1)) 0))) := Hcl93.at hincl93 (own_tat (own_i2l (by decide)))
  refine oP T81 (mkF m 333 #[oR o0, oR o1, oI 0, oI (ofNat xs.length), oR o4, oR tb, oI (ofNat (i + 2)), s7, s8, oI (ofNat (j + 3)), oI (ofNat (own_ug xs i)), oI (ofNat (own_ug xs (i + 1))), s12, s13, s14, s15] [(.int (own_sn (own_i2 (own_ug xs (i + 1)) 0))), (.int (ofNat (j + 2))), (.ref o4)]) (fun t k => ?_) ?_
  ·skip
   refine X81.caload hx (j := (ofNat (own_i2 (own_ug xs (i + 1)) 0))) (v := (.int (own_sn (own_i2 (own_ug xs (i + 1)) 0)))) (by rw [e81]; exact Arcl93.1) (State.isArrayOf_alike hZ.alike Arcl93.2.1) Arcl93.2.2 hincl93 hatcl93 (g := (mkF m 332 #[oR o0, oR o1, oI 0, oI (ofNat xs.length), oR o4, oR tb, oI (ofNat (i + 2)), s7, s8, oI (ofNat (j + 3)), oI (ofNat (own_ug xs i)), oI (ofNat (own_ug xs (i + 1))), s12, s13, s14, s15] [(.int (ofNat (own_i2 (own_ug xs (i + 1)) 0))), (.ref tb), (.int (ofNat (j + 2))), (.ref o4)])) rfl rfl (d15 hby 184) _ ?_
   exact k
  refine oP T81 (mkF m 334 #[oR o0, oR o1, oI 0, oI (ofNat xs.length), oR o4, oR tb, oI (ofNat (i + 2)), s7, s8, oI (ofNat (j + 3)), oI (ofNat (own_ug xs i)), oI (ofNat (own_ug xs (i + 1))), s12, s13, s14, s15] [(.int ((own_sn (own_i2 (own_ug xs (i + 1)) 0)).toInt8.toInt32)), (.int (ofNat (j + 2))), (.ref o4)]) (fun t k => ?_) ?_
  ·skip
   refine XS.i2b X81.here hx rfl (d15 hby 185) rfl ?_
   exact k
  rw [show (((own_sn (own_i2 (own_ug xs (i + 1)) 0)).toInt8.toInt32) : Int32) = (own_sn (own_i2 (own_ug xs (i + 1)) 0)) from (own_snb _ (own_i2l (by decide))).1]
  obtain ⟨cl94, Arcl94, qcl94, Scl94, Mcl94, Hcl94, Gcl94⟩ := V92
  have hincl94 : ¬ ((ofNat (j + 2)) < 0 ∨ cl94.slots.size ≤ ((ofNat (j + 2))).toNatClampNeg) := inb_of Scl94 (own_tin (by omega) (by omega))
  obtain ⟨T95, h95, X95, e95, W95, st95⟩ := stB X81 hx hZ e81 Arcl94 (j := (ofNat (j + 2))) hincl94 (g := (mkF m 334 #[oR o0, oR o1, oI 0, oI (ofNat xs.length), oR o4, oR tb, oI (ofNat (i + 2)), s7, s8, oI (ofNat (j + 3)), oI (ofNat (own_ug xs i)), oI (ofNat (own_ug xs (i + 1))), s12, s13, s14, s15] [(.int (own_sn (own_i2 (own_ug xs (i + 1)) 0))), (.int (ofNat (j + 2))), (.ref o4)])) rfl rfl (d15 hby 186)
  have V96 := Arv.set Arcl94 qcl94 Scl94 Mcl94 Hcl94 Gcl94 (fits_nar_byte _) W95 (j + 2) (own_tn (by omega)) (by (try simp only [List.length_set, own_blkl]); omega)
  have F100 := F86.other W95 (Or.inl ne_o0)
  have K95 := K81.wr W95 (Or.inl (List.mem_of_getElem? (i := 0) rfl))
  have N95 := Fr.snoc X95 N81 g_o4
  refine own_step st95 ?_
  have V106 : Arv Z h95 o4 k2 .byte (ofNat (own_D xs.length)) ((((((vw).set j (.int (own_sn (own_i0 (own_ug xs i)))))).set (j + 1) (.int (own_sn (own_i1 (own_ug xs i) (own_ug xs (i + 1))))))).set (j + 2) (.int (own_sn (own_i2 (own_ug xs (i + 1)) 0)))) (.int 0) := by have q := V96; rw [(own_snb _ (own_i2l (by decide))).1] at q; exact q
  refine oP T95 (mkF m 336 #[oR o0, oR o1, oI 0, oI (ofNat xs.length), oR o4, oR tb, oI (ofNat (i + 2)), s7, s8, oI (ofNat (j + 3)), oI (ofNat (own_ug xs i)), oI (ofNat (own_ug xs (i + 1))), s12, s13, s14, s15] [(.ref o0)]) (fun t k => ?_) ?_
  ·skip
   refine XS.aloadN X95.here hx rfl (d15 hby 187) rfl rfl ?_
   exact k
  obtain ⟨T107, X107, e107, st107⟩ := getF X95 hx hZ hown (host := "") (Or.inl (own_w hw 59)) Via.refl e95 F100 (g := (mkF m 336 #[oR o0, oR o1, oI 0, oI (ofNat xs.length), oR o4, oR tb, oI (ofNat (i + 2)), s7, s8, oI (ofNat (j + 3)), oI (ofNat (own_ug xs i)), oI (ofNat (own_ug xs (i + 1))), s12, s13, s14, s15] [(.ref o0)])) rfl rfl (d15 hby 188)
  refine own_step st107 ?_
  refine oP T107 (mkF m 349 #[oR o0, oR o1, oI 0, oI (ofNat xs.length), oR o4, oR tb, oI (ofNat (i + 2)), s7, s8, oI ((ofNat (j + 3)) + (1 : Int32)), oI (ofNat (own_ug xs i)), oI (ofNat (own_ug xs (i + 1))), s12, s13, s14, s15] [(.int (ofNat (j + 3))), (.ref o4)]) (fun t k => ?_) ?_
  ·skip
   refine XS.ifNo X107.here hx rfl (d15 hby 189) rfl ((if0 _ _).trans (feq (by decide)).1) ?_
   refine XS.aload X107.here hx rfl (d15 hby 190) rfl rfl ?_
   refine XS.iload X107.here hx rfl (d15 hby 191) rfl ?_
   refine XS.iinc X107.here hx rfl (d15 hby 192) rfl (l' := #[oR o0, oR o1, oI 0, oI (ofNat xs.length), oR o4, oR tb, oI (ofNat (i + 2)), s7, s8, oI ((ofNat (j + 3)) + (1 : Int32)), oI (ofNat (own_ug xs i)), oI (ofNat (own_ug xs (i + 1))), s12, s13, s14, s15]) rfl ?_
   exact k
  rw [show (((ofNat (j + 3)) + (1 : Int32)) : Int32) = (ofNat (j + 4)) from own_add (j + 3) 1]
  refine oP T107 (mkF m 351 #[oR o0, oR o1, oI 0, oI (ofNat xs.length), oR o4, oR tb, oI (ofNat (i + 2)), s7, s8, oI (ofNat (j + 4)), oI (ofNat (own_ug xs i)), oI (ofNat (own_ug xs (i + 1))), s12, s13, s14, s15] [(.int 61), (.int (ofNat (j + 3))), (.ref o4)]) (fun t k => ?_) ?_
  ·skip
   refine XS.bipush X107.here hx rfl (d15 hby 193) ?_
   exact k
  obtain ⟨cl109, Arcl109, qcl109, Scl109, Mcl109, Hcl109, Gcl109⟩ := V106
  have hincl109 : ¬ ((ofNat (j + 3)) < 0 ∨ cl109.slots.size ≤ ((ofNat (j + 3))).toNatClampNeg) := inb_of Scl109 (own_tin (by omega) (by omega))
  obtain ⟨T110, h110, X110, e110, W110, st110⟩ := stB X107 hx hZ e107 Arcl109 (j := (ofNat (j + 3))) hincl109 (g := (mkF m 351 #[oR o0, oR o1, oI 0, oI (ofNat xs.length), oR o4, oR tb, oI (ofNat (i + 2)), s7, s8, oI (ofNat (j + 4)), oI (ofNat (own_ug xs i)), oI (ofNat (own_ug xs (i + 1))), s12, s13, s14, s15] [(.int 61), (.int (ofNat (j + 3))), (.ref o4)])) rfl rfl (d15 hby 194)
  have V111 := Arv.set Arcl109 qcl109 Scl109 Mcl109 Hcl109 Gcl109 (fits_nar_byte _) W110 (j + 3) (own_tn (by omega)) (by (try simp only [List.length_set, own_blkl]); omega)
  have K110 := K95.wr W110 (Or.inl (List.mem_of_getElem? (i := 0) rfl))
  have N110 := Fr.snoc X110 N95 g_o4
  refine own_step st110 ?_
  have V121 : Arv Z h110 o4 k2 .byte (ofNat (own_D xs.length)) ((((((((vw).set j (.int (own_sn (own_i0 (own_ug xs i)))))).set (j + 1) (.int (own_sn (own_i1 (own_ug xs i) (own_ug xs (i + 1))))))).set (j + 2) (.int (own_sn (own_i2 (own_ug xs (i + 1)) 0))))).set (j + 3) (.int 61)) (.int 0) := by have q := V111; rw [show (61 : Int32).toInt8.toInt32 = (61 : Int32) from by decide] at q; exact q
  refine oP T110 (mkF m 354 #[oR o0, oR o1, oI 0, oI (ofNat xs.length), oR o4, oR tb, oI (ofNat (i + 2)), s7, s8, oI (ofNat (j + 4)), oI (ofNat (own_ug xs i)), oI (ofNat (own_ug xs (i + 1))), s12, s13, s14, s15] [(.int (ofNat (j + 4)))]) (fun t k => ?_) ?_
  ·skip
   refine XS.iload X110.here hx rfl (d15 hby 195) rfl ?_
   exact k
  refine own_retI X110 hx Bd.returns (d15 hby 196) (BodyLoose.notSynchronized Bd) (by decide) (by decide) ?_
  rw [show T110.heap = h110 from e110]
  exact ⟨by rw [← hj], N110, K110, by rw [hE]; exact V121⟩
 have turnA : ∀ (i j slen : Nat) (T : State) (hp : Heap) (lc : List Loc) (vw : List Value) (s10 s11 s12 s13 s14 s15 : Slot) (hi : i + 3 = xs.length) (h3 : 3 ≤ slen) (h4 : slen ≤ 48) (hj : own_D xs.length = j + 4) (hE : own_en xs vd xs.length = own_blk xs 1 i j vw) (X : Stand p l e rM1_0_0_22 s m #[(.ref o0), (.ref o1), (.int 0), (.int (ofNat xs.length)), (.ref o4)] below meth c T lc 0 0) (eT : T.heap = hp) (Nl : Fr n0 lc) (Kl : Keep h0 hp [o4]) (Ol : Old Z n0 hp) (El : Exa Z hp o0 "java/util/Base64$Encoder") (F0 : Fld Z hp o0 "java/util/Base64$Encoder" "isURL" "Z" (.int 0)) (F1 : Fld Z hp o0 "java/util/Base64$Encoder" "newline" "[B" (.ref nl)) (F2 : Fld Z hp o0 "java/util/Base64$Encoder" "linemax" "I" (.int 64)) (F3 : Fld Z hp o0 "java/util/Base64$Encoder" "doPadding" "Z" (.int 1)) (Vn : Arv Z hp nl kn .byte (1 : Int32) [(.int 10)] (.int 0)) (Vs : Arv Z hp o1 k .byte (ofNat xs.length) (own_xs xs) (.int 0)) (Vd : Arv Z hp o4 k2 .byte (ofNat (own_D xs.length)) vw (.int 0)) (hvw : vw.length = own_D xs.length) (hs10 : One s10) (hs11 : One s11), own_Run p e below s (rm16_Q Z o0 o1 o4 xs tb kt nl kn k k2 vd h0 n0) 0 0 T (mkF m 69 #[oR o0, oR o1, oI 0, oI (ofNat xs.length), oR o4, oR tb, oI (ofNat i), oI (ofNat slen), oI (ofNat (i + 3)), oI (ofNat j), s10, s11, s12, s13, s14, s15] []) := by
  intro i j slen T hp lc vw s10 s11 s12 s13 s14 s15 hi h3 h4 hj hE X eT Nl Kl Ol El F0 F1 F2 F3 Vn Vs Vd hvw hs10 hs11
  refine oP T (mkF m 81 #[oR o0, oR o1, oI 0, oI (ofNat xs.length), oR o4, oR tb, oI (ofNat i), oI (ofNat slen), oI (ofNat (i + 3)), oI (ofNat j), s10, s11, s12, s13, s14, s15] [(.int ((ofNat i) + (ofNat slen)))]) (fun t k => ?_) ?_
  ·skip
   refine XS.iload X.here hx rfl (d15 hby 41) rfl ?_
   refine XS.iload X.here hx rfl (d15 hby 42) rfl ?_
   refine XS.icmpNo X.here hx rfl (d15 hby 43) rfl (tlt ((own_lt (by omega) (by omega)).mpr (by omega))).2.1 ?_
   refine XS.iload X.here hx rfl (d15 hby 44) rfl ?_
   refine XS.iload X.here hx rfl (d15 hby 45) rfl ?_
   refine XS.iadd X.here hx rfl (d15 hby 46) rfl ?_
   exact k
  rw [show (((ofNat i) + (ofNat slen)) : Int32) = (ofNat (i + slen)) from own_add _ _]
  refine oP T (mkF m 83 #[oR o0, oR o1, oI 0, oI (ofNat xs.length), oR o4, oR tb, oI (ofNat i), oI (ofNat slen), oI (ofNat (i + 3)), oI (ofNat j), s10, s11, s12, s13, s14, s15] [(.int (ofNat (i + 3))), (.int (ofNat (i + slen)))]) (fun t k => ?_) ?_
  ·skip
   refine XS.iload X.here hx rfl (d15 hby 47) rfl ?_
   exact k
  obtain ⟨_, _, ⟨T123, L123, k123, n123⟩, -, X123, ⟨Lc123, hQ123, l123, y123, z123⟩, st123⟩ := Jvm.LawKit.callS X hx (y := yM3) hown (mvT hZ (own_w hw 250)) (mvT hZ (own_w hw 190)) (mvT hZ (own_w hw 78)) (mvT hZ (own_w hw 191)) (by decide) (backOf (W := 0) (rm34 l Z a0 hw [] (ofNat (i + slen)) (ofNat (i + 3))  hp n0 (Nat.le_trans Z0 Kl.1)) hZ (own_w hw 191) (own_w hw 78) (by decide) (by decide)) (g := (mkF m 83 #[oR o0, oR o1, oI 0, oI (ofNat xs.length), oR o4, oR tb, oI (ofNat i), oI (ofNat slen), oI (ofNat (i + 3)), oI (ofNat j), s10, s11, s12, s13, s14, s15] [(.int (ofNat (i + 3))), (.int (ofNat (i + slen)))])) rfl (by rw [hml]; rfl) (argsL := [(.int (ofNat (i + slen))), (.int (ofNat (i + 3)))]) (rest := []) (lenOf pd_1 rfl) rfl (by show 2 * 0 + _ ≤ _; exact Nat.le_of_eq rfl) (d15 hby 48) (fun _ _ => ⟨rfl, eT, (by decide : 0 + 0 ≤ _), (by decide : 0 + 0 ≤ _)⟩)
  dsimp only [Pt.U, Pt.locs, Pt.cells, Pt.slots] at X123 l123 y123 z123 st123 hQ123
  subst l123 y123 z123
  obtain ⟨rfl, N123q, eq123⟩ := hQ123
  have N123 := Fr.app Nl N123q
  refine own_step st123 ?_
  rw [show ((own_min32 (ofNat (i + slen)) (ofNat (i + 3))) : Int32) = (ofNat (i + 3)) from (own_minn (by omega) (by omega)).trans (by rw [Nat.min_eq_right (by omega)])]
  refine oP T123 (mkF m 99 #[oR o0, oR o1, oI 0, oI (ofNat xs.length), oR o4, oR tb, oI (ofNat i), oI (ofNat slen), oI (ofNat (i + 3)), oI (ofNat j), oI (ofNat (i + 3)), s11, s12, s13, s14, s15] [(.ref o0), (.int (ofNat j)), (.ref o4), (.int (ofNat (i + 3))), (.int (ofNat i)), (.ref o1), (.ref o0)]) (fun t k => ?_) ?_
  ·skip
   refine XS.istore X123.here hx rfl (d15 hby 49) rfl (l' := #[oR o0, oR o1, oI 0, oI (ofNat xs.length), oR o4, oR tb, oI (ofNat i), oI (ofNat slen), oI (ofNat (i + 3)), oI (ofNat j), oI (ofNat (i + 3)), s11, s12, s13, s14, s15]) (own_s16a hs10 _) ?_
   refine XS.aloadN X123.here hx rfl (d15 hby 50) rfl rfl ?_
   refine XS.aloadN X123.here hx rfl (d15 hby 51) rfl rfl ?_
   refine XS.iload X123.here hx rfl (d15 hby 52) rfl ?_
   refine XS.iload X123.here hx rfl (d15 hby 53) rfl ?_
   refine XS.aload X123.here hx rfl (d15 hby 54) rfl rfl ?_
   refine XS.iload X123.here hx rfl (d15 hby 55) rfl ?_
   refine XS.aloadN X123.here hx rfl (d15 hby 56) rfl rfl ?_
   exact k
  obtain ⟨T124, X124, e124, st124⟩ := getF X123 hx hZ hown (host := "") (Or.inl (own_w hw 53)) Via.refl eq123 F0 (g := (mkF m 99 #[oR o0, oR o1, oI 0, oI (ofNat xs.length), oR o4, oR tb, oI (ofNat i), oI (ofNat slen), oI (ofNat (i + 3)), oI (ofNat j), oI (ofNat (i + 3)), s11, s12, s13, s14, s15] [(.ref o0), (.int (ofNat j)), (.ref o4), (.int (ofNat (i + 3))), (.int (ofNat i)), (.ref o1), (.ref o0)])) rfl rfl (d15 hby 57)
  refine own_step st124 ?_
  obtain ⟨cq125, qq125, qr125⟩ := El.cell
  obtain ⟨_, _, ⟨T125, L125, k125, n125⟩, -, X125, ⟨Lc125, hQ125, l125, y125, z125⟩, st125⟩ := X124.privateBack hx (y := yM25) hown (mvT hZ (own_w hw 251)) (mvT hZ (own_w hw 252)) (own_selP (mvT hZ (own_w hw 254)) (Cond.privateMethod_at (mvP hZ (own_w hw 253) (args := #[]))) (mvT hZ (own_w hw 252)) (by decide)) (Cond.privateMethod_at (mvP hZ (own_w hw 253) (args := #[]))) (mvT hZ (own_w hw 255)) (by decide) (backOf (W := 0) (rm49 l Z a0 hw [] o0 o1 o4 i 1 j tb kt k xs k2 (own_D xs.length) vw hp n0 (Nat.le_trans Z0 Kl.1) Ol S_tb V_tb Vs Vd g_o4 ne_o1 (by omega) (by omega) (by omega) (by (try simp only [List.length_set, own_blkl]); omega) (by omega)) hZ (own_w hw 255) (own_w hw 47) (by decide) (by decide)) (g := (mkF m 102 #[oR o0, oR o1, oI 0, oI (ofNat xs.length), oR o4, oR tb, oI (ofNat i), oI (ofNat slen), oI (ofNat (i + 3)), oI (ofNat j), oI (ofNat (i + 3)), s11, s12, s13, s14, s15] [(.int 0), (.int (ofNat j)), (.ref o4), (.int (ofNat (i + 3))), (.int (ofNat i)), (.ref o1), (.ref o0)])) rfl (by rw [hml]; rfl) (Steps.refl _) (a := o0) (by rw [e124]; exact qq125) qr125 (argsL := [(.ref o1), (.int (ofNat i)), (.int (ofNat (i + 3))), (.ref o4), (.int (ofNat j)), (.int 0)]) (rest := []) (lenOf pd_19 rfl) rfl (by show 2 * 0 + _ ≤ _; exact Nat.le_of_eq rfl) (d15 hby 58) (fun _ _ => ⟨rfl, e124, (by decide : 0 + 0 ≤ _), (by decide : 0 + 0 ≤ _)⟩)
  dsimp only [Pt.U, Pt.locs, Pt.cells, Pt.slots] at X125 l125 y125 z125 st125 hQ125
  subst l125 y125 z125
  obtain ⟨rfl, N125q, Kq125, Vq125⟩ := hQ125
  have N125 := Fr.app N123 N125q
  refine own_step (fun t k => st125.trans k) ?_
  have F126 := F0.keep Kq125 (ninS ne_o0 nin0)
  have F127 := F1.keep Kq125 (ninS ne_o0 nin0)
  have F128 := F2.keep Kq125 (ninS ne_o0 nin0)
  have F129 := F3.keep Kq125 (ninS ne_o0 nin0)
  have A130 := El.keep Kq125
  have V131 := Vn.keep Kq125 (ninS ne_nl nin0)
  have V132 := Vs.keep Kq125 (ninS ne_o1 nin0)
  have O133 := Ol.keep Kq125 (allS g_o4 all0)
  have K135 := Kl.trans Kq125 (allS (Or.inl (List.mem_of_getElem? (i := 0) rfl)) all0)
  refine oP T125 (mkF m 114 #[oR o0, oR o1, oI 0, oI (ofNat xs.length), oR o4, oR tb, oI (ofNat i), oI (ofNat slen), oI (ofNat (i + 3)), oI (ofNat j), oI (ofNat (i + 3)), s11, s12, s13, s14, s15] [(.int ((((ofNat (i + 3)) - (ofNat i)) / (3 : Int32)) * (4 : Int32)))]) (fun t k => ?_) ?_
  ·skip
   refine XS.iload X125.here hx rfl (d15 hby 59) rfl ?_
   refine XS.iload X125.here hx rfl (d15 hby 60) rfl ?_
   refine XS.isub X125.here hx rfl (d15 hby 61) rfl ?_
   refine XS.iconst X125.here hx rfl (d15 hby 62) ?_
   refine XS.idiv X125.here hx rfl (d15 hby 63) rfl (by decide) ?_
   refine XS.iconst X125.here hx rfl (d15 hby 64) ?_
   refine XS.imul X125.here hx rfl (d15 hby 65) rfl ?_
   exact k
  rw [show (((((ofNat (i + 3)) - (ofNat i)) / (3 : Int32)) * (4 : Int32)) : Int32) = (4 : Int32) from by rw [own_sub (by omega), show i + 3 - i = 3 from by omega]; decide]
  refine oP T125 (mkF m 121 #[oR o0, oR o1, oI 0, oI (ofNat xs.length), oR o4, oR tb, oI (ofNat i), oI (ofNat slen), oI (ofNat (i + 3)), oI (ofNat j), oI (ofNat (i + 3)), oI 4, s12, s13, s14, s15] [(.int ((ofNat j) + (4 : Int32)))]) (fun t k => ?_) ?_
  ·skip
   refine XS.istore X125.here hx rfl (d15 hby 66) rfl (l' := #[oR o0, oR o1, oI 0, oI (ofNat xs.length), oR o4, oR tb, oI (ofNat i), oI (ofNat slen), oI (ofNat (i + 3)), oI (ofNat j), oI (ofNat (i + 3)), oI 4, s12, s13, s14, s15]) (own_s16c hs11 _) ?_
   refine XS.iload X125.here hx rfl (d15 hby 67) rfl ?_
   refine XS.iload X125.here hx rfl (d15 hby 68) rfl ?_
   refine XS.iadd X125.here hx rfl (d15 hby 69) rfl ?_
   exact k
  rw [show (((ofNat j) + (4 : Int32)) : Int32) = (ofNat (j + 4)) from own_add j 4]
  refine oP T125 (mkF m 130 #[oR o0, oR o1, oI 0, oI (ofNat xs.length), oR o4, oR tb, oI (ofNat (i + 3)), oI (ofNat slen), oI (ofNat (i + 3)), oI (ofNat (j + 4)), oI (ofNat (i + 3)), oI 4, s12, s13, s14, s15] [(.ref o0), (.int 4)]) (fun t k => ?_) ?_
  ·skip
   refine XS.istore X125.here hx rfl (d15 hby 70) rfl (l' := #[oR o0, oR o1, oI 0, oI (ofNat xs.length), oR o4, oR tb, oI (ofNat i), oI (ofNat slen), oI (ofNat (i + 3)), oI (ofNat (j + 4)), oI (ofNat (i + 3)), oI 4, s12, s13, s14, s15]) rfl ?_
   refine XS.iload X125.here hx rfl (d15 hby 71) rfl ?_
   refine XS.istore X125.here hx rfl (d15 hby 72) rfl (l' := #[oR o0, oR o1, oI 0, oI (ofNat xs.length), oR o4, oR tb, oI (ofNat (i + 3)), oI (ofNat slen), oI (ofNat (i + 3)), oI (ofNat (j + 4)), oI (ofNat (i + 3)), oI 4, s12, s13, s14, s15]) rfl ?_
   refine XS.iload X125.here hx rfl (d15 hby 73) rfl ?_
   refine XS.aloadN X125.here hx rfl (d15 hby 74) rfl rfl ?_
   exact k
  obtain ⟨T136, X136, e136, st136⟩ := getF X125 hx hZ hown (host := "") (Or.inl (own_w hw 57)) Via.refl rfl F128 (g := (mkF m 130 #[oR o0, oR o1, oI 0, oI (ofNat xs.length), oR o4, oR tb, oI (ofNat (i + 3)), oI (ofNat slen), oI (ofNat (i + 3)), oI (ofNat (j + 4)), oI (ofNat (i + 3)), oI 4, s12, s13, s14, s15] [(.ref o0), (.int 4)])) rfl rfl (d15 hby 75)
  refine own_step st136 ?_
  refine oP T136 (mkF m 189 #[oR o0, oR o1, oI 0, oI (ofNat xs.length), oR o4, oR tb, oI (ofNat (i + 3)), oI (ofNat slen), oI (ofNat (i + 3)), oI (ofNat (j + 4)), oI (ofNat (i + 3)), oI 4, s12, s13, s14, s15] []) (fun t k => ?_) ?_
  ·skip
   refine XS.icmpYes X136.here hx rfl (pc0 := 133) (pc' := 186) rfl (d15 hby 76) rfl (feq (by decide)).2 (by decide) (by decide) ?_
   refine XS.goto X136.here hx rfl (pc0 := 186) (pc' := 69) rfl (d15 hby 102) (by decide) (by decide) ?_
   refine XS.iload X136.here hx rfl (d15 hby 41) rfl ?_
   refine XS.iload X136.here hx rfl (d15 hby 42) rfl ?_
   refine XS.icmpYes X136.here hx rfl (pc0 := 73) (pc' := 189) rfl (d15 hby 43) rfl (flt (fun q => absurd ((own_lt (by omega) (by omega)).mp q) (by omega))).2.1 (by decide) (by decide) ?_
   exact k
  exact tail0 (i + 3) (j + 4) _ _ _ _ _ _ _ _ _ _ _ _ (by omega) (by omega) hE X136 e136 N125 K135 O133 A130 F126 F127 F128 F129 V131 V132 Vq125 (by (try simp only [List.length_set, own_blkl]); omega)
 have turnB : ∀ (sl : Nat) (T : State) (hp : Heap) (lc : List Loc) (vw : List Value)  (hsl : sl = 48) (hi : xs.length = 48) (hj : own_D xs.length = 64) (hE : own_en xs vd xs.length = own_blk xs 16 0 0 vw) (X : Stand p l e rM1_0_0_22 s m #[(.ref o0), (.ref o1), (.int 0), (.int (ofNat xs.length)), (.ref o4)] below meth c T lc 0 0) (eT : T.heap = hp) (Nl : Fr n0 lc) (Kl : Keep h0 hp [o4]) (Ol : Old Z n0 hp) (El : Exa Z hp o0 "java/util/Base64$Encoder") (F0 : Fld Z hp o0 "java/util/Base64$Encoder" "isURL" "Z" (.int 0)) (F1 : Fld Z hp o0 "java/util/Base64$Encoder" "newline" "[B" (.ref nl)) (F2 : Fld Z hp o0 "java/util/Base64$Encoder" "linemax" "I" (.int 64)) (F3 : Fld Z hp o0 "java/util/Base64$Encoder" "doPadding" "Z" (.int 1)) (Vn : Arv Z hp nl kn .byte (1 : Int32) [(.int 10)] (.int 0)) (Vs : Arv Z hp o1 k .byte (ofNat xs.length) (own_xs xs) (.int 0)) (Vd : Arv Z hp o4 k2 .byte (ofNat (own_D xs.length)) vw (.int 0)) (hvw : vw.length = own_D xs.length) , own_Run p e below s (rm16_Q Z o0 o1 o4 xs tb kt nl kn k k2 vd h0 n0) 0 0 T (mkF m 69 #[oR o0, oR o1, oI 0, oI (ofNat xs.length), oR o4, oR tb, oI 0, oI 48, oI (ofNat sl), oI 0, .unset, .unset, .unset, .unset, .unset, .unset] []) := by
  intro sl T hp lc vw  hsl hi hj hE X eT Nl Kl Ol El F0 F1 F2 F3 Vn Vs Vd hvw 
  refine oP T (mkF m 83 #[oR o0, oR o1, oI 0, oI (ofNat xs.length), oR o4, oR tb, oI 0, oI 48, oI (ofNat sl), oI 0, .unset, .unset, .unset, .unset, .unset, .unset] [(.int (ofNat sl)), (.int 48)]) (fun t k => ?_) ?_
  ·skip
   refine XS.iload X.here hx rfl (d15 hby 41) rfl ?_
   refine XS.iload X.here hx rfl (d15 hby 42) rfl ?_
   refine XS.icmpNo X.here hx rfl (d15 hby 43) rfl (tlt ((own_lt (a := 0) (by omega) (by omega)).mpr (by omega))).2.1 ?_
   refine XS.iload X.here hx rfl (d15 hby 44) rfl ?_
   refine XS.iload X.here hx rfl (d15 hby 45) rfl ?_
   refine XS.iadd X.here hx rfl (d15 hby 46) rfl ?_
   refine XS.iload X.here hx rfl (d15 hby 47) rfl ?_
   exact k
  obtain ⟨_, _, ⟨T140, L140, k140, n140⟩, -, X140, ⟨Lc140, hQ140, l140, y140, z140⟩, st140⟩ := Jvm.LawKit.callS X hx (y := yM3) hown (mvT hZ (own_w hw 250)) (mvT hZ (own_w hw 190)) (mvT hZ (own_w hw 78)) (mvT hZ (own_w hw 191)) (by decide) (backOf (W := 0) (rm34 l Z a0 hw [] (48 : Int32) (ofNat sl)  hp n0 (Nat.le_trans Z0 Kl.1)) hZ (own_w hw 191) (own_w hw 78) (by decide) (by decide)) (g := (mkF m 83 #[oR o0, oR o1, oI 0, oI (ofNat xs.length), oR o4, oR tb, oI 0, oI 48, oI (ofNat sl), oI 0, .unset, .unset, .unset, .unset, .unset, .unset] [(.int (ofNat sl)), (.int 48)])) rfl (by rw [hml]; rfl) (argsL := [(.int 48), (.int (ofNat sl))]) (rest := []) (lenOf pd_1 rfl) rfl (by show 2 * 0 + _ ≤ _; exact Nat.le_of_eq rfl) (d15 hby 48) (fun _ _ => ⟨rfl, eT, (by decide : 0 + 0 ≤ _), (by decide : 0 + 0 ≤ _)⟩)
  dsimp only [Pt.U, Pt.locs, Pt.cells, Pt.slots] at X140 l140 y140 z140 st140 hQ140
  subst l140 y140 z140
  obtain ⟨rfl, N140q, eq140⟩ := hQ140
  have N140 := Fr.app Nl N140q
  refine own_step st140 ?_
  rw [show ((own_min32 (48 : Int32) (ofNat sl)) : Int32) = (48 : Int32) from (own_minn (a := 48) (by omega) (by omega)).trans (by rw [Nat.min_eq_left (by omega)]; rfl)]
  refine oP T140 (mkF m 99 #[oR o0, oR o1, oI 0, oI (ofNat xs.length), oR o4, oR tb, oI 0, oI 48, oI (ofNat sl), oI 0, oI 48, .unset, .unset, .unset, .unset, .unset] [(.ref o0), (.int 0), (.ref o4), (.int 48), (.int 0), (.ref o1), (.ref o0)]) (fun t k => ?_) ?_
  ·skip
   refine XS.istore X140.here hx rfl (d15 hby 49) rfl (l' := #[oR o0, oR o1, oI 0, oI (ofNat xs.length), oR o4, oR tb, oI 0, oI 48, oI (ofNat sl), oI 0, oI 48, .unset, .unset, .unset, .unset, .unset]) rfl ?_
   refine XS.aloadN X140.here hx rfl (d15 hby 50) rfl rfl ?_
   refine XS.aloadN X140.here hx rfl (d15 hby 51) rfl rfl ?_
   refine XS.iload X140.here hx rfl (d15 hby 52) rfl ?_
   refine XS.iload X140.here hx rfl (d15 hby 53) rfl ?_
   refine XS.aload X140.here hx rfl (d15 hby 54) rfl rfl ?_
   refine XS.iload X140.here hx rfl (d15 hby 55) rfl ?_
   refine XS.aloadN X140.here hx rfl (d15 hby 56) rfl rfl ?_
   exact k
  obtain ⟨T141, X141, e141, st141⟩ := getF X140 hx hZ hown (host := "") (Or.inl (own_w hw 53)) Via.refl eq140 F0 (g := (mkF m 99 #[oR o0, oR o1, oI 0, oI (ofNat xs.length), oR o4, oR tb, oI 0, oI 48, oI (ofNat sl), oI 0, oI 48, .unset, .unset, .unset, .unset, .unset] [(.ref o0), (.int 0), (.ref o4), (.int 48), (.int 0), (.ref o1), (.ref o0)])) rfl rfl (d15 hby 57)
  refine own_step st141 ?_
  obtain ⟨cq142, qq142, qr142⟩ := El.cell
  obtain ⟨_, _, ⟨T142, L142, k142, n142⟩, -, X142, ⟨Lc142, hQ142, l142, y142, z142⟩, st142⟩ := X141.privateBack hx (y := yM25) hown (mvT hZ (own_w hw 251)) (mvT hZ (own_w hw 252)) (own_selP (mvT hZ (own_w hw 254)) (Cond.privateMethod_at (mvP hZ (own_w hw 253) (args := #[]))) (mvT hZ (own_w hw 252)) (by decide)) (Cond.privateMethod_at (mvP hZ (own_w hw 253) (args := #[]))) (mvT hZ (own_w hw 255)) (by decide) (backOf (W := 0) (rm49 l Z a0 hw [] o0 o1 o4 0 16 0 tb kt k xs k2 (own_D xs.length) vw hp n0 (Nat.le_trans Z0 Kl.1) Ol S_tb V_tb Vs Vd g_o4 ne_o1 (by omega) (by omega) (by omega) (by (try simp only [List.length_set, own_blkl]); omega) (by omega)) hZ (own_w hw 255) (own_w hw 47) (by decide) (by decide)) (g := (mkF m 102 #[oR o0, oR o1, oI 0, oI (ofNat xs.length), oR o4, oR tb, oI 0, oI 48, oI (ofNat sl), oI 0, oI 48, .unset, .unset, .unset, .unset, .unset] [(.int 0), (.int 0), (.ref o4), (.int 48), (.int 0), (.ref o1), (.ref o0)])) rfl (by rw [hml]; rfl) (Steps.refl _) (a := o0) (by rw [e141]; exact qq142) qr142 (argsL := [(.ref o1), (.int 0), (.int 48), (.ref o4), (.int 0), (.int 0)]) (rest := []) (lenOf pd_19 rfl) rfl (by show 2 * 0 + _ ≤ _; exact Nat.le_of_eq rfl) (d15 hby 58) (fun _ _ => ⟨rfl, e141, (by decide : 0 + 0 ≤ _), (by decide : 0 + 0 ≤ _)⟩)
  dsimp only [Pt.U, Pt.locs, Pt.cells, Pt.slots] at X142 l142 y142 z142 st142 hQ142
  subst l142 y142 z142
  obtain ⟨rfl, N142q, Kq142, Vq142⟩ := hQ142
  have N142 := Fr.app N140 N142q
  refine own_step (fun t k => st142.trans k) ?_
  have F143 := F0.keep Kq142 (ninS ne_o0 nin0)
  have F144 := F1.keep Kq142 (ninS ne_o0 nin0)
  have F145 := F2.keep Kq142 (ninS ne_o0 nin0)
  have F146 := F3.keep Kq142 (ninS ne_o0 nin0)
  have A147 := El.keep Kq142
  have V148 := Vn.keep Kq142 (ninS ne_nl nin0)
  have V149 := Vs.keep Kq142 (ninS ne_o1 nin0)
  have O150 := Ol.keep Kq142 (allS g_o4 all0)
  have K152 := Kl.trans Kq142 (allS (Or.inl (List.mem_of_getElem? (i := 0) rfl)) all0)
  refine oP T142 (mkF m 130 #[oR o0, oR o1, oI 0, oI (ofNat xs.length), oR o4, oR tb, oI 48, oI 48, oI (ofNat sl), oI 64, oI 48, oI 64, .unset, .unset, .unset, .unset] [(.ref o0), (.int 64)]) (fun t k => ?_) ?_
  ·skip
   refine XS.iload X142.here hx rfl (d15 hby 59) rfl ?_
   refine XS.iload X142.here hx rfl (d15 hby 60) rfl ?_
   refine XS.isub X142.here hx rfl (d15 hby 61) rfl ?_
   refine XS.iconst X142.here hx rfl (d15 hby 62) ?_
   refine XS.idiv X142.here hx rfl (d15 hby 63) rfl (by decide) ?_
   refine XS.iconst X142.here hx rfl (d15 hby 64) ?_
   refine XS.imul X142.here hx rfl (d15 hby 65) rfl ?_
   refine XS.istore X142.here hx rfl (d15 hby 66) rfl (l' := #[oR o0, oR o1, oI 0, oI (ofNat xs.length), oR o4, oR tb, oI 0, oI 48, oI (ofNat sl), oI 0, oI 48, oI 64, .unset, .unset, .unset, .unset]) rfl ?_
   refine XS.iload X142.here hx rfl (d15 hby 67) rfl ?_
   refine XS.iload X142.here hx rfl (d15 hby 68) rfl ?_
   refine XS.iadd X142.here hx rfl (d15 hby 69) rfl ?_
   refine XS.istore X142.here hx rfl (d15 hby 70) rfl (l' := #[oR o0, oR o1, oI 0, oI (ofNat xs.length), oR o4, oR tb, oI 0, oI 48, oI (ofNat sl), oI 64, oI 48, oI 64, .unset, .unset, .unset, .unset]) rfl ?_
   refine XS.iload X142.here hx rfl (d15 hby 71) rfl ?_
   refine XS.istore X142.here hx rfl (d15 hby 72) rfl (l' := #[oR o0, oR o1, oI 0, oI (ofNat xs.length), oR o4, oR tb, oI 48, oI 48, oI (ofNat sl), oI 64, oI 48, oI 64, .unset, .unset, .unset, .unset]) rfl ?_
   refine XS.iload X142.here hx rfl (d15 hby 73) rfl ?_
   refine XS.aloadN X142.here hx rfl (d15 hby 74) rfl rfl ?_
   exact k
  obtain ⟨T153, X153, e153, st153⟩ := getF X142 hx hZ hown (host := "") (Or.inl (own_w hw 57)) Via.refl rfl F145 (g := (mkF m 130 #[oR o0, oR o1, oI 0, oI (ofNat xs.length), oR o4, oR tb, oI 48, oI 48, oI (ofNat sl), oI 64, oI 48, oI 64, .unset, .unset, .unset, .unset] [(.ref o0), (.int 64)])) rfl rfl (d15 hby 75)
  refine own_step st153 ?_
  refine oP T153 (mkF m 189 #[oR o0, oR o1, oI 0, oI (ofNat xs.length), oR o4, oR tb, oI 48, oI 48, oI (ofNat sl), oI 64, oI 48, oI 64, .unset, .unset, .unset, .unset] []) (fun t k => ?_) ?_
  ·skip
   refine XS.icmpNo X153.here hx rfl (d15 hby 76) rfl (teq rfl).2 ?_
   refine XS.iload X153.here hx rfl (d15 hby 77) rfl ?_
   refine XS.iloadN X153.here hx rfl (d15 hby 78) rfl ?_
   refine XS.icmpYes X153.here hx rfl (pc0 := 139) (pc' := 186) rfl (d15 hby 79) rfl (flt (fun q => absurd ((own_lt (a := 48) (by omega) (by omega)).mp q) (by omega))).2.1 (by decide) (by decide) ?_
   refine XS.goto X153.here hx rfl (pc0 := 186) (pc' := 69) rfl (d15 hby 102) (by decide) (by decide) ?_
   refine XS.iload X153.here hx rfl (d15 hby 41) rfl ?_
   refine XS.iload X153.here hx rfl (d15 hby 42) rfl ?_
   refine XS.icmpYes X153.here hx rfl (pc0 := 73) (pc' := 189) rfl (d15 hby 43) rfl (flt (fun q => absurd ((own_lt (a := 48) (b := sl) (by omega) (by omega)).mp q) (by omega))).2.1 (by decide) (by decide) ?_
   exact k
  exact tail0 48 64 _ _ _ _ _ _ _ _ _ _ _ _ (by omega) hj hE X153 e153 N142 K152 O150 A147 F143 F144 F145 F146 V148 V149 Vq142 (by (try simp only [List.length_set, own_blkl]); omega)
 have turnC : ∀ (sl : Nat) (T : State) (hp : Heap) (lc : List Loc) (vw : List Value)  (hs1 : 48 ≤ sl) (hs2 : sl ≤ 51) (hk : (xs.length = 49 ∧ sl = 48) ∨ (xs.length = 50 ∧ sl = 48) ∨ (xs.length = 51 ∧ sl = 51)) (hj : own_D xs.length = 69) (hE1 : xs.length = 49 → own_en xs vd xs.length = own_t1 xs 48 65 ((own_blk xs 16 0 0 vw).set 64 (.int 10))) (hE2 : xs.length = 50 → own_en xs vd xs.length = own_t2 xs 48 65 ((own_blk xs 16 0 0 vw).set 64 (.int 10))) (hE3 : xs.length = 51 → own_en xs vd xs.length = own_blk xs 1 48 65 ((own_blk xs 16 0 0 vw).set 64 (.int 10))) (X : Stand p l e rM1_0_0_22 s m #[(.ref o0), (.ref o1), (.int 0), (.int (ofNat xs.length)), (.ref o4)] below meth c T lc 0 0) (eT : T.heap = hp) (Nl : Fr n0 lc) (Kl : Keep h0 hp [o4]) (Ol : Old Z n0 hp) (El : Exa Z hp o0 "java/util/Base64$Encoder") (F0 : Fld Z hp o0 "java/util/Base64$Encoder" "isURL" "Z" (.int 0)) (F1 : Fld Z hp o0 "java/util/Base64$Encoder" "newline" "[B" (.ref nl)) (F2 : Fld Z hp o0 "java/util/Base64$Encoder" "linemax" "I" (.int 64)) (F3 : Fld Z hp o0 "java/util/Base64$Encoder" "doPadding" "Z" (.int 1)) (Vn : Arv Z hp nl kn .byte (1 : Int32) [(.int 10)] (.int 0)) (Vs : Arv Z hp o1 k .byte (ofNat xs.length) (own_xs xs) (.int 0)) (Vd : Arv Z hp o4 k2 .byte (ofNat (own_D xs.length)) vw (.int 0)) (hvw : vw.length = own_D xs.length) , own_Run p e below s (rm16_Q Z o0 o1 o4 xs tb kt nl kn k k2 vd h0 n0) 0 0 T (mkF m 69 #[oR o0, oR o1, oI 0, oI (ofNat xs.length), oR o4, oR tb, oI 0, oI 48, oI (ofNat sl), oI 0, .unset, .unset, .unset, .unset, .unset, .unset] []) := by
  intro sl T hp lc vw  hs1 hs2 hk hj hE1 hE2 hE3 X eT Nl Kl Ol El F0 F1 F2 F3 Vn Vs Vd hvw 
  refine oP T (mkF m 83 #[oR o0, oR o1, oI 0, oI (ofNat xs.length), oR o4, oR tb, oI 0, oI 48, oI (ofNat sl), oI 0, .unset, .unset, .unset, .unset, .unset, .unset] [(.int (ofNat sl)), (.int 48)]) (fun t k => ?_) ?_
  ·skip
   refine XS.iload X.here hx rfl (d15 hby 41) rfl ?_
   refine XS.iload X.here hx rfl (d15 hby 42) rfl ?_
   refine XS.icmpNo X.here hx rfl (d15 hby 43) rfl (tlt ((own_lt (a := 0) (by omega) (by omega)).mpr (by omega))).2.1 ?_
   refine XS.iload X.here hx rfl (d15 hby 44) rfl ?_
   refine XS.iload X.here hx rfl (d15 hby 45) rfl ?_
   refine XS.iadd X.here hx rfl (d15 hby 46) rfl ?_
   refine XS.iload X.here hx rfl (d15 hby 47) rfl ?_
   exact k
  obtain ⟨_, _, ⟨T158, L158, k158, n158⟩, -, X158, ⟨Lc158, hQ158, l158, y158, z158⟩, st158⟩ := Jvm.LawKit.callS X hx (y := yM3) hown (mvT hZ (own_w hw 250)) (mvT hZ (own_w hw 190)) (mvT hZ (own_w hw 78)) (mvT hZ (own_w hw 191)) (by decide) (backOf (W := 0) (rm34 l Z a0 hw [] (48 : Int32) (ofNat sl)  hp n0 (Nat.le_trans Z0 Kl.1)) hZ (own_w hw 191) (own_w hw 78) (by decide) (by decide)) (g := (mkF m 83 #[oR o0, oR o1, oI 0, oI (ofNat xs.length), oR o4, oR tb, oI 0, oI 48, oI (ofNat sl), oI 0, .unset, .unset, .unset, .unset, .unset, .unset] [(.int (ofNat sl)), (.int 48)])) rfl (by rw [hml]; rfl) (argsL := [(.int 48), (.int (ofNat sl))]) (rest := []) (lenOf pd_1 rfl) rfl (by show 2 * 0 + _ ≤ _; exact Nat.le_of_eq rfl) (d15 hby 48) (fun _ _ => ⟨rfl, eT, (by decide : 0 + 0 ≤ _), (by decide : 0 + 0 ≤ _)⟩)
  dsimp only [Pt.U, Pt.locs, Pt.cells, Pt.slots] at X158 l158 y158 z158 st158 hQ158
  subst l158 y158 z158
  obtain ⟨rfl, N158q, eq158⟩ := hQ158
  have N158 := Fr.app Nl N158q
  refine own_step st158 ?_
  rw [show ((own_min32 (48 : Int32) (ofNat sl)) : Int32) = (48 : Int32) from (own_minn (a := 48) (by omega) (by omega)).trans (by rw [Nat.min_eq_left (by omega)]; rfl)]
  refine oP T158 (mkF m 99 #[oR o0, oR o1, oI 0, oI (ofNat xs.length), oR o4, oR tb, oI 0, oI 48, oI (ofNat sl), oI 0, oI 48, .unset, .unset, .unset, .unset, .unset] [(.ref o0), (.int 0), (.ref o4), (.int 48), (.int 0), (.ref o1), (.ref o0)]) (fun t k => ?_) ?_
  ·skip
   refine XS.istore X158.here hx rfl (d15 hby 49) rfl (l' := #[oR o0, oR o1, oI 0, oI (ofNat xs.length), oR o4, oR tb, oI 0, oI 48, oI (ofNat sl), oI 0, oI 48, .unset, .unset, .unset, .unset, .unset]) rfl ?_
   refine XS.aloadN X158.here hx rfl (d15 hby 50) rfl rfl ?_
   refine XS.aloadN X158.here hx rfl (d15 hby 51) rfl rfl ?_
   refine XS.iload X158.here hx rfl (d15 hby 52) rfl ?_
   refine XS.iload X158.here hx rfl (d15 hby 53) rfl ?_
   refine XS.aload X158.here hx rfl (d15 hby 54) rfl rfl ?_
   refine XS.iload X158.here hx rfl (d15 hby 55) rfl ?_
   refine XS.aloadN X158.here hx rfl (d15 hby 56) rfl rfl ?_
   exact k
  obtain ⟨T159, X159, e159, st159⟩ := getF X158 hx hZ hown (host := "") (Or.inl (own_w hw 53)) Via.refl eq158 F0 (g := (mkF m 99 #[oR o0, oR o1, oI 0, oI (ofNat xs.length), oR o4, oR tb, oI 0, oI 48, oI (ofNat sl), oI 0, oI 48, .unset, .unset, .unset, .unset, .unset] [(.ref o0), (.int 0), (.ref o4), (.int 48), (.int 0), (.ref o1), (.ref o0)])) rfl rfl (d15 hby 57)
  refine own_step st159 ?_
  obtain ⟨cq160, qq160, qr160⟩ := El.cell
  obtain ⟨_, _, ⟨T160, L160, k160, n160⟩, -, X160, ⟨Lc160, hQ160, l160, y160, z160⟩, st160⟩ := X159.privateBack hx (y := yM25) hown (mvT hZ (own_w hw 251)) (mvT hZ (own_w hw 252)) (own_selP (mvT hZ (own_w hw 254)) (Cond.privateMethod_at (mvP hZ (own_w hw 253) (args := #[]))) (mvT hZ (own_w hw 252)) (by decide)) (Cond.privateMethod_at (mvP hZ (own_w hw 253) (args := #[]))) (mvT hZ (own_w hw 255)) (by decide) (backOf (W := 0) (rm49 l Z a0 hw [] o0 o1 o4 0 16 0 tb kt k xs k2 (own_D xs.length) vw hp n0 (Nat.le_trans Z0 Kl.1) Ol S_tb V_tb Vs Vd g_o4 ne_o1 (by omega) (by omega) (by omega) (by (try simp only [List.length_set, own_blkl]); omega) (by omega)) hZ (own_w hw 255) (own_w hw 47) (by decide) (by decide)) (g := (mkF m 102 #[oR o0, oR o1, oI 0, oI (ofNat xs.length), oR o4, oR tb, oI 0, oI 48, oI (ofNat sl), oI 0, oI 48, .unset, .unset, .unset, .unset, .unset] [(.int 0), (.int 0), (.ref o4), (.int 48), (.int 0), (.ref o1), (.ref o0)])) rfl (by rw [hml]; rfl) (Steps.refl _) (a := o0) (by rw [e159]; exact qq160) qr160 (argsL := [(.ref o1), (.int 0), (.int 48), (.ref o4), (.int 0), (.int 0)]) (rest := []) (lenOf pd_19 rfl) rfl (by show 2 * 0 + _ ≤ _; exact Nat.le_of_eq rfl) (d15 hby 58) (fun _ _ => ⟨rfl, e159, (by decide : 0 + 0 ≤ _), (by decide : 0 + 0 ≤ _)⟩)
  dsimp only [Pt.U, Pt.locs, Pt.cells, Pt.slots] at X160 l160 y160 z160 st160 hQ160
  subst l160 y160 z160
  obtain ⟨rfl, N160q, Kq160, Vq160⟩ := hQ160
  have N160 := Fr.app N158 N160q
  refine own_step (fun t k => st160.trans k) ?_
  have F161 := F0.keep Kq160 (ninS ne_o0 nin0)
  have F162 := F1.keep Kq160 (ninS ne_o0 nin0)
  have F163 := F2.keep Kq160 (ninS ne_o0 nin0)
  have F164 := F3.keep Kq160 (ninS ne_o0 nin0)
  have A165 := El.keep Kq160
  have V166 := Vn.keep Kq160 (ninS ne_nl nin0)
  have V167 := Vs.keep Kq160 (ninS ne_o1 nin0)
  have O168 := Ol.keep Kq160 (allS g_o4 all0)
  have K170 := Kl.trans Kq160 (allS (Or.inl (List.mem_of_getElem? (i := 0) rfl)) all0)
  refine oP T160 (mkF m 130 #[oR o0, oR o1, oI 0, oI (ofNat xs.length), oR o4, oR tb, oI 48, oI 48, oI (ofNat sl), oI 64, oI 48, oI 64, .unset, .unset, .unset, .unset] [(.ref o0), (.int 64)]) (fun t k => ?_) ?_
  ·skip
   refine XS.iload X160.here hx rfl (d15 hby 59) rfl ?_
   refine XS.iload X160.here hx rfl (d15 hby 60) rfl ?_
   refine XS.isub X160.here hx rfl (d15 hby 61) rfl ?_
   refine XS.iconst X160.here hx rfl (d15 hby 62) ?_
   refine XS.idiv X160.here hx rfl (d15 hby 63) rfl (by decide) ?_
   refine XS.iconst X160.here hx rfl (d15 hby 64) ?_
   refine XS.imul X160.here hx rfl (d15 hby 65) rfl ?_
   refine XS.istore X160.here hx rfl (d15 hby 66) rfl (l' := #[oR o0, oR o1, oI 0, oI (ofNat xs.length), oR o4, oR tb, oI 0, oI 48, oI (ofNat sl), oI 0, oI 48, oI 64, .unset, .unset, .unset, .unset]) rfl ?_
   refine XS.iload X160.here hx rfl (d15 hby 67) rfl ?_
   refine XS.iload X160.here hx rfl (d15 hby 68) rfl ?_
   refine XS.iadd X160.here hx rfl (d15 hby 69) rfl ?_
   refine XS.istore X160.here hx rfl (d15 hby 70) rfl (l' := #[oR o0, oR o1, oI 0, oI (ofNat xs.length), oR o4, oR tb, oI 0, oI 48, oI (ofNat sl), oI 64, oI 48, oI 64, .unset, .unset, .unset, .unset]) rfl ?_
   refine XS.iload X160.here hx rfl (d15 hby 71) rfl ?_
   refine XS.istore X160.here hx rfl (d15 hby 72) rfl (l' := #[oR o0, oR o1, oI 0, oI (ofNat xs.length), oR o4, oR tb, oI 48, oI 48, oI (ofNat sl), oI 64, oI 48, oI 64, .unset, .unset, .unset, .unset]) rfl ?_
   refine XS.iload X160.here hx rfl (d15 hby 73) rfl ?_
   refine XS.aloadN X160.here hx rfl (d15 hby 74) rfl rfl ?_
   exact k
  obtain ⟨T171, X171, e171, st171⟩ := getF X160 hx hZ hown (host := "") (Or.inl (own_w hw 57)) Via.refl rfl F163 (g := (mkF m 130 #[oR o0, oR o1, oI 0, oI (ofNat xs.length), oR o4, oR tb, oI 48, oI 48, oI (ofNat sl), oI 64, oI 48, oI 64, .unset, .unset, .unset, .unset] [(.ref o0), (.int 64)])) rfl rfl (d15 hby 75)
  refine own_step st171 ?_
  refine oP T171 (mkF m 143 #[oR o0, oR o1, oI 0, oI (ofNat xs.length), oR o4, oR tb, oI 48, oI 48, oI (ofNat sl), oI 64, oI 48, oI 64, .unset, .unset, .unset, .unset] [(.ref o0)]) (fun t k => ?_) ?_
  ·skip
   refine XS.icmpNo X171.here hx rfl (d15 hby 76) rfl (teq rfl).2 ?_
   refine XS.iload X171.here hx rfl (d15 hby 77) rfl ?_
   refine XS.iloadN X171.here hx rfl (d15 hby 78) rfl ?_
   refine XS.icmpNo X171.here hx rfl (d15 hby 79) rfl (tlt ((own_lt (a := 48) (by omega) (by omega)).mpr (by omega))).2.1 ?_
   refine XS.aloadN X171.here hx rfl (d15 hby 80) rfl rfl ?_
   exact k
  obtain ⟨T174, X174, e174, st174⟩ := getF X171 hx hZ hown (host := "") (Or.inl (own_w hw 55)) Via.refl e171 F162 (g := (mkF m 143 #[oR o0, oR o1, oI 0, oI (ofNat xs.length), oR o4, oR tb, oI 48, oI 48, oI (ofNat sl), oI 64, oI 48, oI 64, .unset, .unset, .unset, .unset] [(.ref o0)])) rfl rfl (d15 hby 81)
  refine own_step st174 ?_
  refine oP T174 (mkF m 150 #[oR o0, oR o1, oI 0, oI (ofNat xs.length), oR o4, oR tb, oI 48, oI 48, oI (ofNat sl), oI 64, oI 48, oI 64, oR nl, .unset, .unset, .unset] [(.ref nl)]) (fun t k => ?_) ?_
  ·skip
   refine XS.astore X174.here hx rfl (d15 hby 82) rfl rfl (l' := #[oR o0, oR o1, oI 0, oI (ofNat xs.length), oR o4, oR tb, oI 48, oI 48, oI (ofNat sl), oI 64, oI 48, oI 64, oR nl, .unset, .unset, .unset]) rfl ?_
   refine XS.aload X174.here hx rfl (d15 hby 83) rfl rfl ?_
   exact k
  obtain ⟨cl175, Arcl175, -, Scl175, Mcl175, -, -⟩ := id V166
  refine oP T174 (mkF m 167 #[oR o0, oR o1, oI 0, oI (ofNat xs.length), oR o4, oR tb, oI 48, oI 48, oI (ofNat sl), oI 64, oI 48, oI 64, oR nl, oI 1, oI 0, .unset] [(.int 0), (.ref nl)]) (fun t k => ?_) ?_
  ·skip
   refine X174.arraylength hx (by rw [e174]; exact Arcl175.1) (State.isArrayOf_alike hZ.alike Arcl175.2.1) (g := (mkF m 150 #[oR o0, oR o1, oI 0, oI (ofNat xs.length), oR o4, oR tb, oI 48, oI 48, oI (ofNat sl), oI 64, oI 48, oI 64, oR nl, .unset, .unset, .unset] [(.ref nl)])) rfl rfl (d15 hby 84) _ ?_
   rw [len_of Scl175 Mcl175]
   show Steps p.tables e below (T174.setTop (mkF m 151 #[oR o0, oR o1, oI 0, oI (ofNat xs.length), oR o4, oR tb, oI 48, oI 48, oI (ofNat sl), oI 64, oI 48, oI 64, oR nl, .unset, .unset, .unset] [(.int 1)])) _
   refine XS.istore X174.here hx rfl (d15 hby 85) rfl (l' := #[oR o0, oR o1, oI 0, oI (ofNat xs.length), oR o4, oR tb, oI 48, oI 48, oI (ofNat sl), oI 64, oI 48, oI 64, oR nl, oI 1, .unset, .unset]) rfl ?_
   refine XS.iconst X174.here hx rfl (d15 hby 86) ?_
   refine XS.istore X174.here hx rfl (d15 hby 87) rfl (l' := #[oR o0, oR o1, oI 0, oI (ofNat xs.length), oR o4, oR tb, oI 48, oI 48, oI (ofNat sl), oI 64, oI 48, oI 64, oR nl, oI 1, oI 0, .unset]) rfl ?_
   refine XS.iload X174.here hx rfl (d15 hby 88) rfl ?_
   refine XS.iload X174.here hx rfl (d15 hby 89) rfl ?_
   refine XS.icmpNo X174.here hx rfl (d15 hby 90) rfl (tlt (by decide)).2.1 ?_
   refine XS.aload X174.here hx rfl (d15 hby 91) rfl rfl ?_
   refine XS.iload X174.here hx rfl (d15 hby 92) rfl ?_
   exact k
  obtain ⟨cl177, Arcl177, qcl177, Scl177, Mcl177, Hcl177, Gcl177⟩ := id V166
  have hincl177 : ¬ ((0 : Int32) < 0 ∨ cl177.slots.size ≤ ((0 : Int32)).toNatClampNeg) := inb_of Scl177 ⟨by decide, by decide⟩
  have hatcl177 : cl177.slots[((0 : Int32)).toNatClampNeg]? = some (.int 10) := Hcl177.at hincl177 rfl
  refine oP T174 (mkF m 179 #[oR o0, oR o1, oI 0, oI (ofNat xs.length), oR o4, oR tb, oI 48, oI 48, oI (ofNat sl), oI 65, oI 48, oI 64, oR nl, oI 1, oI 0, oI 10] [(.int 10), (.int 64), (.ref o4)]) (fun t k => ?_) ?_
  ·skip
   refine X174.baloadBytes hx (j := (0 : Int32)) (v := (.int 10)) (by rw [e174]; exact Arcl177.1) (State.isArrayOf_alike hZ.alike Arcl177.2.1) Arcl177.2.2 hincl177 hatcl177 (g := (mkF m 167 #[oR o0, oR o1, oI 0, oI (ofNat xs.length), oR o4, oR tb, oI 48, oI 48, oI (ofNat sl), oI 64, oI 48, oI 64, oR nl, oI 1, oI 0, .unset] [(.int 0), (.ref nl)])) rfl rfl (d15 hby 93) _ ?_
   refine XS.istore X174.here hx rfl (d15 hby 94) rfl (l' := #[oR o0, oR o1, oI 0, oI (ofNat xs.length), oR o4, oR tb, oI 48, oI 48, oI (ofNat sl), oI 64, oI 48, oI 64, oR nl, oI 1, oI 0, oI 10]) rfl ?_
   refine XS.aload X174.here hx rfl (d15 hby 95) rfl rfl ?_
   refine XS.iload X174.here hx rfl (d15 hby 96) rfl ?_
   refine XS.iinc X174.here hx rfl (d15 hby 97) rfl (l' := #[oR o0, oR o1, oI 0, oI (ofNat xs.length), oR o4, oR tb, oI 48, oI 48, oI (ofNat sl), oI 65, oI 48, oI 64, oR nl, oI 1, oI 0, oI 10]) rfl ?_
   refine XS.iload X174.here hx rfl (d15 hby 98) rfl ?_
   exact k
  obtain ⟨cl178, Arcl178, qcl178, Scl178, Mcl178, Hcl178, Gcl178⟩ := Vq160
  have hincl178 : ¬ ((64 : Int32) < 0 ∨ cl178.slots.size ≤ ((64 : Int32)).toNatClampNeg) := inb_of Scl178 (own_tin (j := 64) (by omega) (by omega))
  obtain ⟨T179, h179, X179, e179, W179, st179⟩ := stB X174 hx hZ e174 Arcl178 (j := (64 : Int32)) hincl178 (g := (mkF m 179 #[oR o0, oR o1, oI 0, oI (ofNat xs.length), oR o4, oR tb, oI 48, oI 48, oI (ofNat sl), oI 65, oI 48, oI 64, oR nl, oI 1, oI 0, oI 10] [(.int 10), (.int 64), (.ref o4)])) rfl rfl (d15 hby 99)
  have V180 := Arv.set Arcl178 qcl178 Scl178 Mcl178 Hcl178 Gcl178 (fits_nar_byte _) W179 64 rfl (by (try simp only [List.length_set, own_blkl]); omega)
  have F181 := F161.other W179 (Or.inl ne_o0)
  have F182 := F162.other W179 (Or.inl ne_o0)
  have F183 := F163.other W179 (Or.inl ne_o0)
  have F184 := F164.other W179 (Or.inl ne_o0)
  have A185 := A165.wr W179
  have V186 := V166.other W179 ne_nl
  have V187 := V167.other W179 ne_o1
  have O188 := O168.wr W179 g_o4
  have K179 := K170.wr W179 (Or.inl (List.mem_of_getElem? (i := 0) rfl))
  have N179 := Fr.snoc X179 N160 g_o4
  refine own_step st179 ?_
  have V190 : Arv Z h179 o4 k2 .byte (ofNat (own_D xs.length)) (((own_blk xs 16 0 0 vw)).set 64 (.int 10)) (.int 0) := by have q := V180; rw [show (10 : Int32).toInt8.toInt32 = (10 : Int32) from by decide] at q; exact q
  refine oP T179 (mkF m 69 #[oR o0, oR o1, oI 0, oI (ofNat xs.length), oR o4, oR tb, oI 48, oI 48, oI (ofNat sl), oI 65, oI 48, oI 64, oR nl, oI 1, oI 1, oI 10] []) (fun t k => ?_) ?_
  ·skip
   refine XS.iinc X179.here hx rfl (d15 hby 100) rfl (l' := #[oR o0, oR o1, oI 0, oI (ofNat xs.length), oR o4, oR tb, oI 48, oI 48, oI (ofNat sl), oI 65, oI 48, oI 64, oR nl, oI 1, oI 1, oI 10]) rfl ?_
   refine XS.goto X179.here hx rfl (pc0 := 183) (pc' := 156) rfl (d15 hby 101) (by decide) (by decide) ?_
   refine XS.iload X179.here hx rfl (d15 hby 88) rfl ?_
   refine XS.iload X179.here hx rfl (d15 hby 89) rfl ?_
   refine XS.icmpYes X179.here hx rfl (pc0 := 160) (pc' := 186) rfl (d15 hby 90) rfl (flt (by decide)).2.1 (by decide) (by decide) ?_
   refine XS.goto X179.here hx rfl (pc0 := 186) (pc' := 69) rfl (d15 hby 102) (by decide) (by decide) ?_
   exact k
  rcases hk with ⟨hk, hsl⟩ | ⟨hk, hsl⟩ | ⟨hk, hsl⟩
  ·subst hsl
   show own_Run p e below s _ _ _ T179 (mkF m 69 #[oR o0, oR o1, oI 0, oI (ofNat xs.length), oR o4, oR tb, oI 48, oI 48, oI 48, oI 65, oI 48, oI 64, oR nl, oI 1, oI 1, oI 10] [])
   refine oP T179 (mkF m 189 #[oR o0, oR o1, oI 0, oI (ofNat xs.length), oR o4, oR tb, oI 48, oI 48, oI 48, oI 65, oI 48, oI 64, oR nl, oI 1, oI 1, oI 10] []) (fun t k => ?_) ?_
   ·skip
    refine XS.iload X179.here hx rfl (d15 hby 41) rfl ?_
    refine XS.iload X179.here hx rfl (d15 hby 42) rfl ?_
    refine XS.icmpYes X179.here hx rfl (pc0 := 73) (pc' := 189) rfl (d15 hby 43) rfl (flt (by decide)).2.1 (by decide) (by decide) ?_
    exact k
   exact tail1 48 65 _ _ _ _ _ _ _ _ _ _ _ _ (by omega) (by omega) (hE1 hk) X179 e179 N179 K179 O188 A185 F181 F182 F183 F184 V186 V187 V190 (by (try simp only [List.length_set, own_blkl]); omega) (One.val rfl)
  ·subst hsl
   show own_Run p e below s _ _ _ T179 (mkF m 69 #[oR o0, oR o1, oI 0, oI (ofNat xs.length), oR o4, oR tb, oI 48, oI 48, oI 48, oI 65, oI 48, oI 64, oR nl, oI 1, oI 1, oI 10] [])
   refine oP T179 (mkF m 189 #[oR o0, oR o1, oI 0, oI (ofNat xs.length), oR o4, oR tb, oI 48, oI 48, oI 48, oI 65, oI 48, oI 64, oR nl, oI 1, oI 1, oI 10] []) (fun t k => ?_) ?_
   ·skip
    refine XS.iload X179.here hx rfl (d15 hby 41) rfl ?_
    refine XS.iload X179.here hx rfl (d15 hby 42) rfl ?_
    refine XS.icmpYes X179.here hx rfl (pc0 := 73) (pc' := 189) rfl (d15 hby 43) rfl (flt (by decide)).2.1 (by decide) (by decide) ?_
    exact k
   exact tail2 48 65 _ _ _ _ _ _ _ _ _ _ _ _ (by omega) (by omega) (hE2 hk) X179 e179 N179 K179 O188 A185 F181 F182 F183 F184 V186 V187 V190 (by (try simp only [List.length_set, own_blkl]); omega) (One.val rfl) (One.val rfl)
  ·subst hsl
   exact turnA 48 65 48 _ _ _ _ _ _ _ _ _ _ (by omega) (by decide) (by decide) (by omega) (hE3 hk) X179 e179 N179 K179 O188 A185 F181 F182 F183 F184 V186 V187 V190 (by (try simp only [List.length_set, own_blkl]); omega) (One.val rfl) (One.val rfl)
 obtain ⟨sl, hsl0, hsl1⟩ := own_slen hL
 unfold own_ok at hL
 refine oP s₁ (mkF m 1 #[oR o0, oR o1, oI 0, oI (ofNat xs.length), oR o4, .unset, .unset, .unset, .unset, .unset, .unset, .unset, .unset, .unset, .unset, .unset] [(.ref o0)]) (fun t k => ?_) ?_
 ·skip
  refine XS.aloadN X0.here hx rfl (d15 hby 0) rfl rfl ?_
  exact k
 obtain ⟨T194, X194, e194, st194⟩ := getF X0 hx hZ hown (host := "") (Or.inl (own_w hw 53)) Via.refl e0 F_isURL_o0 (g := (mkF m 1 #[oR o0, oR o1, oI 0, oI (ofNat xs.length), oR o4, .unset, .unset, .unset, .unset, .unset, .unset, .unset, .unset, .unset, .unset, .unset] [(.ref o0)])) rfl rfl (d15 hby 1)
 refine own_step st194 ?_
 refine oP T194 (mkF m 13 #[oR o0, oR o1, oI 0, oI (ofNat xs.length), oR o4, .unset, .unset, .unset, .unset, .unset, .unset, .unset, .unset, .unset, .unset, .unset] []) (fun t k => ?_) ?_
 ·skip
  refine XS.ifYes X194.here hx rfl (pc0 := 4) (pc' := 13) rfl (d15 hby 2) rfl ((if0 _ _).trans (teq rfl).1) (by decide) (by decide) ?_
  exact k
 obtain ⟨T196, X196, e196, st196⟩ := getS2 X194 hx hZ hown (host := "") (Or.inl (own_w hw 88)) Via.refl e194 (S_tb.ext O0.2) (g := (mkF m 13 #[oR o0, oR o1, oI 0, oI (ofNat xs.length), oR o4, .unset, .unset, .unset, .unset, .unset, .unset, .unset, .unset, .unset, .unset, .unset] [])) rfl (d15 hby 5)
 refine own_step st196 ?_
 refine oP T196 (mkF m 28 #[oR o0, oR o1, oI 0, oI (ofNat xs.length), oR o4, oR tb, oI 0, .unset, .unset, .unset, .unset, .unset, .unset, .unset, .unset, .unset] [(.int ((((ofNat xs.length) - (0 : Int32)) / (3 : Int32)) * (3 : Int32)))]) (fun t k => ?_) ?_
 ·skip
  refine XS.astore X196.here hx rfl (d15 hby 6) rfl rfl (l' := #[oR o0, oR o1, oI 0, oI (ofNat xs.length), oR o4, oR tb, .unset, .unset, .unset, .unset, .unset, .unset, .unset, .unset, .unset, .unset]) rfl ?_
  refine XS.iloadN X196.here hx rfl (d15 hby 7) rfl ?_
  refine XS.istore X196.here hx rfl (d15 hby 8) rfl (l' := #[oR o0, oR o1, oI 0, oI (ofNat xs.length), oR o4, oR tb, oI 0, .unset, .unset, .unset, .unset, .unset, .unset, .unset, .unset, .unset]) rfl ?_
  refine XS.iloadN X196.here hx rfl (d15 hby 9) rfl ?_
  refine XS.iloadN X196.here hx rfl (d15 hby 10) rfl ?_
  refine XS.isub X196.here hx rfl (d15 hby 11) rfl ?_
  refine XS.iconst X196.here hx rfl (d15 hby 12) ?_
  refine XS.idiv X196.here hx rfl (d15 hby 13) rfl (by decide) ?_
  refine XS.iconst X196.here hx rfl (d15 hby 14) ?_
  refine XS.imul X196.here hx rfl (d15 hby 15) rfl ?_
  exact k
 rw [show (((((ofNat xs.length) - (0 : Int32)) / (3 : Int32)) * (3 : Int32)) : Int32) = (ofNat sl) from hsl0]
 refine oP T196 (mkF m 34 #[oR o0, oR o1, oI 0, oI (ofNat xs.length), oR o4, oR tb, oI 0, oI (ofNat sl), .unset, .unset, .unset, .unset, .unset, .unset, .unset, .unset] [(.int ((0 : Int32) + (ofNat sl)))]) (fun t k => ?_) ?_
 ·skip
  refine XS.istore X196.here hx rfl (d15 hby 16) rfl (l' := #[oR o0, oR o1, oI 0, oI (ofNat xs.length), oR o4, oR tb, oI 0, oI (ofNat sl), .unset, .unset, .unset, .unset, .unset, .unset, .unset, .unset]) rfl ?_
  refine XS.iloadN X196.here hx rfl (d15 hby 17) rfl ?_
  refine XS.iload X196.here hx rfl (d15 hby 18) rfl ?_
  refine XS.iadd X196.here hx rfl (d15 hby 19) rfl ?_
  exact k
 rw [show (((0 : Int32) + (ofNat sl)) : Int32) = (ofNat sl) from Int32.zero_add _]
 refine oP T196 (mkF m 37 #[oR o0, oR o1, oI 0, oI (ofNat xs.length), oR o4, oR tb, oI 0, oI (ofNat sl), oI (ofNat sl), .unset, .unset, .unset, .unset, .unset, .unset, .unset] [(.ref o0)]) (fun t k => ?_) ?_
 ·skip
  refine XS.istore X196.here hx rfl (d15 hby 20) rfl (l' := #[oR o0, oR o1, oI 0, oI (ofNat xs.length), oR o4, oR tb, oI 0, oI (ofNat sl), oI (ofNat sl), .unset, .unset, .unset, .unset, .unset, .unset, .unset]) rfl ?_
  refine XS.aloadN X196.here hx rfl (d15 hby 21) rfl rfl ?_
  exact k
 obtain ⟨T197, X197, e197, st197⟩ := getF X196 hx hZ hown (host := "") (Or.inl (own_w hw 57)) Via.refl e196 F_linemax_o0 (g := (mkF m 37 #[oR o0, oR o1, oI 0, oI (ofNat xs.length), oR o4, oR tb, oI 0, oI (ofNat sl), oI (ofNat sl), .unset, .unset, .unset, .unset, .unset, .unset, .unset] [(.ref o0)])) rfl rfl (d15 hby 22)
 refine own_step st197 ?_
 refine oP T197 (mkF m 46 #[oR o0, oR o1, oI 0, oI (ofNat xs.length), oR o4, oR tb, oI 0, oI (ofNat sl), oI (ofNat sl), .unset, .unset, .unset, .unset, .unset, .unset, .unset] [(.ref o0), (.int (ofNat sl))]) (fun t k => ?_) ?_
 ·skip
  refine XS.ifNo X197.here hx rfl (d15 hby 23) rfl ((if0 _ _).trans (tlt (by decide)).2.2.2) ?_
  refine XS.iload X197.here hx rfl (d15 hby 24) rfl ?_
  refine XS.aloadN X197.here hx rfl (d15 hby 25) rfl rfl ?_
  exact k
 obtain ⟨T199, X199, e199, st199⟩ := getF X197 hx hZ hown (host := "") (Or.inl (own_w hw 57)) Via.refl e197 F_linemax_o0 (g := (mkF m 46 #[oR o0, oR o1, oI 0, oI (ofNat xs.length), oR o4, oR tb, oI 0, oI (ofNat sl), oI (ofNat sl), .unset, .unset, .unset, .unset, .unset, .unset, .unset] [(.ref o0), (.int (ofNat sl))])) rfl rfl (d15 hby 26)
 refine own_step st199 ?_
 refine oP T199 (mkF m 53 #[oR o0, oR o1, oI 0, oI (ofNat xs.length), oR o4, oR tb, oI 0, oI (ofNat sl), oI (ofNat sl), .unset, .unset, .unset, .unset, .unset, .unset, .unset] [(.int 48), (.int (ofNat sl))]) (fun t k => ?_) ?_
 ·skip
  refine XS.iconst X199.here hx rfl (d15 hby 27) ?_
  refine XS.idiv X199.here hx rfl (d15 hby 28) rfl (by decide) ?_
  refine XS.iconst X199.here hx rfl (d15 hby 29) ?_
  refine XS.imul X199.here hx rfl (d15 hby 30) rfl ?_
  exact k
 by_cases hc200 : (48 : Int32) < (ofNat sl)
 ·skip
  refine oP T199 (mkF m 57 #[oR o0, oR o1, oI 0, oI (ofNat xs.length), oR o4, oR tb, oI 0, oI (ofNat sl), oI (ofNat sl), .unset, .unset, .unset, .unset, .unset, .unset, .unset] [(.ref o0)]) (fun t k => ?_) ?_
  ·skip
   refine XS.icmpNo X199.here hx rfl (d15 hby 31) rfl (tlt hc200).2.2.2 ?_
   refine XS.aloadN X199.here hx rfl (d15 hby 32) rfl rfl ?_
   exact k
  obtain ⟨T201, X201, e201, st201⟩ := getF X199 hx hZ hown (host := "") (Or.inl (own_w hw 57)) Via.refl e199 F_linemax_o0 (g := (mkF m 57 #[oR o0, oR o1, oI 0, oI (ofNat xs.length), oR o4, oR tb, oI 0, oI (ofNat sl), oI (ofNat sl), .unset, .unset, .unset, .unset, .unset, .unset, .unset] [(.ref o0)])) rfl rfl (d15 hby 33)
  refine own_step st201 ?_
  refine oP T201 (mkF m 69 #[oR o0, oR o1, oI 0, oI (ofNat xs.length), oR o4, oR tb, oI 0, oI 48, oI (ofNat sl), oI 0, .unset, .unset, .unset, .unset, .unset, .unset] []) (fun t k => ?_) ?_
  ·skip
   refine XS.iconst X201.here hx rfl (d15 hby 34) ?_
   refine XS.idiv X201.here hx rfl (d15 hby 35) rfl (by decide) ?_
   refine XS.iconst X201.here hx rfl (d15 hby 36) ?_
   refine XS.imul X201.here hx rfl (d15 hby 37) rfl ?_
   refine XS.istore X201.here hx rfl (d15 hby 38) rfl (l' := #[oR o0, oR o1, oI 0, oI (ofNat xs.length), oR o4, oR tb, oI 0, oI 48, oI (ofNat sl), .unset, .unset, .unset, .unset, .unset, .unset, .unset]) rfl ?_
   refine XS.iconst X201.here hx rfl (d15 hby 39) ?_
   refine XS.istore X201.here hx rfl (d15 hby 40) rfl (l' := #[oR o0, oR o1, oI 0, oI (ofNat xs.length), oR o4, oR tb, oI 0, oI 48, oI (ofNat sl), oI 0, .unset, .unset, .unset, .unset, .unset, .unset]) rfl ?_
   exact k
  have h51 : xs.length = 51 ∧ sl = 51 := by have := (own_lt (a := 48) (by decide) (by omega)).mp hc200; omega
  exact turnC sl _ _ _ _ (by omega) (by omega) (Or.inr (Or.inr h51)) (by rw [show xs.length = 51 from by omega]; rfl) (fun q => absurd q (by omega)) (fun q => absurd q (by omega)) (fun _ => (by rw [show xs.length = 51 from by omega]; rfl)) X201 e201 N0 K0 O0 E_o0 F_isURL_o0 F_newline_o0 F_linemax_o0 F_doPadding_o0 V_nl V_o1 V_o4 hvd
 ·skip
  refine oP T199 (mkF m 69 #[oR o0, oR o1, oI 0, oI (ofNat xs.length), oR o4, oR tb, oI 0, oI (ofNat sl), oI (ofNat sl), oI 0, .unset, .unset, .unset, .unset, .unset, .unset] []) (fun t k => ?_) ?_
  ·skip
   refine XS.icmpYes X199.here hx rfl (pc0 := 53) (pc' := 66) rfl (d15 hby 31) rfl (flt hc200).2.2.2 (by decide) (by decide) ?_
   refine XS.iconst X199.here hx rfl (d15 hby 39) ?_
   refine XS.istore X199.here hx rfl (d15 hby 40) rfl (l' := #[oR o0, oR o1, oI 0, oI (ofNat xs.length), oR o4, oR tb, oI 0, oI (ofNat sl), oI (ofNat sl), oI 0, .unset, .unset, .unset, .unset, .unset, .unset]) rfl ?_
   exact k
  rcases hL with hk | hk | hk | hk | hk | hk | hk | hk
  ·skip
   obtain rfl : sl = 0 := by omega
   show own_Run p e below s _ _ _ T199 (mkF m 69 #[oR o0, oR o1, oI 0, oI (ofNat xs.length), oR o4, oR tb, oI 0, oI 0, oI 0, oI 0, .unset, .unset, .unset, .unset, .unset, .unset] [])
   refine oP T199 (mkF m 189 #[oR o0, oR o1, oI 0, oI (ofNat xs.length), oR o4, oR tb, oI 0, oI 0, oI 0, oI 0, .unset, .unset, .unset, .unset, .unset, .unset] []) (fun t k => ?_) ?_
   ·skip
    refine XS.iload X199.here hx rfl (d15 hby 41) rfl ?_
    refine XS.iload X199.here hx rfl (d15 hby 42) rfl ?_
    refine XS.icmpYes X199.here hx rfl (pc0 := 73) (pc' := 189) rfl (d15 hby 43) rfl (flt (by decide)).2.1 (by decide) (by decide) ?_
    exact k
   exact tail0 0 0 _ _ _ _ _ _ _ _ _ _ _ _ (by omega) (by rw [show xs.length = 0 from by omega]; rfl) (by rw [show xs.length = 0 from by omega]; rfl) X199 e199 N0 K0 O0 E_o0 F_isURL_o0 F_newline_o0 F_linemax_o0 F_doPadding_o0 V_nl V_o1 V_o4 hvd
  ·skip
   obtain rfl : sl = 0 := by omega
   show own_Run p e below s _ _ _ T199 (mkF m 69 #[oR o0, oR o1, oI 0, oI (ofNat xs.length), oR o4, oR tb, oI 0, oI 0, oI 0, oI 0, .unset, .unset, .unset, .unset, .unset, .unset] [])
   refine oP T199 (mkF m 189 #[oR o0, oR o1, oI 0, oI (ofNat xs.length), oR o4, oR tb, oI 0, oI 0, oI 0, oI 0, .unset, .unset, .unset, .unset, .unset, .unset] []) (fun t k => ?_) ?_
   ·skip
    refine XS.iload X199.here hx rfl (d15 hby 41) rfl ?_
    refine XS.iload X199.here hx rfl (d15 hby 42) rfl ?_
    refine XS.icmpYes X199.here hx rfl (pc0 := 73) (pc' := 189) rfl (d15 hby 43) rfl (flt (by decide)).2.1 (by decide) (by decide) ?_
    exact k
   exact tail1 0 0 _ _ _ _ _ _ _ _ _ _ _ _ (by omega) (by rw [show xs.length = 1 from by omega]; rfl) (by rw [show xs.length = 1 from by omega]; rfl) X199 e199 N0 K0 O0 E_o0 F_isURL_o0 F_newline_o0 F_linemax_o0 F_doPadding_o0 V_nl V_o1 V_o4 hvd One.u
  ·skip
   obtain rfl : sl = 0 := by omega
   show own_Run p e below s _ _ _ T199 (mkF m 69 #[oR o0, oR o1, oI 0, oI (ofNat xs.length), oR o4, oR tb, oI 0, oI 0, oI 0, oI 0, .unset, .unset, .unset, .unset, .unset, .unset] [])
   refine oP T199 (mkF m 189 #[oR o0, oR o1, oI 0, oI (ofNat xs.length), oR o4, oR tb, oI 0, oI 0, oI 0, oI 0, .unset, .unset, .unset, .unset, .unset, .unset] []) (fun t k => ?_) ?_
   ·skip
    refine XS.iload X199.here hx rfl (d15 hby 41) rfl ?_
    refine XS.iload X199.here hx rfl (d15 hby 42) rfl ?_
    refine XS.icmpYes X199.here hx rfl (pc0 := 73) (pc' := 189) rfl (d15 hby 43) rfl (flt (by decide)).2.1 (by decide) (by decide) ?_
    exact k
   exact tail2 0 0 _ _ _ _ _ _ _ _ _ _ _ _ (by omega) (by rw [show xs.length = 2 from by omega]; rfl) (by rw [show xs.length = 2 from by omega]; rfl) X199 e199 N0 K0 O0 E_o0 F_isURL_o0 F_newline_o0 F_linemax_o0 F_doPadding_o0 V_nl V_o1 V_o4 hvd One.u One.u
  ·skip
   obtain rfl : sl = 3 := by omega
   exact turnA 0 0 3 _ _ _ _ _ _ _ _ _ _ (by omega) (by decide) (by decide) (by rw [show xs.length = 3 from by omega]; rfl) (by rw [show xs.length = 3 from by omega]; rfl) X199 e199 N0 K0 O0 E_o0 F_isURL_o0 F_newline_o0 F_linemax_o0 F_doPadding_o0 V_nl V_o1 V_o4 hvd One.u One.u
  ·skip
   obtain rfl : sl = 48 := by omega
   exact turnB 48 _ _ _ _ rfl (by omega) (by rw [show xs.length = 48 from by omega]; rfl) (by rw [show xs.length = 48 from by omega]; rfl) X199 e199 N0 K0 O0 E_o0 F_isURL_o0 F_newline_o0 F_linemax_o0 F_doPadding_o0 V_nl V_o1 V_o4 hvd
  ·skip
   obtain rfl : sl = 48 := by omega
   exact turnC 48 _ _ _ _ (by decide) (by decide) (by omega) (by rw [show xs.length = 49 from by omega]; rfl) (fun q => (by rw [show xs.length = 49 from by omega]; rfl)) (fun q => absurd q (by omega)) (fun q => absurd q (by omega)) X199 e199 N0 K0 O0 E_o0 F_isURL_o0 F_newline_o0 F_linemax_o0 F_doPadding_o0 V_nl V_o1 V_o4 hvd
  ·skip
   obtain rfl : sl = 48 := by omega
   exact turnC 48 _ _ _ _ (by decide) (by decide) (by omega) (by rw [show xs.length = 50 from by omega]; rfl) (fun q => absurd q (by omega)) (fun q => (by rw [show xs.length = 50 from by omega]; rfl)) (fun q => absurd q (by omega)) X199 e199 N0 K0 O0 E_o0 F_isURL_o0 F_newline_o0 F_linemax_o0 F_doPadding_o0 V_nl V_o1 V_o4 hvd
  ·skip
   exact absurd ((own_lt (a := 48) (b := sl) (by decide) (by omega)).mpr (by omega)) hc200
def D12 : List (Nat × Instr × Nat) := [(0, .aload_n 0, 1), (1, .aload_n 1, 1), (2, .arraylength, 1), (3, .iconst 1, 1), (4, .invokevirtual 42, 3), (7, .istore_n 2, 1), (8, .iload_n 2, 1), (9, .newarray .byte, 2), (11, .astore_n 3, 1), (12, .aload_n 0, 1), (13, .aload_n 1, 1), (14, .iconst 0, 1), (15, .aload_n 1, 1), (16, .arraylength, 1), (17, .aload_n 3, 1), (18, .invokevirtual 46, 3), (21, .istore 4, 2), (23, .iload 4, 2), (25, .aload_n 3, 1), (26, .arraylength, 1), (27, .if_icmp .eq 10, 3), (30, .aload_n 3, 1), (31, .iload 4, 2), (33, .invokestatic 50, 3), (36, .areturn, 1), (37, .aload_n 3, 1), (38, .areturn, 1)]
theorem A12 : ∀ q ∈ D12, decode jdk_2452_method_3_code q.1 = .ok q.2 := by decide +kernel
theorem d12 {c : Code} (h0 : c.code = jdk_2452_method_3_code) (i : Nat) {pc n : Nat} {q : Instr} (h : D12[i]? = some (pc, q, n) := by rfl) : decode c.code pc = .ok (q, n) := hb h0 (A12 (pc, q, n) (List.mem_of_getElem? h))
theorem pn_rm12 : plainName "java/util/Base64$Encoder" = true := by first | (simp [plainName, overriddenIn]; done) | decide +kernel
theorem ef_rm12 (m : MethodId) (o0 : Addr) (o1 : Addr) : entryFrame m #[(.ref o0), (.ref o1)] 5 = mkF m 0 #[.val (.ref o0), .val (.ref o1), .unset, .unset, .unset] [] := by first | (simp [entryFrame, mkF, argsToLocals, Value.category, maxLocals]; done) | rfl
def rm12_Q (Z : State) (o0 : Addr) (o1 : Addr) (tb : Addr) (kt : ClassId) (nl : Addr) (kn : ClassId) (k : ClassId) (xs : List Int32) (h0 : Heap) (n0 : Nat) (v : Option Value) (h : Heap) (L : List Loc) : Prop := ∃ (b : Addr) (k1 : ClassId), v = some (.ref b) ∧ Fr n0 L ∧ b = h0.size ∧ Keep h0 h [] ∧ Arv Z h b k1 .byte (ofNat (own_D xs.length)) (own_en xs (List.replicate (own_D xs.length) (.int 0)) xs.length) (.int 0) ∧ Exa Z h b "[B"
set_option maxRecDepth 65536 in
set_option maxHeartbeats 40000000 in
theorem rm12 (l : Launch) (Z : State) (a0 : Array Value) (hw : ∀ d ∈ tables_1, d.before a0 Z = true) (ws : List Jvm.Cond) (o0 : Addr) (o1 : Addr) (tb : Addr) (kt : ClassId) (nl : Addr) (kn : ClassId) (k : ClassId) (xs : List Int32) (h0 : Heap) (n0 : Nat) (Z0 : n0 ≤ h0.size) (O0 : Old Z n0 h0) (S_tb : Sta Z Z.heap "java/util/Base64$Encoder" "toBase64" "[C" (.ref tb)) (V_tb : Arv Z Z.heap tb kt .char (64 : Int32) own_tbl (.int 0)) (E_o0 : Exa Z h0 o0 "java/util/Base64$Encoder") (F_isURL_o0 : Fld Z h0 o0 "java/util/Base64$Encoder" "isURL" "Z" (.int 0)) (F_newline_o0 : Fld Z h0 o0 "java/util/Base64$Encoder" "newline" "[B" (.ref nl)) (F_linemax_o0 : Fld Z h0 o0 "java/util/Base64$Encoder" "linemax" "I" (.int 64)) (F_doPadding_o0 : Fld Z h0 o0 "java/util/Base64$Encoder" "doPadding" "Z" (.int 1)) (V_nl : Arv Z h0 nl kn .byte (1 : Int32) [(.int 10)] (.int 0)) (V_o1 : Arv Z h0 o1 k .byte (ofNat xs.length) (own_xs xs) (.int 0)) (hL : own_ok xs.length) :
  MetFree l yM33 (head1 (Jvm.Cond.code yM33 jdk_2452_method_3_code 5 (some (.array .byte)) :: ws) rM2_1_69_49) (fun a U => a = #[(.ref o0), (.ref o1)] ∧ Z.Warmed39 U.vm ∧ U.heap = h0) (fun _ _ _ _ _ => True) (fun _ U o U' => ∃ v L, o = .returned v ∧ rm12_Q Z o0 o1 tb kt nl kn k xs h0 n0 v U'.heap L ∧ FrameEnd U o U' L rM2_1_69_49.cells rM2_1_69_49.slots) := by
 refine MetFree.of_bodySF (plainFor_of_name pn_rm12) hisR ?_
 intro p e s m args below meth c s₁ Bd hml0 hP hK
 obtain ⟨rfl, hZ, hh⟩ := hP
 have hx := Bd.exec
 have hby := Bd.bytes
 have hml : c.maxLocals = 5 := hml0
 have hown : s.vm.findClass "java/util/Base64$Encoder" = some m.cls := findClass_of_methodNamed Bd.named
 have hnm := (name_of_methodNamed Bd.named Bd.method).1
 have X0 : Stand p l e rM2_1_69_49 s m #[(.ref o0), (.ref o1)] below meth c s₁ [] 0 0 := Stand.of_body Bd
 have e0 : s₁.heap = h0 := by rw [← hh, Bd.state]; rfl
 have N0 := Fr.nil n0
 have K0 := Keep.refl h0 []
 refine own_enter (QQ := rm12_Q Z o0 o1 tb kt nl kn k xs h0 n0) (ef_rm12 m o0 o1) ?_
 show own_Run p e below s _ _ _ s₁ (mkF m 0 #[.val (.ref o0), .val (.ref o1), .unset, .unset, .unset] [])
 obtain ⟨r4, r5, ho1, ho2, hr4, hr5, ho3, hr6⟩ := own_ol hL
 have hDb := own_Db xs.length
 refine oP s₁ (mkF m 2 #[oR o0, oR o1, .unset, .unset, .unset] [(.ref o1), (.ref o0)]) (fun t k => ?_) ?_
 ·skip
  refine XS.aloadN X0.here hx rfl (d12 hby 0) rfl rfl ?_
  refine XS.aloadN X0.here hx rfl (d12 hby 1) rfl rfl ?_
  exact k
 obtain ⟨cl1, Arcl1, -, Scl1, Mcl1, -, -⟩ := id V_o1
 refine oP s₁ (mkF m 4 #[oR o0, oR o1, .unset, .unset, .unset] [(.int 1), (.int (ofNat xs.length)), (.ref o0)]) (fun t k => ?_) ?_
 ·skip
  refine X0.arraylength hx (by rw [e0]; exact Arcl1.1) (State.isArrayOf_alike hZ.alike Arcl1.2.1) (g := (mkF m 2 #[oR o0, oR o1, .unset, .unset, .unset] [(.ref o1), (.ref o0)])) rfl rfl (d12 hby 2) _ ?_
  rw [len_of Scl1 Mcl1]
  show Steps p.tables e below (s₁.setTop (mkF m 3 #[oR o0, oR o1, .unset, .unset, .unset] [(.int (ofNat xs.length)), (.ref o0)])) _
  refine XS.iconst X0.here hx rfl (d12 hby 3) ?_
  exact k
 obtain ⟨cq2, qq2, qr2⟩ := E_o0.cell
 obtain ⟨_, _, ⟨T2, L2, k2, n2⟩, -, X2, ⟨Lc2, hQ2, l2, y2, z2⟩, st2⟩ := own_privateH X0 hx (y := yM31) hown (mvT hZ (own_w hw 71)) (mvT hZ (own_w hw 72)) (own_selP (mvT hZ (own_w hw 74)) (Cond.privateMethod_at (mvP hZ (own_w hw 73) (args := #[]))) (mvT hZ (own_w hw 72)) (by decide)) (Cond.privateMethod_at (mvP hZ (own_w hw 73) (args := #[]))) (mvT hZ (own_w hw 75)) (by decide) (backOfWith (W := 0) (rm13 l Z a0 hw [] o0 (ofNat xs.length) nl kn [(.int 10)] r4 r5 h0 n0 Z0 E_o0 F_isURL_o0 F_newline_o0 F_linemax_o0 F_doPadding_o0 V_nl ho1 ho2 hr4 hr5 ho3) hZ (own_w hw 75) (own_w hw 47) (by decide) (by decide)) (g := (mkF m 4 #[oR o0, oR o1, .unset, .unset, .unset] [(.int 1), (.int (ofNat xs.length)), (.ref o0)])) rfl (by rw [hml]; rfl) (Steps.refl _) (a := o0) (by rw [e0]; exact qq2) qr2 (argsL := [(.int (ofNat xs.length)), (.int 1)]) (rest := []) (lenOf pd_20 rfl) rfl (by show 2 * 0 + _ ≤ _; exact Nat.le_of_eq rfl) (d12 hby 4) (fun _ _ => ⟨rfl, e0, (by decide : 0 + 0 ≤ _), (by decide : 0 + 0 ≤ _)⟩)
 dsimp only [Pt.U, Pt.locs, Pt.cells, Pt.slots] at X2 l2 y2 z2 st2 hQ2
 subst l2 y2 z2
 obtain ⟨rfl, N2q, eq2⟩ := hQ2
 have N2 := Fr.app N0 N2q
 refine own_step (fun t k => st2.trans k) ?_
 rw [show ((r4 + r5) : Int32) = (ofNat (own_D xs.length)) from hr6]
 refine oP T2 (mkF m 9 #[oR o0, oR o1, oI (ofNat (own_D xs.length)), .unset, .unset] [(.int (ofNat (own_D xs.length)))]) (fun t k => ?_) ?_
 ·skip
  refine XS.istoreN X2.here hx rfl (d12 hby 5) rfl (l' := #[oR o0, oR o1, oI (ofNat (own_D xs.length)), .unset, .unset]) rfl ?_
  refine XS.iloadN X2.here hx rfl (d12 hby 6) rfl ?_
  exact k
 obtain ⟨T3, h3, k3, X3, e3, E3, B3, A3, st3⟩ := newPE X2 hx hZ (own_w hw 19) eq2 (g := (mkF m 9 #[oR o0, oR o1, oI (ofNat (own_D xs.length)), .unset, .unset] [(.int (ofNat (own_D xs.length)))])) rfl (d12 hby 7 (q := .newarray .byte)) rfl (own_nn _ (by omega)) (cap := 69) (by rw [own_tn (by omega)]; exact hDb) (by decide) (by decide) (by decide) (ad := "[B") (by decide)
 obtain ⟨b3, g3⟩ : ∃ z, z = h0.size := ⟨_, rfl⟩
 have ne4 : o0 ≠ b3 := Nat.ne_of_lt (Nat.lt_of_lt_of_le F_isURL_o0.lt (Nat.le_of_eq g3.symm))
 have ne5 : nl ≠ b3 := Nat.ne_of_lt (Nat.lt_of_lt_of_le V_nl.lt (Nat.le_of_eq g3.symm))
 have ne6 : o1 ≠ b3 := Nat.ne_of_lt (Nat.lt_of_lt_of_le V_o1.lt (Nat.le_of_eq g3.symm))
 have g_b3 : n0 ≤ b3 := Nat.le_trans Z0 (Nat.le_of_eq g3.symm)
 have sz_b3 : h0.size ≤ b3 := Nat.le_trans K0.1 (Nat.le_of_eq g3.symm)
 rw [← g3] at A3 B3 st3
 have F7 := F_isURL_o0.ext E3
 have F8 := F_newline_o0.ext E3
 have F9 := F_linemax_o0.ext E3
 have F10 := F_doPadding_o0.ext E3
 have A11 := E_o0.ext E3
 have V12 := V_nl.ext E3
 have V13 := V_o1.ext E3
 have O14 := O0.ext E3
 have K3 := K0.ext E3
 have V15 : Arv Z h3 b3 k3 .byte (ofNat (own_D xs.length)) [] (.int 0) := Arv.new B3 (own_nn _ (by omega))
 have Z16 := Nat.le_trans Z0 E3.1
 refine own_step st3 ?_
 have V17 : Arv Z h3 b3 k3 .byte (ofNat (own_D xs.length)) (List.replicate (own_D xs.length) (.int 0)) (.int 0) := V15.pad (pad_rep [] (.int 0) (own_D xs.length))
 refine oP T3 (mkF m 16 #[oR o0, oR o1, oI (ofNat (own_D xs.length)), oR b3, .unset] [(.ref o1), (.int 0), (.ref o1), (.ref o0)]) (fun t k => ?_) ?_
 ·skip
  refine XS.astoreN X3.here hx rfl (d12 hby 8) rfl rfl (l' := #[oR o0, oR o1, oI (ofNat (own_D xs.length)), oR b3, .unset]) rfl ?_
  refine XS.aloadN X3.here hx rfl (d12 hby 9) rfl rfl ?_
  refine XS.aloadN X3.here hx rfl (d12 hby 10) rfl rfl ?_
  refine XS.iconst X3.here hx rfl (d12 hby 11) ?_
  refine XS.aloadN X3.here hx rfl (d12 hby 12) rfl rfl ?_
  exact k
 obtain ⟨cl18, Arcl18, -, Scl18, Mcl18, -, -⟩ := id V13
 refine oP T3 (mkF m 18 #[oR o0, oR o1, oI (ofNat (own_D xs.length)), oR b3, .unset] [(.ref b3), (.int (ofNat xs.length)), (.int 0), (.ref o1), (.ref o0)]) (fun t k => ?_) ?_
 ·skip
  refine X3.arraylength hx (by rw [e3]; exact Arcl18.1) (State.isArrayOf_alike hZ.alike Arcl18.2.1) (g := (mkF m 16 #[oR o0, oR o1, oI (ofNat (own_D xs.length)), oR b3, .unset] [(.ref o1), (.int 0), (.ref o1), (.ref o0)])) rfl rfl (d12 hby 13) _ ?_
  rw [len_of Scl18 Mcl18]
  show Steps p.tables e below (T3.setTop (mkF m 17 #[oR o0, oR o1, oI (ofNat (own_D xs.length)), oR b3, .unset] [(.int (ofNat xs.length)), (.int 0), (.ref o1), (.ref o0)])) _
  refine XS.aloadN X3.here hx rfl (d12 hby 14) rfl rfl ?_
  exact k
 obtain ⟨cq19, qq19, qr19⟩ := A11.cell
 obtain ⟨_, _, ⟨T19, L19, k19, n19⟩, -, X19, ⟨Lc19, hQ19, l19, y19, z19⟩, st19⟩ := X3.privateBack hx (y := yM32) hown (mvT hZ (own_w hw 83)) (mvT hZ (own_w hw 84)) (own_selP (mvT hZ (own_w hw 86)) (Cond.privateMethod_at (mvP hZ (own_w hw 85) (args := #[]))) (mvT hZ (own_w hw 84)) (by decide)) (Cond.privateMethod_at (mvP hZ (own_w hw 85) (args := #[]))) (mvT hZ (own_w hw 87)) (by decide) (backOf (W := 0) (rm16 l Z a0 hw [] o0 o1 b3 xs tb kt nl kn k k3 (List.replicate (own_D xs.length) (.int 0)) h3 n0 Z16 O14 S_tb V_tb A11 F7 F8 F9 F10 V12 V13 V17 g_b3 ne4 ne5 ne6 hL (by simp)) hZ (own_w hw 87) (own_w hw 47) (by decide) (by decide)) (g := (mkF m 18 #[oR o0, oR o1, oI (ofNat (own_D xs.length)), oR b3, .unset] [(.ref b3), (.int (ofNat xs.length)), (.int 0), (.ref o1), (.ref o0)])) rfl (by rw [hml]; rfl) (Steps.refl _) (a := o0) (by rw [e3]; exact qq19) qr19 (argsL := [(.ref o1), (.int 0), (.int (ofNat xs.length)), (.ref b3)]) (rest := []) (lenOf pd_21 rfl) rfl (by show 2 * 0 + _ ≤ _; exact Nat.le_of_eq rfl) (d12 hby 15) (fun _ _ => ⟨rfl, e3, (by decide : 1 + 0 ≤ _), (by decide : 69 + 0 ≤ _)⟩)
 dsimp only [Pt.U, Pt.locs, Pt.cells, Pt.slots] at X19 l19 y19 z19 st19 hQ19
 subst l19 y19 z19
 obtain ⟨rfl, N19q, Kq19, Vq19⟩ := hQ19
 have N19 := Fr.app N2 N19q
 refine own_step (fun t k => st19.trans k) ?_
 have A25 := A3.keep Kq19
 have K30 := K3.trans Kq19 (allS (Or.inr sz_b3) all0)
 refine oP T19 (mkF m 26 #[oR o0, oR o1, oI (ofNat (own_D xs.length)), oR b3, oI (ofNat (own_D xs.length))] [(.ref b3), (.int (ofNat (own_D xs.length)))]) (fun t k => ?_) ?_
 ·skip
  refine XS.istore X19.here hx rfl (d12 hby 16) rfl (l' := #[oR o0, oR o1, oI (ofNat (own_D xs.length)), oR b3, oI (ofNat (own_D xs.length))]) rfl ?_
  refine XS.iload X19.here hx rfl (d12 hby 17) rfl ?_
  refine XS.aloadN X19.here hx rfl (d12 hby 18) rfl rfl ?_
  exact k
 obtain ⟨cl31, Arcl31, -, Scl31, Mcl31, -, -⟩ := id Vq19
 refine oP T19 (mkF m 38 #[oR o0, oR o1, oI (ofNat (own_D xs.length)), oR b3, oI (ofNat (own_D xs.length))] [(.ref b3)]) (fun t k => ?_) ?_
 ·skip
  refine X19.arraylength hx (by exact Arcl31.1) (State.isArrayOf_alike hZ.alike Arcl31.2.1) (g := (mkF m 26 #[oR o0, oR o1, oI (ofNat (own_D xs.length)), oR b3, oI (ofNat (own_D xs.length))] [(.ref b3), (.int (ofNat (own_D xs.length)))])) rfl rfl (d12 hby 19) _ ?_
  rw [len_of Scl31 Mcl31]
  show Steps p.tables e below (T19.setTop (mkF m 27 #[oR o0, oR o1, oI (ofNat (own_D xs.length)), oR b3, oI (ofNat (own_D xs.length))] [(.int (ofNat (own_D xs.length))), (.int (ofNat (own_D xs.length)))])) _
  refine XS.icmpYes X19.here hx rfl (pc0 := 27) (pc' := 37) rfl (d12 hby 20) rfl (teq rfl).1 (by decide) (by decide) ?_
  refine XS.aloadN X19.here hx rfl (d12 hby 25) rfl rfl ?_
  exact k
 refine own_retA X19 hx Bd.returns rfl rfl (d12 hby 26) (BodyLoose.notSynchronized Bd) (by decide) (by decide) ?_
 exact ⟨b3, k3, rfl, N19, g3, K30, Vq19, A25⟩
def D18 : List (Nat × Instr × Nat) := [(0, .iload_n 2, 1), (1, .iload_n 0, 1), (2, .ior, 1), (3, .iload_n 1, 1), (4, .ior, 1), (5, .ifCond .lt 10, 3), (8, .iload_n 1, 1), (9, .iload_n 2, 1), (10, .iload_n 0, 1), (11, .isub, 1), (12, .if_icmp .le 11, 3), (15, .aload_n 3, 1), (16, .iload_n 0, 1), (17, .iload_n 1, 1), (18, .iload_n 2, 1), (19, .invokestatic 103, 3), (22, .athrow, 1), (23, .iload_n 0, 1), (24, .ireturn, 1)]
theorem A18 : ∀ q ∈ D18, decode jdk_41_method_13_code q.1 = .ok q.2 := by decide +kernel
theorem d18 {c : Code} (h0 : c.code = jdk_41_method_13_code) (i : Nat) {pc n : Nat} {q : Instr} (h : D18[i]? = some (pc, q, n) := by rfl) : decode c.code pc = .ok (q, n) := hb h0 (A18 (pc, q, n) (List.mem_of_getElem? h))
theorem pn_rm19 : plainName "jdk/internal/util/Preconditions" = true := by first | (simp [plainName, overriddenIn]; done) | decide +kernel
theorem ef_rm19 (m : MethodId) (o3 : Addr) (n : Nat) : entryFrame m #[(.int 0), (.int (ofNat n)), (.int (ofNat n)), (.ref o3)] 4 = mkF m 0 #[.val (.int 0), .val (.int (ofNat n)), .val (.int (ofNat n)), .val (.ref o3)] [] := by first | (simp [entryFrame, mkF, argsToLocals, Value.category, maxLocals]; done) | rfl
def rm19_Q (Z : State) (o3 : Addr) (n : Nat)  (h0 : Heap) (n0 : Nat) (v : Option Value) (h : Heap) (L : List Loc) : Prop := v = some (.int 0) ∧ Fr n0 L ∧ h = h0
set_option maxRecDepth 65536 in
set_option maxHeartbeats 40000000 in
theorem rm19 (l : Launch) (Z : State) (a0 : Array Value) (hw : ∀ d ∈ tables_1, d.before a0 Z = true) (ws : List Jvm.Cond) (o3 : Addr) (n : Nat)  (h0 : Heap) (n0 : Nat) (Z0 : n0 ≤ h0.size) (hn : n < 2147483648) :
  MetFree l yM34 (head1 (Jvm.Cond.code yM34 jdk_41_method_13_code 4 (some .int) :: ws) rM0_0_0_0) (fun a U => a = #[(.int 0), (.int (ofNat n)), (.int (ofNat n)), (.ref o3)] ∧ Z.Warmed39 U.vm ∧ U.heap = h0) (fun _ _ _ _ _ => True) (fun _ U o U' => ∃ v L, o = .returned v ∧ rm19_Q Z o3 n h0 n0 v U'.heap L ∧ FrameEnd U o U' L rM0_0_0_0.cells rM0_0_0_0.slots) := by
 refine MetFree.of_bodySF (plainFor_of_name pn_rm19) hisR ?_
 intro p e s m args below meth c s₁ Bd hml0 hP hK
 obtain ⟨rfl, hZ, hh⟩ := hP
 have hx := Bd.exec
 have hby := Bd.bytes
 have hml : c.maxLocals = 4 := hml0
 have hown : s.vm.findClass "jdk/internal/util/Preconditions" = some m.cls := findClass_of_methodNamed Bd.named
 have hnm := (name_of_methodNamed Bd.named Bd.method).1
 have X0 : Stand p l e rM0_0_0_0 s m #[(.int 0), (.int (ofNat n)), (.int (ofNat n)), (.ref o3)] below meth c s₁ [] 0 0 := Stand.of_body Bd
 have e0 : s₁.heap = h0 := by rw [← hh, Bd.state]; rfl
 have N0 := Fr.nil n0
 refine own_enter (QQ := rm19_Q Z o3 n h0 n0) (ef_rm19 m o3 n) ?_
 show own_Run p e below s _ _ _ s₁ (mkF m 0 #[.val (.int 0), .val (.int (ofNat n)), .val (.int (ofNat n)), .val (.ref o3)] [])
 refine oP s₁ (mkF m 24 #[oI 0, oI (ofNat n), oI (ofNat n), oR o3] [(.int 0)]) (fun t k => ?_) ?_
 ·skip
  refine XS.iloadN X0.here hx rfl (d18 hby 0) rfl ?_
  refine XS.iloadN X0.here hx rfl (d18 hby 1) rfl ?_
  refine XS.ior X0.here hx rfl (d18 hby 2) rfl ?_
  refine XS.iloadN X0.here hx rfl (d18 hby 3) rfl ?_
  refine XS.ior X0.here hx rfl (d18 hby 4) rfl ?_
  refine XS.ifNo X0.here hx rfl (d18 hby 5) rfl ((if0 _ _).trans (flt (own_cf1 hn)).1) ?_
  refine XS.iloadN X0.here hx rfl (d18 hby 6) rfl ?_
  refine XS.iloadN X0.here hx rfl (d18 hby 7) rfl ?_
  refine XS.iloadN X0.here hx rfl (d18 hby 8) rfl ?_
  refine XS.isub X0.here hx rfl (d18 hby 9) rfl ?_
  refine XS.icmpYes X0.here hx rfl (pc0 := 12) (pc' := 23) rfl (d18 hby 10) rfl (flt (own_cf2 hn)).2.2.2 (by decide) (by decide) ?_
  refine XS.iloadN X0.here hx rfl (d18 hby 17) rfl ?_
  exact k
 refine own_retI X0 hx Bd.returns (d18 hby 18) (BodyLoose.notSynchronized Bd) (by decide) (by decide) ?_
 rw [show s₁.heap = h0 from e0]
 exact ⟨rfl, N0, rfl⟩
theorem pn_rm19n : plainName "jdk/internal/util/Preconditions" = true := by first | (simp [plainName, overriddenIn]; done) | decide +kernel
theorem ef_rm19n (m : MethodId) (n : Nat) : entryFrame m #[(.int 0), (.int (ofNat n)), (.int (ofNat n)), .null] 4 = mkF m 0 #[.val (.int 0), .val (.int (ofNat n)), .val (.int (ofNat n)), .val .null] [] := by first | (simp [entryFrame, mkF, argsToLocals, Value.category, maxLocals]; done) | rfl
def rm19n_Q (Z : State) (n : Nat)  (h0 : Heap) (n0 : Nat) (v : Option Value) (h : Heap) (L : List Loc) : Prop := v = some (.int 0) ∧ Fr n0 L ∧ h = h0
set_option maxRecDepth 65536 in
set_option maxHeartbeats 40000000 in
theorem rm19n (l : Launch) (Z : State) (a0 : Array Value) (hw : ∀ d ∈ tables_1, d.before a0 Z = true) (ws : List Jvm.Cond) (n : Nat)  (h0 : Heap) (n0 : Nat) (Z0 : n0 ≤ h0.size) (hn : n < 2147483648) :
  MetFree l yM34 (head1 (Jvm.Cond.code yM34 jdk_41_method_13_code 4 (some .int) :: ws) rM0_0_0_0) (fun a U => a = #[(.int 0), (.int (ofNat n)), (.int (ofNat n)), .null] ∧ Z.Warmed39 U.vm ∧ U.heap = h0) (fun _ _ _ _ _ => True) (fun _ U o U' => ∃ v L, o = .returned v ∧ rm19n_Q Z n h0 n0 v U'.heap L ∧ FrameEnd U o U' L rM0_0_0_0.cells rM0_0_0_0.slots) := by
 refine MetFree.of_bodySF (plainFor_of_name pn_rm19n) hisR ?_
 intro p e s m args below meth c s₁ Bd hml0 hP hK
 obtain ⟨rfl, hZ, hh⟩ := hP
 have hx := Bd.exec
 have hby := Bd.bytes
 have hml : c.maxLocals = 4 := hml0
 have hown : s.vm.findClass "jdk/internal/util/Preconditions" = some m.cls := findClass_of_methodNamed Bd.named
 have hnm := (name_of_methodNamed Bd.named Bd.method).1
 have X0 : Stand p l e rM0_0_0_0 s m #[(.int 0), (.int (ofNat n)), (.int (ofNat n)), .null] below meth c s₁ [] 0 0 := Stand.of_body Bd
 have e0 : s₁.heap = h0 := by rw [← hh, Bd.state]; rfl
 have N0 := Fr.nil n0
 refine own_enter (QQ := rm19n_Q Z n h0 n0) (ef_rm19n m n) ?_
 show own_Run p e below s _ _ _ s₁ (mkF m 0 #[.val (.int 0), .val (.int (ofNat n)), .val (.int (ofNat n)), .val .null] [])
 refine oP s₁ (mkF m 24 #[oI 0, oI (ofNat n), oI (ofNat n), .val .null] [(.int 0)]) (fun t k => ?_) ?_
 ·skip
  refine XS.iloadN X0.here hx rfl (d18 hby 0) rfl ?_
  refine XS.iloadN X0.here hx rfl (d18 hby 1) rfl ?_
  refine XS.ior X0.here hx rfl (d18 hby 2) rfl ?_
  refine XS.iloadN X0.here hx rfl (d18 hby 3) rfl ?_
  refine XS.ior X0.here hx rfl (d18 hby 4) rfl ?_
  refine XS.ifNo X0.here hx rfl (d18 hby 5) rfl ((if0 _ _).trans (flt (own_cf1 hn)).1) ?_
  refine XS.iloadN X0.here hx rfl (d18 hby 6) rfl ?_
  refine XS.iloadN X0.here hx rfl (d18 hby 7) rfl ?_
  refine XS.iloadN X0.here hx rfl (d18 hby 8) rfl ?_
  refine XS.isub X0.here hx rfl (d18 hby 9) rfl ?_
  refine XS.icmpYes X0.here hx rfl (pc0 := 12) (pc' := 23) rfl (d18 hby 10) rfl (flt (own_cf2 hn)).2.2.2 (by decide) (by decide) ?_
  refine XS.iloadN X0.here hx rfl (d18 hby 17) rfl ?_
  exact k
 refine own_retI X0 hx Bd.returns (d18 hby 18) (BodyLoose.notSynchronized Bd) (by decide) (by decide) ?_
 rw [show s₁.heap = h0 from e0]
 exact ⟨rfl, N0, rfl⟩
def D17 : List (Nat × Instr × Nat) := [(0, .iload_n 0, 1), (1, .iload_n 1, 1), (2, .iload_n 2, 1), (3, .getstatic 1053, 3), (6, .invokestatic 1065, 3), (9, .ireturn, 1)]
theorem A17 : ∀ q ∈ D17, decode jdk_42_method_157_code q.1 = .ok q.2 := by decide +kernel
theorem d17 {c : Code} (h0 : c.code = jdk_42_method_157_code) (i : Nat) {pc n : Nat} {q : Instr} (h : D17[i]? = some (pc, q, n) := by rfl) : decode c.code pc = .ok (q, n) := hb h0 (A17 (pc, q, n) (List.mem_of_getElem? h))
theorem pn_rm18 : plainName "java/lang/String" = true := by first | (simp [plainName, overriddenIn]; done) | decide +kernel
theorem ef_rm18 (m : MethodId) (n : Nat) : entryFrame m #[(.int 0), (.int (ofNat n)), (.int (ofNat n))] 3 = mkF m 0 #[.val (.int 0), .val (.int (ofNat n)), .val (.int (ofNat n))] [] := by first | (simp [entryFrame, mkF, argsToLocals, Value.category, maxLocals]; done) | rfl
def rm18_Q (Z : State) (n : Nat) (fm : Value) (h0 : Heap) (n0 : Nat) (v : Option Value) (h : Heap) (L : List Loc) : Prop := v = some (.int 0) ∧ Fr n0 L ∧ h = h0
set_option maxRecDepth 65536 in
set_option maxHeartbeats 40000000 in
theorem rm18 (l : Launch) (Z : State) (a0 : Array Value) (hw : ∀ d ∈ tables_1, d.before a0 Z = true) (ws : List Jvm.Cond) (n : Nat) (fm : Value) (h0 : Heap) (n0 : Nat) (Z0 : n0 ≤ h0.size) (O0 : Old Z n0 h0) (S_fm : Sta Z Z.heap "jdk/internal/util/Preconditions" "SIOOBE_FORMATTER" "Ljava/util/function/BiFunction;" fm) (hfm : fm = .null ∨ ∃ f : Addr, fm = .ref f) (hn : n < 2147483648) :
  MetFree l yM35 (head1 (Jvm.Cond.code yM35 jdk_42_method_157_code 3 (some .int) :: ws) rM1_0_0_15) (fun a U => a = #[(.int 0), (.int (ofNat n)), (.int (ofNat n))] ∧ Z.Warmed39 U.vm ∧ U.heap = h0) (fun _ _ _ _ _ => True) (fun _ U o U' => ∃ v L, o = .returned v ∧ rm18_Q Z n fm h0 n0 v U'.heap L ∧ FrameEnd U o U' L rM1_0_0_15.cells rM1_0_0_15.slots) := by
 refine MetFree.of_bodySF (plainFor_of_name pn_rm18) hisR ?_
 intro p e s m args below meth c s₁ Bd hml0 hP hK
 obtain ⟨rfl, hZ, hh⟩ := hP
 have hx := Bd.exec
 have hby := Bd.bytes
 have hml : c.maxLocals = 3 := hml0
 have hown : s.vm.findClass "java/lang/String" = some m.cls := findClass_of_methodNamed Bd.named
 have hnm := (name_of_methodNamed Bd.named Bd.method).1
 have X0 : Stand p l e rM1_0_0_15 s m #[(.int 0), (.int (ofNat n)), (.int (ofNat n))] below meth c s₁ [] 0 0 := Stand.of_body Bd
 have e0 : s₁.heap = h0 := by rw [← hh, Bd.state]; rfl
 have N0 := Fr.nil n0
 refine own_enter (QQ := rm18_Q Z n fm h0 n0) (ef_rm18 m n) ?_
 show own_Run p e below s _ _ _ s₁ (mkF m 0 #[.val (.int 0), .val (.int (ofNat n)), .val (.int (ofNat n))] [])
 rcases hfm with rfl | ⟨f, rfl⟩
 ·skip
  refine oP s₁ (mkF m 3 #[oI 0, oI (ofNat n), oI (ofNat n)] [(.int (ofNat n)), (.int (ofNat n)), (.int 0)]) (fun t k => ?_) ?_
  ·skip
   refine XS.iloadN X0.here hx rfl (d17 hby 0) rfl ?_
   refine XS.iloadN X0.here hx rfl (d17 hby 1) rfl ?_
   refine XS.iloadN X0.here hx rfl (d17 hby 2) rfl ?_
   exact k
  obtain ⟨T1, X1, e1, st1⟩ := getS2 X0 hx hZ hown (host := "") (Or.inl (own_w hw 96)) Via.refl e0 (S_fm.ext O0.2) (g := (mkF m 3 #[oI 0, oI (ofNat n), oI (ofNat n)] [(.int (ofNat n)), (.int (ofNat n)), (.int 0)])) rfl (d17 hby 3)
  refine own_step st1 ?_
  obtain ⟨_, _, ⟨T2, L2, k2, n2⟩, -, X2, ⟨Lc2, hQ2, l2, y2, z2⟩, st2⟩ := Jvm.LawKit.callS X1 hx (y := yM34) hown (mvT hZ (own_w hw 98)) (mvT hZ (own_w hw 99)) (mvT hZ (own_w hw 97)) (mvT hZ (own_w hw 100)) (by decide) (backOf (W := 0) (rm19n l Z a0 hw [] n  h0 n0 Z0 hn) hZ (own_w hw 100) (own_w hw 97) (by decide) (by decide)) (g := (mkF m 6 #[oI 0, oI (ofNat n), oI (ofNat n)] [.null, (.int (ofNat n)), (.int (ofNat n)), (.int 0)])) rfl (by rw [hml]; rfl) (argsL := [(.int 0), (.int (ofNat n)), (.int (ofNat n)), .null]) (rest := []) (lenOf pd_22 rfl) rfl (by show 2 * 0 + _ ≤ _; exact Nat.le_of_eq rfl) (d17 hby 4) (fun _ _ => ⟨rfl, e1, (by decide : 0 + 0 ≤ _), (by decide : 0 + 0 ≤ _)⟩)
  dsimp only [Pt.U, Pt.locs, Pt.cells, Pt.slots] at X2 l2 y2 z2 st2 hQ2
  subst l2 y2 z2
  obtain ⟨rfl, N2q, eq2⟩ := hQ2
  have N2 := Fr.app N0 N2q
  refine own_step st2 ?_
  refine own_retI X2 hx Bd.returns (d17 hby 5) (BodyLoose.notSynchronized Bd) (by decide) (by decide) ?_
  rw [show T2.heap = h0 from eq2]
  exact ⟨rfl, N2, rfl⟩
 ·skip
  refine oP s₁ (mkF m 3 #[oI 0, oI (ofNat n), oI (ofNat n)] [(.int (ofNat n)), (.int (ofNat n)), (.int 0)]) (fun t k => ?_) ?_
  ·skip
   refine XS.iloadN X0.here hx rfl (d17 hby 0) rfl ?_
   refine XS.iloadN X0.here hx rfl (d17 hby 1) rfl ?_
   refine XS.iloadN X0.here hx rfl (d17 hby 2) rfl ?_
   exact k
  obtain ⟨T3, X3, e3, st3⟩ := getS2 X0 hx hZ hown (host := "") (Or.inl (own_w hw 96)) Via.refl e0 (S_fm.ext O0.2) (g := (mkF m 3 #[oI 0, oI (ofNat n), oI (ofNat n)] [(.int (ofNat n)), (.int (ofNat n)), (.int 0)])) rfl (d17 hby 3)
  refine own_step st3 ?_
  obtain ⟨_, _, ⟨T4, L4, k4, n4⟩, -, X4, ⟨Lc4, hQ4, l4, y4, z4⟩, st4⟩ := Jvm.LawKit.callS X3 hx (y := yM34) hown (mvT hZ (own_w hw 98)) (mvT hZ (own_w hw 99)) (mvT hZ (own_w hw 97)) (mvT hZ (own_w hw 100)) (by decide) (backOf (W := 0) (rm19 l Z a0 hw [] f n  h0 n0 Z0 hn) hZ (own_w hw 100) (own_w hw 97) (by decide) (by decide)) (g := (mkF m 6 #[oI 0, oI (ofNat n), oI (ofNat n)] [(.ref f), (.int (ofNat n)), (.int (ofNat n)), (.int 0)])) rfl (by rw [hml]; rfl) (argsL := [(.int 0), (.int (ofNat n)), (.int (ofNat n)), (.ref f)]) (rest := []) (lenOf pd_22 rfl) rfl (by show 2 * 0 + _ ≤ _; exact Nat.le_of_eq rfl) (d17 hby 4) (fun _ _ => ⟨rfl, e3, (by decide : 0 + 0 ≤ _), (by decide : 0 + 0 ≤ _)⟩)
  dsimp only [Pt.U, Pt.locs, Pt.cells, Pt.slots] at X4 l4 y4 z4 st4 hQ4
  subst l4 y4 z4
  obtain ⟨rfl, N4q, eq4⟩ := hQ4
  have N4 := Fr.app N0 N4q
  refine own_step st4 ?_
  refine own_retI X4 hx Bd.returns (d17 hby 5) (BodyLoose.notSynchronized Bd) (by decide) (by decide) ?_
  rw [show T4.heap = h0 from eq4]
  exact ⟨rfl, N4, rfl⟩
def own_c22 : List Value := [(.int 45), (.int 45), (.int 45), (.int 45), (.int 45), (.int 66), (.int 69), (.int 71), (.int 73), (.int 78), (.int 32)]
def own_c28 : List Value := [(.int 45), (.int 45), (.int 45), (.int 45), (.int 45), (.int 10)]
def own_c30 : List Value := [(.int 10), (.int 45), (.int 45), (.int 45), (.int 45), (.int 45), (.int 69), (.int 78), (.int 68), (.int 32)]
def own_c7 : List Value := []
theorem own_strings : ∀ d ∈ Bundle.stringAtoms, d ∈ tables_1 := by
 intro d hd
 simp only [Bundle.stringAtoms, List.mem_cons, List.not_mem_nil, or_false] at hd
 rcases hd with rfl | rfl | rfl | rfl | rfl | rfl | rfl
 ·exact List.mem_of_getElem? (i := 3) rfl
 ·exact List.mem_of_getElem? (i := 2) rfl
 ·exact List.mem_of_getElem? (i := 19) rfl
 ·exact List.mem_of_getElem? (i := 29) rfl
 ·exact List.mem_of_getElem? (i := 27) rfl
 ·exact List.mem_of_getElem? (i := 102) rfl
 ·exact List.mem_of_getElem? (i := 103) rfl
theorem own_ew {Z : State} {a0 : Array Value} (hw : ∀ d ∈ tables_1, d.before a0 Z = true) : EW Z a0 own_EL :=
 EW.cons (own_w hw 122) (by decide +kernel) (EW.cons (own_w hw 170) (by decide +kernel) (EW.cons (own_w hw 193) (by decide +kernel) (EW.cons (own_w hw 101) (by decide +kernel) (EW.nil))))
def D16 : List (Nat × Instr × Nat) := [(0, .aload_n 0, 1), (1, .invokespecial 1, 3), (4, .iload_n 3, 1), (5, .iload 4, 2), (7, .aload_n 1, 1), (8, .arraylength, 1), (9, .invokestatic 34, 3), (12, .pop, 1), (13, .iload 4, 2), (15, .ifCond .ne 22, 3), (18, .aload_n 0, 1), (19, .ldc 7, 2), (21, .getfield 9, 3), (24, .putfield 9, 3), (27, .aload_n 0, 1), (28, .ldc 7, 2), (30, .getfield 15, 3), (33, .putfield 15, 3), (36, .return_, 1), (37, .getstatic 38, 3), (40, .ifCond .eq 29, 3), (43, .iload_n 2, 1), (44, .i2b, 1), (45, .ifCond .ne 24, 3), (48, .aload_n 0, 1), (49, .aload_n 1, 1), (50, .iload_n 3, 1), (51, .iload_n 3, 1), (52, .iload 4, 2), (54, .iadd, 1), (55, .invokestatic 54, 3), (58, .putfield 9, 3), (61, .aload_n 0, 1), (62, .iconst 0, 1), (63, .putfield 15, 3), (66, .goto 61, 3), (69, .iload_n 2, 1), (70, .bipush 8, 2), (72, .ishl, 1), (73, .istore_n 2, 1), (74, .iload 4, 2), (76, .invokestatic 60, 3), (79, .astore 5, 2), (81, .iconst 0, 1), (82, .istore 6, 2), (84, .iload 6, 2), (86, .iload 4, 2), (88, .if_icmp .ge 28, 3), (91, .aload 5, 2), (93, .iload 6, 2), (95, .iload_n 2, 1), (96, .aload_n 1, 1), (97, .iload_n 3, 1), (98, .iinc 3 1, 3), (101, .baload, 1), (102, .sipush 255, 3), (105, .iand, 1), (106, .ior, 1), (107, .invokestatic 64, 3), (110, .iinc 6 1, 3), (113, .goto (-29), 3), (116, .aload_n 0, 1), (117, .aload 5, 2), (119, .putfield 9, 3), (122, .aload_n 0, 1), (123, .iconst 1, 1), (124, .putfield 15, 3), (127, .return_, 1)]
theorem A16 : ∀ q ∈ D16, decode jdk_42_method_7_code q.1 = .ok q.2 := by decide +kernel
theorem d16 {c : Code} (h0 : c.code = jdk_42_method_7_code) (i : Nat) {pc n : Nat} {q : Instr} (h : D16[i]? = some (pc, q, n) := by rfl) : decode c.code pc = .ok (q, n) := hb h0 (A16 (pc, q, n) (List.mem_of_getElem? h))
theorem pn_rm17 : plainName "java/lang/String" = true := by first | (simp [plainName, overriddenIn]; done) | decide +kernel
theorem ef_rm17 (m : MethodId) (o0 : Addr) (o1 : Addr) (n : Nat) : entryFrame m #[(.ref o0), (.ref o1), (.int 0), (.int 0), (.int (ofNat n))] 7 = mkF m 0 #[.val (.ref o0), .val (.ref o1), .val (.int 0), .val (.int 0), .val (.int (ofNat n)), .unset, .unset] [] := by first | (simp [entryFrame, mkF, argsToLocals, Value.category, maxLocals]; done) | rfl
def rm17_Q (Z : State) (o0 : Addr) (o1 : Addr) (n : Nat) (cs : Int32) (fm : Value) (k : ClassId) (vs : List Value) (h0 : Heap) (n0 : Nat) (v : Option Value) (h : Heap) (L : List Loc) : Prop := ∃ (t : Addr) (k1 : ClassId), v = none ∧ Fr n0 L ∧ Keep h0 h [o0] ∧ Exa Z h o0 "java/lang/String" ∧ Fld Z h o0 "java/lang/String" "coder" "B" (.int 0) ∧ Fld Z h o0 "java/lang/String" "value" "[B" (.ref t) ∧ Arv Z h t k1 .byte (ofNat n) vs (.int 0)
set_option maxRecDepth 65536 in
set_option maxHeartbeats 40000000 in
theorem rm17 (l : Launch) (Z : State) (a0 : Array Value) (hw : ∀ d ∈ tables_1, d.before a0 Z = true) (ws : List Jvm.Cond) (o0 : Addr) (o1 : Addr) (n : Nat) (cs : Int32) (fm : Value) (k : ClassId) (vs : List Value) (h0 : Heap) (n0 : Nat) (Z0 : n0 ≤ h0.size) (O0 : Old Z n0 h0) (S_cs : Sta Z Z.heap "java/lang/String" "COMPACT_STRINGS" "Z" (.int cs)) (hcs : ¬ cs = (0 : Int32)) (S_fm : Sta Z Z.heap "jdk/internal/util/Preconditions" "SIOOBE_FORMATTER" "Ljava/util/function/BiFunction;" fm) (hfm : fm = .null ∨ ∃ f : Addr, fm = .ref f) (E_o0 : Exa Z h0 o0 "java/lang/String") (F_value_o0 : Fld Z h0 o0 "java/lang/String" "value" "[B" .null) (F_coder_o0 : Fld Z h0 o0 "java/lang/String" "coder" "B" (.int 0)) (g_o0 : n0 ≤ o0) (V_o1 : Arv Z h0 o1 k .byte (ofNat n) vs (.int 0)) (A_o1 : Exa Z h0 o1 "[B") (ne10 : o1 ≠ o0) (hvs : vs.length = n) (hn : n ≤ 256) :
  MetFree l yM36 (head1 (Jvm.Cond.code yM36 jdk_42_method_7_code 7 none :: ws) rM3_4_256_71) (fun a U => a = #[(.ref o0), (.ref o1), (.int 0), (.int 0), (.int (ofNat n))] ∧ Z.Warmed39 U.vm ∧ U.heap = h0 ∧ CHv Z own_EL U.vm h0 ∧ ∀ x ∈ ([o0] : List Addr), Safe Z own_EL U.vm h0 x) (fun _ _ _ _ _ => True) (fun _ U o U' => ∃ v L, o = .returned v ∧ rm17_Q Z o0 o1 n cs fm k vs h0 n0 v U'.heap L ∧ CHr Z own_EL U.vm U.heap U'.vm U'.heap ∧ ReturnedEndW U o U' L rM3_4_256_71.cells rM3_4_256_71.slots) := by
 refine MetFree.of_bodySF (plainFor_of_name pn_rm17) hisR ?_
 intro p e s m args below meth c s₁ Bd hml0 hP hK
 obtain ⟨rfl, hZ, hh, hCH, hSS⟩ := hP
 have hx := Bd.exec
 have hby := Bd.bytes
 have hml : c.maxLocals = 7 := hml0
 have hown : s.vm.findClass "java/lang/String" = some m.cls := findClass_of_methodNamed Bd.named
 have hnm := (name_of_methodNamed Bd.named Bd.method).1
 have X0 : Stand p l e rM3_4_256_71 s m #[(.ref o0), (.ref o1), (.int 0), (.int 0), (.int (ofNat n))] below meth c s₁ [] 0 0 := Stand.of_body Bd
 have e0 : s₁.heap = h0 := by rw [← hh, Bd.state]; rfl
 have N0 := Fr.nil n0
 have K0 := Keep.refl h0 [o0]
 have C0 := CHr.refl hCH
 have hEL := own_ew hw
 have Sf_o0 := hSS o0 (List.mem_of_getElem? (i := 0) rfl)
 refine own_enterH (Q0 := rm17_Q Z o0 o1 n cs fm k vs h0 n0) hh (ef_rm17 m o0 o1 n) ?_
 show own_RunH p e below s _ _ _ s₁ (mkF m 0 #[.val (.ref o0), .val (.ref o1), .val (.int 0), .val (.int 0), .val (.int (ofNat n)), .unset, .unset] [])
 refine oPH s₁ (mkF m 1 #[oR o0, oR o1, oI 0, oI 0, oI (ofNat n), .unset, .unset] [(.ref o0)]) (fun t k => ?_) ?_
 ·skip
  refine XS.aloadN X0.here hx rfl (d16 hby 0) rfl rfl ?_
  exact k
 obtain ⟨T1, X1, e1, st1⟩ := initO X0 hx hZ hown (own_w hw 11) (own_w hw 12) (own_w hw 13) e0 (g := (mkF m 1 #[oR o0, oR o1, oI 0, oI 0, oI (ofNat n), .unset, .unset] [(.ref o0)])) rfl (by rw [hml]; rfl) rfl (d16 hby 1) (by decide) (W := 0) (by show 2 * 0 + _ ≤ _; exact Nat.le_of_eq rfl) (by decide)
 refine own_stepH st1 ?_
 refine oPH T1 (mkF m 8 #[oR o0, oR o1, oI 0, oI 0, oI (ofNat n), .unset, .unset] [(.ref o1), (.int (ofNat n)), (.int 0)]) (fun t k => ?_) ?_
 ·skip
  refine XS.iloadN X1.here hx rfl (d16 hby 2) rfl ?_
  refine XS.iload X1.here hx rfl (d16 hby 3) rfl ?_
  refine XS.aloadN X1.here hx rfl (d16 hby 4) rfl rfl ?_
  exact k
 obtain ⟨cl2, Arcl2, -, Scl2, Mcl2, -, -⟩ := id V_o1
 refine oPH T1 (mkF m 9 #[oR o0, oR o1, oI 0, oI 0, oI (ofNat n), .unset, .unset] [(.int (ofNat n)), (.int (ofNat n)), (.int 0)]) (fun t k => ?_) ?_
 ·skip
  refine X1.arraylength hx (by rw [e1]; exact Arcl2.1) (State.isArrayOf_alike hZ.alike Arcl2.2.1) (g := (mkF m 8 #[oR o0, oR o1, oI 0, oI 0, oI (ofNat n), .unset, .unset] [(.ref o1), (.int (ofNat n)), (.int 0)])) rfl rfl (d16 hby 5) _ ?_
  rw [len_of Scl2 Mcl2]
  exact k
 obtain ⟨_, _, ⟨T3, L3, k3, n3⟩, -, X3, ⟨Lc3, hQ3, l3, y3, z3⟩, st3⟩ := Jvm.LawKit.callS X1 hx (y := yM35) hown (mvT hZ (own_w hw 93)) (mvT hZ (own_w hw 94)) (mvT hZ (own_w hw 3)) (mvT hZ (own_w hw 95)) (by decide) (backOf (W := 0) (rm18 l Z a0 hw [] n fm h0 n0 Z0 O0 S_fm hfm (by omega)) hZ (own_w hw 95) (own_w hw 3) (by decide) (by decide)) (g := (mkF m 9 #[oR o0, oR o1, oI 0, oI 0, oI (ofNat n), .unset, .unset] [(.int (ofNat n)), (.int (ofNat n)), (.int 0)])) rfl (by rw [hml]; rfl) (argsL := [(.int 0), (.int (ofNat n)), (.int (ofNat n))]) (rest := []) (lenOf pd_2 rfl) rfl (by show 2 * 0 + _ ≤ _; exact Nat.le_of_eq rfl) (d16 hby 6) (fun _ _ => ⟨rfl, e1, (by decide : 0 + 0 ≤ _), (by decide : 0 + 0 ≤ _)⟩)
 dsimp only [Pt.U, Pt.locs, Pt.cells, Pt.slots] at X3 l3 y3 z3 st3 hQ3
 subst l3 y3 z3
 obtain ⟨rfl, N3q, eq3⟩ := hQ3
 have N3 := Fr.app N0 N3q
 refine own_stepH st3 ?_
 refine oPH T3 (mkF m 15 #[oR o0, oR o1, oI 0, oI 0, oI (ofNat n), .unset, .unset] [(.int (ofNat n))]) (fun t k => ?_) ?_
 ·skip
  refine XS.pop X3.here hx rfl (d16 hby 7) rfl rfl ?_
  refine XS.iload X3.here hx rfl (d16 hby 8) rfl ?_
  exact k
 by_cases hc4 : (ofNat n) = (0 : Int32)
 ·skip
  refine oPH T3 (mkF m 19 #[oR o0, oR o1, oI 0, oI 0, oI (ofNat n), .unset, .unset] [(.ref o0)]) (fun t k => ?_) ?_
  ·skip
   refine XS.ifNo X3.here hx rfl (d16 hby 9) rfl ((if0 _ _).trans (teq hc4).2) ?_
   refine XS.aloadN X3.here hx rfl (d16 hby 10) rfl rfl ?_
   exact k
  obtain ⟨a5, T5, h5, k5, b5, kb5, X5, e5, E5, hS5, hk5, hZ, hown, Ea5, Fc5, Fv5, Va5, la5, lb5, Cq5, -, ns5, st5⟩ := ldcCH (s := s) (vm0 := s.vm) (EL := own_EL) X3 hx hZ hown (own_w hw 101) (fun d hd => hw d (own_strings d hd)) eq3 ((State.WarmedH.refl s).since 0) (Nat.zero_le _) hEL (List.mem_of_getElem? (i := 3) rfl) C0.1 (vs := own_c7) (z := (ofNat 0)) ⟨by decide +kernel, rfl⟩ (by decide) rfl (g := (mkF m 19 #[oR o0, oR o1, oI 0, oI 0, oI (ofNat n), .unset, .unset] [(.ref o0)])) rfl (d16 hby 11) (n := 0) (by decide +kernel) (by decide) (by decide) (by decide)
  have Sf6 := Cq5.safe F_value_o0.lt Sf_o0
  have F7 := F_value_o0.ext E5
  have F8 := F_coder_o0.ext E5
  have A9 := E_o0.ext E5
  have C13 := C0.trans Cq5
  have K5 := K0.ext E5
  refine own_stepH st5 ?_
  obtain ⟨T15, X15, e15, st15⟩ := getF X5 hx hZ hown (host := "") (Or.inl (own_w hw 28)) Via.refl e5 Fv5 (g := (mkF m 21 #[oR o0, oR o1, oI 0, oI 0, oI (ofNat n), .unset, .unset] [(.ref a5), (.ref o0)])) rfl rfl (d16 hby 12)
  refine own_stepH st15 ?_
  obtain ⟨T16, h16, X16, e16, W16, st16⟩ := putF X15 hx hZ hown (host := "") (Or.inl (own_w hw 28)) Via.refl e15 F7 A9 (Or.inr ⟨(own_w hw 29), rfl, hnm⟩) (own_w hw 2) (ty := (.array .byte)) (by decide) rfl rfl (g := (mkF m 24 #[oR o0, oR o1, oI 0, oI 0, oI (ofNat n), .unset, .unset] [(.ref b5), (.ref o0)])) rfl rfl (d16 hby 13)
  have F17 := F7.same W16
  have F18 := F8.other W16 (Or.inr (slot_ne (Or.inr (own_w hw 27)) (Or.inr (own_w hw 29)) (by decide) (t := .byte) (t' := (.array .byte)) (by decide) (by decide)))
  have A21 := A9.wr W16
  have V25 := Va5.other W16 (Ne.symm (ns5 _ Sf6).2)
  have Sf27 := Safe.wr W16 Sf6 C13.1 Sf6
  have C28 := C13.trans (CHr.wr W16 Sf6 C13.1)
  have hk30 := Nat.le_trans hk5 (Keep.of_wr W16).1
  have K16 := K5.wr W16 (Or.inl (List.mem_of_getElem? (i := 0) rfl))
  have N16 := Fr.snoc X16 N3 g_o0
  refine own_stepH st16 ?_
  refine oPH T16 (mkF m 28 #[oR o0, oR o1, oI 0, oI 0, oI (ofNat n), .unset, .unset] [(.ref o0)]) (fun t k => ?_) ?_
  ·skip
   refine XS.aloadN X16.here hx rfl (d16 hby 14) rfl rfl ?_
   exact k
  obtain ⟨a31, T31, h31, k31, b31, kb31, X31, e31, E31, hS31, hk31, hZ, hown, Ea31, Fc31, Fv31, Va31, la31, lb31, Cq31, -, ns31, st31⟩ := ldcCH (s := s) (vm0 := T5.vm) (EL := own_EL) X16 hx hZ hown (own_w hw 101) (fun d hd => hw d (own_strings d hd)) e16 hS5 hk30 hEL (List.mem_of_getElem? (i := 3) rfl) C28.1 (vs := own_c7) (z := (ofNat 0)) ⟨by decide +kernel, rfl⟩ (by decide) rfl (g := (mkF m 28 #[oR o0, oR o1, oI 0, oI 0, oI (ofNat n), .unset, .unset] [(.ref o0)])) rfl (d16 hby 15) (n := 0) (by decide +kernel) (by decide) (by decide) (by decide)
  have Sf32 := Cq31.safe F17.lt Sf27
  have F33 := F17.ext E31
  have F34 := F18.ext E31
  have A37 := A21.ext E31
  have V41 := V25.ext E31
  have C43 := C28.trans Cq31
  have K31 := K16.ext E31
  refine own_stepH st31 ?_
  obtain ⟨T45, X45, e45, st45⟩ := getF X31 hx hZ hown (host := "") (Or.inl (own_w hw 26)) Via.refl e31 Fc31 (g := (mkF m 30 #[oR o0, oR o1, oI 0, oI 0, oI (ofNat n), .unset, .unset] [(.ref a31), (.ref o0)])) rfl rfl (d16 hby 16)
  refine own_stepH st45 ?_
  obtain ⟨T46, h46, X46, e46, W46, st46⟩ := putFN X45 hx hZ hown (own_w hw 26) Via.refl e45 F34 A37 (Or.inr ⟨(own_w hw 27), rfl, hnm⟩) (own_w hw 2) (ty := .byte) (v' := (.int (nar .byte (0 : Int32)))) (by decide) rfl (fits_nar_byte _) (g := (mkF m 33 #[oR o0, oR o1, oI 0, oI 0, oI (ofNat n), .unset, .unset] [(.int 0), (.ref o0)])) rfl rfl (d16 hby 17)
  have F47 := F34.same W46
  have F48 := F33.other W46 (Or.inr (slot_ne (Or.inr (own_w hw 29)) (Or.inr (own_w hw 27)) (by decide) (t := (.array .byte)) (t' := .byte) (by decide) (by decide)))
  have A53 := A37.wr W46
  have V58 := V41.other W46 (Ne.symm (ns5 _ Sf6).2)
  have C62 := C43.trans (CHr.wr W46 Sf32 C43.1)
  have hk64 := Nat.le_trans hk31 (Keep.of_wr W46).1
  have K46 := K31.wr W46 (Or.inl (List.mem_of_getElem? (i := 0) rfl))
  have N46 := Fr.snoc X46 N16 g_o0
  refine own_stepH st46 ?_
  refine own_retVH (s := s) X46 hx hS31 (by rw [e46]; exact hk64) Bd.returns (d16 hby 18) (BodyLoose.notSynchronized Bd) (by decide) (by decide) ?_
  rw [show T46.heap = h46 from e46]
  refine ⟨?_, C62.trans (CHv.at (s := s) (vm0 := T31.vm) X46 hZ hEL C62.1)⟩
  obtain rfl : n = 0 := (own_eqn (b := 0) (by omega) (by decide)).mp hc4
  obtain rfl : vs = [] := List.length_eq_zero_iff.mp hvs
  exact ⟨b5, kb5, rfl, N46, K46, A53, F47, F48, V58⟩
 ·skip
  refine oPH T3 (mkF m 37 #[oR o0, oR o1, oI 0, oI 0, oI (ofNat n), .unset, .unset] []) (fun t k => ?_) ?_
  ·skip
   refine XS.ifYes X3.here hx rfl (pc0 := 15) (pc' := 37) rfl (d16 hby 9) rfl ((if0 _ _).trans (feq hc4).2) (by decide) (by decide) ?_
   exact k
  obtain ⟨T65, X65, e65, st65⟩ := getS2 X3 hx hZ hown (host := "") (Or.inl (own_w hw 14)) Via.refl eq3 (S_cs.ext O0.2) (g := (mkF m 37 #[oR o0, oR o1, oI 0, oI 0, oI (ofNat n), .unset, .unset] [])) rfl (d16 hby 19)
  refine own_stepH st65 ?_
  refine oPH T65 (mkF m 55 #[oR o0, oR o1, oI 0, oI 0, oI (ofNat n), .unset, .unset] [(.int ((0 : Int32) + (ofNat n))), (.int 0), (.ref o1), (.ref o0)]) (fun t k => ?_) ?_
  ·skip
   refine XS.ifNo X65.here hx rfl (d16 hby 20) rfl ((if0 _ _).trans (feq hcs).1) ?_
   refine XS.iloadN X65.here hx rfl (d16 hby 21) rfl ?_
   refine XS.i2b X65.here hx rfl (d16 hby 22) rfl ?_
   refine XS.ifNo X65.here hx rfl (d16 hby 23) rfl ((if0 _ _).trans (teq (by decide)).2) ?_
   refine XS.aloadN X65.here hx rfl (d16 hby 24) rfl rfl ?_
   refine XS.aloadN X65.here hx rfl (d16 hby 25) rfl rfl ?_
   refine XS.iloadN X65.here hx rfl (d16 hby 26) rfl ?_
   refine XS.iloadN X65.here hx rfl (d16 hby 27) rfl ?_
   refine XS.iload X65.here hx rfl (d16 hby 28) rfl ?_
   refine XS.iadd X65.here hx rfl (d16 hby 29) rfl ?_
   exact k
  rw [show (((0 : Int32) + (ofNat n)) : Int32) = (ofNat n) from Int32.zero_add _]
  obtain ⟨_, _, ⟨T68, L68, k68, n68⟩, -, X68, ⟨Lc68, hQ68, l68, y68, z68⟩, st68⟩ := Jvm.LawKit.callS X65 hx (y := yM21) hown (mvT hZ (own_w hw 224)) (mvT hZ (own_w hw 225)) (mvT hZ (own_w hw 187)) (mvT hZ (own_w hw 226)) (by decide) (backOf (W := 1) (rm42 l Z a0 hw [] o1 n k n vs h0 n0 Z0 V_o1 A_o1 hvs (Nat.le_refl _) hn (by omega)) hZ (own_w hw 226) (own_w hw 187) (by decide) (by decide)) (g := (mkF m 55 #[oR o0, oR o1, oI 0, oI 0, oI (ofNat n), .unset, .unset] [(.int (ofNat n)), (.int 0), (.ref o1), (.ref o0)])) rfl (by rw [hml]; rfl) (argsL := [(.ref o1), (.int 0), (.int (ofNat n))]) (rest := [(.ref o0)]) (lenOf pd_12 rfl) rfl (by show 2 * 0 + _ ≤ _; exact Nat.le_of_eq rfl) (d16 hby 30) (fun _ _ => ⟨rfl, e65, (by decide : 0 + 1 ≤ _), (by decide : 0 + 256 ≤ _)⟩)
  dsimp only [Pt.U, Pt.locs, Pt.cells, Pt.slots] at X68 l68 y68 z68 st68 hQ68
  subst l68 y68 z68
  obtain ⟨cp68, kc68, rfl, N68q, g68, Kq68, Vc68, Ac68⟩ := hQ68
  have N68 := Fr.app N3 N68q
  refine own_stepH st68 ?_
  have ne69 : o0 ≠ cp68 := Nat.ne_of_lt (Nat.lt_of_lt_of_le F_value_o0.lt (Nat.le_of_eq g68.symm))
  have F71 := F_value_o0.keep Kq68 nin0
  have F72 := F_coder_o0.keep Kq68 nin0
  have A73 := E_o0.keep Kq68
  have hk78 := Nat.le_trans (Nat.zero_le _) Kq68.1
  have Sf79 := Safe.keep Kq68 all0 C0.1 Sf_o0
  have C80 := C0.trans (CHr.keep Kq68 all0 C0.1)
  have K81 := K0.trans Kq68 all0
  rw [List.take_of_length_le (Nat.le_of_eq hvs)] at Vc68
  obtain ⟨T82, h82, X82, e82, W82, st82⟩ := putF X68 hx hZ hown (host := "") (Or.inl (own_w hw 28)) Via.refl rfl F71 A73 (Or.inr ⟨(own_w hw 29), rfl, hnm⟩) (own_w hw 2) (ty := (.array .byte)) (by decide) rfl rfl (g := (mkF m 58 #[oR o0, oR o1, oI 0, oI 0, oI (ofNat n), .unset, .unset] [(.ref cp68), (.ref o0)])) rfl rfl (d16 hby 31)
  have F83 := F71.same W82
  have F84 := F72.other W82 (Or.inr (slot_ne (Or.inr (own_w hw 27)) (Or.inr (own_w hw 29)) (by decide) (t := .byte) (t' := (.array .byte)) (by decide) (by decide)))
  have A85 := A73.wr W82
  have V89 := Vc68.other W82 (Ne.symm ne69)
  have Sf91 := Safe.wr W82 Sf79 C80.1 Sf79
  have C92 := C80.trans (CHr.wr W82 Sf79 C80.1)
  have hk94 := Nat.le_trans hk78 (Keep.of_wr W82).1
  have K82 := K81.wr W82 (Or.inl (List.mem_of_getElem? (i := 0) rfl))
  have N82 := Fr.snoc X82 N68 g_o0
  refine own_stepH st82 ?_
  refine oPH T82 (mkF m 63 #[oR o0, oR o1, oI 0, oI 0, oI (ofNat n), .unset, .unset] [(.int 0), (.ref o0)]) (fun t k => ?_) ?_
  ·skip
   refine XS.aloadN X82.here hx rfl (d16 hby 32) rfl rfl ?_
   refine XS.iconst X82.here hx rfl (d16 hby 33) ?_
   exact k
  obtain ⟨T95, h95, X95, e95, W95, st95⟩ := putFN X82 hx hZ hown (own_w hw 26) Via.refl e82 F84 A85 (Or.inr ⟨(own_w hw 27), rfl, hnm⟩) (own_w hw 2) (ty := .byte) (v' := (.int (nar .byte (0 : Int32)))) (by decide) rfl (fits_nar_byte _) (g := (mkF m 63 #[oR o0, oR o1, oI 0, oI 0, oI (ofNat n), .unset, .unset] [(.int 0), (.ref o0)])) rfl rfl (d16 hby 34)
  have F96 := F84.same W95
  have F97 := F83.other W95 (Or.inr (slot_ne (Or.inr (own_w hw 29)) (Or.inr (own_w hw 27)) (by decide) (t := (.array .byte)) (t' := .byte) (by decide) (by decide)))
  have A98 := A85.wr W95
  have V102 := V89.other W95 (Ne.symm ne69)
  have C105 := C92.trans (CHr.wr W95 Sf91 C92.1)
  have hk107 := Nat.le_trans hk94 (Keep.of_wr W95).1
  have K95 := K82.wr W95 (Or.inl (List.mem_of_getElem? (i := 0) rfl))
  have N95 := Fr.snoc X95 N82 g_o0
  refine own_stepH st95 ?_
  refine oPH T95 (mkF m 127 #[oR o0, oR o1, oI 0, oI 0, oI (ofNat n), .unset, .unset] []) (fun t k => ?_) ?_
  ·skip
   refine XS.goto X95.here hx rfl (pc0 := 66) (pc' := 127) rfl (d16 hby 35) (by decide) (by decide) ?_
   exact k
  refine own_retVH (s := s) X95 hx ((State.WarmedH.refl s).since 0) (by rw [e95]; exact hk107) Bd.returns (d16 hby 67) (BodyLoose.notSynchronized Bd) (by decide) (by decide) ?_
  rw [show T95.heap = h95 from e95]
  refine ⟨?_, C105.trans (CHv.at (s := s) (vm0 := s.vm) X95 hZ hEL C105.1)⟩
  exact ⟨cp68, kc68, rfl, N95, K95, A98, F96, F97, V102⟩
theorem own_enl {xs : List Int32} (h : own_ok xs.length) : (own_en xs (List.replicate (own_D xs.length) (.int 0)) xs.length).length = own_D xs.length := by
 rcases h with q | q | q | q | q | q | q | q <;> rw [q] <;> simp [own_en, own_D, own_t1, own_t2, own_l1, own_blkl]
def D11 : List (Nat × Instr × Nat) := [(0, .aload_n 0, 1), (1, .aload_n 1, 1), (2, .invokevirtual 61, 3), (5, .astore_n 2, 1), (6, .new 65, 3), (9, .dup, 1), (10, .aload_n 2, 1), (11, .iconst 0, 1), (12, .iconst 0, 1), (13, .aload_n 2, 1), (14, .arraylength, 1), (15, .invokespecial 67, 3), (18, .areturn, 1)]
theorem A11 : ∀ q ∈ D11, decode jdk_2452_method_5_code q.1 = .ok q.2 := by decide +kernel
theorem d11 {c : Code} (h0 : c.code = jdk_2452_method_5_code) (i : Nat) {pc n : Nat} {q : Instr} (h : D11[i]? = some (pc, q, n) := by rfl) : decode c.code pc = .ok (q, n) := hb h0 (A11 (pc, q, n) (List.mem_of_getElem? h))
theorem pn_rm11 : plainName "java/util/Base64$Encoder" = true := by first | (simp [plainName, overriddenIn]; done) | decide +kernel
theorem ef_rm11 (m : MethodId) (o0 : Addr) (o1 : Addr) : entryFrame m #[(.ref o0), (.ref o1)] 3 = mkF m 0 #[.val (.ref o0), .val (.ref o1), .unset] [] := by first | (simp [entryFrame, mkF, argsToLocals, Value.category, maxLocals]; done) | rfl
def rm11_Q (Z : State) (o0 : Addr) (o1 : Addr) (cs : Int32) (fm : Value) (tb : Addr) (kt : ClassId) (nl : Addr) (kn : ClassId) (k : ClassId) (xs : List Int32) (h0 : Heap) (n0 : Nat) (v : Option Value) (h : Heap) (L : List Loc) : Prop := ∃ (r : Addr) (t : Addr) (k1 : ClassId), v = some (.ref r) ∧ Fr n0 L ∧ Keep h0 h [] ∧ Exa Z h r "java/lang/String" ∧ Fld Z h r "java/lang/String" "coder" "B" (.int 0) ∧ Fld Z h r "java/lang/String" "value" "[B" (.ref t) ∧ Arv Z h t k1 .byte (ofNat (own_D xs.length)) (own_en xs (List.replicate (own_D xs.length) (.int 0)) xs.length) (.int 0)
set_option maxRecDepth 65536 in
set_option maxHeartbeats 40000000 in
theorem rm11 (l : Launch) (Z : State) (a0 : Array Value) (hw : ∀ d ∈ tables_1, d.before a0 Z = true) (ws : List Jvm.Cond) (o0 : Addr) (o1 : Addr) (cs : Int32) (fm : Value) (tb : Addr) (kt : ClassId) (nl : Addr) (kn : ClassId) (k : ClassId) (xs : List Int32) (h0 : Heap) (n0 : Nat) (Z0 : n0 ≤ h0.size) (O0 : Old Z n0 h0) (S_cs : Sta Z Z.heap "java/lang/String" "COMPACT_STRINGS" "Z" (.int cs)) (hcs : ¬ cs = (0 : Int32)) (S_fm : Sta Z Z.heap "jdk/internal/util/Preconditions" "SIOOBE_FORMATTER" "Ljava/util/function/BiFunction;" fm) (hfm : fm = .null ∨ ∃ f : Addr, fm = .ref f) (S_tb : Sta Z Z.heap "java/util/Base64$Encoder" "toBase64" "[C" (.ref tb)) (V_tb : Arv Z Z.heap tb kt .char (64 : Int32) own_tbl (.int 0)) (E_o0 : Exa Z h0 o0 "java/util/Base64$Encoder") (F_isURL_o0 : Fld Z h0 o0 "java/util/Base64$Encoder" "isURL" "Z" (.int 0)) (F_newline_o0 : Fld Z h0 o0 "java/util/Base64$Encoder" "newline" "[B" (.ref nl)) (F_linemax_o0 : Fld Z h0 o0 "java/util/Base64$Encoder" "linemax" "I" (.int 64)) (F_doPadding_o0 : Fld Z h0 o0 "java/util/Base64$Encoder" "doPadding" "Z" (.int 1)) (V_nl : Arv Z h0 nl kn .byte (1 : Int32) [(.int 10)] (.int 0)) (V_o1 : Arv Z h0 o1 k .byte (ofNat xs.length) (own_xs xs) (.int 0)) (hL : own_ok xs.length) :
  MetFree l yM37 (head1 (Jvm.Cond.code yM37 jdk_2452_method_5_code 3 (some (.object "java/lang/String")) :: ws) rM4_6_329_90) (fun a U => a = #[(.ref o0), (.ref o1)] ∧ Z.Warmed39 U.vm ∧ U.heap = h0 ∧ CHv Z own_EL U.vm h0 ∧ ∀ x ∈ ([] : List Addr), Safe Z own_EL U.vm h0 x) (fun _ _ _ _ _ => True) (fun _ U o U' => ∃ v L, o = .returned v ∧ rm11_Q Z o0 o1 cs fm tb kt nl kn k xs h0 n0 v U'.heap L ∧ CHr Z own_EL U.vm U.heap U'.vm U'.heap ∧ ReturnedEndW U o U' L rM4_6_329_90.cells rM4_6_329_90.slots) := by
 refine MetFree.of_bodySF (plainFor_of_name pn_rm11) hisR ?_
 intro p e s m args below meth c s₁ Bd hml0 hP hK
 obtain ⟨rfl, hZ, hh, hCH, hSS⟩ := hP
 have hx := Bd.exec
 have hby := Bd.bytes
 have hml : c.maxLocals = 3 := hml0
 have hown : s.vm.findClass "java/util/Base64$Encoder" = some m.cls := findClass_of_methodNamed Bd.named
 have hnm := (name_of_methodNamed Bd.named Bd.method).1
 have X0 : Stand p l e rM4_6_329_90 s m #[(.ref o0), (.ref o1)] below meth c s₁ [] 0 0 := Stand.of_body Bd
 have e0 : s₁.heap = h0 := by rw [← hh, Bd.state]; rfl
 have N0 := Fr.nil n0
 have K0 := Keep.refl h0 []
 have C0 := CHr.refl hCH
 have hEL := own_ew hw
 refine own_enterH (Q0 := rm11_Q Z o0 o1 cs fm tb kt nl kn k xs h0 n0) hh (ef_rm11 m o0 o1) ?_
 show own_RunH p e below s _ _ _ s₁ (mkF m 0 #[.val (.ref o0), .val (.ref o1), .unset] [])
 refine oPH s₁ (mkF m 2 #[oR o0, oR o1, .unset] [(.ref o1), (.ref o0)]) (fun t k => ?_) ?_
 ·skip
  refine XS.aloadN X0.here hx rfl (d11 hby 0) rfl rfl ?_
  refine XS.aloadN X0.here hx rfl (d11 hby 1) rfl rfl ?_
  exact k
 obtain ⟨cq1, kq1, q1a, q1b, q1c⟩ := isOf hZ e0 E_o0
 obtain ⟨_, _, ⟨T1, L1, k1, n1⟩, -, X1, ⟨Lc1, hQ1, l1, y1, z1⟩, st1⟩ := X0.virtualBack hx (y := yM33) (z := yM33) hown (mvT hZ (own_w hw 66)) (mvT hZ (own_w hw 67)) (notFace_of_selects (args := #[]) (mvT hZ (own_w hw 69))) (mvT hZ (own_w hw 69)) (mvT hZ (own_w hw 68)) (by decide) (backOf (W := 0) (rm12 l Z a0 hw [] o0 o1 tb kt nl kn k xs h0 n0 Z0 O0 S_tb V_tb E_o0 F_isURL_o0 F_newline_o0 F_linemax_o0 F_doPadding_o0 V_nl V_o1 hL) hZ (own_w hw 70) (own_w hw 47) (by decide) (by decide)) q1a q1c (g := (mkF m 2 #[oR o0, oR o1, .unset] [(.ref o1), (.ref o0)])) rfl (by rw [hml]; rfl) (Steps.refl _) (argsL := [(.ref o1)]) (rest := []) (lenOf pd_23 rfl) rfl (by show 2 * 0 + _ ≤ _; exact Nat.le_of_eq rfl) (d11 hby 2) (fun _ _ => ⟨rfl, e0, (by decide : 0 + 1 ≤ _), (by decide : 0 + 69 ≤ _)⟩)
 dsimp only [Pt.U, Pt.locs, Pt.cells, Pt.slots] at X1 l1 y1 z1 st1 hQ1
 subst l1 y1 z1
 obtain ⟨cp1, kc1, rfl, N1q, g1, Kq1, Vc1, Ac1⟩ := hQ1
 have N1 := Fr.app N0 N1q
 refine own_stepH (fun t k => st1.trans k) ?_
 have O12 := O0.keep Kq1 all0
 have Z13 := Nat.le_trans Z0 Kq1.1
 have hk14 := Nat.le_trans (Nat.zero_le _) Kq1.1
 have C15 := C0.trans (CHr.keep Kq1 all0 C0.1)
 have K16 := K0.trans Kq1 all0
 refine oPH T1 (mkF m 6 #[oR o0, oR o1, oR cp1] []) (fun t k => ?_) ?_
 ·skip
  refine XS.astoreN X1.here hx rfl (d11 hby 3) rfl rfl (l' := #[oR o0, oR o1, oR cp1]) rfl ?_
  exact k
 obtain ⟨T17, h17, X17, e17, E17, A17, D17, -, st17⟩ := newO X1 hx hZ hown (own_w hw 89) (own_w hw 2) (own_w hw 3) rfl (g := (mkF m 6 #[oR o0, oR o1, oR cp1] [])) rfl (d11 hby 4) (by decide) (by decide)
 obtain ⟨b17, g17⟩ : ∃ z, z = T1.heap.size := ⟨_, rfl⟩
 have ne19 : cp1 ≠ b17 := Nat.ne_of_lt (Nat.lt_of_lt_of_le Ac1.lt (Nat.le_of_eq g17.symm))
 have g_b17 : n0 ≤ b17 := Nat.le_trans Z13 (Nat.le_of_eq g17.symm)
 have sz_b17 : h0.size ≤ b17 := Nat.le_trans K16.1 (Nat.le_of_eq g17.symm)
 rw [← g17] at A17 D17 st17
 have Sn17 : Safe Z own_EL s.vm T1.heap b17 := Safe.new (Nat.le_of_eq g17.symm)
 have A27 := Ac1.ext E17
 have V30 := Vc1.ext E17
 have O31 := O12.ext E17
 have Sf32 := Safe.ext E17 C15.1 Sn17
 have C33 := C15.trans (CHr.ext E17 C15.1)
 have K17 := K16.ext E17
 have F34 : Fld Z h17 b17 "java/lang/String" "coder" "B" (.int 0) := D17 (Or.inr (own_w hw 27)) (ty := .byte) (by decide)
 have F35 : Fld Z h17 b17 "java/lang/String" "value" "[B" .null := D17 (Or.inr (own_w hw 29)) (ty := (.array .byte)) (by decide)
 have Z36 := Nat.le_trans Z13 E17.1
 have hk37 := Nat.le_trans hk14 E17.1
 refine own_stepH st17 ?_
 refine oPH T17 (mkF m 14 #[oR o0, oR o1, oR cp1] [(.ref cp1), (.int 0), (.int 0), (.ref cp1), (.ref b17), (.ref b17)]) (fun t k => ?_) ?_
 ·skip
  refine XS.dup X17.here hx rfl (d11 hby 5) rfl rfl ?_
  refine XS.aloadN X17.here hx rfl (d11 hby 6) rfl rfl ?_
  refine XS.iconst X17.here hx rfl (d11 hby 7) ?_
  refine XS.iconst X17.here hx rfl (d11 hby 8) ?_
  refine XS.aloadN X17.here hx rfl (d11 hby 9) rfl rfl ?_
  exact k
 obtain ⟨cl38, Arcl38, -, Scl38, Mcl38, -, -⟩ := id V30
 refine oPH T17 (mkF m 15 #[oR o0, oR o1, oR cp1] [(.int (ofNat (own_D xs.length))), (.int 0), (.int 0), (.ref cp1), (.ref b17), (.ref b17)]) (fun t k => ?_) ?_
 ·skip
  refine X17.arraylength hx (by rw [e17]; exact Arcl38.1) (State.isArrayOf_alike hZ.alike Arcl38.2.1) (g := (mkF m 14 #[oR o0, oR o1, oR cp1] [(.ref cp1), (.int 0), (.int 0), (.ref cp1), (.ref b17), (.ref b17)])) rfl rfl (d11 hby 10) _ ?_
  rw [len_of Scl38 Mcl38]
  exact k
 obtain ⟨_, _, ⟨T39, L39, k39, n39⟩, -, Xq39, Sq39, gq39, ⟨Lc39, hQ39, l39, y39, z39, Cq39⟩, st39⟩ := Stand.specialBackS (show Stand _ _ _ _ (s.setVm s.vm) _ _ _ _ _ _ _ _ _ from X17) hx (y := yM36) rfl hown (mvT hZ (own_w hw 90)) (mvT hZ (own_w hw 91)) (mvT hZ (own_w hw 92)) (by decide) (own_backH (s := s) (vm0 := s.vm) (EL := own_EL) (xs := [b17]) (W := 1) (rm17 l Z a0 hw [] b17 cp1 (own_D xs.length) cs fm kc1 (own_en xs (List.replicate (own_D xs.length) (.int 0)) xs.length) h17 n0 Z36 O31 S_cs hcs S_fm hfm A17 F35 F34 g_b17 V30 A27 ne19 (own_enl hL) (by have := own_Db xs.length; omega)) hZ (own_w hw 92) (own_w hw 3) (by decide) (by decide) hEL C33.1 (allS ⟨F34.lt, Sf32⟩ all0)) (g := (mkF m 15 #[oR o0, oR o1, oR cp1] [(.int (ofNat (own_D xs.length))), (.int 0), (.int 0), (.ref cp1), (.ref b17), (.ref b17)])) rfl (by rw [hml]; rfl) (Steps.refl _) (a := b17) (argsL := [(.ref cp1), (.int 0), (.int 0), (.int (ofNat (own_D xs.length)))]) (rest := [(.ref b17)]) (lenOf pd_24 rfl) rfl (by show 2 * 0 + _ ≤ _; exact Nat.le_of_eq rfl) (d11 hby 11) (fun _ _ => ⟨rfl, e17, (by decide : 2 + 4 ≤ _), (by decide : 73 + 256 ≤ _)⟩)
 dsimp only [Pt.U, Pt.locs, Pt.cells, Pt.slots] at Xq39 Sq39 gq39 l39 y39 z39 st39 hQ39 Cq39
 subst l39 y39 z39
 obtain ⟨t, k1, rfl, N39q, Kq39, Er, Cr, Vr, Vt⟩ := hQ39
 have N39 := Fr.app N1 N39q
 obtain ⟨X39, hS39, hZ, hown⟩ := rebS (vm0 := s.vm) ((State.WarmedH.refl s).since 0) (by rw [e17]; exact hk37) Xq39 Sq39 gq39 hZ hown
 have C41 := C33.trans Cq39
 refine own_stepH (fun t k => st39.trans k) ?_
 have K42 := K17.trans Kq39 (allS (Or.inr sz_b17) all0)
 refine own_retAH (s := s) X39 hx hS39 (Nat.le_refl _) Bd.returns rfl rfl (d11 hby 12) (BodyLoose.notSynchronized Bd) (by decide) (by decide) ?_
 refine ⟨?_, C41.trans (CHv.at (s := s) (vm0 := T39.vm) X39 hZ hEL C41.1)⟩
 exact ⟨b17, t, k1, rfl, N39, K42, Er, Cr, Vr, Vt⟩
theorem own_capu {C m b M B : Nat} (h1 : C ≤ b) (h2 : m ≤ M) (h3 : b ≤ B) (h4 : M ≤ B) (h5 : 2 * min b (M - 1) + 2 ≤ B) : own_cap C m ≤ B := by
 unfold own_cap own_nc
 split <;> omega
def own_pem (vl body : List Value) : List Value := ((((((([] ++ own_c22) ++ vl) ++ own_c28) ++ body) ++ own_c30) ++ vl) ++ own_c28)
def D7 : List (Nat × Instr × Nat) := [(0, .bipush 64, 2), (2, .iconst 1, 1), (3, .newarray .byte, 2), (5, .dup, 1), (6, .iconst 0, 1), (7, .bipush 10, 2), (9, .bastore, 1), (10, .invokestatic 7, 3), (13, .aload_n 1, 1), (14, .invokevirtual 13, 3), (17, .astore_n 2, 1), (18, .new 19, 3), (21, .dup, 1), (22, .invokespecial 21, 3), (25, .ldc 22, 2), (27, .invokevirtual 24, 3), (30, .aload_n 0, 1), (31, .invokevirtual 24, 3), (34, .ldc 28, 2), (36, .invokevirtual 24, 3), (39, .aload_n 2, 1), (40, .invokevirtual 24, 3), (43, .ldc 30, 2), (45, .invokevirtual 24, 3), (48, .aload_n 0, 1), (49, .invokevirtual 24, 3), (52, .ldc 28, 2), (54, .invokevirtual 24, 3), (57, .invokevirtual 32, 3), (60, .areturn, 1)]
theorem A7 : ∀ q ∈ D7, decode prog_21_method_2_code q.1 = .ok q.2 := by decide +kernel
theorem d7 {c : Code} (h0 : c.code = prog_21_method_2_code) (i : Nat) {pc n : Nat} {q : Instr} (h : D7[i]? = some (pc, q, n) := by rfl) : decode c.code pc = .ok (q, n) := hb h0 (A7 (pc, q, n) (List.mem_of_getElem? h))
theorem pn_rm7 : plainName "com/example/bevaka/bevaka/store/Pem" = true := by first | (simp [plainName, overriddenIn]; done) | decide +kernel
theorem ef_rm7 (m : MethodId) (o0 : Addr) (o1 : Addr) : entryFrame m #[(.ref o0), (.ref o1)] 3 = mkF m 0 #[.val (.ref o0), .val (.ref o1), .unset] [] := by first | (simp [entryFrame, mkF, argsToLocals, Value.category, maxLocals]; done) | rfl
def rm7_Q (Z : State) (o0 : Addr) (o1 : Addr) (cs : Int32) (fm : Value) (tb : Addr) (kt : ClassId) (fb : Addr) (lb : Addr) (kl : ClassId) (vl : List Value) (k : ClassId) (xs : List Int32) (h0 : Heap) (n0 : Nat) (v : Option Value) (h : Heap) (L : List Loc) : Prop := ∃ (r : Addr) (t : Addr) (k1 : ClassId), v = some (.ref r) ∧ Fr n0 L ∧ Keep h0 h [] ∧ h0.size ≤ r ∧ h0.size ≤ t ∧ Exa Z h r "java/lang/String" ∧ Fld Z h r "java/lang/String" "coder" "B" (.int 0) ∧ Fld Z h r "java/lang/String" "value" "[B" (.ref t) ∧ Arv Z h t k1 .byte (ofNat (own_pem vl (own_en xs (List.replicate (own_D xs.length) (.int 0)) xs.length)).length) (own_pem vl (own_en xs (List.replicate (own_D xs.length) (.int 0)) xs.length)) (.int 0)
set_option maxRecDepth 65536 in
set_option maxHeartbeats 40000000 in
theorem rm7 (l : Launch) (Z : State) (a0 : Array Value) (hw : ∀ d ∈ tables_1, d.before a0 Z = true) (ws : List Jvm.Cond) (o0 : Addr) (o1 : Addr) (cs : Int32) (fm : Value) (tb : Addr) (kt : ClassId) (fb : Addr) (lb : Addr) (kl : ClassId) (vl : List Value) (k : ClassId) (xs : List Int32) (h0 : Heap) (n0 : Nat) (Z0 : n0 ≤ h0.size) (O0 : Old Z n0 h0) (S_cs : Sta Z Z.heap "java/lang/String" "COMPACT_STRINGS" "Z" (.int cs)) (hcs : ¬ cs = (0 : Int32)) (S_fm : Sta Z Z.heap "jdk/internal/util/Preconditions" "SIOOBE_FORMATTER" "Ljava/util/function/BiFunction;" fm) (hfm : fm = .null ∨ ∃ f : Addr, fm = .ref f) (S_tb : Sta Z Z.heap "java/util/Base64$Encoder" "toBase64" "[C" (.ref tb)) (V_tb : Arv Z Z.heap tb kt .char (64 : Int32) own_tbl (.int 0)) (S_fb : Sta Z Z.heap "java/util/Base64$Decoder" "fromBase64" "[I" (.ref fb)) (V_fb : ∃ cl, Arr Z Z.heap fb cl .int ∧ ¬ ((10 : Int32) < 0 ∨ cl.slots.size ≤ (10 : Int32).toNatClampNeg) ∧ cl.slots[(10 : Int32).toNatClampNeg]? = some (.int (-1 : Int32))) (E_o0 : Exa Z h0 o0 "java/lang/String") (F_coder_o0 : Fld Z h0 o0 "java/lang/String" "coder" "B" (.int 0)) (F_value_o0 : Fld Z h0 o0 "java/lang/String" "value" "[B" (.ref lb)) (V_lb : Arv Z h0 lb kl .byte (ofNat 2) vl (.int 0)) (V_o1 : Arv Z h0 o1 k .byte (ofNat xs.length) (own_xs xs) (.int 0)) (hvl : vl.length = 2) (hL : own_ok xs.length) :
  MetFree l yM38 (head1 (Jvm.Cond.code yM38 prog_21_method_2_code 3 (some (.object "java/lang/String")) :: ws) rM6_27_4346_113) (fun a U => a = #[(.ref o0), (.ref o1)] ∧ Z.Warmed39 U.vm ∧ U.heap = h0 ∧ CHv Z own_EL U.vm h0 ∧ ∀ x ∈ ([] : List Addr), Safe Z own_EL U.vm h0 x) (fun _ _ _ _ _ => True) (fun _ U o U' => ∃ v L, o = .returned v ∧ rm7_Q Z o0 o1 cs fm tb kt fb lb kl vl k xs h0 n0 v U'.heap L ∧ CHr Z own_EL U.vm U.heap U'.vm U'.heap ∧ ReturnedEndW U o U' L rM6_27_4346_113.cells rM6_27_4346_113.slots) := by
 refine MetFree.of_bodySF (plainFor_of_name pn_rm7) hisR ?_
 intro p e s m args below meth c s₁ Bd hml0 hP hK
 obtain ⟨rfl, hZ, hh, hCH, hSS⟩ := hP
 have hx := Bd.exec
 have hby := Bd.bytes
 have hml : c.maxLocals = 3 := hml0
 have hown : s.vm.findClass "com/example/bevaka/bevaka/store/Pem" = some m.cls := findClass_of_methodNamed Bd.named
 have hnm := (name_of_methodNamed Bd.named Bd.method).1
 have X0 : Stand p l e rM6_27_4346_113 s m #[(.ref o0), (.ref o1)] below meth c s₁ [] 0 0 := Stand.of_body Bd
 have e0 : s₁.heap = h0 := by rw [← hh, Bd.state]; rfl
 have N0 := Fr.nil n0
 have K0 := Keep.refl h0 []
 have C0 := CHr.refl hCH
 have hEL := own_ew hw
 refine own_enterH (Q0 := rm7_Q Z o0 o1 cs fm tb kt fb lb kl vl k xs h0 n0) hh (ef_rm7 m o0 o1) ?_
 show own_RunH p e below s _ _ _ s₁ (mkF m 0 #[.val (.ref o0), .val (.ref o1), .unset] [])
 have hDb := own_Db xs.length
 refine oPH s₁ (mkF m 3 #[oR o0, oR o1, .unset] [(.int 1), (.int 64)]) (fun t k => ?_) ?_
 ·skip
  refine XS.bipush X0.here hx rfl (d7 hby 0) ?_
  refine XS.iconst X0.here hx rfl (d7 hby 1) ?_
  exact k
 obtain ⟨T1, h1, k1, X1, e1, E1, B1, A1, st1⟩ := newPE X0 hx hZ (own_w hw 19) e0 (g := (mkF m 3 #[oR o0, oR o1, .unset] [(.int 1), (.int 64)])) rfl (d7 hby 2 (q := .newarray .byte)) rfl (by decide) (cap := 1) (by decide) (by decide) (by decide) (by decide) (ad := "[B") (by decide)
 obtain ⟨b1, g1⟩ : ∃ z, z = h0.size := ⟨_, rfl⟩
 have ne2 : o0 ≠ b1 := Nat.ne_of_lt (Nat.lt_of_lt_of_le F_coder_o0.lt (Nat.le_of_eq g1.symm))
 have ne3 : lb ≠ b1 := Nat.ne_of_lt (Nat.lt_of_lt_of_le V_lb.lt (Nat.le_of_eq g1.symm))
 have ne4 : o1 ≠ b1 := Nat.ne_of_lt (Nat.lt_of_lt_of_le V_o1.lt (Nat.le_of_eq g1.symm))
 have g_b1 : n0 ≤ b1 := Nat.le_trans Z0 (Nat.le_of_eq g1.symm)
 have sz_b1 : h0.size ≤ b1 := Nat.le_trans K0.1 (Nat.le_of_eq g1.symm)
 rw [← g1] at A1 B1 st1
 have Sn1 : Safe Z own_EL s.vm h0 b1 := Safe.new (Nat.le_of_eq g1.symm)
 have F5 := F_coder_o0.ext E1
 have F6 := F_value_o0.ext E1
 have A7 := E_o0.ext E1
 have V8 := V_lb.ext E1
 have V9 := V_o1.ext E1
 have O10 := O0.ext E1
 have Sf11 := Safe.ext E1 C0.1 Sn1
 have C12 := C0.trans (CHr.ext E1 C0.1)
 have K1 := K0.ext E1
 have V13 : Arv Z h1 b1 k1 .byte (1 : Int32) [(.int 0)] (.int 0) := (Arv.new B1 (by decide)).pad (pad_rep [] (.int 0) 1)
 have Z14 := Nat.le_trans Z0 E1.1
 have hk15 := Nat.le_trans (Nat.zero_le _) E1.1
 refine own_stepH st1 ?_
 refine oPH T1 (mkF m 9 #[oR o0, oR o1, .unset] [(.int 10), (.int 0), (.ref b1), (.ref b1), (.int 64)]) (fun t k => ?_) ?_
 ·skip
  refine XS.dup X1.here hx rfl (d7 hby 3) rfl rfl ?_
  refine XS.iconst X1.here hx rfl (d7 hby 4) ?_
  refine XS.bipush X1.here hx rfl (d7 hby 5) ?_
  exact k
 obtain ⟨cl16, Arcl16, qcl16, Scl16, Mcl16, Hcl16, Gcl16⟩ := V13
 have hincl16 : ¬ ((0 : Int32) < 0 ∨ cl16.slots.size ≤ ((0 : Int32)).toNatClampNeg) := inb_of Scl16 ⟨by decide, by decide⟩
 obtain ⟨T17, h17, X17, e17, W17, st17⟩ := stB X1 hx hZ e1 Arcl16 (j := (0 : Int32)) hincl16 (g := (mkF m 9 #[oR o0, oR o1, .unset] [(.int 10), (.int 0), (.ref b1), (.ref b1), (.int 64)])) rfl rfl (d7 hby 6)
 have V18 := Arv.set Arcl16 qcl16 Scl16 Mcl16 Hcl16 Gcl16 (fits_nar_byte _) W17 0 rfl (Nat.le_of_ble_eq_true rfl)
 have V18l : Arv Z h17 b1 k1 .byte (1 : Int32) [(.int (nar .byte (10 : Int32)))] (.int 0) := V18
 have F19 := F5.other W17 (Or.inl ne2)
 have F20 := F6.other W17 (Or.inl ne2)
 have A21 := A7.wr W17
 have A22 := A1.wr W17
 have V23 := V8.other W17 ne3
 have V24 := V9.other W17 ne4
 have O25 := O10.wr W17 g_b1
 have C27 := C12.trans (CHr.wr W17 Sf11 C12.1)
 have Z28 := Nat.le_trans Z14 (Keep.of_wr W17).1
 have hk29 := Nat.le_trans hk15 (Keep.of_wr W17).1
 have K17 := K1.wr W17 (Or.inr sz_b1)
 have N17 := Fr.snoc X17 N0 g_b1
 refine own_stepH st17 ?_
 have V30 : Arv Z h17 b1 k1 .byte (1 : Int32) [(.int 10)] (.int 0) := by have q := V18l; rw [show nar .byte (10 : Int32) = (10 : Int32) from by decide] at q; exact q
 obtain ⟨_, _, ⟨T31, L31, k31, n31⟩, -, X31, ⟨Lc31, hQ31, l31, y31, z31⟩, st31⟩ := Jvm.LawKit.callS X17 hx (y := yM28) hown (mvT hZ (own_w hw 35)) (mvT hZ (own_w hw 36)) (mvT hZ (own_w hw 37)) (mvT hZ (own_w hw 38)) (by decide) (backOf (W := 0) (rm8 l Z a0 hw [] b1 fb k1 h17 n0 Z28 O25 S_fb V_fb V30 A22) hZ (own_w hw 38) (own_w hw 37) (by decide) (by decide)) (g := (mkF m 10 #[oR o0, oR o1, .unset] [(.ref b1), (.int 64)])) rfl (by rw [hml]; rfl) (argsL := [(.int 64), (.ref b1)]) (rest := []) (lenOf pd_25 rfl) rfl (by show 2 * 0 + _ ≤ _; exact Nat.le_of_eq rfl) (d7 hby 7) (fun _ _ => ⟨rfl, e17, (by decide : 1 + 1 ≤ _), (by decide : 1 + 4 ≤ _)⟩)
 dsimp only [Pt.U, Pt.locs, Pt.cells, Pt.slots] at X31 l31 y31 z31 st31 hQ31
 subst l31 y31 z31
 obtain ⟨en, rfl, N31q, g31, Kq31, Een, Fe0, Fe1, Fe2, Fe3⟩ := hQ31
 have N31 := Fr.app N17 N31q
 refine own_stepH st31 ?_
 have F36 := F19.keep Kq31 nin0
 have F37 := F20.keep Kq31 nin0
 have A38 := A21.keep Kq31
 have V40 := V23.keep Kq31 nin0
 have V41 := V24.keep Kq31 nin0
 have V42 := V30.keep Kq31 nin0
 have O43 := O25.keep Kq31 all0
 have Z44 := Nat.le_trans Z28 Kq31.1
 have hk45 := Nat.le_trans hk29 Kq31.1
 have C47 := C27.trans (CHr.keep Kq31 all0 C27.1)
 have K48 := K17.trans Kq31 all0
 refine oPH T31 (mkF m 14 #[oR o0, oR o1, .unset] [(.ref o1), (.ref en)]) (fun t k => ?_) ?_
 ·skip
  refine XS.aloadN X31.here hx rfl (d7 hby 8) rfl rfl ?_
  exact k
 obtain ⟨cq49, kq49, q49a, q49b, q49c⟩ := isOf hZ rfl Een
 obtain ⟨_, _, ⟨T49, L49, k49, n49⟩, -, Xq49, Sq49, gq49, ⟨Lc49, hQ49, l49, y49, z49, Cq49⟩, st49⟩ := Stand.virtualBackS (show Stand _ _ _ _ (s.setVm s.vm) _ _ _ _ _ _ _ _ _ from X31) hx (y := yM37) (z := yM37) hown (mvT hZ (own_w hw 61)) (mvT hZ (own_w hw 62)) (notFace_of_selects (args := #[]) (mvT hZ (own_w hw 64))) (mvT hZ (own_w hw 64)) (mvT hZ (own_w hw 63)) (by decide) (own_backH (s := s) (vm0 := s.vm) (EL := own_EL) (xs := []) (W := 0) (rm11 l Z a0 hw [] en o1 cs fm tb kt b1 k1 k xs T31.heap n0 Z44 O43 S_cs hcs S_fm hfm S_tb V_tb Een Fe0 Fe1 Fe2 Fe3 V42 V41 hL) hZ (own_w hw 65) (own_w hw 47) (by decide) (by decide) hEL C47.1 all0) q49a q49c (g := (mkF m 14 #[oR o0, oR o1, .unset] [(.ref o1), (.ref en)])) rfl (by rw [hml]; rfl) (Steps.refl _) (argsL := [(.ref o1)]) (rest := []) (lenOf pd_26 rfl) rfl (by show 2 * 0 + _ ≤ _; exact Nat.le_of_eq rfl) (d7 hby 9) (fun _ _ => ⟨rfl, rfl, (by decide : 2 + 6 ≤ _), (by decide : 5 + 329 ≤ _)⟩)
 dsimp only [Pt.U, Pt.locs, Pt.cells, Pt.slots] at Xq49 Sq49 gq49 l49 y49 z49 st49 hQ49 Cq49
 subst l49 y49 z49
 obtain ⟨r, t, kr, rfl, N49q, Kq49, Er, Cr, Vr, Vt⟩ := hQ49
 have N49 := Fr.app N31 N49q
 obtain ⟨X49, hS49, hZ, hown⟩ := rebS (vm0 := s.vm) ((State.WarmedH.refl s).since 0) hk45 Xq49 Sq49 gq49 hZ hown
 have C51 := C47.trans Cq49
 refine own_stepH (fun t k => st49.trans k) ?_
 have F52 := F36.keep Kq49 nin0
 have F53 := F37.keep Kq49 nin0
 have A58 := A38.keep Kq49
 have V61 := V40.keep Kq49 nin0
 have O64 := O43.keep Kq49 all0
 have Z65 := Nat.le_trans Z44 Kq49.1
 have K66 := K48.trans Kq49 all0
 refine oPH T49 (mkF m 18 #[oR o0, oR o1, oR r] []) (fun t k => ?_) ?_
 ·skip
  refine XS.astoreN X49.here hx rfl (d7 hby 10) rfl rfl (l' := #[oR o0, oR o1, oR r]) rfl ?_
  exact k
 obtain ⟨T67, h67, X67, e67, E67, A67, D67, -, st67⟩ := newO X49 hx hZ hown (own_w hw 104) (own_w hw 105) (own_w hw 106) rfl (g := (mkF m 18 #[oR o0, oR o1, oR r] [])) rfl (d7 hby 11) (by decide) (by decide)
 obtain ⟨b67, g67⟩ : ∃ z, z = T49.heap.size := ⟨_, rfl⟩
 have ne68 : o0 ≠ b67 := Nat.ne_of_lt (Nat.lt_of_lt_of_le F52.lt (Nat.le_of_eq g67.symm))
 have ne69 : r ≠ b67 := Nat.ne_of_lt (Nat.lt_of_lt_of_le Cr.lt (Nat.le_of_eq g67.symm))
 have ne70 : lb ≠ b67 := Nat.ne_of_lt (Nat.lt_of_lt_of_le V61.lt (Nat.le_of_eq g67.symm))
 have ne71 : t ≠ b67 := Nat.ne_of_lt (Nat.lt_of_lt_of_le Vt.lt (Nat.le_of_eq g67.symm))
 have g_b67 : n0 ≤ b67 := Nat.le_trans Z65 (Nat.le_of_eq g67.symm)
 have sz_b67 : h0.size ≤ b67 := Nat.le_trans K66.1 (Nat.le_of_eq g67.symm)
 rw [← g67] at A67 D67 st67
 have Sn67 : Safe Z own_EL T49.vm T49.heap b67 := Safe.new (Nat.le_of_eq g67.symm)
 have F72 := F52.ext E67
 have F73 := F53.ext E67
 have F74 := Cr.ext E67
 have F75 := Vr.ext E67
 have A76 := A58.ext E67
 have A77 := Er.ext E67
 have V78 := V61.ext E67
 have V79 := Vt.ext E67
 have O80 := O64.ext E67
 have Sf81 := Safe.ext E67 C51.1 Sn67
 have C82 := C51.trans (CHr.ext E67 C51.1)
 have K67 := K66.ext E67
 have F83 : Fld Z h67 b67 "java/lang/AbstractStringBuilder" "value" "[B" .null := D67 (Or.inl (own_w hw 119)) (ty := (.array .byte)) (by decide)
 have F84 : Fld Z h67 b67 "java/lang/AbstractStringBuilder" "coder" "B" (.int 0) := D67 (Or.inl (own_w hw 121)) (ty := .byte) (by decide)
 have F85 : Fld Z h67 b67 "java/lang/AbstractStringBuilder" "count" "I" (.int 0) := D67 (Or.inl (own_w hw 144)) (ty := .int) (by decide)
 have Z86 := Nat.le_trans Z65 E67.1
 have hk87 := Nat.le_trans (Nat.le_refl _) E67.1
 refine own_stepH st67 ?_
 refine oPH T67 (mkF m 22 #[oR o0, oR o1, oR r] [(.ref b67), (.ref b67)]) (fun t k => ?_) ?_
 ·skip
  refine XS.dup X67.here hx rfl (d7 hby 12) rfl rfl ?_
  exact k
 obtain ⟨_, _, ⟨T88, L88, k88, n88⟩, -, X88, ⟨Lc88, hQ88, l88, y88, z88⟩, st88⟩ := X67.specialBack hx (y := yM14) rfl hown (mvT hZ (own_w hw 107)) (mvT hZ (own_w hw 108)) (mvT hZ (own_w hw 109)) (by decide) (backOf (W := 1) (rm20 l Z a0 hw [] b67 cs h67 n0 Z86 O80 S_cs hcs A67 F83 F84 F85 g_b67) hZ (own_w hw 109) (own_w hw 106) (by decide) (by decide)) (g := (mkF m 22 #[oR o0, oR o1, oR r] [(.ref b67), (.ref b67)])) rfl (by rw [hml]; rfl) (Steps.refl _) (a := b67) (argsL := []) (rest := [(.ref b67)]) (lenOf pd_27 rfl) rfl (by show 2 * 0 + _ ≤ _; exact Nat.le_of_eq rfl) (d7 hby 13) (fun _ _ => ⟨rfl, e67, (by decide : 9 + 1 ≤ _), (by decide : 338 + 16 ≤ _)⟩)
 dsimp only [Pt.U, Pt.locs, Pt.cells, Pt.slots] at X88 l88 y88 z88 st88 hQ88
 subst l88 y88 z88
 obtain ⟨bb, kb, rfl, N88q, Kq88, Eb, Fb0, Fb1, Fb2, Vb, Ab, szb⟩ := hQ88
 have N88 := Fr.app N49 N88q
 refine own_stepH (fun t k => st88.trans k) ?_
 have ne89 : o0 ≠ bb := Nat.ne_of_lt (Nat.lt_of_lt_of_le F72.lt szb)
 have ne90 : r ≠ bb := Nat.ne_of_lt (Nat.lt_of_lt_of_le F74.lt szb)
 have ne91 : b67 ≠ bb := Nat.ne_of_lt (Nat.lt_of_lt_of_le F83.lt szb)
 have ne92 : lb ≠ bb := Nat.ne_of_lt (Nat.lt_of_lt_of_le V78.lt szb)
 have ne93 : t ≠ bb := Nat.ne_of_lt (Nat.lt_of_lt_of_le V79.lt szb)
 have g_bb : n0 ≤ bb := Nat.le_trans Z86 szb
 have sz_bb : h0.size ≤ bb := Nat.le_trans K67.1 szb
 have Sbb : Safe Z own_EL T49.vm h67 bb := Safe.new szb
 have F94 := F72.keep Kq88 (ninS ne68 nin0)
 have F95 := F73.keep Kq88 (ninS ne68 nin0)
 have F96 := F74.keep Kq88 (ninS ne69 nin0)
 have F97 := F75.keep Kq88 (ninS ne69 nin0)
 have A98 := A76.keep Kq88
 have A99 := A77.keep Kq88
 have V101 := V78.keep Kq88 (ninS ne70 nin0)
 have V102 := V79.keep Kq88 (ninS ne71 nin0)
 have O103 := O80.keep Kq88 (allS g_b67 all0)
 have Z104 := Nat.le_trans Z86 Kq88.1
 have hk105 := Nat.le_trans hk87 Kq88.1
 have Sf106 := Safe.keep Kq88 (allS Sf81 all0) C82.1 Sf81
 have Sf107 := Safe.keep Kq88 (allS Sf81 all0) C82.1 Sbb
 have C108 := C82.trans (CHr.keep Kq88 (allS Sf81 all0) C82.1)
 have K109 := K67.trans Kq88 (allS (Or.inr sz_b67) all0)
 have hl0 : ([] : List Value).length = 0 := rfl
 have hu0 : (16 : Nat) ≤ 16 := Nat.le_refl _
 have hp0 : ([] : List Value).length ≤ 16 := by decide
 obtain ⟨a110, T110, h110, k110, b110, kb110, X110, e110, E110, hS110, hk110, hZ, hown, Ea110, Fc110, Fv110, Va110, la110, lb110, Cq110, -, ns110, st110⟩ := ldcCH (s := s) (vm0 := T49.vm) (EL := own_EL) X88 hx hZ hown (own_w hw 122) (fun d hd => hw d (own_strings d hd)) rfl hS49 hk105 hEL (List.mem_of_getElem? (i := 0) rfl) C108.1 (vs := own_c22) (z := (ofNat 11)) ⟨by decide +kernel, rfl⟩ (by decide) rfl (g := (mkF m 25 #[oR o0, oR o1, oR r] [(.ref b67)])) rfl (d7 hby 14) (n := 44) (by decide +kernel) (by decide) (by decide) (by decide)
 have Sf111 := Cq110.safe Fb0.lt Sf106
 have Sf112 := Cq110.safe Ab.lt Sf107
 have F113 := F94.ext E110
 have F114 := F95.ext E110
 have F115 := F96.ext E110
 have F116 := F97.ext E110
 have F117 := Fb0.ext E110
 have F118 := Fb1.ext E110
 have F119 := Fb2.ext E110
 have A120 := A98.ext E110
 have A121 := A99.ext E110
 have A122 := Eb.ext E110
 have A123 := Ab.ext E110
 have V124 := V101.ext E110
 have V125 := V102.ext E110
 have V126 := Vb.ext E110
 have O127 := O103.ext E110
 have C128 := C108.trans Cq110
 have Z129 := Nat.le_trans Z104 E110.1
 have K110 := K109.ext E110
 refine own_stepH st110 ?_
 have hm0 : ([] : List Value).length + 11 ≤ 250 := by rw [hl0]; omega
 have hq0 : 16 ≤ 250 := Nat.le_trans hu0 (by decide)
 obtain ⟨cq130, kq130, q130a, q130b, q130c⟩ := isOf hZ e110 A122
 obtain ⟨_, _, ⟨T130, L130, k130, n130⟩, -, X130, ⟨Lc130, hQ130, l130, y130, z130⟩, st130⟩ := X110.virtualBack hx (y := yM12) (z := yM12) hown (mvT hZ (own_w hw 123)) (mvT hZ (own_w hw 124)) (notFace_of_selects (args := #[]) (mvT hZ (own_w hw 126))) (mvT hZ (own_w hw 126)) (mvT hZ (own_w hw 125)) (by decide) (backOf (W := 0) (rm22 l Z a0 hw [] b67 a110 cs bb b110 kb110 11 own_c22 kb 16 ([] : List Value) h110 n0 Z129 O127 S_cs hcs A122 F117 F118 F119 g_b67 V126 A123 g_bb Ea110 Fc110 Fv110 Va110 (Ne.symm (ns110 _ Sf111).1) (Ne.symm (ns110 _ Sf111).2) (Ne.symm ne91) (Ne.symm (ns110 _ Sf112).1) (Ne.symm (ns110 _ Sf112).2) rfl hp0 hq0 hm0) hZ (own_w hw 127) (own_w hw 106) (by decide) (by decide)) q130a q130c (g := (mkF m 27 #[oR o0, oR o1, oR r] [(.ref a110), (.ref b67)])) rfl (by rw [hml]; rfl) (Steps.refl _) (argsL := [(.ref a110)]) (rest := []) (lenOf pd_28 rfl) rfl (by show 2 * 0 + _ ≤ _; exact Nat.le_of_eq rfl) (d7 hby 15) (fun _ _ => ⟨rfl, e110, (by decide : 12 + 1 ≤ _), (by decide : 402 + 512 ≤ _)⟩)
 dsimp only [Pt.U, Pt.locs, Pt.cells, Pt.slots] at X130 l130 y130 z130 st130 hQ130
 subst l130 y130 z130
 obtain ⟨bf130, kf130, Cf130, rfl, N130q, Kq130, E1130, F1130, G1130, H1130, V1130, A1130, hC130, g_bf130, nb130, hb130⟩ := hQ130
 have N130 := Fr.app N88 N130q
 refine own_stepH (fun t k => st130.trans k) ?_
 have ne131 : o0 ≠ bf130 := own_ne2 hb130 ne89 F113.lt
 have ne132 : lb ≠ bf130 := own_ne2 hb130 ne92 V124.lt
 have ne133 : r ≠ bf130 := own_ne2 hb130 ne90 F115.lt
 have ne134 : t ≠ bf130 := own_ne2 hb130 ne93 V125.lt
 have Sbf130 : Safe Z own_EL T110.vm h110 bf130 := hb130.elim (fun q => q ▸ Sf112) Safe.new
 have sz_bf130 : h0.size ≤ bf130 := hb130.elim (fun q => q ▸ sz_bb) (fun q => Nat.le_trans K110.1 q)
 have F135 := F113.keep Kq130 (ninS ne68 (ninS ne89 nin0))
 have F136 := F114.keep Kq130 (ninS ne68 (ninS ne89 nin0))
 have F137 := F115.keep Kq130 (ninS ne69 (ninS ne90 nin0))
 have F138 := F116.keep Kq130 (ninS ne69 (ninS ne90 nin0))
 have A139 := A120.keep Kq130
 have A140 := A121.keep Kq130
 have V143 := V124.keep Kq130 (ninS ne70 (ninS ne92 nin0))
 have V144 := V125.keep Kq130 (ninS ne71 (ninS ne93 nin0))
 have O145 := O127.keep Kq130 (allS g_b67 (allS g_bb all0))
 have Z146 := Nat.le_trans Z129 Kq130.1
 have hk147 := Nat.le_trans hk110 Kq130.1
 have Sf148 := Safe.keep Kq130 (allS Sf111 (allS Sf112 all0)) C128.1 Sf111
 have Sf150 := Safe.keep Kq130 (allS Sf111 (allS Sf112 all0)) C128.1 Sbf130
 have C151 := C128.trans (CHr.keep Kq130 (allS Sf111 (allS Sf112 all0)) C128.1)
 have K152 := K110.trans Kq130 (allS (Or.inr sz_b67) (allS (Or.inr sz_bb) all0))
 have hl1 : (([] : List Value) ++ own_c22).length = 0 + 11 := by rw [List.length_append, hl0, show (own_c22 : List Value).length = 11 from rfl]
 have hp1 : (([] : List Value) ++ own_c22).length ≤ Cf130 := by rw [hl1, hC130, hl0]; exact own_capl _ _
 have hu1 : Cf130 ≤ 22 := by rw [hC130, hl0]; exact own_capu hu0 (by omega : 0 + 11 ≤ 11) (by decide) (by decide) (by decide)
 have Ct130 : Fld Z T130.heap b67 "java/lang/AbstractStringBuilder" "count" "I" (.int (ofNat (([] : List Value) ++ own_c22).length)) := by rw [List.length_append, show (own_c22 : List Value).length = 11 from rfl]; exact H1130
 refine oPH T130 (mkF m 31 #[oR o0, oR o1, oR r] [(.ref o0), (.ref b67)]) (fun t k => ?_) ?_
 ·skip
  refine XS.aloadN X130.here hx rfl (d7 hby 16) rfl rfl ?_
  exact k
 have hm1 : (([] : List Value) ++ own_c22).length + 2 ≤ 250 := by rw [hl1]; omega
 have hq1 : Cf130 ≤ 250 := Nat.le_trans hu1 (by decide)
 obtain ⟨cq153, kq153, q153a, q153b, q153c⟩ := isOf hZ rfl E1130
 obtain ⟨_, _, ⟨T153, L153, k153, n153⟩, -, X153, ⟨Lc153, hQ153, l153, y153, z153⟩, st153⟩ := X130.virtualBack hx (y := yM12) (z := yM12) hown (mvT hZ (own_w hw 123)) (mvT hZ (own_w hw 124)) (notFace_of_selects (args := #[]) (mvT hZ (own_w hw 126))) (mvT hZ (own_w hw 126)) (mvT hZ (own_w hw 125)) (by decide) (backOf (W := 0) (rm22 l Z a0 hw [] b67 o0 cs bf130 lb kl 2 vl kf130 Cf130 (([] : List Value) ++ own_c22) T130.heap n0 Z146 O145 S_cs hcs E1130 F1130 G1130 Ct130 g_b67 V1130 A1130 g_bf130 A139 F135 F136 V143 ne68 ne70 nb130 ne131 ne132 hvl hp1 hq1 hm1) hZ (own_w hw 127) (own_w hw 106) (by decide) (by decide)) q153a q153c (g := (mkF m 31 #[oR o0, oR o1, oR r] [(.ref o0), (.ref b67)])) rfl (by rw [hml]; rfl) (Steps.refl _) (argsL := [(.ref o0)]) (rest := []) (lenOf pd_28 rfl) rfl (by show 2 * 0 + _ ≤ _; exact Nat.le_of_eq rfl) (d7 hby 17) (fun _ _ => ⟨rfl, rfl, (by decide : 13 + 1 ≤ _), (by decide : 914 + 512 ≤ _)⟩)
 dsimp only [Pt.U, Pt.locs, Pt.cells, Pt.slots] at X153 l153 y153 z153 st153 hQ153
 subst l153 y153 z153
 obtain ⟨bf153, kf153, Cf153, rfl, N153q, Kq153, E1153, F1153, G1153, H1153, V1153, A1153, hC153, g_bf153, nb153, hb153⟩ := hQ153
 have N153 := Fr.app N130 N153q
 refine own_stepH (fun t k => st153.trans k) ?_
 have ne154 : o0 ≠ bf153 := own_ne2 hb153 ne131 F135.lt
 have ne155 : lb ≠ bf153 := own_ne2 hb153 ne132 V143.lt
 have ne156 : r ≠ bf153 := own_ne2 hb153 ne133 F137.lt
 have ne157 : t ≠ bf153 := own_ne2 hb153 ne134 V144.lt
 have Sbf153 : Safe Z own_EL T110.vm T130.heap bf153 := hb153.elim (fun q => q ▸ Sf150) Safe.new
 have sz_bf153 : h0.size ≤ bf153 := hb153.elim (fun q => q ▸ sz_bf130) (fun q => Nat.le_trans K152.1 q)
 have F158 := F135.keep Kq153 (ninS ne68 (ninS ne131 nin0))
 have F159 := F136.keep Kq153 (ninS ne68 (ninS ne131 nin0))
 have F160 := F137.keep Kq153 (ninS ne69 (ninS ne133 nin0))
 have F161 := F138.keep Kq153 (ninS ne69 (ninS ne133 nin0))
 have A162 := A139.keep Kq153
 have A163 := A140.keep Kq153
 have V166 := V143.keep Kq153 (ninS ne70 (ninS ne132 nin0))
 have V167 := V144.keep Kq153 (ninS ne71 (ninS ne134 nin0))
 have O168 := O145.keep Kq153 (allS g_b67 (allS g_bf130 all0))
 have Z169 := Nat.le_trans Z146 Kq153.1
 have hk170 := Nat.le_trans hk147 Kq153.1
 have Sf171 := Safe.keep Kq153 (allS Sf148 (allS Sf150 all0)) C151.1 Sf148
 have Sf173 := Safe.keep Kq153 (allS Sf148 (allS Sf150 all0)) C151.1 Sbf153
 have C174 := C151.trans (CHr.keep Kq153 (allS Sf148 (allS Sf150 all0)) C151.1)
 have K175 := K152.trans Kq153 (allS (Or.inr sz_b67) (allS (Or.inr sz_bf130) all0))
 have hl2 : ((([] : List Value) ++ own_c22) ++ vl).length = 0 + 11 + 2 := by rw [List.length_append, hl1, show (vl : List Value).length = 2 from hvl]
 have hp2 : ((([] : List Value) ++ own_c22) ++ vl).length ≤ Cf153 := by rw [hl2, hC153, hl1]; exact own_capl _ _
 have hu2 : Cf153 ≤ 26 := by rw [hC153, hl1]; exact own_capu hu1 (by omega : 0 + 11 + 2 ≤ 13) (by decide) (by decide) (by decide)
 have Ct153 : Fld Z T153.heap b67 "java/lang/AbstractStringBuilder" "count" "I" (.int (ofNat ((([] : List Value) ++ own_c22) ++ vl).length)) := by rw [List.length_append, show (vl : List Value).length = 2 from hvl]; exact H1153
 obtain ⟨a176, T176, h176, k176, b176, kb176, X176, e176, E176, hS176, hk176, hZ, hown, Ea176, Fc176, Fv176, Va176, la176, lb176, Cq176, -, ns176, st176⟩ := ldcCH (s := s) (vm0 := T110.vm) (EL := own_EL) X153 hx hZ hown (own_w hw 170) (fun d hd => hw d (own_strings d hd)) rfl hS110 hk170 hEL (List.mem_of_getElem? (i := 1) rfl) C174.1 (vs := own_c28) (z := (ofNat 6)) ⟨by decide +kernel, rfl⟩ (by decide) rfl (g := (mkF m 34 #[oR o0, oR o1, oR r] [(.ref b67)])) rfl (d7 hby 18) (n := 24) (by decide +kernel) (by decide) (by decide) (by decide)
 have Sf177 := Cq176.safe F1153.lt Sf171
 have Sf178 := Cq176.safe A1153.lt Sf173
 have F179 := F158.ext E176
 have F180 := F159.ext E176
 have F181 := F160.ext E176
 have F182 := F161.ext E176
 have F183 := F1153.ext E176
 have F184 := G1153.ext E176
 have F185 := Ct153.ext E176
 have A186 := A162.ext E176
 have A187 := A163.ext E176
 have A188 := E1153.ext E176
 have A189 := A1153.ext E176
 have V190 := V166.ext E176
 have V191 := V167.ext E176
 have V192 := V1153.ext E176
 have O193 := O168.ext E176
 have C194 := C174.trans Cq176
 have Z195 := Nat.le_trans Z169 E176.1
 have K176 := K175.ext E176
 refine own_stepH st176 ?_
 have hm2 : ((([] : List Value) ++ own_c22) ++ vl).length + 6 ≤ 250 := by rw [hl2]; omega
 have hq2 : Cf153 ≤ 250 := Nat.le_trans hu2 (by decide)
 obtain ⟨cq196, kq196, q196a, q196b, q196c⟩ := isOf hZ e176 A188
 obtain ⟨_, _, ⟨T196, L196, k196, n196⟩, -, X196, ⟨Lc196, hQ196, l196, y196, z196⟩, st196⟩ := X176.virtualBack hx (y := yM12) (z := yM12) hown (mvT hZ (own_w hw 123)) (mvT hZ (own_w hw 124)) (notFace_of_selects (args := #[]) (mvT hZ (own_w hw 126))) (mvT hZ (own_w hw 126)) (mvT hZ (own_w hw 125)) (by decide) (backOf (W := 0) (rm22 l Z a0 hw [] b67 a176 cs bf153 b176 kb176 6 own_c28 kf153 Cf153 ((([] : List Value) ++ own_c22) ++ vl) h176 n0 Z195 O193 S_cs hcs A188 F183 F184 F185 g_b67 V192 A189 g_bf153 Ea176 Fc176 Fv176 Va176 (Ne.symm (ns176 _ Sf177).1) (Ne.symm (ns176 _ Sf177).2) nb153 (Ne.symm (ns176 _ Sf178).1) (Ne.symm (ns176 _ Sf178).2) rfl hp2 hq2 hm2) hZ (own_w hw 127) (own_w hw 106) (by decide) (by decide)) q196a q196c (g := (mkF m 36 #[oR o0, oR o1, oR r] [(.ref a176), (.ref b67)])) rfl (by rw [hml]; rfl) (Steps.refl _) (argsL := [(.ref a176)]) (rest := []) (lenOf pd_28 rfl) rfl (by show 2 * 0 + _ ≤ _; exact Nat.le_of_eq rfl) (d7 hby 19) (fun _ _ => ⟨rfl, e176, (by decide : 16 + 1 ≤ _), (by decide : 1454 + 512 ≤ _)⟩)
 dsimp only [Pt.U, Pt.locs, Pt.cells, Pt.slots] at X196 l196 y196 z196 st196 hQ196
 subst l196 y196 z196
 obtain ⟨bf196, kf196, Cf196, rfl, N196q, Kq196, E1196, F1196, G1196, H1196, V1196, A1196, hC196, g_bf196, nb196, hb196⟩ := hQ196
 have N196 := Fr.app N153 N196q
 refine own_stepH (fun t k => st196.trans k) ?_
 have ne197 : o0 ≠ bf196 := own_ne2 hb196 ne154 F179.lt
 have ne198 : lb ≠ bf196 := own_ne2 hb196 ne155 V190.lt
 have ne199 : r ≠ bf196 := own_ne2 hb196 ne156 F181.lt
 have ne200 : t ≠ bf196 := own_ne2 hb196 ne157 V191.lt
 have Sbf196 : Safe Z own_EL T176.vm h176 bf196 := hb196.elim (fun q => q ▸ Sf178) Safe.new
 have sz_bf196 : h0.size ≤ bf196 := hb196.elim (fun q => q ▸ sz_bf153) (fun q => Nat.le_trans K176.1 q)
 have F201 := F179.keep Kq196 (ninS ne68 (ninS ne154 nin0))
 have F202 := F180.keep Kq196 (ninS ne68 (ninS ne154 nin0))
 have F203 := F181.keep Kq196 (ninS ne69 (ninS ne156 nin0))
 have F204 := F182.keep Kq196 (ninS ne69 (ninS ne156 nin0))
 have A205 := A186.keep Kq196
 have A206 := A187.keep Kq196
 have V209 := V190.keep Kq196 (ninS ne70 (ninS ne155 nin0))
 have V210 := V191.keep Kq196 (ninS ne71 (ninS ne157 nin0))
 have O211 := O193.keep Kq196 (allS g_b67 (allS g_bf153 all0))
 have Z212 := Nat.le_trans Z195 Kq196.1
 have hk213 := Nat.le_trans hk176 Kq196.1
 have Sf214 := Safe.keep Kq196 (allS Sf177 (allS Sf178 all0)) C194.1 Sf177
 have Sf216 := Safe.keep Kq196 (allS Sf177 (allS Sf178 all0)) C194.1 Sbf196
 have C217 := C194.trans (CHr.keep Kq196 (allS Sf177 (allS Sf178 all0)) C194.1)
 have K218 := K176.trans Kq196 (allS (Or.inr sz_b67) (allS (Or.inr sz_bf153) all0))
 have hl3 : (((([] : List Value) ++ own_c22) ++ vl) ++ own_c28).length = 0 + 11 + 2 + 6 := by rw [List.length_append, hl2, show (own_c28 : List Value).length = 6 from rfl]
 have hp3 : (((([] : List Value) ++ own_c22) ++ vl) ++ own_c28).length ≤ Cf196 := by rw [hl3, hC196, hl2]; exact own_capl _ _
 have hu3 : Cf196 ≤ 38 := by rw [hC196, hl2]; exact own_capu hu2 (by omega : 0 + 11 + 2 + 6 ≤ 19) (by decide) (by decide) (by decide)
 have Ct196 : Fld Z T196.heap b67 "java/lang/AbstractStringBuilder" "count" "I" (.int (ofNat (((([] : List Value) ++ own_c22) ++ vl) ++ own_c28).length)) := by rw [List.length_append, show (own_c28 : List Value).length = 6 from rfl]; exact H1196
 refine oPH T196 (mkF m 40 #[oR o0, oR o1, oR r] [(.ref r), (.ref b67)]) (fun t k => ?_) ?_
 ·skip
  refine XS.aloadN X196.here hx rfl (d7 hby 20) rfl rfl ?_
  exact k
 have hm3 : (((([] : List Value) ++ own_c22) ++ vl) ++ own_c28).length + (own_D xs.length) ≤ 250 := by rw [hl3]; omega
 have hq3 : Cf196 ≤ 250 := Nat.le_trans hu3 (by decide)
 obtain ⟨cq219, kq219, q219a, q219b, q219c⟩ := isOf hZ rfl E1196
 obtain ⟨_, _, ⟨T219, L219, k219, n219⟩, -, X219, ⟨Lc219, hQ219, l219, y219, z219⟩, st219⟩ := X196.virtualBack hx (y := yM12) (z := yM12) hown (mvT hZ (own_w hw 123)) (mvT hZ (own_w hw 124)) (notFace_of_selects (args := #[]) (mvT hZ (own_w hw 126))) (mvT hZ (own_w hw 126)) (mvT hZ (own_w hw 125)) (by decide) (backOf (W := 0) (rm22 l Z a0 hw [] b67 r cs bf196 t kr (own_D xs.length) (own_en xs (List.replicate (own_D xs.length) (.int 0)) xs.length) kf196 Cf196 (((([] : List Value) ++ own_c22) ++ vl) ++ own_c28) T196.heap n0 Z212 O211 S_cs hcs E1196 F1196 G1196 Ct196 g_b67 V1196 A1196 g_bf196 A206 F203 F204 V210 ne69 ne71 nb196 ne199 ne200 (own_enl hL) hp3 hq3 hm3) hZ (own_w hw 127) (own_w hw 106) (by decide) (by decide)) q219a q219c (g := (mkF m 40 #[oR o0, oR o1, oR r] [(.ref r), (.ref b67)])) rfl (by rw [hml]; rfl) (Steps.refl _) (argsL := [(.ref r)]) (rest := []) (lenOf pd_28 rfl) rfl (by show 2 * 0 + _ ≤ _; exact Nat.le_of_eq rfl) (d7 hby 21) (fun _ _ => ⟨rfl, rfl, (by decide : 17 + 1 ≤ _), (by decide : 1966 + 512 ≤ _)⟩)
 dsimp only [Pt.U, Pt.locs, Pt.cells, Pt.slots] at X219 l219 y219 z219 st219 hQ219
 subst l219 y219 z219
 obtain ⟨bf219, kf219, Cf219, rfl, N219q, Kq219, E1219, F1219, G1219, H1219, V1219, A1219, hC219, g_bf219, nb219, hb219⟩ := hQ219
 have N219 := Fr.app N196 N219q
 refine own_stepH (fun t k => st219.trans k) ?_
 have ne220 : o0 ≠ bf219 := own_ne2 hb219 ne197 F201.lt
 have ne221 : lb ≠ bf219 := own_ne2 hb219 ne198 V209.lt
 have Sbf219 : Safe Z own_EL T176.vm T196.heap bf219 := hb219.elim (fun q => q ▸ Sf216) Safe.new
 have sz_bf219 : h0.size ≤ bf219 := hb219.elim (fun q => q ▸ sz_bf196) (fun q => Nat.le_trans K218.1 q)
 have F224 := F201.keep Kq219 (ninS ne68 (ninS ne197 nin0))
 have F225 := F202.keep Kq219 (ninS ne68 (ninS ne197 nin0))
 have A228 := A205.keep Kq219
 have V232 := V209.keep Kq219 (ninS ne70 (ninS ne198 nin0))
 have O234 := O211.keep Kq219 (allS g_b67 (allS g_bf196 all0))
 have Z235 := Nat.le_trans Z212 Kq219.1
 have hk236 := Nat.le_trans hk213 Kq219.1
 have Sf237 := Safe.keep Kq219 (allS Sf214 (allS Sf216 all0)) C217.1 Sf214
 have Sf239 := Safe.keep Kq219 (allS Sf214 (allS Sf216 all0)) C217.1 Sbf219
 have C240 := C217.trans (CHr.keep Kq219 (allS Sf214 (allS Sf216 all0)) C217.1)
 have K241 := K218.trans Kq219 (allS (Or.inr sz_b67) (allS (Or.inr sz_bf196) all0))
 have hl4 : ((((([] : List Value) ++ own_c22) ++ vl) ++ own_c28) ++ (own_en xs (List.replicate (own_D xs.length) (.int 0)) xs.length)).length = 0 + 11 + 2 + 6 + (own_D xs.length) := by rw [List.length_append, hl3, show ((own_en xs (List.replicate (own_D xs.length) (.int 0)) xs.length) : List Value).length = (own_D xs.length) from (own_enl hL)]
 have hp4 : ((((([] : List Value) ++ own_c22) ++ vl) ++ own_c28) ++ (own_en xs (List.replicate (own_D xs.length) (.int 0)) xs.length)).length ≤ Cf219 := by rw [hl4, hC219, hl3]; exact own_capl _ _
 have hu4 : Cf219 ≤ 88 := by rw [hC219, hl3]; exact own_capu hu3 (by omega : 0 + 11 + 2 + 6 + (own_D xs.length) ≤ 88) (by decide) (by decide) (by decide)
 have Ct219 : Fld Z T219.heap b67 "java/lang/AbstractStringBuilder" "count" "I" (.int (ofNat ((((([] : List Value) ++ own_c22) ++ vl) ++ own_c28) ++ (own_en xs (List.replicate (own_D xs.length) (.int 0)) xs.length)).length)) := by rw [List.length_append, show ((own_en xs (List.replicate (own_D xs.length) (.int 0)) xs.length) : List Value).length = (own_D xs.length) from (own_enl hL)]; exact H1219
 obtain ⟨a242, T242, h242, k242, b242, kb242, X242, e242, E242, hS242, hk242, hZ, hown, Ea242, Fc242, Fv242, Va242, la242, lb242, Cq242, -, ns242, st242⟩ := ldcCH (s := s) (vm0 := T176.vm) (EL := own_EL) X219 hx hZ hown (own_w hw 193) (fun d hd => hw d (own_strings d hd)) rfl hS176 hk236 hEL (List.mem_of_getElem? (i := 2) rfl) C240.1 (vs := own_c30) (z := (ofNat 10)) ⟨by decide +kernel, rfl⟩ (by decide) rfl (g := (mkF m 43 #[oR o0, oR o1, oR r] [(.ref b67)])) rfl (d7 hby 22) (n := 40) (by decide +kernel) (by decide) (by decide) (by decide)
 have Sf243 := Cq242.safe F1219.lt Sf237
 have Sf244 := Cq242.safe A1219.lt Sf239
 have F245 := F224.ext E242
 have F246 := F225.ext E242
 have F249 := F1219.ext E242
 have F250 := G1219.ext E242
 have F251 := Ct219.ext E242
 have A252 := A228.ext E242
 have A254 := E1219.ext E242
 have A255 := A1219.ext E242
 have V256 := V232.ext E242
 have V258 := V1219.ext E242
 have O259 := O234.ext E242
 have C260 := C240.trans Cq242
 have Z261 := Nat.le_trans Z235 E242.1
 have K242 := K241.ext E242
 refine own_stepH st242 ?_
 have hm4 : ((((([] : List Value) ++ own_c22) ++ vl) ++ own_c28) ++ (own_en xs (List.replicate (own_D xs.length) (.int 0)) xs.length)).length + 10 ≤ 250 := by rw [hl4]; omega
 have hq4 : Cf219 ≤ 250 := Nat.le_trans hu4 (by decide)
 obtain ⟨cq262, kq262, q262a, q262b, q262c⟩ := isOf hZ e242 A254
 obtain ⟨_, _, ⟨T262, L262, k262, n262⟩, -, X262, ⟨Lc262, hQ262, l262, y262, z262⟩, st262⟩ := X242.virtualBack hx (y := yM12) (z := yM12) hown (mvT hZ (own_w hw 123)) (mvT hZ (own_w hw 124)) (notFace_of_selects (args := #[]) (mvT hZ (own_w hw 126))) (mvT hZ (own_w hw 126)) (mvT hZ (own_w hw 125)) (by decide) (backOf (W := 0) (rm22 l Z a0 hw [] b67 a242 cs bf219 b242 kb242 10 own_c30 kf219 Cf219 ((((([] : List Value) ++ own_c22) ++ vl) ++ own_c28) ++ (own_en xs (List.replicate (own_D xs.length) (.int 0)) xs.length)) h242 n0 Z261 O259 S_cs hcs A254 F249 F250 F251 g_b67 V258 A255 g_bf219 Ea242 Fc242 Fv242 Va242 (Ne.symm (ns242 _ Sf243).1) (Ne.symm (ns242 _ Sf243).2) nb219 (Ne.symm (ns242 _ Sf244).1) (Ne.symm (ns242 _ Sf244).2) rfl hp4 hq4 hm4) hZ (own_w hw 127) (own_w hw 106) (by decide) (by decide)) q262a q262c (g := (mkF m 45 #[oR o0, oR o1, oR r] [(.ref a242), (.ref b67)])) rfl (by rw [hml]; rfl) (Steps.refl _) (argsL := [(.ref a242)]) (rest := []) (lenOf pd_28 rfl) rfl (by show 2 * 0 + _ ≤ _; exact Nat.le_of_eq rfl) (d7 hby 23) (fun _ _ => ⟨rfl, e242, (by decide : 20 + 1 ≤ _), (by decide : 2522 + 512 ≤ _)⟩)
 dsimp only [Pt.U, Pt.locs, Pt.cells, Pt.slots] at X262 l262 y262 z262 st262 hQ262
 subst l262 y262 z262
 obtain ⟨bf262, kf262, Cf262, rfl, N262q, Kq262, E1262, F1262, G1262, H1262, V1262, A1262, hC262, g_bf262, nb262, hb262⟩ := hQ262
 have N262 := Fr.app N219 N262q
 refine own_stepH (fun t k => st262.trans k) ?_
 have ne263 : o0 ≠ bf262 := own_ne2 hb262 ne220 F245.lt
 have ne264 : lb ≠ bf262 := own_ne2 hb262 ne221 V256.lt
 have Sbf262 : Safe Z own_EL T242.vm h242 bf262 := hb262.elim (fun q => q ▸ Sf244) Safe.new
 have sz_bf262 : h0.size ≤ bf262 := hb262.elim (fun q => q ▸ sz_bf219) (fun q => Nat.le_trans K242.1 q)
 have F267 := F245.keep Kq262 (ninS ne68 (ninS ne220 nin0))
 have F268 := F246.keep Kq262 (ninS ne68 (ninS ne220 nin0))
 have A271 := A252.keep Kq262
 have V275 := V256.keep Kq262 (ninS ne70 (ninS ne221 nin0))
 have O277 := O259.keep Kq262 (allS g_b67 (allS g_bf219 all0))
 have Z278 := Nat.le_trans Z261 Kq262.1
 have hk279 := Nat.le_trans hk242 Kq262.1
 have Sf280 := Safe.keep Kq262 (allS Sf243 (allS Sf244 all0)) C260.1 Sf243
 have Sf282 := Safe.keep Kq262 (allS Sf243 (allS Sf244 all0)) C260.1 Sbf262
 have C283 := C260.trans (CHr.keep Kq262 (allS Sf243 (allS Sf244 all0)) C260.1)
 have K284 := K242.trans Kq262 (allS (Or.inr sz_b67) (allS (Or.inr sz_bf219) all0))
 have hl5 : (((((([] : List Value) ++ own_c22) ++ vl) ++ own_c28) ++ (own_en xs (List.replicate (own_D xs.length) (.int 0)) xs.length)) ++ own_c30).length = 0 + 11 + 2 + 6 + (own_D xs.length) + 10 := by rw [List.length_append, hl4, show (own_c30 : List Value).length = 10 from rfl]
 have hp5 : (((((([] : List Value) ++ own_c22) ++ vl) ++ own_c28) ++ (own_en xs (List.replicate (own_D xs.length) (.int 0)) xs.length)) ++ own_c30).length ≤ Cf262 := by rw [hl5, hC262, hl4]; exact own_capl _ _
 have hu5 : Cf262 ≤ 178 := by rw [hC262, hl4]; exact own_capu hu4 (by omega : 0 + 11 + 2 + 6 + (own_D xs.length) + 10 ≤ 98) (by decide) (by decide) (by decide)
 have Ct262 : Fld Z T262.heap b67 "java/lang/AbstractStringBuilder" "count" "I" (.int (ofNat (((((([] : List Value) ++ own_c22) ++ vl) ++ own_c28) ++ (own_en xs (List.replicate (own_D xs.length) (.int 0)) xs.length)) ++ own_c30).length)) := by rw [List.length_append, show (own_c30 : List Value).length = 10 from rfl]; exact H1262
 refine oPH T262 (mkF m 49 #[oR o0, oR o1, oR r] [(.ref o0), (.ref b67)]) (fun t k => ?_) ?_
 ·skip
  refine XS.aloadN X262.here hx rfl (d7 hby 24) rfl rfl ?_
  exact k
 have hm5 : (((((([] : List Value) ++ own_c22) ++ vl) ++ own_c28) ++ (own_en xs (List.replicate (own_D xs.length) (.int 0)) xs.length)) ++ own_c30).length + 2 ≤ 250 := by rw [hl5]; omega
 have hq5 : Cf262 ≤ 250 := Nat.le_trans hu5 (by decide)
 obtain ⟨cq285, kq285, q285a, q285b, q285c⟩ := isOf hZ rfl E1262
 obtain ⟨_, _, ⟨T285, L285, k285, n285⟩, -, X285, ⟨Lc285, hQ285, l285, y285, z285⟩, st285⟩ := X262.virtualBack hx (y := yM12) (z := yM12) hown (mvT hZ (own_w hw 123)) (mvT hZ (own_w hw 124)) (notFace_of_selects (args := #[]) (mvT hZ (own_w hw 126))) (mvT hZ (own_w hw 126)) (mvT hZ (own_w hw 125)) (by decide) (backOf (W := 0) (rm22 l Z a0 hw [] b67 o0 cs bf262 lb kl 2 vl kf262 Cf262 (((((([] : List Value) ++ own_c22) ++ vl) ++ own_c28) ++ (own_en xs (List.replicate (own_D xs.length) (.int 0)) xs.length)) ++ own_c30) T262.heap n0 Z278 O277 S_cs hcs E1262 F1262 G1262 Ct262 g_b67 V1262 A1262 g_bf262 A271 F267 F268 V275 ne68 ne70 nb262 ne263 ne264 hvl hp5 hq5 hm5) hZ (own_w hw 127) (own_w hw 106) (by decide) (by decide)) q285a q285c (g := (mkF m 49 #[oR o0, oR o1, oR r] [(.ref o0), (.ref b67)])) rfl (by rw [hml]; rfl) (Steps.refl _) (argsL := [(.ref o0)]) (rest := []) (lenOf pd_28 rfl) rfl (by show 2 * 0 + _ ≤ _; exact Nat.le_of_eq rfl) (d7 hby 25) (fun _ _ => ⟨rfl, rfl, (by decide : 21 + 1 ≤ _), (by decide : 3034 + 512 ≤ _)⟩)
 dsimp only [Pt.U, Pt.locs, Pt.cells, Pt.slots] at X285 l285 y285 z285 st285 hQ285
 subst l285 y285 z285
 obtain ⟨bf285, kf285, Cf285, rfl, N285q, Kq285, E1285, F1285, G1285, H1285, V1285, A1285, hC285, g_bf285, nb285, hb285⟩ := hQ285
 have N285 := Fr.app N262 N285q
 refine own_stepH (fun t k => st285.trans k) ?_
 have Sbf285 : Safe Z own_EL T242.vm T262.heap bf285 := hb285.elim (fun q => q ▸ Sf282) Safe.new
 have sz_bf285 : h0.size ≤ bf285 := hb285.elim (fun q => q ▸ sz_bf262) (fun q => Nat.le_trans K284.1 q)
 have O300 := O277.keep Kq285 (allS g_b67 (allS g_bf262 all0))
 have Z301 := Nat.le_trans Z278 Kq285.1
 have hk302 := Nat.le_trans hk279 Kq285.1
 have Sf303 := Safe.keep Kq285 (allS Sf280 (allS Sf282 all0)) C283.1 Sf280
 have Sf305 := Safe.keep Kq285 (allS Sf280 (allS Sf282 all0)) C283.1 Sbf285
 have C306 := C283.trans (CHr.keep Kq285 (allS Sf280 (allS Sf282 all0)) C283.1)
 have K307 := K284.trans Kq285 (allS (Or.inr sz_b67) (allS (Or.inr sz_bf262) all0))
 have hl6 : ((((((([] : List Value) ++ own_c22) ++ vl) ++ own_c28) ++ (own_en xs (List.replicate (own_D xs.length) (.int 0)) xs.length)) ++ own_c30) ++ vl).length = 0 + 11 + 2 + 6 + (own_D xs.length) + 10 + 2 := by rw [List.length_append, hl5, show (vl : List Value).length = 2 from hvl]
 have hp6 : ((((((([] : List Value) ++ own_c22) ++ vl) ++ own_c28) ++ (own_en xs (List.replicate (own_D xs.length) (.int 0)) xs.length)) ++ own_c30) ++ vl).length ≤ Cf285 := by rw [hl6, hC285, hl5]; exact own_capl _ _
 have hu6 : Cf285 ≤ 200 := by rw [hC285, hl5]; exact own_capu hu5 (by omega : 0 + 11 + 2 + 6 + (own_D xs.length) + 10 + 2 ≤ 100) (by decide) (by decide) (by decide)
 have Ct285 : Fld Z T285.heap b67 "java/lang/AbstractStringBuilder" "count" "I" (.int (ofNat ((((((([] : List Value) ++ own_c22) ++ vl) ++ own_c28) ++ (own_en xs (List.replicate (own_D xs.length) (.int 0)) xs.length)) ++ own_c30) ++ vl).length)) := by rw [List.length_append, show (vl : List Value).length = 2 from hvl]; exact H1285
 obtain ⟨a308, T308, h308, k308, b308, kb308, X308, e308, E308, hS308, hk308, hZ, hown, Ea308, Fc308, Fv308, Va308, la308, lb308, Cq308, -, ns308, st308⟩ := ldcCH (s := s) (vm0 := T242.vm) (EL := own_EL) X285 hx hZ hown (own_w hw 170) (fun d hd => hw d (own_strings d hd)) rfl hS242 hk302 hEL (List.mem_of_getElem? (i := 1) rfl) C306.1 (vs := own_c28) (z := (ofNat 6)) ⟨by decide +kernel, rfl⟩ (by decide) rfl (g := (mkF m 52 #[oR o0, oR o1, oR r] [(.ref b67)])) rfl (d7 hby 26) (n := 24) (by decide +kernel) (by decide) (by decide) (by decide)
 have Sf309 := Cq308.safe F1285.lt Sf303
 have Sf310 := Cq308.safe A1285.lt Sf305
 have F315 := F1285.ext E308
 have F316 := G1285.ext E308
 have F317 := Ct285.ext E308
 have A320 := E1285.ext E308
 have A321 := A1285.ext E308
 have V324 := V1285.ext E308
 have O325 := O300.ext E308
 have C326 := C306.trans Cq308
 have Z327 := Nat.le_trans Z301 E308.1
 have K308 := K307.ext E308
 refine own_stepH st308 ?_
 have hm6 : ((((((([] : List Value) ++ own_c22) ++ vl) ++ own_c28) ++ (own_en xs (List.replicate (own_D xs.length) (.int 0)) xs.length)) ++ own_c30) ++ vl).length + 6 ≤ 250 := by rw [hl6]; omega
 have hq6 : Cf285 ≤ 250 := Nat.le_trans hu6 (by decide)
 obtain ⟨cq328, kq328, q328a, q328b, q328c⟩ := isOf hZ e308 A320
 obtain ⟨_, _, ⟨T328, L328, k328, n328⟩, -, X328, ⟨Lc328, hQ328, l328, y328, z328⟩, st328⟩ := X308.virtualBack hx (y := yM12) (z := yM12) hown (mvT hZ (own_w hw 123)) (mvT hZ (own_w hw 124)) (notFace_of_selects (args := #[]) (mvT hZ (own_w hw 126))) (mvT hZ (own_w hw 126)) (mvT hZ (own_w hw 125)) (by decide) (backOf (W := 0) (rm22 l Z a0 hw [] b67 a308 cs bf285 b308 kb308 6 own_c28 kf285 Cf285 ((((((([] : List Value) ++ own_c22) ++ vl) ++ own_c28) ++ (own_en xs (List.replicate (own_D xs.length) (.int 0)) xs.length)) ++ own_c30) ++ vl) h308 n0 Z327 O325 S_cs hcs A320 F315 F316 F317 g_b67 V324 A321 g_bf285 Ea308 Fc308 Fv308 Va308 (Ne.symm (ns308 _ Sf309).1) (Ne.symm (ns308 _ Sf309).2) nb285 (Ne.symm (ns308 _ Sf310).1) (Ne.symm (ns308 _ Sf310).2) rfl hp6 hq6 hm6) hZ (own_w hw 127) (own_w hw 106) (by decide) (by decide)) q328a q328c (g := (mkF m 54 #[oR o0, oR o1, oR r] [(.ref a308), (.ref b67)])) rfl (by rw [hml]; rfl) (Steps.refl _) (argsL := [(.ref a308)]) (rest := []) (lenOf pd_28 rfl) rfl (by show 2 * 0 + _ ≤ _; exact Nat.le_of_eq rfl) (d7 hby 27) (fun _ _ => ⟨rfl, e308, (by decide : 24 + 1 ≤ _), (by decide : 3574 + 512 ≤ _)⟩)
 dsimp only [Pt.U, Pt.locs, Pt.cells, Pt.slots] at X328 l328 y328 z328 st328 hQ328
 subst l328 y328 z328
 obtain ⟨bf328, kf328, Cf328, rfl, N328q, Kq328, E1328, F1328, G1328, H1328, V1328, A1328, hC328, g_bf328, nb328, hb328⟩ := hQ328
 have N328 := Fr.app N285 N328q
 refine own_stepH (fun t k => st328.trans k) ?_
 have Sbf328 : Safe Z own_EL T308.vm h308 bf328 := hb328.elim (fun q => q ▸ Sf310) Safe.new
 have O343 := O325.keep Kq328 (allS g_b67 (allS g_bf285 all0))
 have Z344 := Nat.le_trans Z327 Kq328.1
 have hk345 := Nat.le_trans hk308 Kq328.1
 have C349 := C326.trans (CHr.keep Kq328 (allS Sf309 (allS Sf310 all0)) C326.1)
 have K350 := K308.trans Kq328 (allS (Or.inr sz_b67) (allS (Or.inr sz_bf285) all0))
 have hl7 : (((((((([] : List Value) ++ own_c22) ++ vl) ++ own_c28) ++ (own_en xs (List.replicate (own_D xs.length) (.int 0)) xs.length)) ++ own_c30) ++ vl) ++ own_c28).length = 0 + 11 + 2 + 6 + (own_D xs.length) + 10 + 2 + 6 := by rw [List.length_append, hl6, show (own_c28 : List Value).length = 6 from rfl]
 have hp7 : (((((((([] : List Value) ++ own_c22) ++ vl) ++ own_c28) ++ (own_en xs (List.replicate (own_D xs.length) (.int 0)) xs.length)) ++ own_c30) ++ vl) ++ own_c28).length ≤ Cf328 := by rw [hl7, hC328, hl6]; exact own_capl _ _
 have hu7 : Cf328 ≤ 212 := by rw [hC328, hl6]; exact own_capu hu6 (by omega : 0 + 11 + 2 + 6 + (own_D xs.length) + 10 + 2 + 6 ≤ 106) (by decide) (by decide) (by decide)
 have Ct328 : Fld Z T328.heap b67 "java/lang/AbstractStringBuilder" "count" "I" (.int (ofNat (((((((([] : List Value) ++ own_c22) ++ vl) ++ own_c28) ++ (own_en xs (List.replicate (own_D xs.length) (.int 0)) xs.length)) ++ own_c30) ++ vl) ++ own_c28).length)) := by rw [List.length_append, show (own_c28 : List Value).length = 6 from rfl]; exact H1328
 have hm7 : (((((((([] : List Value) ++ own_c22) ++ vl) ++ own_c28) ++ (own_en xs (List.replicate (own_D xs.length) (.int 0)) xs.length)) ++ own_c30) ++ vl) ++ own_c28).length ≤ 250 := by rw [hl7]; omega
 have hq7 : Cf328 ≤ 1024 := Nat.le_trans hu7 (by decide)
 obtain ⟨cq351, kq351, q351a, q351b, q351c⟩ := isOf hZ rfl E1328
 obtain ⟨_, _, ⟨T351, L351, k351, n351⟩, -, X351, ⟨Lc351, hQ351, l351, y351, z351⟩, st351⟩ := X328.virtualBack hx (y := yM24) (z := yM24) hown (mvT hZ (own_w hw 194)) (mvT hZ (own_w hw 195)) (notFace_of_selects (args := #[]) (mvT hZ (own_w hw 197))) (mvT hZ (own_w hw 197)) (mvT hZ (own_w hw 196)) (by decide) (backOf (W := 0) (rm35 l Z a0 hw [] b67 cs bf328 kf328 Cf328 (((((((([] : List Value) ++ own_c22) ++ vl) ++ own_c28) ++ (own_en xs (List.replicate (own_D xs.length) (.int 0)) xs.length)) ++ own_c30) ++ vl) ++ own_c28) T328.heap n0 Z344 O343 S_cs hcs E1328 F1328 G1328 Ct328 V1328 A1328 hp7 hm7 hq7) hZ (own_w hw 198) (own_w hw 106) (by decide) (by decide)) q351a q351c (g := (mkF m 57 #[oR o0, oR o1, oR r] [(.ref b67)])) rfl (by rw [hml]; rfl) (Steps.refl _) (argsL := []) (rest := []) (lenOf pd_29 rfl) rfl (by show 2 * 0 + _ ≤ _; exact Nat.le_of_eq rfl) (d7 hby 28) (fun _ _ => ⟨rfl, rfl, (by decide : 25 + 2 ≤ _), (by decide : 4086 + 260 ≤ _)⟩)
 dsimp only [Pt.U, Pt.locs, Pt.cells, Pt.slots] at X351 l351 y351 z351 st351 hQ351
 subst l351 y351 z351
 obtain ⟨r2, t2, k2, rfl, N351q, Kq351, sz2, E2, C2, V2, A2, szt2⟩ := hQ351
 have N351 := Fr.app N328 N351q
 refine own_stepH (fun t k => st351.trans k) ?_
 have szr : h0.size ≤ r2 := Nat.le_trans K350.1 sz2
 have szt : h0.size ≤ t2 := Nat.le_trans K350.1 szt2
 have hk354 := Nat.le_trans hk345 Kq351.1
 have C355 := C349.trans (CHr.keep Kq351 all0 C349.1)
 have K356 := K350.trans Kq351 all0
 refine own_retAH (s := s) X351 hx hS308 hk354 Bd.returns rfl rfl (d7 hby 29) (BodyLoose.notSynchronized Bd) (by decide) (by decide) ?_
 refine ⟨?_, C355.trans (CHv.at (s := s) (vm0 := T308.vm) X351 hZ hEL C355.1)⟩
 exact ⟨r2, t2, k2, rfl, N351, K356, szr, szt, E2, C2, V2, A2⟩
theorem own_st6 {a0 a1 a2 a3 a4 a5 : Value} {s6 : Slot} (h : One s6) (x : Int32) : storeLocals #[.val a0, .val a1, .val a2, .val a3, .val a4, .val a5, s6] 6 (.int x) = some #[.val a0, .val a1, .val a2, .val a3, .val a4, .val a5, .val (.int x)] := by
 rcases h with rfl | ⟨w, rfl, hw⟩
 ·rfl
 ·cases w <;> first | rfl | (simp [Value.category] at hw)
def D5 : List (Nat × Instr × Nat) := [(0, .iconst 0, 1), (1, .istore 5, 2), (3, .iload 5, 2), (5, .iload 4, 2), (7, .if_icmp .ge 37, 3), (10, .aload_n 0, 1), (11, .iload_n 1, 1), (12, .caload, 1), (13, .istore 6, 2), (15, .iload 6, 2), (17, .sipush 255, 3), (20, .if_icmp .le 6, 3), (23, .iload 5, 2), (25, .ireturn, 1), (26, .aload_n 2, 1), (27, .iload_n 3, 1), (28, .iload 6, 2), (30, .i2b, 1), (31, .bastore, 1), (32, .iinc 1 1, 3), (35, .iinc 3 1, 3), (38, .iinc 5 1, 3), (41, .goto (-38), 3), (44, .iload 4, 2), (46, .ireturn, 1)]
theorem A5 : ∀ q ∈ D5, decode jdk_52_method_21_code q.1 = .ok q.2 := by decide +kernel
theorem d5 {c : Code} (h0 : c.code = jdk_52_method_21_code) (i : Nat) {pc n : Nat} {q : Instr} (h : D5[i]? = some (pc, q, n) := by rfl) : decode c.code pc = .ok (q, n) := hb h0 (A5 (pc, q, n) (List.mem_of_getElem? h))
theorem pn_rm5 : plainName "java/lang/StringUTF16" = true := by first | (simp [plainName, overriddenIn]; done) | decide +kernel
theorem ef_rm5 (m : MethodId) (o0 : Addr) (o2 : Addr) (cs : List Int32) : entryFrame m #[(.ref o0), (.int 0), (.ref o2), (.int 0), (.int (ofNat cs.length))] 7 = mkF m 0 #[.val (.ref o0), .val (.int 0), .val (.ref o2), .val (.int 0), .val (.int (ofNat cs.length)), .unset, .unset] [] := by first | (simp [entryFrame, mkF, argsToLocals, Value.category, maxLocals]; done) | rfl
def rm5_Q (Z : State) (o0 : Addr) (o2 : Addr) (cs : List Int32) (k : ClassId) (k2 : ClassId) (h0 : Heap) (n0 : Nat) (v : Option Value) (h : Heap) (L : List Loc) : Prop := v = some (.int (ofNat cs.length)) ∧ Fr n0 L ∧ Keep h0 h [o2] ∧ Arv Z h o2 k2 .byte (ofNat cs.length) (own_xs (own_bs cs)) (.int 0)
set_option maxRecDepth 65536 in
set_option maxHeartbeats 40000000 in
theorem rm5 (l : Launch) (Z : State) (a0 : Array Value) (hw : ∀ d ∈ tables_1, d.before a0 Z = true) (ws : List Jvm.Cond) (o0 : Addr) (o2 : Addr) (cs : List Int32) (k : ClassId) (k2 : ClassId) (h0 : Heap) (n0 : Nat) (Z0 : n0 ≤ h0.size) (V_o0 : Arv Z h0 o0 k .char (ofNat cs.length) (own_xs cs) (.int 0)) (V_o2 : Arv Z h0 o2 k2 .byte (ofNat cs.length) (own_part cs 0) (.int 0)) (g_o2 : n0 ≤ o2) (ne02 : o0 ≠ o2) (hcl : cs.length ≤ 64) (hc8 : ∀ i, i < cs.length → ¬ (255 : Int32) < own_g cs i) :
  MetFree l yM39 (head1 (Jvm.Cond.code yM39 jdk_52_method_21_code 7 (some .int) :: ws) rM0_0_0_0) (fun a U => a = #[(.ref o0), (.int 0), (.ref o2), (.int 0), (.int (ofNat cs.length))] ∧ Z.Warmed39 U.vm ∧ U.heap = h0) (fun _ _ _ _ _ => True) (fun _ U o U' => ∃ v L, o = .returned v ∧ rm5_Q Z o0 o2 cs k k2 h0 n0 v U'.heap L ∧ FrameEnd U o U' L rM0_0_0_0.cells rM0_0_0_0.slots) := by
 refine MetFree.of_bodySF (plainFor_of_name pn_rm5) hisR ?_
 intro p e s m args below meth c s₁ Bd hml0 hP hK
 obtain ⟨rfl, hZ, hh⟩ := hP
 have hx := Bd.exec
 have hby := Bd.bytes
 have hml : c.maxLocals = 7 := hml0
 have hown : s.vm.findClass "java/lang/StringUTF16" = some m.cls := findClass_of_methodNamed Bd.named
 have hnm := (name_of_methodNamed Bd.named Bd.method).1
 have X0 : Stand p l e rM0_0_0_0 s m #[(.ref o0), (.int 0), (.ref o2), (.int 0), (.int (ofNat cs.length))] below meth c s₁ [] 0 0 := Stand.of_body Bd
 have e0 : s₁.heap = h0 := by rw [← hh, Bd.state]; rfl
 have N0 := Fr.nil n0
 have K0 := Keep.refl h0 [o2]
 refine own_enter (QQ := rm5_Q Z o0 o2 cs k k2 h0 n0) (ef_rm5 m o0 o2 cs) ?_
 show own_Run p e below s _ _ _ s₁ (mkF m 0 #[.val (.ref o0), .val (.int 0), .val (.ref o2), .val (.int 0), .val (.int (ofNat cs.length)), .unset, .unset] [])
 have loop : ∀ (g i : Nat) (T : State) (hp : Heap) (lc : List Loc) (s6 : Slot), i + g = cs.length → ∀ (X : Stand p l e rM0_0_0_0 s m #[(.ref o0), (.int 0), (.ref o2), (.int 0), (.int (ofNat cs.length))] below meth c T lc 0 0) (eT : T.heap = hp) (Nl : Fr n0 lc) (Kl : Keep h0 hp [o2]) (Vs : Arv Z hp o0 k .char (ofNat cs.length) (own_xs cs) (.int 0)) (Vd : Arv Z hp o2 k2 .byte (ofNat cs.length) (own_part cs i) (.int 0)), One s6 → own_Run p e below s (rm5_Q Z o0 o2 cs k k2 h0 n0) 0 0 T (mkF m 3 #[oR o0, oI (ofNat i), oR o2, oI (ofNat i), oI (ofNat cs.length), oI (ofNat i), s6] []) := by
  intro g
  induction g with
  | zero =>
   intro i T hp lc s6 hi X eT Nl Kl Vs Vd h6
   obtain rfl : i = cs.length := by omega
   refine oP T (mkF m 46 #[oR o0, oI (ofNat cs.length), oR o2, oI (ofNat cs.length), oI (ofNat cs.length), oI (ofNat cs.length), s6] [(.int (ofNat cs.length))]) (fun t k => ?_) ?_
   ·skip
    refine XS.iload X.here hx rfl (d5 hby 2) rfl ?_
    refine XS.iload X.here hx rfl (d5 hby 3) rfl ?_
    refine XS.icmpYes X.here hx rfl (pc0 := 7) (pc' := 44) rfl (d5 hby 4) rfl (flt (fun q => absurd ((own_lt (by omega) (by omega)).mp q) (by omega))).2.1 (by decide) (by decide) ?_
    refine XS.iload X.here hx rfl (d5 hby 23) rfl ?_
    exact k
   refine own_retI X hx Bd.returns (d5 hby 24) (BodyLoose.notSynchronized Bd) (by decide) (by decide) ?_
   rw [show T.heap = hp from eT]
   exact ⟨rfl, Nl, Kl, own_partn cs ▸ Vd⟩
  | succ g ih =>
   intro i T hp lc s6 hi X eT Nl Kl Vs Vd h6
   refine oP T (mkF m 12 #[oR o0, oI (ofNat i), oR o2, oI (ofNat i), oI (ofNat cs.length), oI (ofNat i), s6] [(.int (ofNat i)), (.ref o0)]) (fun t k => ?_) ?_
   ·skip
    refine XS.iload X.here hx rfl (d5 hby 2) rfl ?_
    refine XS.iload X.here hx rfl (d5 hby 3) rfl ?_
    refine XS.icmpNo X.here hx rfl (d5 hby 4) rfl (tlt ((own_lt (by omega) (by omega)).mpr (by omega))).2.1 ?_
    refine XS.aloadN X.here hx rfl (d5 hby 5) rfl rfl ?_
    refine XS.iloadN X.here hx rfl (d5 hby 6) rfl ?_
    exact k
   obtain ⟨cl3, Arcl3, qcl3, Scl3, Mcl3, Hcl3, Gcl3⟩ := id Vs
   have hincl3 : ¬ ((ofNat i) < 0 ∨ cl3.slots.size ≤ ((ofNat i)).toNatClampNeg) := inb_of Scl3 (own_tin (by omega) (by omega))
   have hatcl3 : cl3.slots[((ofNat i)).toNatClampNeg]? = some (.int (own_g cs i)) := Hcl3.at hincl3 (own_xat cs (by omega))
   refine oP T (mkF m 31 #[oR o0, oI (ofNat i), oR o2, oI (ofNat i), oI (ofNat cs.length), oI (ofNat i), oI (own_g cs i)] [(.int ((own_g cs i).toInt8.toInt32)), (.int (ofNat i)), (.ref o2)]) (fun t k => ?_) ?_
   ·skip
    refine X.caload hx (j := (ofNat i)) (v := (.int (own_g cs i))) (by rw [eT]; exact Arcl3.1) (State.isArrayOf_alike hZ.alike Arcl3.2.1) Arcl3.2.2 hincl3 hatcl3 (g := (mkF m 12 #[oR o0, oI (ofNat i), oR o2, oI (ofNat i), oI (ofNat cs.length), oI (ofNat i), s6] [(.int (ofNat i)), (.ref o0)])) rfl rfl (d5 hby 7) _ ?_
    refine XS.istore X.here hx rfl (d5 hby 8) rfl (l' := #[oR o0, oI (ofNat i), oR o2, oI (ofNat i), oI (ofNat cs.length), oI (ofNat i), oI (own_g cs i)]) (own_st6 h6 _) ?_
    refine XS.iload X.here hx rfl (d5 hby 9) rfl ?_
    refine XS.sipush X.here hx rfl (d5 hby 10) ?_
    refine XS.icmpYes X.here hx rfl (pc0 := 20) (pc' := 26) rfl (d5 hby 11) rfl (flt (hc8 i (by omega))).2.2.2 (by decide) (by decide) ?_
    refine XS.aloadN X.here hx rfl (d5 hby 14) rfl rfl ?_
    refine XS.iloadN X.here hx rfl (d5 hby 15) rfl ?_
    refine XS.iload X.here hx rfl (d5 hby 16) rfl ?_
    refine XS.i2b X.here hx rfl (d5 hby 17) rfl ?_
    exact k
   rw [show (((own_g cs i).toInt8.toInt32) : Int32) = (own_b (own_g cs i)) from rfl]
   obtain ⟨cl5, Arcl5, qcl5, Scl5, Mcl5, Hcl5, Gcl5⟩ := Vd
   have hincl5 : ¬ ((ofNat i) < 0 ∨ cl5.slots.size ≤ ((ofNat i)).toNatClampNeg) := inb_of Scl5 (own_tin (by omega) (by omega))
   obtain ⟨T6, h6, X6, e6, W6, st6⟩ := stB X hx hZ eT Arcl5 (j := (ofNat i)) hincl5 (g := (mkF m 31 #[oR o0, oI (ofNat i), oR o2, oI (ofNat i), oI (ofNat cs.length), oI (ofNat i), oI (own_g cs i)] [(.int (own_b (own_g cs i))), (.int (ofNat i)), (.ref o2)])) rfl rfl (d5 hby 18)
   have V7 := Arv.set Arcl5 qcl5 Scl5 Mcl5 Hcl5 Gcl5 (fits_nar_byte _) W6 i (own_tn (by omega)) (by rw [own_partl (by omega)]; omega)
   have V8 := Vs.other W6 ne02
   have K6 := Kl.wr W6 (Or.inl (List.mem_of_getElem? (i := 0) rfl))
   have N6 := Fr.snoc X6 Nl g_o2
   refine own_step st6 ?_
   have V10 : Arv Z h6 o2 k2 .byte (ofNat cs.length) (own_part cs (i + 1)) (.int 0) := by have q := V7; rw [show (own_b (own_g cs i)).toInt8.toInt32 = own_b (own_g cs i) from by simp [own_b], own_parts (by omega)] at q; exact q
   refine oP T6 (mkF m 3 #[oR o0, oI ((ofNat i) + (1 : Int32)), oR o2, oI ((ofNat i) + (1 : Int32)), oI (ofNat cs.length), oI ((ofNat i) + (1 : Int32)), oI (own_g cs i)] []) (fun t k => ?_) ?_
   ·skip
    refine XS.iinc X6.here hx rfl (d5 hby 19) rfl (l' := #[oR o0, oI ((ofNat i) + (1 : Int32)), oR o2, oI (ofNat i), oI (ofNat cs.length), oI (ofNat i), oI (own_g cs i)]) rfl ?_
    refine XS.iinc X6.here hx rfl (d5 hby 20) rfl (l' := #[oR o0, oI ((ofNat i) + (1 : Int32)), oR o2, oI ((ofNat i) + (1 : Int32)), oI (ofNat cs.length), oI (ofNat i), oI (own_g cs i)]) rfl ?_
    refine XS.iinc X6.here hx rfl (d5 hby 21) rfl (l' := #[oR o0, oI ((ofNat i) + (1 : Int32)), oR o2, oI ((ofNat i) + (1 : Int32)), oI (ofNat cs.length), oI ((ofNat i) + (1 : Int32)), oI (own_g cs i)]) rfl ?_
    refine XS.goto X6.here hx rfl (pc0 := 41) (pc' := 3) rfl (d5 hby 22) (by decide) (by decide) ?_
    exact k
   rw [show (((ofNat i) + (1 : Int32)) : Int32) = (ofNat (i + 1)) from own_add i 1]
   exact ih (i + 1) _ _ _ _ (by omega) X6 e6 N6 K6 V8 V10 (One.val rfl)
 refine oP s₁ (mkF m 3 #[oR o0, oI 0, oR o2, oI 0, oI (ofNat cs.length), oI 0, .unset] []) (fun t k => ?_) ?_
 ·skip
  refine XS.iconst X0.here hx rfl (d5 hby 0) ?_
  refine XS.istore X0.here hx rfl (d5 hby 1) rfl (l' := #[oR o0, oI 0, oR o2, oI 0, oI (ofNat cs.length), oI 0, .unset]) rfl ?_
  exact k
 exact loop cs.length 0 _ _ _ .unset (by omega) X0 e0 N0 K0 V_o0 V_o2 One.u
def D6 : List (Nat × Instr × Nat) := [(0, .iload_n 1, 1), (1, .aload_n 0, 1), (2, .arraylength, 1), (3, .isub, 1), (4, .bipush 31, 2), (6, .iushr, 1), (7, .i2b, 1), (8, .ireturn, 1)]
theorem A6 : ∀ q ∈ D6, decode jdk_52_method_15_code q.1 = .ok q.2 := by decide +kernel
theorem d6 {c : Code} (h0 : c.code = jdk_52_method_15_code) (i : Nat) {pc n : Nat} {q : Instr} (h : D6[i]? = some (pc, q, n) := by rfl) : decode c.code pc = .ok (q, n) := hb h0 (A6 (pc, q, n) (List.mem_of_getElem? h))
theorem pn_rm6 : plainName "java/lang/StringUTF16" = true := by first | (simp [plainName, overriddenIn]; done) | decide +kernel
theorem ef_rm6 (m : MethodId) (o0 : Addr) (n : Nat) : entryFrame m #[(.ref o0), (.int (ofNat n))] 2 = mkF m 0 #[.val (.ref o0), .val (.int (ofNat n))] [] := by first | (simp [entryFrame, mkF, argsToLocals, Value.category, maxLocals]; done) | rfl
def rm6_Q (Z : State) (o0 : Addr) (n : Nat) (k : ClassId) (vs : List Value) (h0 : Heap) (n0 : Nat) (v : Option Value) (h : Heap) (L : List Loc) : Prop := v = some (.int 0) ∧ Fr n0 L ∧ h = h0
set_option maxRecDepth 65536 in
set_option maxHeartbeats 40000000 in
theorem rm6 (l : Launch) (Z : State) (a0 : Array Value) (hw : ∀ d ∈ tables_1, d.before a0 Z = true) (ws : List Jvm.Cond) (o0 : Addr) (n : Nat) (k : ClassId) (vs : List Value) (h0 : Heap) (n0 : Nat) (Z0 : n0 ≤ h0.size) (V_o0 : Arv Z h0 o0 k .byte (ofNat n) vs (.int 0)) :
  MetFree l yM40 (head1 (Jvm.Cond.code yM40 jdk_52_method_15_code 2 (some .byte) :: ws) rM0_0_0_0) (fun a U => a = #[(.ref o0), (.int (ofNat n))] ∧ Z.Warmed39 U.vm ∧ U.heap = h0) (fun _ _ _ _ _ => True) (fun _ U o U' => ∃ v L, o = .returned v ∧ rm6_Q Z o0 n k vs h0 n0 v U'.heap L ∧ FrameEnd U o U' L rM0_0_0_0.cells rM0_0_0_0.slots) := by
 refine MetFree.of_bodySF (plainFor_of_name pn_rm6) hisR ?_
 intro p e s m args below meth c s₁ Bd hml0 hP hK
 obtain ⟨rfl, hZ, hh⟩ := hP
 have hx := Bd.exec
 have hby := Bd.bytes
 have hml : c.maxLocals = 2 := hml0
 have hown : s.vm.findClass "java/lang/StringUTF16" = some m.cls := findClass_of_methodNamed Bd.named
 have hnm := (name_of_methodNamed Bd.named Bd.method).1
 have X0 : Stand p l e rM0_0_0_0 s m #[(.ref o0), (.int (ofNat n))] below meth c s₁ [] 0 0 := Stand.of_body Bd
 have e0 : s₁.heap = h0 := by rw [← hh, Bd.state]; rfl
 have N0 := Fr.nil n0
 refine own_enter (QQ := rm6_Q Z o0 n k vs h0 n0) (ef_rm6 m o0 n) ?_
 show own_Run p e below s _ _ _ s₁ (mkF m 0 #[.val (.ref o0), .val (.int (ofNat n))] [])
 refine oP s₁ (mkF m 2 #[oR o0, oI (ofNat n)] [(.ref o0), (.int (ofNat n))]) (fun t k => ?_) ?_
 ·skip
  refine XS.iloadN X0.here hx rfl (d6 hby 0) rfl ?_
  refine XS.aloadN X0.here hx rfl (d6 hby 1) rfl rfl ?_
  exact k
 obtain ⟨cl1, Arcl1, -, Scl1, Mcl1, -, -⟩ := id V_o0
 refine oP s₁ (mkF m 8 #[oR o0, oI (ofNat n)] [(.int (((((ofNat n) - (ofNat n)).toUInt32 >>> ((31 : Int32) &&& 31).toUInt32).toInt32).toInt8.toInt32))]) (fun t k => ?_) ?_
 ·skip
  refine X0.arraylength hx (by rw [e0]; exact Arcl1.1) (State.isArrayOf_alike hZ.alike Arcl1.2.1) (g := (mkF m 2 #[oR o0, oI (ofNat n)] [(.ref o0), (.int (ofNat n))])) rfl rfl (d6 hby 2) _ ?_
  rw [len_of Scl1 Mcl1]
  show Steps p.tables e below (s₁.setTop (mkF m 3 #[oR o0, oI (ofNat n)] [(.int (ofNat n)), (.int (ofNat n))])) _
  refine XS.isub X0.here hx rfl (d6 hby 3) rfl ?_
  refine XS.bipush X0.here hx rfl (d6 hby 4) ?_
  refine XS.iushr X0.here hx rfl (d6 hby 5) rfl ?_
  refine XS.i2b X0.here hx rfl (d6 hby 6) rfl ?_
  exact k
 rw [show ((((((ofNat n) - (ofNat n)).toUInt32 >>> ((31 : Int32) &&& 31).toUInt32).toInt32).toInt8.toInt32) : Int32) = (0 : Int32) from own_cod _]
 refine own_retN X0 hx (t := .byte) Bd.returns (by simp) (d6 hby 7) (BodyLoose.notSynchronized Bd) (by decide) (by decide) ?_
 rw [show s₁.heap = h0 from e0]
 exact ⟨rfl, N0, rfl⟩
def D4 : List (Nat × Instr × Nat) := [(0, .iload_n 2, 1), (1, .newarray .byte, 2), (3, .astore_n 3, 1), (4, .aload_n 0, 1), (5, .iload_n 1, 1), (6, .aload_n 3, 1), (7, .iconst 0, 1), (8, .iload_n 2, 1), (9, .invokestatic 115, 3), (12, .istore 4, 2), (14, .iload 4, 2), (16, .iload_n 2, 1), (17, .if_icmp .eq 40, 3), (20, .aload_n 0, 1), (21, .iload_n 1, 1), (22, .iload_n 2, 1), (23, .invokestatic 119, 3), (26, .astore 5, 2), (28, .aload 5, 2), (30, .iload 4, 2), (32, .invokestatic 71, 3), (35, .sipush 255, 3), (38, .if_icmp .gt 16, 3), (41, .aload 5, 2), (43, .iconst 0, 1), (44, .aload_n 3, 1), (45, .iconst 0, 1), (46, .iload_n 2, 1), (47, .invokestatic 123, 3), (50, .iload_n 2, 1), (51, .if_icmp .eq 6, 3), (54, .aload 5, 2), (56, .areturn, 1), (57, .aload_n 3, 1), (58, .areturn, 1)]
theorem A4 : ∀ q ∈ D4, decode jdk_52_method_16_code q.1 = .ok q.2 := by decide +kernel
theorem d4 {c : Code} (h0 : c.code = jdk_52_method_16_code) (i : Nat) {pc n : Nat} {q : Instr} (h : D4[i]? = some (pc, q, n) := by rfl) : decode c.code pc = .ok (q, n) := hb h0 (A4 (pc, q, n) (List.mem_of_getElem? h))
theorem pn_rm4 : plainName "java/lang/StringUTF16" = true := by first | (simp [plainName, overriddenIn]; done) | decide +kernel
theorem ef_rm4 (m : MethodId) (o0 : Addr) (cs : List Int32) : entryFrame m #[(.ref o0), (.int 0), (.int (ofNat cs.length))] 6 = mkF m 0 #[.val (.ref o0), .val (.int 0), .val (.int (ofNat cs.length)), .unset, .unset, .unset] [] := by first | (simp [entryFrame, mkF, argsToLocals, Value.category, maxLocals]; done) | rfl
def rm4_Q (Z : State) (o0 : Addr) (cs : List Int32) (k : ClassId) (h0 : Heap) (n0 : Nat) (v : Option Value) (h : Heap) (L : List Loc) : Prop := ∃ (b : Addr) (k1 : ClassId), v = some (.ref b) ∧ Fr n0 L ∧ b = h0.size ∧ Keep h0 h [] ∧ Arv Z h b k1 .byte (ofNat cs.length) (own_xs (own_bs cs)) (.int 0)
set_option maxRecDepth 65536 in
set_option maxHeartbeats 40000000 in
theorem rm4 (l : Launch) (Z : State) (a0 : Array Value) (hw : ∀ d ∈ tables_1, d.before a0 Z = true) (ws : List Jvm.Cond) (o0 : Addr) (cs : List Int32) (k : ClassId) (h0 : Heap) (n0 : Nat) (Z0 : n0 ≤ h0.size) (V_o0 : Arv Z h0 o0 k .char (ofNat cs.length) (own_xs cs) (.int 0)) (hcl : cs.length ≤ 64) (hc8 : ∀ i, i < cs.length → ¬ (255 : Int32) < own_g cs i) :
  MetFree l yM41 (head1 (Jvm.Cond.code yM41 jdk_52_method_16_code 6 (some (.array .byte)) :: ws) rM1_1_64_18) (fun a U => a = #[(.ref o0), (.int 0), (.int (ofNat cs.length))] ∧ Z.Warmed39 U.vm ∧ U.heap = h0) (fun _ _ _ _ _ => True) (fun _ U o U' => ∃ v L, o = .returned v ∧ rm4_Q Z o0 cs k h0 n0 v U'.heap L ∧ FrameEnd U o U' L rM1_1_64_18.cells rM1_1_64_18.slots) := by
 refine MetFree.of_bodySF (plainFor_of_name pn_rm4) hisR ?_
 intro p e s m args below meth c s₁ Bd hml0 hP hK
 obtain ⟨rfl, hZ, hh⟩ := hP
 have hx := Bd.exec
 have hby := Bd.bytes
 have hml : c.maxLocals = 6 := hml0
 have hown : s.vm.findClass "java/lang/StringUTF16" = some m.cls := findClass_of_methodNamed Bd.named
 have hnm := (name_of_methodNamed Bd.named Bd.method).1
 have X0 : Stand p l e rM1_1_64_18 s m #[(.ref o0), (.int 0), (.int (ofNat cs.length))] below meth c s₁ [] 0 0 := Stand.of_body Bd
 have e0 : s₁.heap = h0 := by rw [← hh, Bd.state]; rfl
 have N0 := Fr.nil n0
 have K0 := Keep.refl h0 []
 refine own_enter (QQ := rm4_Q Z o0 cs k h0 n0) (ef_rm4 m o0 cs) ?_
 show own_Run p e below s _ _ _ s₁ (mkF m 0 #[.val (.ref o0), .val (.int 0), .val (.int (ofNat cs.length)), .unset, .unset, .unset] [])
 refine oP s₁ (mkF m 1 #[oR o0, oI 0, oI (ofNat cs.length), .unset, .unset, .unset] [(.int (ofNat cs.length))]) (fun t k => ?_) ?_
 ·skip
  refine XS.iloadN X0.here hx rfl (d4 hby 0) rfl ?_
  exact k
 obtain ⟨T1, h1, k1, X1, e1, E1, B1, A1, st1⟩ := newPE X0 hx hZ (own_w hw 19) e0 (g := (mkF m 1 #[oR o0, oI 0, oI (ofNat cs.length), .unset, .unset, .unset] [(.int (ofNat cs.length))])) rfl (d4 hby 1 (q := .newarray .byte)) rfl (own_nn _ (by omega)) (cap := 64) (by rw [own_tn (by omega)]; exact hcl) (by decide) (by decide) (by decide) (ad := "[B") (by decide)
 obtain ⟨b1, g1⟩ : ∃ z, z = h0.size := ⟨_, rfl⟩
 have ne2 : o0 ≠ b1 := Nat.ne_of_lt (Nat.lt_of_lt_of_le V_o0.lt (Nat.le_of_eq g1.symm))
 have g_b1 : n0 ≤ b1 := Nat.le_trans Z0 (Nat.le_of_eq g1.symm)
 have sz_b1 : h0.size ≤ b1 := Nat.le_trans K0.1 (Nat.le_of_eq g1.symm)
 rw [← g1] at A1 B1 st1
 have V3 := V_o0.ext E1
 have K1 := K0.ext E1
 have V4 : Arv Z h1 b1 k1 .byte (ofNat cs.length) [] (.int 0) := Arv.new B1 (own_nn _ (by omega))
 have Z5 := Nat.le_trans Z0 E1.1
 refine own_step st1 ?_
 refine oP T1 (mkF m 9 #[oR o0, oI 0, oI (ofNat cs.length), oR b1, .unset, .unset] [(.int (ofNat cs.length)), (.int 0), (.ref b1), (.int 0), (.ref o0)]) (fun t k => ?_) ?_
 ·skip
  refine XS.astoreN X1.here hx rfl (d4 hby 2) rfl rfl (l' := #[oR o0, oI 0, oI (ofNat cs.length), oR b1, .unset, .unset]) rfl ?_
  refine XS.aloadN X1.here hx rfl (d4 hby 3) rfl rfl ?_
  refine XS.iloadN X1.here hx rfl (d4 hby 4) rfl ?_
  refine XS.aloadN X1.here hx rfl (d4 hby 5) rfl rfl ?_
  refine XS.iconst X1.here hx rfl (d4 hby 6) ?_
  refine XS.iloadN X1.here hx rfl (d4 hby 7) rfl ?_
  exact k
 have V6 : Arv Z h1 b1 k1 .byte (ofNat cs.length) (own_part cs 0) (.int 0) := by rw [own_part0]; exact V4.pad (pad_rep [] (.int 0) cs.length)
 obtain ⟨_, _, ⟨T7, L7, k7, n7⟩, -, X7, ⟨Lc7, hQ7, l7, y7, z7⟩, st7⟩ := Jvm.LawKit.callS X1 hx (y := yM39) hown (mvT hZ (own_w hw 20)) (mvT hZ (own_w hw 21)) (mvT hZ (own_w hw 17)) (mvT hZ (own_w hw 22)) (by decide) (backOf (W := 0) (rm5 l Z a0 hw [] o0 b1 cs k k1 h1 n0 Z5 V3 V6 g_b1 ne2 hcl hc8) hZ (own_w hw 22) (own_w hw 17) (by decide) (by decide)) (g := (mkF m 9 #[oR o0, oI 0, oI (ofNat cs.length), oR b1, .unset, .unset] [(.int (ofNat cs.length)), (.int 0), (.ref b1), (.int 0), (.ref o0)])) rfl (by rw [hml]; rfl) (argsL := [(.ref o0), (.int 0), (.ref b1), (.int 0), (.int (ofNat cs.length))]) (rest := []) (lenOf pd_30 rfl) rfl (by show 2 * 0 + _ ≤ _; exact Nat.le_of_eq rfl) (d4 hby 8) (fun _ _ => ⟨rfl, e1, (by decide : 1 + 0 ≤ _), (by decide : 64 + 0 ≤ _)⟩)
 dsimp only [Pt.U, Pt.locs, Pt.cells, Pt.slots] at X7 l7 y7 z7 st7 hQ7
 subst l7 y7 z7
 obtain ⟨rfl, N7q, Kq7, Vq7⟩ := hQ7
 have N7 := Fr.app N0 N7q
 refine own_step st7 ?_
 have K11 := K1.trans Kq7 (allS (Or.inr sz_b1) all0)
 refine oP T7 (mkF m 58 #[oR o0, oI 0, oI (ofNat cs.length), oR b1, oI (ofNat cs.length), .unset] [(.ref b1)]) (fun t k => ?_) ?_
 ·skip
  refine XS.istore X7.here hx rfl (d4 hby 9) rfl (l' := #[oR o0, oI 0, oI (ofNat cs.length), oR b1, oI (ofNat cs.length), .unset]) rfl ?_
  refine XS.iload X7.here hx rfl (d4 hby 10) rfl ?_
  refine XS.iloadN X7.here hx rfl (d4 hby 11) rfl ?_
  refine XS.icmpYes X7.here hx rfl (pc0 := 17) (pc' := 57) rfl (d4 hby 12) rfl (teq rfl).1 (by decide) (by decide) ?_
  refine XS.aloadN X7.here hx rfl (d4 hby 33) rfl rfl ?_
  exact k
 refine own_retA X7 hx Bd.returns rfl rfl (d4 hby 34) (BodyLoose.notSynchronized Bd) (by decide) (by decide) ?_
 exact ⟨b1, k1, rfl, N7, g1, K11, Vq7⟩
def D2 : List (Nat × Instr × Nat) := [(0, .aload_n 0, 1), (1, .invokespecial 1, 3), (4, .iload_n 3, 1), (5, .ifCond .ne 22, 3), (8, .aload_n 0, 1), (9, .ldc 7, 2), (11, .getfield 9, 3), (14, .putfield 9, 3), (17, .aload_n 0, 1), (18, .ldc 7, 2), (20, .getfield 15, 3), (23, .putfield 15, 3), (26, .return_, 1), (27, .getstatic 38, 3), (30, .ifCond .eq 28, 3), (33, .aload_n 1, 1), (34, .iload_n 2, 1), (35, .iload_n 3, 1), (36, .invokestatic 177, 3), (39, .astore 5, 2), (41, .aload_n 0, 1), (42, .aload 5, 2), (44, .iload_n 3, 1), (45, .invokestatic 47, 3), (48, .putfield 15, 3), (51, .aload_n 0, 1), (52, .aload 5, 2), (54, .putfield 9, 3), (57, .return_, 1), (58, .aload_n 0, 1), (59, .iconst 1, 1), (60, .putfield 15, 3), (63, .aload_n 0, 1), (64, .aload_n 1, 1), (65, .iload_n 2, 1), (66, .iload_n 3, 1), (67, .invokestatic 180, 3), (70, .putfield 9, 3), (73, .return_, 1)]
theorem A2 : ∀ q ∈ D2, decode jdk_42_method_149_code q.1 = .ok q.2 := by decide +kernel
theorem d2 {c : Code} (h0 : c.code = jdk_42_method_149_code) (i : Nat) {pc n : Nat} {q : Instr} (h : D2[i]? = some (pc, q, n) := by rfl) : decode c.code pc = .ok (q, n) := hb h0 (A2 (pc, q, n) (List.mem_of_getElem? h))
theorem pn_rm2 : plainName "java/lang/String" = true := by first | (simp [plainName, overriddenIn]; done) | decide +kernel
theorem ef_rm2 (m : MethodId) (o0 : Addr) (o1 : Addr) (cs : List Int32) : entryFrame m #[(.ref o0), (.ref o1), (.int 0), (.int (ofNat cs.length)), .null] 6 = mkF m 0 #[.val (.ref o0), .val (.ref o1), .val (.int 0), .val (.int (ofNat cs.length)), .val .null, .unset] [] := by first | (simp [entryFrame, mkF, argsToLocals, Value.category, maxLocals]; done) | rfl
def rm2_Q (Z : State) (o0 : Addr) (o1 : Addr) (cs : List Int32) (cs_ : Int32) (k : ClassId) (h0 : Heap) (n0 : Nat) (v : Option Value) (h : Heap) (L : List Loc) : Prop := ∃ (t : Addr) (k1 : ClassId), v = none ∧ Fr n0 L ∧ Keep h0 h [o0] ∧ h0.size ≤ t ∧ Exa Z h o0 "java/lang/String" ∧ Fld Z h o0 "java/lang/String" "coder" "B" (.int 0) ∧ Fld Z h o0 "java/lang/String" "value" "[B" (.ref t) ∧ Arv Z h t k1 .byte (ofNat cs.length) (own_xs (own_bs cs)) (.int 0)
set_option maxRecDepth 65536 in
set_option maxHeartbeats 40000000 in
theorem rm2 (l : Launch) (Z : State) (a0 : Array Value) (hw : ∀ d ∈ tables_1, d.before a0 Z = true) (ws : List Jvm.Cond) (o0 : Addr) (o1 : Addr) (cs : List Int32) (cs_ : Int32) (k : ClassId) (h0 : Heap) (n0 : Nat) (Z0 : n0 ≤ h0.size) (O0 : Old Z n0 h0) (S_cs : Sta Z Z.heap "java/lang/String" "COMPACT_STRINGS" "Z" (.int cs_)) (hcs : ¬ cs_ = (0 : Int32)) (E_o0 : Exa Z h0 o0 "java/lang/String") (F_value_o0 : Fld Z h0 o0 "java/lang/String" "value" "[B" .null) (F_coder_o0 : Fld Z h0 o0 "java/lang/String" "coder" "B" (.int 0)) (g_o0 : n0 ≤ o0) (V_o1 : Arv Z h0 o1 k .char (ofNat cs.length) (own_xs cs) (.int 0)) (ne10 : o1 ≠ o0) (hcp : 0 < cs.length) (hcl : cs.length ≤ 64) (hc8 : ∀ i, i < cs.length → ¬ (255 : Int32) < own_g cs i) :
  MetFree l yM42 (head1 (Jvm.Cond.code yM42 jdk_42_method_149_code 6 none :: ws) rM2_1_64_35) (fun a U => a = #[(.ref o0), (.ref o1), (.int 0), (.int (ofNat cs.length)), .null] ∧ Z.Warmed39 U.vm ∧ U.heap = h0) (fun _ _ _ _ _ => True) (fun _ U o U' => ∃ v L, o = .returned v ∧ rm2_Q Z o0 o1 cs cs_ k h0 n0 v U'.heap L ∧ FrameEnd U o U' L rM2_1_64_35.cells rM2_1_64_35.slots) := by
 refine MetFree.of_bodySF (plainFor_of_name pn_rm2) hisR ?_
 intro p e s m args below meth c s₁ Bd hml0 hP hK
 obtain ⟨rfl, hZ, hh⟩ := hP
 have hx := Bd.exec
 have hby := Bd.bytes
 have hml : c.maxLocals = 6 := hml0
 have hown : s.vm.findClass "java/lang/String" = some m.cls := findClass_of_methodNamed Bd.named
 have hnm := (name_of_methodNamed Bd.named Bd.method).1
 have X0 : Stand p l e rM2_1_64_35 s m #[(.ref o0), (.ref o1), (.int 0), (.int (ofNat cs.length)), .null] below meth c s₁ [] 0 0 := Stand.of_body Bd
 have e0 : s₁.heap = h0 := by rw [← hh, Bd.state]; rfl
 have N0 := Fr.nil n0
 have K0 := Keep.refl h0 [o0]
 refine own_enter (QQ := rm2_Q Z o0 o1 cs cs_ k h0 n0) (ef_rm2 m o0 o1 cs) ?_
 show own_Run p e below s _ _ _ s₁ (mkF m 0 #[.val (.ref o0), .val (.ref o1), .val (.int 0), .val (.int (ofNat cs.length)), .val .null, .unset] [])
 refine oP s₁ (mkF m 1 #[oR o0, oR o1, oI 0, oI (ofNat cs.length), .val .null, .unset] [(.ref o0)]) (fun t k => ?_) ?_
 ·skip
  refine XS.aloadN X0.here hx rfl (d2 hby 0) rfl rfl ?_
  exact k
 obtain ⟨T1, X1, e1, st1⟩ := initO X0 hx hZ hown (own_w hw 11) (own_w hw 12) (own_w hw 13) e0 (g := (mkF m 1 #[oR o0, oR o1, oI 0, oI (ofNat cs.length), .val .null, .unset] [(.ref o0)])) rfl (by rw [hml]; rfl) rfl (d2 hby 1) (by decide) (W := 0) (by show 2 * 0 + _ ≤ _; exact Nat.le_of_eq rfl) (by decide)
 refine own_step st1 ?_
 refine oP T1 (mkF m 27 #[oR o0, oR o1, oI 0, oI (ofNat cs.length), .val .null, .unset] []) (fun t k => ?_) ?_
 ·skip
  refine XS.iloadN X1.here hx rfl (d2 hby 2) rfl ?_
  refine XS.ifYes X1.here hx rfl (pc0 := 5) (pc' := 27) rfl (d2 hby 3) rfl ((if0 _ _).trans (feq (fun q => absurd ((own_eqn (b := 0) (by omega) (by decide)).mp q) (by omega))).2) (by decide) (by decide) ?_
  exact k
 obtain ⟨T3, X3, e3, st3⟩ := getS2 X1 hx hZ hown (host := "") (Or.inl (own_w hw 14)) Via.refl e1 (S_cs.ext O0.2) (g := (mkF m 27 #[oR o0, oR o1, oI 0, oI (ofNat cs.length), .val .null, .unset] [])) rfl (d2 hby 13)
 refine own_step st3 ?_
 refine oP T3 (mkF m 36 #[oR o0, oR o1, oI 0, oI (ofNat cs.length), .val .null, .unset] [(.int (ofNat cs.length)), (.int 0), (.ref o1)]) (fun t k => ?_) ?_
 ·skip
  refine XS.ifNo X3.here hx rfl (d2 hby 14) rfl ((if0 _ _).trans (feq hcs).1) ?_
  refine XS.aloadN X3.here hx rfl (d2 hby 15) rfl rfl ?_
  refine XS.iloadN X3.here hx rfl (d2 hby 16) rfl ?_
  refine XS.iloadN X3.here hx rfl (d2 hby 17) rfl ?_
  exact k
 obtain ⟨_, _, ⟨T5, L5, k5, n5⟩, -, X5, ⟨Lc5, hQ5, l5, y5, z5⟩, st5⟩ := Jvm.LawKit.callS X3 hx (y := yM41) hown (mvT hZ (own_w hw 15)) (mvT hZ (own_w hw 16)) (mvT hZ (own_w hw 17)) (mvT hZ (own_w hw 18)) (by decide) (backOf (W := 0) (rm4 l Z a0 hw [] o1 cs k h0 n0 Z0 V_o1 hcl hc8) hZ (own_w hw 18) (own_w hw 17) (by decide) (by decide)) (g := (mkF m 36 #[oR o0, oR o1, oI 0, oI (ofNat cs.length), .val .null, .unset] [(.int (ofNat cs.length)), (.int 0), (.ref o1)])) rfl (by rw [hml]; rfl) (argsL := [(.ref o1), (.int 0), (.int (ofNat cs.length))]) (rest := []) (lenOf pd_31 rfl) rfl (by show 2 * 0 + _ ≤ _; exact Nat.le_of_eq rfl) (d2 hby 18) (fun _ _ => ⟨rfl, e3, (by decide : 0 + 1 ≤ _), (by decide : 0 + 64 ≤ _)⟩)
 dsimp only [Pt.U, Pt.locs, Pt.cells, Pt.slots] at X5 l5 y5 z5 st5 hQ5
 subst l5 y5 z5
 obtain ⟨cp5, kc5, rfl, N5q, g5, Kq5, Vc5⟩ := hQ5
 have N5 := Fr.app N0 N5q
 refine own_step st5 ?_
 have ne6 : o0 ≠ cp5 := Nat.ne_of_lt (Nat.lt_of_lt_of_le F_value_o0.lt (Nat.le_of_eq g5.symm))
 have sz_cp5 : h0.size ≤ cp5 := Nat.le_trans K0.1 (Nat.le_of_eq g5.symm)
 have F8 := F_value_o0.keep Kq5 nin0
 have F9 := F_coder_o0.keep Kq5 nin0
 have A10 := E_o0.keep Kq5
 have Z13 := Nat.le_trans Z0 Kq5.1
 have K14 := K0.trans Kq5 all0
 refine oP T5 (mkF m 45 #[oR o0, oR o1, oI 0, oI (ofNat cs.length), .val .null, oR cp5] [(.int (ofNat cs.length)), (.ref cp5), (.ref o0)]) (fun t k => ?_) ?_
 ·skip
  refine XS.astore X5.here hx rfl (d2 hby 19) rfl rfl (l' := #[oR o0, oR o1, oI 0, oI (ofNat cs.length), .val .null, oR cp5]) rfl ?_
  refine XS.aloadN X5.here hx rfl (d2 hby 20) rfl rfl ?_
  refine XS.aload X5.here hx rfl (d2 hby 21) rfl rfl ?_
  refine XS.iloadN X5.here hx rfl (d2 hby 22) rfl ?_
  exact k
 obtain ⟨_, _, ⟨T15, L15, k15, n15⟩, -, X15, ⟨Lc15, hQ15, l15, y15, z15⟩, st15⟩ := Jvm.LawKit.callS X5 hx (y := yM40) hown (mvT hZ (own_w hw 23)) (mvT hZ (own_w hw 24)) (mvT hZ (own_w hw 17)) (mvT hZ (own_w hw 25)) (by decide) (backOf (W := 1) (rm6 l Z a0 hw [] cp5 cs.length kc5 (own_xs (own_bs cs)) T5.heap n0 Z13 Vc5) hZ (own_w hw 25) (own_w hw 17) (by decide) (by decide)) (g := (mkF m 45 #[oR o0, oR o1, oI 0, oI (ofNat cs.length), .val .null, oR cp5] [(.int (ofNat cs.length)), (.ref cp5), (.ref o0)])) rfl (by rw [hml]; rfl) (argsL := [(.ref cp5), (.int (ofNat cs.length))]) (rest := [(.ref o0)]) (lenOf pd_32 rfl) rfl (by show 2 * 0 + _ ≤ _; exact Nat.le_of_eq rfl) (d2 hby 23) (fun _ _ => ⟨rfl, rfl, (by decide : 1 + 0 ≤ _), (by decide : 64 + 0 ≤ _)⟩)
 dsimp only [Pt.U, Pt.locs, Pt.cells, Pt.slots] at X15 l15 y15 z15 st15 hQ15
 subst l15 y15 z15
 obtain ⟨rfl, N15q, eq15⟩ := hQ15
 have N15 := Fr.app N5 N15q
 refine own_step st15 ?_
 obtain ⟨T16, h16, X16, e16, W16, st16⟩ := putFN X15 hx hZ hown (own_w hw 26) Via.refl eq15 F9 A10 (Or.inr ⟨(own_w hw 27), rfl, hnm⟩) (own_w hw 2) (ty := .byte) (v' := (.int (nar .byte (0 : Int32)))) (by decide) rfl (fits_nar_byte _) (g := (mkF m 48 #[oR o0, oR o1, oI 0, oI (ofNat cs.length), .val .null, oR cp5] [(.int 0), (.ref o0)])) rfl rfl (d2 hby 24)
 have F17 := F9.same W16
 have F18 := F8.other W16 (Or.inr (slot_ne (Or.inr (own_w hw 29)) (Or.inr (own_w hw 27)) (by decide) (t := (.array .byte)) (t' := .byte) (by decide) (by decide)))
 have A19 := A10.wr W16
 have V21 := Vc5.other W16 (Ne.symm ne6)
 have K16 := K14.wr W16 (Or.inl (List.mem_of_getElem? (i := 0) rfl))
 have N16 := Fr.snoc X16 N15 g_o0
 refine own_step st16 ?_
 refine oP T16 (mkF m 54 #[oR o0, oR o1, oI 0, oI (ofNat cs.length), .val .null, oR cp5] [(.ref cp5), (.ref o0)]) (fun t k => ?_) ?_
 ·skip
  refine XS.aloadN X16.here hx rfl (d2 hby 25) rfl rfl ?_
  refine XS.aload X16.here hx rfl (d2 hby 26) rfl rfl ?_
  exact k
 obtain ⟨T24, h24, X24, e24, W24, st24⟩ := putF X16 hx hZ hown (host := "") (Or.inl (own_w hw 28)) Via.refl e16 F18 A19 (Or.inr ⟨(own_w hw 29), rfl, hnm⟩) (own_w hw 2) (ty := (.array .byte)) (by decide) rfl rfl (g := (mkF m 54 #[oR o0, oR o1, oI 0, oI (ofNat cs.length), .val .null, oR cp5] [(.ref cp5), (.ref o0)])) rfl rfl (d2 hby 27)
 have F25 := F18.same W24
 have F26 := F17.other W24 (Or.inr (slot_ne (Or.inr (own_w hw 27)) (Or.inr (own_w hw 29)) (by decide) (t := .byte) (t' := (.array .byte)) (by decide) (by decide)))
 have A27 := A19.wr W24
 have V29 := V21.other W24 (Ne.symm ne6)
 have K24 := K16.wr W24 (Or.inl (List.mem_of_getElem? (i := 0) rfl))
 have N24 := Fr.snoc X24 N16 g_o0
 refine own_step st24 ?_
 refine own_retV X24 hx Bd.returns (d2 hby 28) (BodyLoose.notSynchronized Bd) (by decide) (by decide) ?_
 rw [show T24.heap = h24 from e24]
 exact ⟨cp5, kc5, rfl, N24, K24, sz_cp5, A27, F26, F25, V29⟩
def D1 : List (Nat × Instr × Nat) := [(0, .aload_n 0, 1), (1, .aload_n 1, 1), (2, .iconst 0, 1), (3, .aload_n 1, 1), (4, .arraylength, 1), (5, .aconst_null, 1), (6, .invokespecial 27, 3), (9, .return_, 1)]
theorem A1 : ∀ q ∈ D1, decode jdk_42_method_3_code q.1 = .ok q.2 := by decide +kernel
theorem d1 {c : Code} (h0 : c.code = jdk_42_method_3_code) (i : Nat) {pc n : Nat} {q : Instr} (h : D1[i]? = some (pc, q, n) := by rfl) : decode c.code pc = .ok (q, n) := hb h0 (A1 (pc, q, n) (List.mem_of_getElem? h))
theorem pn_rm1 : plainName "java/lang/String" = true := by first | (simp [plainName, overriddenIn]; done) | decide +kernel
theorem ef_rm1 (m : MethodId) (o0 : Addr) (o1 : Addr) (cs : List Int32) : entryFrame m #[(.ref o0), (.ref o1)] 2 = mkF m 0 #[.val (.ref o0), .val (.ref o1)] [] := by first | (simp [entryFrame, mkF, argsToLocals, Value.category, maxLocals]; done) | rfl
def rm1_Q (Z : State) (o0 : Addr) (o1 : Addr) (cs : List Int32) (cs_ : Int32) (k : ClassId) (h0 : Heap) (n0 : Nat) (v : Option Value) (h : Heap) (L : List Loc) : Prop := ∃ (t : Addr) (k1 : ClassId), v = none ∧ Fr n0 L ∧ Keep h0 h [o0] ∧ h0.size ≤ t ∧ Exa Z h o0 "java/lang/String" ∧ Fld Z h o0 "java/lang/String" "coder" "B" (.int 0) ∧ Fld Z h o0 "java/lang/String" "value" "[B" (.ref t) ∧ Arv Z h t k1 .byte (ofNat cs.length) (own_xs (own_bs cs)) (.int 0)
set_option maxRecDepth 65536 in
set_option maxHeartbeats 40000000 in
theorem rm1 (l : Launch) (Z : State) (a0 : Array Value) (hw : ∀ d ∈ tables_1, d.before a0 Z = true) (ws : List Jvm.Cond) (o0 : Addr) (o1 : Addr) (cs : List Int32) (cs_ : Int32) (k : ClassId) (h0 : Heap) (n0 : Nat) (Z0 : n0 ≤ h0.size) (O0 : Old Z n0 h0) (S_cs : Sta Z Z.heap "java/lang/String" "COMPACT_STRINGS" "Z" (.int cs_)) (hcs : ¬ cs_ = (0 : Int32)) (E_o0 : Exa Z h0 o0 "java/lang/String") (F_value_o0 : Fld Z h0 o0 "java/lang/String" "value" "[B" .null) (F_coder_o0 : Fld Z h0 o0 "java/lang/String" "coder" "B" (.int 0)) (g_o0 : n0 ≤ o0) (V_o1 : Arv Z h0 o1 k .char (ofNat cs.length) (own_xs cs) (.int 0)) (ne10 : o1 ≠ o0) (hcp : 0 < cs.length) (hcl : cs.length ≤ 64) (hc8 : ∀ i, i < cs.length → ¬ (255 : Int32) < own_g cs i) :
  MetFree l yM43 (head1 (Jvm.Cond.code yM43 jdk_42_method_3_code 2 none :: ws) rM3_1_64_52) (fun a U => a = #[(.ref o0), (.ref o1)] ∧ Z.Warmed39 U.vm ∧ U.heap = h0) (fun _ _ _ _ _ => True) (fun _ U o U' => ∃ v L, o = .returned v ∧ rm1_Q Z o0 o1 cs cs_ k h0 n0 v U'.heap L ∧ FrameEnd U o U' L rM3_1_64_52.cells rM3_1_64_52.slots) := by
 refine MetFree.of_bodySF (plainFor_of_name pn_rm1) hisR ?_
 intro p e s m args below meth c s₁ Bd hml0 hP hK
 obtain ⟨rfl, hZ, hh⟩ := hP
 have hx := Bd.exec
 have hby := Bd.bytes
 have hml : c.maxLocals = 2 := hml0
 have hown : s.vm.findClass "java/lang/String" = some m.cls := findClass_of_methodNamed Bd.named
 have hnm := (name_of_methodNamed Bd.named Bd.method).1
 have X0 : Stand p l e rM3_1_64_52 s m #[(.ref o0), (.ref o1)] below meth c s₁ [] 0 0 := Stand.of_body Bd
 have e0 : s₁.heap = h0 := by rw [← hh, Bd.state]; rfl
 have N0 := Fr.nil n0
 have K0 := Keep.refl h0 [o0]
 refine own_enter (QQ := rm1_Q Z o0 o1 cs cs_ k h0 n0) (ef_rm1 m o0 o1 cs) ?_
 show own_Run p e below s _ _ _ s₁ (mkF m 0 #[.val (.ref o0), .val (.ref o1)] [])
 refine oP s₁ (mkF m 4 #[oR o0, oR o1] [(.ref o1), (.int 0), (.ref o1), (.ref o0)]) (fun t k => ?_) ?_
 ·skip
  refine XS.aloadN X0.here hx rfl (d1 hby 0) rfl rfl ?_
  refine XS.aloadN X0.here hx rfl (d1 hby 1) rfl rfl ?_
  refine XS.iconst X0.here hx rfl (d1 hby 2) ?_
  refine XS.aloadN X0.here hx rfl (d1 hby 3) rfl rfl ?_
  exact k
 obtain ⟨cl1, Arcl1, -, Scl1, Mcl1, -, -⟩ := id V_o1
 refine oP s₁ (mkF m 6 #[oR o0, oR o1] [.null, (.int (ofNat cs.length)), (.int 0), (.ref o1), (.ref o0)]) (fun t k => ?_) ?_
 ·skip
  refine X0.arraylength hx (by rw [e0]; exact Arcl1.1) (State.isArrayOf_alike hZ.alike Arcl1.2.1) (g := (mkF m 4 #[oR o0, oR o1] [(.ref o1), (.int 0), (.ref o1), (.ref o0)])) rfl rfl (d1 hby 4) _ ?_
  rw [len_of Scl1 Mcl1]
  show Steps p.tables e below (s₁.setTop (mkF m 5 #[oR o0, oR o1] [(.int (ofNat cs.length)), (.int 0), (.ref o1), (.ref o0)])) _
  refine XS.aconstNull X0.here hx rfl (d1 hby 5) ?_
  exact k
 obtain ⟨_, _, ⟨T2, L2, k2, n2⟩, -, X2, ⟨Lc2, hQ2, l2, y2, z2⟩, st2⟩ := X0.specialBack hx (y := yM42) rfl hown (mvT hZ (own_w hw 7)) (mvT hZ (own_w hw 8)) (mvT hZ (own_w hw 10)) (by decide) (backOf (W := 0) (rm2 l Z a0 hw [] o0 o1 cs cs_ k h0 n0 Z0 O0 S_cs hcs E_o0 F_value_o0 F_coder_o0 g_o0 V_o1 ne10 hcp hcl hc8) hZ (own_w hw 10) (own_w hw 3) (by decide) (by decide)) (g := (mkF m 6 #[oR o0, oR o1] [.null, (.int (ofNat cs.length)), (.int 0), (.ref o1), (.ref o0)])) rfl (by rw [hml]; rfl) (Steps.refl _) (a := o0) (argsL := [(.ref o1), (.int 0), (.int (ofNat cs.length)), .null]) (rest := []) (lenOf pd_33 rfl) rfl (by show 2 * 0 + _ ≤ _; exact Nat.le_of_eq rfl) (d1 hby 6) (fun _ _ => ⟨rfl, e0, (by decide : 0 + 1 ≤ _), (by decide : 0 + 64 ≤ _)⟩)
 dsimp only [Pt.U, Pt.locs, Pt.cells, Pt.slots] at X2 l2 y2 z2 st2 hQ2
 subst l2 y2 z2
 obtain ⟨t, k1, rfl, N2q, Kq2, r2⟩ := hQ2
 have N2 := Fr.app N0 N2q
 refine own_step (fun t k => st2.trans k) ?_
 refine own_retV X2 hx Bd.returns (d1 hby 7) (BodyLoose.notSynchronized Bd) (by decide) (by decide) ?_
 exact ⟨t, k1, rfl, N2, Kq2, r2⟩
def D47 : List (Nat × Instr × Nat) := [(0, .aload_n 0, 1), (1, .arraylength, 1), (2, .aload_n 1, 1), (3, .arraylength, 1), (4, .if_icmp .ne 30, 3), (7, .iconst 0, 1), (8, .istore_n 2, 1), (9, .iload_n 2, 1), (10, .aload_n 0, 1), (11, .arraylength, 1), (12, .if_icmp .ge 20, 3), (15, .aload_n 0, 1), (16, .iload_n 2, 1), (17, .baload, 1), (18, .aload_n 1, 1), (19, .iload_n 2, 1), (20, .baload, 1), (21, .if_icmp .eq 5, 3), (24, .iconst 0, 1), (25, .ireturn, 1), (26, .iinc 2 1, 3), (29, .goto (-20), 3), (32, .iconst 1, 1), (33, .ireturn, 1), (34, .iconst 0, 1), (35, .ireturn, 1)]
theorem A47 : ∀ q ∈ D47, decode jdk_43_method_13_code q.1 = .ok q.2 := by decide +kernel
theorem d47 {c : Code} (h0 : c.code = jdk_43_method_13_code) (i : Nat) {pc n : Nat} {q : Instr} (h : D47[i]? = some (pc, q, n) := by rfl) : decode c.code pc = .ok (q, n) := hb h0 (A47 (pc, q, n) (List.mem_of_getElem? h))
theorem pn_rm48 : plainName "java/lang/StringLatin1" = true := by first | (simp [plainName, overriddenIn]; done) | decide +kernel
theorem ef_rm48 (m : MethodId) (o0 : Addr) (o1 : Addr) (bs : List Int32) : entryFrame m #[(.ref o0), (.ref o1)] 3 = mkF m 0 #[.val (.ref o0), .val (.ref o1), .unset] [] := by first | (simp [entryFrame, mkF, argsToLocals, Value.category, maxLocals]; done) | rfl
def rm48_Q (Z : State) (o0 : Addr) (o1 : Addr) (bs : List Int32) (k : ClassId) (k2 : ClassId) (h0 : Heap) (n0 : Nat) (v : Option Value) (h : Heap) (L : List Loc) : Prop := v = some (.int 1) ∧ Fr n0 L ∧ h = h0
set_option maxRecDepth 65536 in
set_option maxHeartbeats 40000000 in
theorem rm48 (l : Launch) (Z : State) (a0 : Array Value) (hw : ∀ d ∈ tables_1, d.before a0 Z = true) (ws : List Jvm.Cond) (o0 : Addr) (o1 : Addr) (bs : List Int32) (k : ClassId) (k2 : ClassId) (h0 : Heap) (n0 : Nat) (Z0 : n0 ≤ h0.size) (V_o0 : Arv Z h0 o0 k .byte (ofNat bs.length) (own_xs bs) (.int 0)) (V_o1 : Arv Z h0 o1 k2 .byte (ofNat bs.length) (own_xs bs) (.int 0)) (hbl : bs.length ≤ 1024) :
  MetFree l yM44 (head1 (Jvm.Cond.code yM44 jdk_43_method_13_code 3 (some .boolean) :: ws) rM0_0_0_0) (fun a U => a = #[(.ref o0), (.ref o1)] ∧ Z.Warmed39 U.vm ∧ U.heap = h0) (fun _ _ _ _ _ => True) (fun _ U o U' => ∃ v L, o = .returned v ∧ rm48_Q Z o0 o1 bs k k2 h0 n0 v U'.heap L ∧ FrameEnd U o U' L rM0_0_0_0.cells rM0_0_0_0.slots) := by
 refine MetFree.of_bodySF (plainFor_of_name pn_rm48) hisR ?_
 intro p e s m args below meth c s₁ Bd hml0 hP hK
 obtain ⟨rfl, hZ, hh⟩ := hP
 have hx := Bd.exec
 have hby := Bd.bytes
 have hml : c.maxLocals = 3 := hml0
 have hown : s.vm.findClass "java/lang/StringLatin1" = some m.cls := findClass_of_methodNamed Bd.named
 have hnm := (name_of_methodNamed Bd.named Bd.method).1
 have X0 : Stand p l e rM0_0_0_0 s m #[(.ref o0), (.ref o1)] below meth c s₁ [] 0 0 := Stand.of_body Bd
 have e0 : s₁.heap = h0 := by rw [← hh, Bd.state]; rfl
 have N0 := Fr.nil n0
 refine own_enter (QQ := rm48_Q Z o0 o1 bs k k2 h0 n0) (ef_rm48 m o0 o1 bs) ?_
 show own_Run p e below s _ _ _ s₁ (mkF m 0 #[.val (.ref o0), .val (.ref o1), .unset] [])
 have loop : ∀ (g i : Nat) (T : State) (lc : List Loc), i + g = bs.length → ∀ (X : Stand p l e rM0_0_0_0 s m #[(.ref o0), (.ref o1)] below meth c T lc 0 0) (eT : T.heap = h0) (Nl : Fr n0 lc), own_Run p e below s (rm48_Q Z o0 o1 bs k k2 h0 n0) 0 0 T (mkF m 9 #[oR o0, oR o1, oI (ofNat i)] []) := by
  intro g
  induction g with
  | zero =>
   intro i T lc hi X eT Nl
   refine oP T (mkF m 11 #[oR o0, oR o1, oI (ofNat i)] [(.ref o0), (.int (ofNat i))]) (fun t k => ?_) ?_
   ·skip
    refine XS.iloadN X.here hx rfl (d47 hby 7) rfl ?_
    refine XS.aloadN X.here hx rfl (d47 hby 8) rfl rfl ?_
    exact k
   obtain ⟨cl1, Arcl1, -, Scl1, Mcl1, -, -⟩ := id V_o0
   refine oP T (mkF m 33 #[oR o0, oR o1, oI (ofNat i)] [(.int 1)]) (fun t k => ?_) ?_
   ·skip
    refine X.arraylength hx (by rw [eT]; exact Arcl1.1) (State.isArrayOf_alike hZ.alike Arcl1.2.1) (g := (mkF m 11 #[oR o0, oR o1, oI (ofNat i)] [(.ref o0), (.int (ofNat i))])) rfl rfl (d47 hby 9) _ ?_
    rw [len_of Scl1 Mcl1]
    show Steps p.tables e below (T.setTop (mkF m 12 #[oR o0, oR o1, oI (ofNat i)] [(.int (ofNat bs.length)), (.int (ofNat i))])) _
    refine XS.icmpYes X.here hx rfl (pc0 := 12) (pc' := 32) rfl (d47 hby 10) rfl (flt (fun q => absurd ((own_lt (by omega) (by omega)).mp q) (by omega))).2.1 (by decide) (by decide) ?_
    refine XS.iconst X.here hx rfl (d47 hby 22) ?_
    exact k
   refine own_retN X hx (t := .boolean) Bd.returns (by simp) (d47 hby 23) (BodyLoose.notSynchronized Bd) (by decide) (by decide) ?_
   rw [show T.heap = h0 from eT]
   exact ⟨rfl, Nl, rfl⟩
  | succ g ih =>
   intro i T lc hi X eT Nl
   refine oP T (mkF m 11 #[oR o0, oR o1, oI (ofNat i)] [(.ref o0), (.int (ofNat i))]) (fun t k => ?_) ?_
   ·skip
    refine XS.iloadN X.here hx rfl (d47 hby 7) rfl ?_
    refine XS.aloadN X.here hx rfl (d47 hby 8) rfl rfl ?_
    exact k
   obtain ⟨cl3, Arcl3, -, Scl3, Mcl3, -, -⟩ := id V_o0
   refine oP T (mkF m 17 #[oR o0, oR o1, oI (ofNat i)] [(.int (ofNat i)), (.ref o0)]) (fun t k => ?_) ?_
   ·skip
    refine X.arraylength hx (by rw [eT]; exact Arcl3.1) (State.isArrayOf_alike hZ.alike Arcl3.2.1) (g := (mkF m 11 #[oR o0, oR o1, oI (ofNat i)] [(.ref o0), (.int (ofNat i))])) rfl rfl (d47 hby 9) _ ?_
    rw [len_of Scl3 Mcl3]
    show Steps p.tables e below (T.setTop (mkF m 12 #[oR o0, oR o1, oI (ofNat i)] [(.int (ofNat bs.length)), (.int (ofNat i))])) _
    refine XS.icmpNo X.here hx rfl (d47 hby 10) rfl (tlt ((own_lt (by omega) (by omega)).mpr (by omega))).2.1 ?_
    refine XS.aloadN X.here hx rfl (d47 hby 11) rfl rfl ?_
    refine XS.iloadN X.here hx rfl (d47 hby 12) rfl ?_
    exact k
   obtain ⟨cl5, Arcl5, qcl5, Scl5, Mcl5, Hcl5, Gcl5⟩ := id V_o0
   have hincl5 : ¬ ((ofNat i) < 0 ∨ cl5.slots.size ≤ ((ofNat i)).toNatClampNeg) := inb_of Scl5 (own_tin (by omega) (by omega))
   have hatcl5 : cl5.slots[((ofNat i)).toNatClampNeg]? = some (.int (own_g bs i)) := Hcl5.at hincl5 (own_xat bs (by omega))
   refine oP T (mkF m 20 #[oR o0, oR o1, oI (ofNat i)] [(.int (ofNat i)), (.ref o1), (.int (own_g bs i))]) (fun t k => ?_) ?_
   ·skip
    refine X.baloadBytes hx (j := (ofNat i)) (v := (.int (own_g bs i))) (by rw [eT]; exact Arcl5.1) (State.isArrayOf_alike hZ.alike Arcl5.2.1) Arcl5.2.2 hincl5 hatcl5 (g := (mkF m 17 #[oR o0, oR o1, oI (ofNat i)] [(.int (ofNat i)), (.ref o0)])) rfl rfl (d47 hby 13) _ ?_
    refine XS.aloadN X.here hx rfl (d47 hby 14) rfl rfl ?_
    refine XS.iloadN X.here hx rfl (d47 hby 15) rfl ?_
    exact k
   obtain ⟨cl6, Arcl6, qcl6, Scl6, Mcl6, Hcl6, Gcl6⟩ := id V_o1
   have hincl6 : ¬ ((ofNat i) < 0 ∨ cl6.slots.size ≤ ((ofNat i)).toNatClampNeg) := inb_of Scl6 (own_tin (by omega) (by omega))
   have hatcl6 : cl6.slots[((ofNat i)).toNatClampNeg]? = some (.int (own_g bs i)) := Hcl6.at hincl6 (own_xat bs (by omega))
   refine oP T (mkF m 9 #[oR o0, oR o1, oI ((ofNat i) + (1 : Int32))] []) (fun t k => ?_) ?_
   ·skip
    refine X.baloadBytes hx (j := (ofNat i)) (v := (.int (own_g bs i))) (by rw [eT]; exact Arcl6.1) (State.isArrayOf_alike hZ.alike Arcl6.2.1) Arcl6.2.2 hincl6 hatcl6 (g := (mkF m 20 #[oR o0, oR o1, oI (ofNat i)] [(.int (ofNat i)), (.ref o1), (.int (own_g bs i))])) rfl rfl (d47 hby 16) _ ?_
    refine XS.icmpYes X.here hx rfl (pc0 := 21) (pc' := 26) rfl (d47 hby 17) rfl (teq rfl).1 (by decide) (by decide) ?_
    refine XS.iinc X.here hx rfl (d47 hby 20) rfl (l' := #[oR o0, oR o1, oI ((ofNat i) + (1 : Int32))]) rfl ?_
    refine XS.goto X.here hx rfl (pc0 := 29) (pc' := 9) rfl (d47 hby 21) (by decide) (by decide) ?_
    exact k
   rw [show (((ofNat i) + (1 : Int32)) : Int32) = (ofNat (i + 1)) from own_add i 1]
   exact ih (i + 1) _ _ (by omega) X eT Nl
 refine oP s₁ (mkF m 1 #[oR o0, oR o1, .unset] [(.ref o0)]) (fun t k => ?_) ?_
 ·skip
  refine XS.aloadN X0.here hx rfl (d47 hby 0) rfl rfl ?_
  exact k
 obtain ⟨cl8, Arcl8, -, Scl8, Mcl8, -, -⟩ := id V_o0
 refine oP s₁ (mkF m 3 #[oR o0, oR o1, .unset] [(.ref o1), (.int (ofNat bs.length))]) (fun t k => ?_) ?_
 ·skip
  refine X0.arraylength hx (by rw [e0]; exact Arcl8.1) (State.isArrayOf_alike hZ.alike Arcl8.2.1) (g := (mkF m 1 #[oR o0, oR o1, .unset] [(.ref o0)])) rfl rfl (d47 hby 1) _ ?_
  rw [len_of Scl8 Mcl8]
  show Steps p.tables e below (s₁.setTop (mkF m 2 #[oR o0, oR o1, .unset] [(.int (ofNat bs.length))])) _
  refine XS.aloadN X0.here hx rfl (d47 hby 2) rfl rfl ?_
  exact k
 obtain ⟨cl9, Arcl9, -, Scl9, Mcl9, -, -⟩ := id V_o1
 refine oP s₁ (mkF m 9 #[oR o0, oR o1, oI 0] []) (fun t k => ?_) ?_
 ·skip
  refine X0.arraylength hx (by rw [e0]; exact Arcl9.1) (State.isArrayOf_alike hZ.alike Arcl9.2.1) (g := (mkF m 3 #[oR o0, oR o1, .unset] [(.ref o1), (.int (ofNat bs.length))])) rfl rfl (d47 hby 3) _ ?_
  rw [len_of Scl9 Mcl9]
  show Steps p.tables e below (s₁.setTop (mkF m 4 #[oR o0, oR o1, .unset] [(.int (ofNat bs.length)), (.int (ofNat bs.length))])) _
  refine XS.icmpNo X0.here hx rfl (d47 hby 4) rfl (teq rfl).2 ?_
  refine XS.iconst X0.here hx rfl (d47 hby 5) ?_
  refine XS.istoreN X0.here hx rfl (d47 hby 6) rfl (l' := #[oR o0, oR o1, oI 0]) rfl ?_
  exact k
 exact loop bs.length 0 _ _ (by omega) X0 e0 N0
def D46 : List (Nat × Instr × Nat) := [(0, .aload_n 0, 1), (1, .aload_n 1, 1), (2, .if_acmp .ne 5, 3), (5, .iconst 1, 1), (6, .ireturn, 1), (7, .aload_n 1, 1), (8, .instanceof 10, 3), (11, .ifCond .eq 43, 3), (14, .aload_n 1, 1), (15, .checkcast 10, 3), (18, .astore_n 2, 1), (19, .getstatic 38, 3), (22, .ifCond .eq 14, 3), (25, .aload_n 0, 1), (26, .getfield 15, 3), (29, .aload_n 2, 1), (30, .getfield 15, 3), (33, .if_icmp .ne 21, 3), (36, .aload_n 0, 1), (37, .getfield 9, 3), (40, .aload_n 2, 1), (41, .getfield 9, 3), (44, .invokestatic 541, 3), (47, .ifCond .eq 7, 3), (50, .iconst 1, 1), (51, .goto 4, 3), (54, .iconst 0, 1), (55, .ireturn, 1)]
theorem A46 : ∀ q ∈ D46, decode jdk_42_method_66_code q.1 = .ok q.2 := by decide +kernel
theorem d46 {c : Code} (h0 : c.code = jdk_42_method_66_code) (i : Nat) {pc n : Nat} {q : Instr} (h : D46[i]? = some (pc, q, n) := by rfl) : decode c.code pc = .ok (q, n) := hb h0 (A46 (pc, q, n) (List.mem_of_getElem? h))
theorem pn_rm47 : plainName "java/lang/String" = true := by first | (simp [plainName, overriddenIn]; done) | decide +kernel
theorem ef_rm47 (m : MethodId) (o0 : Addr) (o1 : Addr) (bs : List Int32) : entryFrame m #[(.ref o0), (.ref o1)] 3 = mkF m 0 #[.val (.ref o0), .val (.ref o1), .unset] [] := by first | (simp [entryFrame, mkF, argsToLocals, Value.category, maxLocals]; done) | rfl
def rm47_Q (Z : State) (o0 : Addr) (o1 : Addr) (bs : List Int32) (cs : Int32) (t0 : Addr) (t1 : Addr) (k : ClassId) (k2 : ClassId) (h0 : Heap) (n0 : Nat) (v : Option Value) (h : Heap) (L : List Loc) : Prop := v = some (.int 1) ∧ Fr n0 L ∧ h = h0
set_option maxRecDepth 65536 in
set_option maxHeartbeats 40000000 in
theorem rm47 (l : Launch) (Z : State) (a0 : Array Value) (hw : ∀ d ∈ tables_1, d.before a0 Z = true) (ws : List Jvm.Cond) (o0 : Addr) (o1 : Addr) (bs : List Int32) (cs : Int32) (t0 : Addr) (t1 : Addr) (k : ClassId) (k2 : ClassId) (h0 : Heap) (n0 : Nat) (Z0 : n0 ≤ h0.size) (O0 : Old Z n0 h0) (S_cs : Sta Z Z.heap "java/lang/String" "COMPACT_STRINGS" "Z" (.int cs)) (hcs : ¬ cs = (0 : Int32)) (E_o0 : Exa Z h0 o0 "java/lang/String") (F_coder_o0 : Fld Z h0 o0 "java/lang/String" "coder" "B" (.int 0)) (F_value_o0 : Fld Z h0 o0 "java/lang/String" "value" "[B" (.ref t0)) (E_o1 : Exa Z h0 o1 "java/lang/String") (F_coder_o1 : Fld Z h0 o1 "java/lang/String" "coder" "B" (.int 0)) (F_value_o1 : Fld Z h0 o1 "java/lang/String" "value" "[B" (.ref t1)) (V_t0 : Arv Z h0 t0 k .byte (ofNat bs.length) (own_xs bs) (.int 0)) (V_t1 : Arv Z h0 t1 k2 .byte (ofNat bs.length) (own_xs bs) (.int 0)) (hbl : bs.length ≤ 1024) :
  MetFree l yM45 (head1 (Jvm.Cond.code yM45 jdk_42_method_66_code 3 (some .boolean) :: ws) rM1_0_0_14) (fun a U => a = #[(.ref o0), (.ref o1)] ∧ Z.Warmed39 U.vm ∧ U.heap = h0) (fun _ _ _ _ _ => True) (fun _ U o U' => ∃ v L, o = .returned v ∧ rm47_Q Z o0 o1 bs cs t0 t1 k k2 h0 n0 v U'.heap L ∧ FrameEnd U o U' L rM1_0_0_14.cells rM1_0_0_14.slots) := by
 refine MetFree.of_bodySF (plainFor_of_name pn_rm47) hisR ?_
 intro p e s m args below meth c s₁ Bd hml0 hP hK
 obtain ⟨rfl, hZ, hh⟩ := hP
 have hx := Bd.exec
 have hby := Bd.bytes
 have hml : c.maxLocals = 3 := hml0
 have hown : s.vm.findClass "java/lang/String" = some m.cls := findClass_of_methodNamed Bd.named
 have hnm := (name_of_methodNamed Bd.named Bd.method).1
 have X0 : Stand p l e rM1_0_0_14 s m #[(.ref o0), (.ref o1)] below meth c s₁ [] 0 0 := Stand.of_body Bd
 have e0 : s₁.heap = h0 := by rw [← hh, Bd.state]; rfl
 have N0 := Fr.nil n0
 refine own_enter (QQ := rm47_Q Z o0 o1 bs cs t0 t1 k k2 h0 n0) (ef_rm47 m o0 o1 bs) ?_
 show own_Run p e below s _ _ _ s₁ (mkF m 0 #[.val (.ref o0), .val (.ref o1), .unset] [])
 refine oP s₁ (mkF m 2 #[oR o0, oR o1, .unset] [(.ref o1), (.ref o0)]) (fun t k => ?_) ?_
 ·skip
  refine XS.aloadN X0.here hx rfl (d46 hby 0) rfl rfl ?_
  refine XS.aloadN X0.here hx rfl (d46 hby 1) rfl rfl ?_
  exact k
 by_cases ha1 : o0 = o1
 ·skip
  refine oP s₁ (mkF m 6 #[oR o0, oR o1, .unset] [(.int 1)]) (fun t k => ?_) ?_
  ·skip
   refine Jvm.RoadKit.acmp (g := (mkF m 2 #[oR o0, oR o1, .unset] [(.ref o1), (.ref o0)])) X0 hx rfl rfl rfl (pc0 := 2) (pc' := 5) (same := true) rfl (d46 hby 2) rfl (decide_eq_true (congrArg Value.ref ha1)) (by decide) (by decide) ?_
   refine XS.iconst X0.here hx rfl (d46 hby 3) ?_
   exact k
  refine own_retN X0 hx (t := .boolean) Bd.returns (by simp) (d46 hby 4) (BodyLoose.notSynchronized Bd) (by decide) (by decide) ?_
  rw [show s₁.heap = h0 from e0]
  exact ⟨rfl, N0, rfl⟩
 ·skip
  refine oP s₁ (mkF m 8 #[oR o0, oR o1, .unset] [(.ref o1)]) (fun t k => ?_) ?_
  ·skip
   refine Jvm.RoadKit.acmp (g := (mkF m 2 #[oR o0, oR o1, .unset] [(.ref o1), (.ref o0)])) X0 hx rfl rfl rfl (pc0 := 2) (pc' := 7) (same := false) rfl (d46 hby 2) rfl (decide_eq_false fun q => ha1 (Value.ref.inj q)) (by decide) (by decide) ?_
   refine XS.aloadN X0.here hx rfl (d46 hby 5) rfl rfl ?_
   exact k
  obtain ⟨T2, X2, e2, st2⟩ := instY X0 hx hZ hown (own_w hw 245) e0 (Ins.self E_o1) (g := (mkF m 8 #[oR o0, oR o1, .unset] [(.ref o1)])) rfl rfl (d46 hby 6)
  refine own_step st2 ?_
  refine oP T2 (mkF m 15 #[oR o0, oR o1, .unset] [(.ref o1)]) (fun t k => ?_) ?_
  ·skip
   refine XS.ifNo X2.here hx rfl (d46 hby 7) rfl ((if0 _ _).trans (feq (by decide)).1) ?_
   refine XS.aloadN X2.here hx rfl (d46 hby 8) rfl rfl ?_
   exact k
  obtain ⟨T4, X4, e4, st4⟩ := castY X2 hx hZ hown (own_w hw 245) e2 (Ins.self E_o1) (g := (mkF m 15 #[oR o0, oR o1, .unset] [(.ref o1)])) rfl rfl (d46 hby 9)
  refine own_step st4 ?_
  refine oP T4 (mkF m 19 #[oR o0, oR o1, oR o1] []) (fun t k => ?_) ?_
  ·skip
   refine XS.astoreN X4.here hx rfl (d46 hby 10) rfl rfl (l' := #[oR o0, oR o1, oR o1]) rfl ?_
   exact k
  obtain ⟨T5, X5, e5, st5⟩ := getS2 X4 hx hZ hown (host := "") (Or.inl (own_w hw 14)) Via.refl e4 (S_cs.ext O0.2) (g := (mkF m 19 #[oR o0, oR o1, oR o1] [])) rfl (d46 hby 11)
  refine own_step st5 ?_
  refine oP T5 (mkF m 26 #[oR o0, oR o1, oR o1] [(.ref o0)]) (fun t k => ?_) ?_
  ·skip
   refine XS.ifNo X5.here hx rfl (d46 hby 12) rfl ((if0 _ _).trans (feq hcs).1) ?_
   refine XS.aloadN X5.here hx rfl (d46 hby 13) rfl rfl ?_
   exact k
  obtain ⟨T7, X7, e7, st7⟩ := getF X5 hx hZ hown (host := "") (Or.inl (own_w hw 26)) Via.refl e5 F_coder_o0 (g := (mkF m 26 #[oR o0, oR o1, oR o1] [(.ref o0)])) rfl rfl (d46 hby 14)
  refine own_step st7 ?_
  refine oP T7 (mkF m 30 #[oR o0, oR o1, oR o1] [(.ref o1), (.int 0)]) (fun t k => ?_) ?_
  ·skip
   refine XS.aloadN X7.here hx rfl (d46 hby 15) rfl rfl ?_
   exact k
  obtain ⟨T8, X8, e8, st8⟩ := getF X7 hx hZ hown (host := "") (Or.inl (own_w hw 26)) Via.refl e7 F_coder_o1 (g := (mkF m 30 #[oR o0, oR o1, oR o1] [(.ref o1), (.int 0)])) rfl rfl (d46 hby 16)
  refine own_step st8 ?_
  refine oP T8 (mkF m 37 #[oR o0, oR o1, oR o1] [(.ref o0)]) (fun t k => ?_) ?_
  ·skip
   refine XS.icmpNo X8.here hx rfl (d46 hby 17) rfl (teq rfl).2 ?_
   refine XS.aloadN X8.here hx rfl (d46 hby 18) rfl rfl ?_
   exact k
  obtain ⟨T10, X10, e10, st10⟩ := getF X8 hx hZ hown (host := "") (Or.inl (own_w hw 28)) Via.refl e8 F_value_o0 (g := (mkF m 37 #[oR o0, oR o1, oR o1] [(.ref o0)])) rfl rfl (d46 hby 19)
  refine own_step st10 ?_
  refine oP T10 (mkF m 41 #[oR o0, oR o1, oR o1] [(.ref o1), (.ref t0)]) (fun t k => ?_) ?_
  ·skip
   refine XS.aloadN X10.here hx rfl (d46 hby 20) rfl rfl ?_
   exact k
  obtain ⟨T11, X11, e11, st11⟩ := getF X10 hx hZ hown (host := "") (Or.inl (own_w hw 28)) Via.refl e10 F_value_o1 (g := (mkF m 41 #[oR o0, oR o1, oR o1] [(.ref o1), (.ref t0)])) rfl rfl (d46 hby 21)
  refine own_step st11 ?_
  obtain ⟨_, _, ⟨T12, L12, k12, n12⟩, -, X12, ⟨Lc12, hQ12, l12, y12, z12⟩, st12⟩ := Jvm.LawKit.callS X11 hx (y := yM44) hown (mvT hZ (own_w hw 246)) (mvT hZ (own_w hw 247)) (mvT hZ (own_w hw 248)) (mvT hZ (own_w hw 249)) (by decide) (backOf (W := 0) (rm48 l Z a0 hw [] t0 t1 bs k k2 h0 n0 Z0 V_t0 V_t1 hbl) hZ (own_w hw 249) (own_w hw 248) (by decide) (by decide)) (g := (mkF m 44 #[oR o0, oR o1, oR o1] [(.ref t1), (.ref t0)])) rfl (by rw [hml]; rfl) (argsL := [(.ref t0), (.ref t1)]) (rest := []) (lenOf pd_34 rfl) rfl (by show 2 * 0 + _ ≤ _; exact Nat.le_of_eq rfl) (d46 hby 22) (fun _ _ => ⟨rfl, e11, (by decide : 0 + 0 ≤ _), (by decide : 0 + 0 ≤ _)⟩)
  dsimp only [Pt.U, Pt.locs, Pt.cells, Pt.slots] at X12 l12 y12 z12 st12 hQ12
  subst l12 y12 z12
  obtain ⟨rfl, N12q, eq12⟩ := hQ12
  have N12 := Fr.app N0 N12q
  refine own_step st12 ?_
  refine oP T12 (mkF m 55 #[oR o0, oR o1, oR o1] [(.int 1)]) (fun t k => ?_) ?_
  ·skip
   refine XS.ifNo X12.here hx rfl (d46 hby 23) rfl ((if0 _ _).trans (feq (by decide)).1) ?_
   refine XS.iconst X12.here hx rfl (d46 hby 24) ?_
   refine XS.goto X12.here hx rfl (pc0 := 51) (pc' := 55) rfl (d46 hby 25) (by decide) (by decide) ?_
   exact k
  refine own_retN X12 hx (t := .boolean) Bd.returns (by simp) (d46 hby 27) (BodyLoose.notSynchronized Bd) (by decide) (by decide) ?_
  rw [show T12.heap = h0 from eq12]
  exact ⟨rfl, N12, rfl⟩
def D52 : List (Nat × Instr × Nat) := [(0, .getstatic 38, 3), (3, .ifCond .eq 14, 3), (6, .aload_n 0, 1), (7, .getfield 15, 3), (10, .ifCond .ne 7, 3), (13, .iconst 1, 1), (14, .goto 4, 3), (17, .iconst 0, 1), (18, .ireturn, 1)]
theorem A52 : ∀ q ∈ D52, decode jdk_42_method_154_code q.1 = .ok q.2 := by decide +kernel
theorem d52 {c : Code} (h0 : c.code = jdk_42_method_154_code) (i : Nat) {pc n : Nat} {q : Instr} (h : D52[i]? = some (pc, q, n) := by rfl) : decode c.code pc = .ok (q, n) := hb h0 (A52 (pc, q, n) (List.mem_of_getElem? h))
theorem pn_rm53 : plainName "java/lang/String" = true := by first | (simp [plainName, overriddenIn]; done) | decide +kernel
theorem ef_rm53 (m : MethodId) (o0 : Addr) : entryFrame m #[(.ref o0)] 1 = mkF m 0 #[.val (.ref o0)] [] := by first | (simp [entryFrame, mkF, argsToLocals, Value.category, maxLocals]; done) | rfl
def rm53_Q (Z : State) (o0 : Addr) (cs : Int32) (h0 : Heap) (n0 : Nat) (v : Option Value) (h : Heap) (L : List Loc) : Prop := v = some (.int 1) ∧ Fr n0 L ∧ h = h0
set_option maxRecDepth 65536 in
set_option maxHeartbeats 40000000 in
theorem rm53 (l : Launch) (Z : State) (a0 : Array Value) (hw : ∀ d ∈ tables_1, d.before a0 Z = true) (ws : List Jvm.Cond) (o0 : Addr) (cs : Int32) (h0 : Heap) (n0 : Nat) (Z0 : n0 ≤ h0.size) (O0 : Old Z n0 h0) (S_cs : Sta Z Z.heap "java/lang/String" "COMPACT_STRINGS" "Z" (.int cs)) (hcs : ¬ cs = (0 : Int32)) (E_o0 : Exa Z h0 o0 "java/lang/String") (F_coder_o0 : Fld Z h0 o0 "java/lang/String" "coder" "B" (.int 0)) :
  MetFree l yM46 (head1 (Jvm.Cond.code yM46 jdk_42_method_154_code 1 (some .boolean) :: ws) rM0_0_0_0) (fun a U => a = #[(.ref o0)] ∧ Z.Warmed39 U.vm ∧ U.heap = h0) (fun _ _ _ _ _ => True) (fun _ U o U' => ∃ v L, o = .returned v ∧ rm53_Q Z o0 cs h0 n0 v U'.heap L ∧ FrameEnd U o U' L rM0_0_0_0.cells rM0_0_0_0.slots) := by
 refine MetFree.of_bodySF (plainFor_of_name pn_rm53) hisR ?_
 intro p e s m args below meth c s₁ Bd hml0 hP hK
 obtain ⟨rfl, hZ, hh⟩ := hP
 have hx := Bd.exec
 have hby := Bd.bytes
 have hml : c.maxLocals = 1 := hml0
 have hown : s.vm.findClass "java/lang/String" = some m.cls := findClass_of_methodNamed Bd.named
 have hnm := (name_of_methodNamed Bd.named Bd.method).1
 have X0 : Stand p l e rM0_0_0_0 s m #[(.ref o0)] below meth c s₁ [] 0 0 := Stand.of_body Bd
 have e0 : s₁.heap = h0 := by rw [← hh, Bd.state]; rfl
 have N0 := Fr.nil n0
 refine own_enter (QQ := rm53_Q Z o0 cs h0 n0) (ef_rm53 m o0) ?_
 show own_Run p e below s _ _ _ s₁ (mkF m 0 #[.val (.ref o0)] [])
 obtain ⟨T1, X1, e1, st1⟩ := getS2 X0 hx hZ hown (host := "") (Or.inl (own_w hw 14)) Via.refl e0 (S_cs.ext O0.2) (g := (mkF m 0 #[oR o0] [])) rfl (d52 hby 0)
 refine own_step st1 ?_
 refine oP T1 (mkF m 7 #[oR o0] [(.ref o0)]) (fun t k => ?_) ?_
 ·skip
  refine XS.ifNo X1.here hx rfl (d52 hby 1) rfl ((if0 _ _).trans (feq hcs).1) ?_
  refine XS.aloadN X1.here hx rfl (d52 hby 2) rfl rfl ?_
  exact k
 obtain ⟨T3, X3, e3, st3⟩ := getF X1 hx hZ hown (host := "") (Or.inl (own_w hw 26)) Via.refl e1 F_coder_o0 (g := (mkF m 7 #[oR o0] [(.ref o0)])) rfl rfl (d52 hby 3)
 refine own_step st3 ?_
 refine oP T3 (mkF m 18 #[oR o0] [(.int 1)]) (fun t k => ?_) ?_
 ·skip
  refine XS.ifNo X3.here hx rfl (d52 hby 4) rfl ((if0 _ _).trans (teq rfl).2) ?_
  refine XS.iconst X3.here hx rfl (d52 hby 5) ?_
  refine XS.goto X3.here hx rfl (pc0 := 14) (pc' := 18) rfl (d52 hby 6) (by decide) (by decide) ?_
  exact k
 refine own_retN X3 hx (t := .boolean) Bd.returns (by simp) (d52 hby 8) (BodyLoose.notSynchronized Bd) (by decide) (by decide) ?_
 rw [show T3.heap = h0 from e3]
 exact ⟨rfl, N0, rfl⟩
def D55 : List (Nat × Instr × Nat) := [(0, .iload_n 0, 1), (1, .ifCond .lt 8, 3), (4, .iload_n 0, 1), (5, .iload_n 1, 1), (6, .if_icmp .lt 10, 3), (9, .aload_n 2, 1), (10, .iload_n 0, 1), (11, .iload_n 1, 1), (12, .invokestatic 95, 3), (15, .athrow, 1), (16, .iload_n 0, 1), (17, .ireturn, 1)]
theorem A55 : ∀ q ∈ D55, decode jdk_41_method_11_code q.1 = .ok q.2 := by decide +kernel
theorem d55 {c : Code} (h0 : c.code = jdk_41_method_11_code) (i : Nat) {pc n : Nat} {q : Instr} (h : D55[i]? = some (pc, q, n) := by rfl) : decode c.code pc = .ok (q, n) := hb h0 (A55 (pc, q, n) (List.mem_of_getElem? h))
theorem pn_rm56 : plainName "jdk/internal/util/Preconditions" = true := by first | (simp [plainName, overriddenIn]; done) | decide +kernel
theorem ef_rm56 (m : MethodId) (o2 : Addr) (i : Nat) (n : Nat) : entryFrame m #[(.int (ofNat i)), (.int (ofNat n)), (.ref o2)] 3 = mkF m 0 #[.val (.int (ofNat i)), .val (.int (ofNat n)), .val (.ref o2)] [] := by first | (simp [entryFrame, mkF, argsToLocals, Value.category, maxLocals]; done) | rfl
def rm56_Q (Z : State) (o2 : Addr) (i : Nat) (n : Nat)  (h0 : Heap) (n0 : Nat) (v : Option Value) (h : Heap) (L : List Loc) : Prop := v = some (.int (ofNat i)) ∧ Fr n0 L ∧ h = h0
set_option maxRecDepth 65536 in
set_option maxHeartbeats 40000000 in
theorem rm56 (l : Launch) (Z : State) (a0 : Array Value) (hw : ∀ d ∈ tables_1, d.before a0 Z = true) (ws : List Jvm.Cond) (o2 : Addr) (i : Nat) (n : Nat)  (h0 : Heap) (n0 : Nat) (Z0 : n0 ≤ h0.size) (hi : i < n) (hn : n ≤ 1024) :
  MetFree l yM47 (head1 (Jvm.Cond.code yM47 jdk_41_method_11_code 3 (some .int) :: ws) rM0_0_0_0) (fun a U => a = #[(.int (ofNat i)), (.int (ofNat n)), (.ref o2)] ∧ Z.Warmed39 U.vm ∧ U.heap = h0) (fun _ _ _ _ _ => True) (fun _ U o U' => ∃ v L, o = .returned v ∧ rm56_Q Z o2 i n h0 n0 v U'.heap L ∧ FrameEnd U o U' L rM0_0_0_0.cells rM0_0_0_0.slots) := by
 refine MetFree.of_bodySF (plainFor_of_name pn_rm56) hisR ?_
 intro p e s m args below meth c s₁ Bd hml0 hP hK
 obtain ⟨rfl, hZ, hh⟩ := hP
 have hx := Bd.exec
 have hby := Bd.bytes
 have hml : c.maxLocals = 3 := hml0
 have hown : s.vm.findClass "jdk/internal/util/Preconditions" = some m.cls := findClass_of_methodNamed Bd.named
 have hnm := (name_of_methodNamed Bd.named Bd.method).1
 have X0 : Stand p l e rM0_0_0_0 s m #[(.int (ofNat i)), (.int (ofNat n)), (.ref o2)] below meth c s₁ [] 0 0 := Stand.of_body Bd
 have e0 : s₁.heap = h0 := by rw [← hh, Bd.state]; rfl
 have N0 := Fr.nil n0
 refine own_enter (QQ := rm56_Q Z o2 i n h0 n0) (ef_rm56 m o2 i n) ?_
 show own_Run p e below s _ _ _ s₁ (mkF m 0 #[.val (.int (ofNat i)), .val (.int (ofNat n)), .val (.ref o2)] [])
 refine oP s₁ (mkF m 17 #[oI (ofNat i), oI (ofNat n), oR o2] [(.int (ofNat i))]) (fun t k => ?_) ?_
 ·skip
  refine XS.iloadN X0.here hx rfl (d55 hby 0) rfl ?_
  refine XS.ifNo X0.here hx rfl (d55 hby 1) rfl ((if0 _ _).trans (flt (own_nn _ (by omega))).1) ?_
  refine XS.iloadN X0.here hx rfl (d55 hby 2) rfl ?_
  refine XS.iloadN X0.here hx rfl (d55 hby 3) rfl ?_
  refine XS.icmpYes X0.here hx rfl (pc0 := 6) (pc' := 16) rfl (d55 hby 4) rfl (tlt ((own_lt (by omega) (by omega)).mpr hi)).1 (by decide) (by decide) ?_
  refine XS.iloadN X0.here hx rfl (d55 hby 10) rfl ?_
  exact k
 refine own_retI X0 hx Bd.returns (d55 hby 11) (BodyLoose.notSynchronized Bd) (by decide) (by decide) ?_
 rw [show s₁.heap = h0 from e0]
 exact ⟨rfl, N0, rfl⟩
theorem pn_rm56n : plainName "jdk/internal/util/Preconditions" = true := by first | (simp [plainName, overriddenIn]; done) | decide +kernel
theorem ef_rm56n (m : MethodId) (i : Nat) (n : Nat) : entryFrame m #[(.int (ofNat i)), (.int (ofNat n)), .null] 3 = mkF m 0 #[.val (.int (ofNat i)), .val (.int (ofNat n)), .val .null] [] := by first | (simp [entryFrame, mkF, argsToLocals, Value.category, maxLocals]; done) | rfl
def rm56n_Q (Z : State) (i : Nat) (n : Nat)  (h0 : Heap) (n0 : Nat) (v : Option Value) (h : Heap) (L : List Loc) : Prop := v = some (.int (ofNat i)) ∧ Fr n0 L ∧ h = h0
set_option maxRecDepth 65536 in
set_option maxHeartbeats 40000000 in
theorem rm56n (l : Launch) (Z : State) (a0 : Array Value) (hw : ∀ d ∈ tables_1, d.before a0 Z = true) (ws : List Jvm.Cond) (i : Nat) (n : Nat)  (h0 : Heap) (n0 : Nat) (Z0 : n0 ≤ h0.size) (hi : i < n) (hn : n ≤ 1024) :
  MetFree l yM47 (head1 (Jvm.Cond.code yM47 jdk_41_method_11_code 3 (some .int) :: ws) rM0_0_0_0) (fun a U => a = #[(.int (ofNat i)), (.int (ofNat n)), .null] ∧ Z.Warmed39 U.vm ∧ U.heap = h0) (fun _ _ _ _ _ => True) (fun _ U o U' => ∃ v L, o = .returned v ∧ rm56n_Q Z i n h0 n0 v U'.heap L ∧ FrameEnd U o U' L rM0_0_0_0.cells rM0_0_0_0.slots) := by
 refine MetFree.of_bodySF (plainFor_of_name pn_rm56n) hisR ?_
 intro p e s m args below meth c s₁ Bd hml0 hP hK
 obtain ⟨rfl, hZ, hh⟩ := hP
 have hx := Bd.exec
 have hby := Bd.bytes
 have hml : c.maxLocals = 3 := hml0
 have hown : s.vm.findClass "jdk/internal/util/Preconditions" = some m.cls := findClass_of_methodNamed Bd.named
 have hnm := (name_of_methodNamed Bd.named Bd.method).1
 have X0 : Stand p l e rM0_0_0_0 s m #[(.int (ofNat i)), (.int (ofNat n)), .null] below meth c s₁ [] 0 0 := Stand.of_body Bd
 have e0 : s₁.heap = h0 := by rw [← hh, Bd.state]; rfl
 have N0 := Fr.nil n0
 refine own_enter (QQ := rm56n_Q Z i n h0 n0) (ef_rm56n m i n) ?_
 show own_Run p e below s _ _ _ s₁ (mkF m 0 #[.val (.int (ofNat i)), .val (.int (ofNat n)), .val .null] [])
 refine oP s₁ (mkF m 17 #[oI (ofNat i), oI (ofNat n), .val .null] [(.int (ofNat i))]) (fun t k => ?_) ?_
 ·skip
  refine XS.iloadN X0.here hx rfl (d55 hby 0) rfl ?_
  refine XS.ifNo X0.here hx rfl (d55 hby 1) rfl ((if0 _ _).trans (flt (own_nn _ (by omega))).1) ?_
  refine XS.iloadN X0.here hx rfl (d55 hby 2) rfl ?_
  refine XS.iloadN X0.here hx rfl (d55 hby 3) rfl ?_
  refine XS.icmpYes X0.here hx rfl (pc0 := 6) (pc' := 16) rfl (d55 hby 4) rfl (tlt ((own_lt (by omega) (by omega)).mpr hi)).1 (by decide) (by decide) ?_
  refine XS.iloadN X0.here hx rfl (d55 hby 10) rfl ?_
  exact k
 refine own_retI X0 hx Bd.returns (d55 hby 11) (BodyLoose.notSynchronized Bd) (by decide) (by decide) ?_
 rw [show s₁.heap = h0 from e0]
 exact ⟨rfl, N0, rfl⟩
def D54 : List (Nat × Instr × Nat) := [(0, .iload_n 0, 1), (1, .iload_n 1, 1), (2, .getstatic 1053, 3), (5, .invokestatic 1059, 3), (8, .pop, 1), (9, .return_, 1)]
theorem A54 : ∀ q ∈ D54, decode jdk_42_method_155_code q.1 = .ok q.2 := by decide +kernel
theorem d54 {c : Code} (h0 : c.code = jdk_42_method_155_code) (i : Nat) {pc n : Nat} {q : Instr} (h : D54[i]? = some (pc, q, n) := by rfl) : decode c.code pc = .ok (q, n) := hb h0 (A54 (pc, q, n) (List.mem_of_getElem? h))
theorem pn_rm55 : plainName "java/lang/String" = true := by first | (simp [plainName, overriddenIn]; done) | decide +kernel
theorem ef_rm55 (m : MethodId) (i : Nat) (n : Nat) : entryFrame m #[(.int (ofNat i)), (.int (ofNat n))] 2 = mkF m 0 #[.val (.int (ofNat i)), .val (.int (ofNat n))] [] := by first | (simp [entryFrame, mkF, argsToLocals, Value.category, maxLocals]; done) | rfl
def rm55_Q (Z : State) (i : Nat) (n : Nat) (fm : Value) (h0 : Heap) (n0 : Nat) (v : Option Value) (h : Heap) (L : List Loc) : Prop := v = none ∧ Fr n0 L ∧ h = h0
set_option maxRecDepth 65536 in
set_option maxHeartbeats 40000000 in
theorem rm55 (l : Launch) (Z : State) (a0 : Array Value) (hw : ∀ d ∈ tables_1, d.before a0 Z = true) (ws : List Jvm.Cond) (i : Nat) (n : Nat) (fm : Value) (h0 : Heap) (n0 : Nat) (Z0 : n0 ≤ h0.size) (O0 : Old Z n0 h0) (S_fm : Sta Z Z.heap "jdk/internal/util/Preconditions" "SIOOBE_FORMATTER" "Ljava/util/function/BiFunction;" fm) (hfm : fm = .null ∨ ∃ f : Addr, fm = .ref f) (hi : i < n) (hn : n ≤ 1024) :
  MetFree l yM48 (head1 (Jvm.Cond.code yM48 jdk_42_method_155_code 2 none :: ws) rM1_0_0_14) (fun a U => a = #[(.int (ofNat i)), (.int (ofNat n))] ∧ Z.Warmed39 U.vm ∧ U.heap = h0) (fun _ _ _ _ _ => True) (fun _ U o U' => ∃ v L, o = .returned v ∧ rm55_Q Z i n fm h0 n0 v U'.heap L ∧ FrameEnd U o U' L rM1_0_0_14.cells rM1_0_0_14.slots) := by
 refine MetFree.of_bodySF (plainFor_of_name pn_rm55) hisR ?_
 intro p e s m args below meth c s₁ Bd hml0 hP hK
 obtain ⟨rfl, hZ, hh⟩ := hP
 have hx := Bd.exec
 have hby := Bd.bytes
 have hml : c.maxLocals = 2 := hml0
 have hown : s.vm.findClass "java/lang/String" = some m.cls := findClass_of_methodNamed Bd.named
 have hnm := (name_of_methodNamed Bd.named Bd.method).1
 have X0 : Stand p l e rM1_0_0_14 s m #[(.int (ofNat i)), (.int (ofNat n))] below meth c s₁ [] 0 0 := Stand.of_body Bd
 have e0 : s₁.heap = h0 := by rw [← hh, Bd.state]; rfl
 have N0 := Fr.nil n0
 refine own_enter (QQ := rm55_Q Z i n fm h0 n0) (ef_rm55 m i n) ?_
 show own_Run p e below s _ _ _ s₁ (mkF m 0 #[.val (.int (ofNat i)), .val (.int (ofNat n))] [])
 rcases hfm with rfl | ⟨f, rfl⟩
 ·skip
  refine oP s₁ (mkF m 2 #[oI (ofNat i), oI (ofNat n)] [(.int (ofNat n)), (.int (ofNat i))]) (fun t k => ?_) ?_
  ·skip
   refine XS.iloadN X0.here hx rfl (d54 hby 0) rfl ?_
   refine XS.iloadN X0.here hx rfl (d54 hby 1) rfl ?_
   exact k
  obtain ⟨T1, X1, e1, st1⟩ := getS2 X0 hx hZ hown (host := "") (Or.inl (own_w hw 96)) Via.refl e0 (S_fm.ext O0.2) (g := (mkF m 2 #[oI (ofNat i), oI (ofNat n)] [(.int (ofNat n)), (.int (ofNat i))])) rfl (d54 hby 2)
  refine own_step st1 ?_
  obtain ⟨_, _, ⟨T2, L2, k2, n2⟩, -, X2, ⟨Lc2, hQ2, l2, y2, z2⟩, st2⟩ := Jvm.LawKit.callS X1 hx (y := yM47) hown (mvT hZ (own_w hw 288)) (mvT hZ (own_w hw 289)) (mvT hZ (own_w hw 97)) (mvT hZ (own_w hw 290)) (by decide) (backOf (W := 0) (rm56n l Z a0 hw [] i n  h0 n0 Z0 hi hn) hZ (own_w hw 290) (own_w hw 97) (by decide) (by decide)) (g := (mkF m 5 #[oI (ofNat i), oI (ofNat n)] [.null, (.int (ofNat n)), (.int (ofNat i))])) rfl (by rw [hml]; rfl) (argsL := [(.int (ofNat i)), (.int (ofNat n)), .null]) (rest := []) (lenOf pd_35 rfl) rfl (by show 2 * 0 + _ ≤ _; exact Nat.le_of_eq rfl) (d54 hby 3) (fun _ _ => ⟨rfl, e1, (by decide : 0 + 0 ≤ _), (by decide : 0 + 0 ≤ _)⟩)
  dsimp only [Pt.U, Pt.locs, Pt.cells, Pt.slots] at X2 l2 y2 z2 st2 hQ2
  subst l2 y2 z2
  obtain ⟨rfl, N2q, eq2⟩ := hQ2
  have N2 := Fr.app N0 N2q
  refine own_step st2 ?_
  refine oP T2 (mkF m 9 #[oI (ofNat i), oI (ofNat n)] []) (fun t k => ?_) ?_
  ·skip
   refine XS.pop X2.here hx rfl (d54 hby 4) rfl rfl ?_
   exact k
  refine own_retV X2 hx Bd.returns (d54 hby 5) (BodyLoose.notSynchronized Bd) (by decide) (by decide) ?_
  rw [show T2.heap = h0 from eq2]
  exact ⟨rfl, N2, rfl⟩
 ·skip
  refine oP s₁ (mkF m 2 #[oI (ofNat i), oI (ofNat n)] [(.int (ofNat n)), (.int (ofNat i))]) (fun t k => ?_) ?_
  ·skip
   refine XS.iloadN X0.here hx rfl (d54 hby 0) rfl ?_
   refine XS.iloadN X0.here hx rfl (d54 hby 1) rfl ?_
   exact k
  obtain ⟨T3, X3, e3, st3⟩ := getS2 X0 hx hZ hown (host := "") (Or.inl (own_w hw 96)) Via.refl e0 (S_fm.ext O0.2) (g := (mkF m 2 #[oI (ofNat i), oI (ofNat n)] [(.int (ofNat n)), (.int (ofNat i))])) rfl (d54 hby 2)
  refine own_step st3 ?_
  obtain ⟨_, _, ⟨T4, L4, k4, n4⟩, -, X4, ⟨Lc4, hQ4, l4, y4, z4⟩, st4⟩ := Jvm.LawKit.callS X3 hx (y := yM47) hown (mvT hZ (own_w hw 288)) (mvT hZ (own_w hw 289)) (mvT hZ (own_w hw 97)) (mvT hZ (own_w hw 290)) (by decide) (backOf (W := 0) (rm56 l Z a0 hw [] f i n  h0 n0 Z0 hi hn) hZ (own_w hw 290) (own_w hw 97) (by decide) (by decide)) (g := (mkF m 5 #[oI (ofNat i), oI (ofNat n)] [(.ref f), (.int (ofNat n)), (.int (ofNat i))])) rfl (by rw [hml]; rfl) (argsL := [(.int (ofNat i)), (.int (ofNat n)), (.ref f)]) (rest := []) (lenOf pd_35 rfl) rfl (by show 2 * 0 + _ ≤ _; exact Nat.le_of_eq rfl) (d54 hby 3) (fun _ _ => ⟨rfl, e3, (by decide : 0 + 0 ≤ _), (by decide : 0 + 0 ≤ _)⟩)
  dsimp only [Pt.U, Pt.locs, Pt.cells, Pt.slots] at X4 l4 y4 z4 st4 hQ4
  subst l4 y4 z4
  obtain ⟨rfl, N4q, eq4⟩ := hQ4
  have N4 := Fr.app N0 N4q
  refine own_step st4 ?_
  refine oP T4 (mkF m 9 #[oI (ofNat i), oI (ofNat n)] []) (fun t k => ?_) ?_
  ·skip
   refine XS.pop X4.here hx rfl (d54 hby 4) rfl rfl ?_
   exact k
  refine own_retV X4 hx Bd.returns (d54 hby 5) (BodyLoose.notSynchronized Bd) (by decide) (by decide) ?_
  rw [show T4.heap = h0 from eq4]
  exact ⟨rfl, N4, rfl⟩
def D53 : List (Nat × Instr × Nat) := [(0, .iload_n 1, 1), (1, .aload_n 0, 1), (2, .arraylength, 1), (3, .invokestatic 9, 3), (6, .aload_n 0, 1), (7, .iload_n 1, 1), (8, .baload, 1), (9, .sipush 255, 3), (12, .iand, 1), (13, .i2c, 1), (14, .ireturn, 1)]
theorem A53 : ∀ q ∈ D53, decode jdk_43_method_2_code q.1 = .ok q.2 := by decide +kernel
theorem d53 {c : Code} (h0 : c.code = jdk_43_method_2_code) (i : Nat) {pc n : Nat} {q : Instr} (h : D53[i]? = some (pc, q, n) := by rfl) : decode c.code pc = .ok (q, n) := hb h0 (A53 (pc, q, n) (List.mem_of_getElem? h))
theorem pn_rm54 : plainName "java/lang/StringLatin1" = true := by first | (simp [plainName, overriddenIn]; done) | decide +kernel
theorem ef_rm54 (m : MethodId) (o0 : Addr) (i : Nat) : entryFrame m #[(.ref o0), (.int (ofNat i))] 2 = mkF m 0 #[.val (.ref o0), .val (.int (ofNat i))] [] := by first | (simp [entryFrame, mkF, argsToLocals, Value.category, maxLocals]; done) | rfl
def rm54_Q (Z : State) (o0 : Addr) (i : Nat) (fm : Value) (k : ClassId) (n : Nat) (vs : List Value) (x : Int32) (h0 : Heap) (n0 : Nat) (v : Option Value) (h : Heap) (L : List Loc) : Prop := v = some (.int (ofNat (own_u x))) ∧ Fr n0 L ∧ h = h0
set_option maxRecDepth 65536 in
set_option maxHeartbeats 40000000 in
theorem rm54 (l : Launch) (Z : State) (a0 : Array Value) (hw : ∀ d ∈ tables_1, d.before a0 Z = true) (ws : List Jvm.Cond) (o0 : Addr) (i : Nat) (fm : Value) (k : ClassId) (n : Nat) (vs : List Value) (x : Int32) (h0 : Heap) (n0 : Nat) (Z0 : n0 ≤ h0.size) (O0 : Old Z n0 h0) (S_fm : Sta Z Z.heap "jdk/internal/util/Preconditions" "SIOOBE_FORMATTER" "Ljava/util/function/BiFunction;" fm) (hfm : fm = .null ∨ ∃ f : Addr, fm = .ref f) (V_o0 : Arv Z h0 o0 k .byte (ofNat n) vs (.int 0)) (hi : i < n) (hn : n ≤ 1024) (hx_ : vs.getD i (.int 0) = .int x) :
  MetFree l yM49 (head1 (Jvm.Cond.code yM49 jdk_43_method_2_code 2 (some .char) :: ws) rM2_0_0_27) (fun a U => a = #[(.ref o0), (.int (ofNat i))] ∧ Z.Warmed39 U.vm ∧ U.heap = h0) (fun _ _ _ _ _ => True) (fun _ U o U' => ∃ v L, o = .returned v ∧ rm54_Q Z o0 i fm k n vs x h0 n0 v U'.heap L ∧ FrameEnd U o U' L rM2_0_0_27.cells rM2_0_0_27.slots) := by
 refine MetFree.of_bodySF (plainFor_of_name pn_rm54) hisR ?_
 intro p e s m args below meth c s₁ Bd hml0 hP hK
 obtain ⟨rfl, hZ, hh⟩ := hP
 have hx := Bd.exec
 have hby := Bd.bytes
 have hml : c.maxLocals = 2 := hml0
 have hown : s.vm.findClass "java/lang/StringLatin1" = some m.cls := findClass_of_methodNamed Bd.named
 have hnm := (name_of_methodNamed Bd.named Bd.method).1
 have X0 : Stand p l e rM2_0_0_27 s m #[(.ref o0), (.int (ofNat i))] below meth c s₁ [] 0 0 := Stand.of_body Bd
 have e0 : s₁.heap = h0 := by rw [← hh, Bd.state]; rfl
 have N0 := Fr.nil n0
 refine own_enter (QQ := rm54_Q Z o0 i fm k n vs x h0 n0) (ef_rm54 m o0 i) ?_
 show own_Run p e below s _ _ _ s₁ (mkF m 0 #[.val (.ref o0), .val (.int (ofNat i))] [])
 refine oP s₁ (mkF m 2 #[oR o0, oI (ofNat i)] [(.ref o0), (.int (ofNat i))]) (fun t k => ?_) ?_
 ·skip
  refine XS.iloadN X0.here hx rfl (d53 hby 0) rfl ?_
  refine XS.aloadN X0.here hx rfl (d53 hby 1) rfl rfl ?_
  exact k
 obtain ⟨cl1, Arcl1, -, Scl1, Mcl1, -, -⟩ := id V_o0
 refine oP s₁ (mkF m 3 #[oR o0, oI (ofNat i)] [(.int (ofNat n)), (.int (ofNat i))]) (fun t k => ?_) ?_
 ·skip
  refine X0.arraylength hx (by rw [e0]; exact Arcl1.1) (State.isArrayOf_alike hZ.alike Arcl1.2.1) (g := (mkF m 2 #[oR o0, oI (ofNat i)] [(.ref o0), (.int (ofNat i))])) rfl rfl (d53 hby 2) _ ?_
  rw [len_of Scl1 Mcl1]
  exact k
 obtain ⟨_, _, ⟨T2, L2, k2, n2⟩, -, X2, ⟨Lc2, hQ2, l2, y2, z2⟩, st2⟩ := Jvm.LawKit.callS X0 hx (y := yM48) hown (mvT hZ (own_w hw 285)) (mvT hZ (own_w hw 286)) (mvT hZ (own_w hw 3)) (mvT hZ (own_w hw 287)) (by decide) (backOf (W := 0) (rm55 l Z a0 hw [] i n fm h0 n0 Z0 O0 S_fm hfm hi hn) hZ (own_w hw 287) (own_w hw 3) (by decide) (by decide)) (g := (mkF m 3 #[oR o0, oI (ofNat i)] [(.int (ofNat n)), (.int (ofNat i))])) rfl (by rw [hml]; rfl) (argsL := [(.int (ofNat i)), (.int (ofNat n))]) (rest := []) (lenOf pd_11 rfl) rfl (by show 2 * 0 + _ ≤ _; exact Nat.le_of_eq rfl) (d53 hby 3) (fun _ _ => ⟨rfl, e0, (by decide : 0 + 0 ≤ _), (by decide : 0 + 0 ≤ _)⟩)
 dsimp only [Pt.U, Pt.locs, Pt.cells, Pt.slots] at X2 l2 y2 z2 st2 hQ2
 subst l2 y2 z2
 obtain ⟨rfl, N2q, eq2⟩ := hQ2
 have N2 := Fr.app N0 N2q
 refine own_step st2 ?_
 refine oP T2 (mkF m 8 #[oR o0, oI (ofNat i)] [(.int (ofNat i)), (.ref o0)]) (fun t k => ?_) ?_
 ·skip
  refine XS.aloadN X2.here hx rfl (d53 hby 4) rfl rfl ?_
  refine XS.iloadN X2.here hx rfl (d53 hby 5) rfl ?_
  exact k
 obtain ⟨cl3, Arcl3, qcl3, Scl3, Mcl3, Hcl3, Gcl3⟩ := id V_o0
 have hincl3 : ¬ ((ofNat i) < 0 ∨ cl3.slots.size ≤ ((ofNat i)).toNatClampNeg) := inb_of Scl3 (own_tin hi (by omega))
 have hatcl3 : cl3.slots[((ofNat i)).toNatClampNeg]? = some (.int x) := Hcl3.at hincl3 (by rw [own_tn (by omega)]; exact hx_)
 refine oP T2 (mkF m 14 #[oR o0, oI (ofNat i)] [(.int ((x &&& (255 : Int32)).toUInt32.toUInt16.toUInt32.toInt32))]) (fun t k => ?_) ?_
 ·skip
  refine X2.baloadBytes hx (j := (ofNat i)) (v := (.int x)) (by rw [eq2]; exact Arcl3.1) (State.isArrayOf_alike hZ.alike Arcl3.2.1) Arcl3.2.2 hincl3 hatcl3 (g := (mkF m 8 #[oR o0, oI (ofNat i)] [(.int (ofNat i)), (.ref o0)])) rfl rfl (d53 hby 6) _ ?_
  refine XS.sipush X2.here hx rfl (d53 hby 7) ?_
  refine XS.iand X2.here hx rfl (d53 hby 8) rfl ?_
  refine XS.i2c X2.here hx rfl (d53 hby 9) rfl ?_
  exact k
 refine own_retN X2 hx (t := .char) Bd.returns (by simp) (d53 hby 10) (BodyLoose.notSynchronized Bd) (by decide) (by decide) ?_
 rw [show T2.heap = h0 from eq2]
 exact ⟨by rw [own_chr], N2, rfl⟩
theorem own_uc (x : Int32) : nar .char (ofNat (own_u x)) = ofNat (own_u x) := by
 have h := own_ub x
 generalize own_u x = k at h
 exact (show ∀ k < 256, nar .char (ofNat k) = ofNat k by decide +kernel) k h
def D51 : List (Nat × Instr × Nat) := [(0, .aload_n 0, 1), (1, .invokevirtual 492, 3), (4, .ifCond .eq 12, 3), (7, .aload_n 0, 1), (8, .getfield 9, 3), (11, .iload_n 1, 1), (12, .invokestatic 495, 3), (15, .ireturn, 1), (16, .aload_n 0, 1), (17, .getfield 9, 3), (20, .iload_n 1, 1), (21, .invokestatic 498, 3), (24, .ireturn, 1)]
theorem A51 : ∀ q ∈ D51, decode jdk_42_method_56_code q.1 = .ok q.2 := by decide +kernel
theorem d51 {c : Code} (h0 : c.code = jdk_42_method_56_code) (i : Nat) {pc n : Nat} {q : Instr} (h : D51[i]? = some (pc, q, n) := by rfl) : decode c.code pc = .ok (q, n) := hb h0 (A51 (pc, q, n) (List.mem_of_getElem? h))
theorem pn_rm52 : plainName "java/lang/String" = true := by first | (simp [plainName, overriddenIn]; done) | decide +kernel
theorem ef_rm52 (m : MethodId) (o0 : Addr) (i : Nat) : entryFrame m #[(.ref o0), (.int (ofNat i))] 2 = mkF m 0 #[.val (.ref o0), .val (.int (ofNat i))] [] := by first | (simp [entryFrame, mkF, argsToLocals, Value.category, maxLocals]; done) | rfl
def rm52_Q (Z : State) (o0 : Addr) (i : Nat) (cs : Int32) (fm : Value) (t : Addr) (k : ClassId) (n : Nat) (vs : List Value) (x : Int32) (h0 : Heap) (n0 : Nat) (v : Option Value) (h : Heap) (L : List Loc) : Prop := v = some (.int (ofNat (own_u x))) ∧ Fr n0 L ∧ h = h0
set_option maxRecDepth 65536 in
set_option maxHeartbeats 40000000 in
theorem rm52 (l : Launch) (Z : State) (a0 : Array Value) (hw : ∀ d ∈ tables_1, d.before a0 Z = true) (ws : List Jvm.Cond) (o0 : Addr) (i : Nat) (cs : Int32) (fm : Value) (t : Addr) (k : ClassId) (n : Nat) (vs : List Value) (x : Int32) (h0 : Heap) (n0 : Nat) (Z0 : n0 ≤ h0.size) (O0 : Old Z n0 h0) (S_cs : Sta Z Z.heap "java/lang/String" "COMPACT_STRINGS" "Z" (.int cs)) (hcs : ¬ cs = (0 : Int32)) (S_fm : Sta Z Z.heap "jdk/internal/util/Preconditions" "SIOOBE_FORMATTER" "Ljava/util/function/BiFunction;" fm) (hfm : fm = .null ∨ ∃ f : Addr, fm = .ref f) (E_o0 : Exa Z h0 o0 "java/lang/String") (F_coder_o0 : Fld Z h0 o0 "java/lang/String" "coder" "B" (.int 0)) (F_value_o0 : Fld Z h0 o0 "java/lang/String" "value" "[B" (.ref t)) (V_t : Arv Z h0 t k .byte (ofNat n) vs (.int 0)) (hi : i < n) (hn : n ≤ 1024) (hx_ : vs.getD i (.int 0) = .int x) :
  MetFree l yM50 (head1 (Jvm.Cond.code yM50 jdk_42_method_56_code 2 (some .char) :: ws) rM3_0_0_40) (fun a U => a = #[(.ref o0), (.int (ofNat i))] ∧ Z.Warmed39 U.vm ∧ U.heap = h0) (fun _ _ _ _ _ => True) (fun _ U o U' => ∃ v L, o = .returned v ∧ rm52_Q Z o0 i cs fm t k n vs x h0 n0 v U'.heap L ∧ FrameEnd U o U' L rM3_0_0_40.cells rM3_0_0_40.slots) := by
 refine MetFree.of_bodySF (plainFor_of_name pn_rm52) hisR ?_
 intro p e s m args below meth c s₁ Bd hml0 hP hK
 obtain ⟨rfl, hZ, hh⟩ := hP
 have hx := Bd.exec
 have hby := Bd.bytes
 have hml : c.maxLocals = 2 := hml0
 have hown : s.vm.findClass "java/lang/String" = some m.cls := findClass_of_methodNamed Bd.named
 have hnm := (name_of_methodNamed Bd.named Bd.method).1
 have X0 : Stand p l e rM3_0_0_40 s m #[(.ref o0), (.int (ofNat i))] below meth c s₁ [] 0 0 := Stand.of_body Bd
 have e0 : s₁.heap = h0 := by rw [← hh, Bd.state]; rfl
 have N0 := Fr.nil n0
 refine own_enter (QQ := rm52_Q Z o0 i cs fm t k n vs x h0 n0) (ef_rm52 m o0 i) ?_
 show own_Run p e below s _ _ _ s₁ (mkF m 0 #[.val (.ref o0), .val (.int (ofNat i))] [])
 refine oP s₁ (mkF m 1 #[oR o0, oI (ofNat i)] [(.ref o0)]) (fun t k => ?_) ?_
 ·skip
  refine XS.aloadN X0.here hx rfl (d51 hby 0) rfl rfl ?_
  exact k
 obtain ⟨cq1, kq1, q1a, q1b, q1c⟩ := isOf hZ e0 E_o0
 obtain ⟨_, _, ⟨T1, L1, k1, n1⟩, -, X1, ⟨Lc1, hQ1, l1, y1, z1⟩, st1⟩ := X0.virtualBack hx (y := yM46) (z := yM46) hown (mvT hZ (own_w hw 277)) (mvT hZ (own_w hw 278)) (notFace_of_selects (args := #[]) (mvT hZ (own_w hw 280))) (mvT hZ (own_w hw 280)) (mvT hZ (own_w hw 279)) (by decide) (backOf (W := 0) (rm53 l Z a0 hw [] o0 cs h0 n0 Z0 O0 S_cs hcs E_o0 F_coder_o0) hZ (own_w hw 281) (own_w hw 3) (by decide) (by decide)) q1a q1c (g := (mkF m 1 #[oR o0, oI (ofNat i)] [(.ref o0)])) rfl (by rw [hml]; rfl) (Steps.refl _) (argsL := []) (rest := []) (lenOf pd_14 rfl) rfl (by show 2 * 0 + _ ≤ _; exact Nat.le_of_eq rfl) (d51 hby 1) (fun _ _ => ⟨rfl, e0, (by decide : 0 + 0 ≤ _), (by decide : 0 + 0 ≤ _)⟩)
 dsimp only [Pt.U, Pt.locs, Pt.cells, Pt.slots] at X1 l1 y1 z1 st1 hQ1
 subst l1 y1 z1
 obtain ⟨rfl, N1q, eq1⟩ := hQ1
 have N1 := Fr.app N0 N1q
 refine own_step (fun t k => st1.trans k) ?_
 refine oP T1 (mkF m 8 #[oR o0, oI (ofNat i)] [(.ref o0)]) (fun t k => ?_) ?_
 ·skip
  refine XS.ifNo X1.here hx rfl (d51 hby 2) rfl ((if0 _ _).trans (feq (by decide)).1) ?_
  refine XS.aloadN X1.here hx rfl (d51 hby 3) rfl rfl ?_
  exact k
 obtain ⟨T3, X3, e3, st3⟩ := getF X1 hx hZ hown (host := "") (Or.inl (own_w hw 28)) Via.refl eq1 F_value_o0 (g := (mkF m 8 #[oR o0, oI (ofNat i)] [(.ref o0)])) rfl rfl (d51 hby 4)
 refine own_step st3 ?_
 refine oP T3 (mkF m 12 #[oR o0, oI (ofNat i)] [(.int (ofNat i)), (.ref t)]) (fun t k => ?_) ?_
 ·skip
  refine XS.iloadN X3.here hx rfl (d51 hby 5) rfl ?_
  exact k
 obtain ⟨_, _, ⟨T4, L4, k4, n4⟩, -, X4, ⟨Lc4, hQ4, l4, y4, z4⟩, st4⟩ := Jvm.LawKit.callS X3 hx (y := yM49) hown (mvT hZ (own_w hw 282)) (mvT hZ (own_w hw 283)) (mvT hZ (own_w hw 248)) (mvT hZ (own_w hw 284)) (by decide) (backOf (W := 0) (rm54 l Z a0 hw [] t i fm k n vs x h0 n0 Z0 O0 S_fm hfm V_t hi hn hx_) hZ (own_w hw 284) (own_w hw 248) (by decide) (by decide)) (g := (mkF m 12 #[oR o0, oI (ofNat i)] [(.int (ofNat i)), (.ref t)])) rfl (by rw [hml]; rfl) (argsL := [(.ref t), (.int (ofNat i))]) (rest := []) (lenOf pd_36 rfl) rfl (by show 2 * 0 + _ ≤ _; exact Nat.le_of_eq rfl) (d51 hby 6) (fun _ _ => ⟨rfl, e3, (by decide : 0 + 0 ≤ _), (by decide : 0 + 0 ≤ _)⟩)
 dsimp only [Pt.U, Pt.locs, Pt.cells, Pt.slots] at X4 l4 y4 z4 st4 hQ4
 subst l4 y4 z4
 obtain ⟨rfl, N4q, eq4⟩ := hQ4
 have N4 := Fr.app N1 N4q
 refine own_step st4 ?_
 refine own_retN X4 hx (t := .char) Bd.returns (by simp) (d51 hby 7) (BodyLoose.notSynchronized Bd) (by decide) (by decide) ?_
 rw [show T4.heap = h0 from eq4]
 exact ⟨by rw [own_uc], N4, rfl⟩
theorem own_nch {k : Nat} (h : k < 256) : nar .char (ofNat k) = ofNat k := (show ∀ k < 256, nar .char (ofNat k) = ofNat k by decide +kernel) k h
theorem own_nl45 : nar .char (45 : Int32) = (45 : Int32) := by decide
theorem own_nl66 : nar .char (66 : Int32) = (66 : Int32) := by decide
theorem own_nl69 : nar .char (69 : Int32) = (69 : Int32) := by decide
theorem own_nl71 : nar .char (71 : Int32) = (71 : Int32) := by decide
theorem own_nl73 : nar .char (73 : Int32) = (73 : Int32) := by decide
theorem own_nl78 : nar .char (78 : Int32) = (78 : Int32) := by decide
theorem own_nl32 : nar .char (32 : Int32) = (32 : Int32) := by decide
theorem own_nl10 : nar .char (10 : Int32) = (10 : Int32) := by decide
theorem own_nl68 : nar .char (68 : Int32) = (68 : Int32) := by decide
theorem own_nl61 : nar .char (61 : Int32) = (61 : Int32) := by decide
/-- the four signs of a group of kk bytes -/
def own_q (kk a b c : Nat) : List Int32 := if kk = 1 then [own_sn (own_i0 a), own_sn (own_i1 a 0), 61, 61] else if kk = 2 then [own_sn (own_i0 a), own_sn (own_i1 a b), own_sn (own_i2 b 0), 61] else [own_sn (own_i0 a), own_sn (own_i1 a b), own_sn (own_i2 b c), own_sn (own_i3 c)]
def own_putq (vs : List Value) (i : Nat) (q : List Int32) : List Value := (((vs.set i (.int (q.getD 0 (0 : Int32)))).set (i + 1) (.int (q.getD 1 (0 : Int32)))).set (i + 2) (.int (q.getD 2 (0 : Int32)))).set (i + 3) (.int (q.getD 3 (0 : Int32)))
def own_dsh (vs : List Value) (i : Nat) : List Value := ((((vs.set i (.int 45)).set (i + 1) (.int 45)).set (i + 2) (.int 45)).set (i + 3) (.int 45)).set (i + 4) (.int 45)
theorem own_dshl (vs : List Value) (i : Nat) : (own_dsh vs i).length = vs.length := by simp [own_dsh]
theorem own_putql (vs : List Value) (i : Nat) (q : List Int32) : (own_putq vs i q).length = vs.length := by simp [own_putq]
theorem own_q4 {kk : Nat} (a b c : Nat) (hk : kk = 1 ∨ kk = 2 ∨ kk = 3) : own_q kk a b c = [(own_q kk a b c).getD 0 (0 : Int32), (own_q kk a b c).getD 1 (0 : Int32), (own_q kk a b c).getD 2 (0 : Int32), (own_q kk a b c).getD 3 (0 : Int32)] := by
 rcases hk with rfl | rfl | rfl <;> rfl
set_option maxRecDepth 8192 in
theorem own_usn : ∀ j < 64, ofNat (own_u (own_sn j)) = own_sn j ∧ own_b (own_sn j) = own_sn j ∧ ¬ (255 : Int32) < own_sn j := by decide
/-- what holds of every sign of a group -/
theorem own_qall {P : Int32 → Prop} (hP : ∀ j < 64, P (own_sn j)) (h61 : P 61) {kk a b c : Nat} (hk : kk = 1 ∨ kk = 2 ∨ kk = 3) (ha : a < 256) (hb : b < 256) (hc : c < 256) : ∀ x ∈ own_q kk a b c, P x := by
 have e0 := hP _ (own_i0l ha)
 have e1 := hP _ (own_i1l (a := a) hb)
 have e1' := hP _ (own_i1l (a := a) (b := 0) (by decide))
 have e2 := hP _ (own_i2l (a := b) hc)
 have e2' := hP _ (own_i2l (a := b) (b := 0) (by decide))
 have e3 := hP _ (own_i3l c)
 intro x hx
 rcases hk with rfl | rfl | rfl
 ·have hy : x ∈ [own_sn (own_i0 a), own_sn (own_i1 a 0), (61 : Int32), 61] := hx
  simp only [List.mem_cons, List.not_mem_nil, or_false] at hy
  rcases hy with rfl | rfl | rfl | rfl <;> assumption
 ·have hy : x ∈ [own_sn (own_i0 a), own_sn (own_i1 a b), own_sn (own_i2 b 0), (61 : Int32)] := hx
  simp only [List.mem_cons, List.not_mem_nil, or_false] at hy
  rcases hy with rfl | rfl | rfl | rfl <;> assumption
 ·have hy : x ∈ [own_sn (own_i0 a), own_sn (own_i1 a b), own_sn (own_i2 b c), own_sn (own_i3 c)] := hx
  simp only [List.mem_cons, List.not_mem_nil, or_false] at hy
  rcases hy with rfl | rfl | rfl | rfl <;> assumption
theorem own_uq {kk a b c : Nat} (hk : kk = 1 ∨ kk = 2 ∨ kk = 3) (ha : a < 256) (hb : b < 256) (hc : c < 256) {j : Nat} (hj : j < 4) : ofNat (own_u ((own_q kk a b c).getD j (0 : Int32))) = (own_q kk a b c).getD j (0 : Int32) := by
 have h := own_qall (P := fun x => ofNat (own_u x) = x) (fun j hj => (own_usn j hj).1) (by decide) hk ha hb hc
 have hl : (own_q kk a b c).length = 4 := by rcases hk with rfl | rfl | rfl <;> rfl
 rw [List.getD_eq_getElem?_getD, List.getElem?_eq_getElem (by omega), Option.getD_some]
 exact h _ (List.getElem_mem _)
/-- the text between the dashes -/
def own_cs (x y : Int32) (q : List Int32) : List Int32 := [45, 45, 45, 45, 45, 66, 69, 71, 73, 78, 32, x, y, 45, 45, 45, 45, 45, 10] ++ q ++ [10, 45, 45, 45, 45, 45, 69, 78, 68, 32, x, y, 45, 45, 45, 45, 45, 10]
theorem own_csl (x y : Int32) (q : List Int32) : (own_cs x y q).length = 37 + q.length := by simp [own_cs]; omega
theorem own_bcs (x y : Int32) (q : List Int32) : own_bs (own_cs x y q) = own_cs (own_b x) (own_b y) (own_bs q) := by
 simp only [own_cs, own_bs, List.map_append, List.map_cons, List.map_nil, show own_b 45 = 45 from by decide, show own_b 66 = 66 from by decide, show own_b 69 = 69 from by decide, show own_b 71 = 71 from by decide, show own_b 73 = 73 from by decide, show own_b 78 = 78 from by decide, show own_b 32 = 32 from by decide, show own_b 10 = 10 from by decide, show own_b 68 = 68 from by decide]
theorem own_bq {kk a b c : Nat} (hk : kk = 1 ∨ kk = 2 ∨ kk = 3) (ha : a < 256) (hb : b < 256) (hc : c < 256) : own_bs (own_q kk a b c) = own_q kk a b c := by
 have h := own_qall (P := fun x => own_b x = x) (fun j hj => (own_usn j hj).2.1) (by decide) hk ha hb hc
 rw [own_bs, List.map_congr_left (g := id) h, List.map_id]
theorem own_cs8 {x y : Int32} {q : List Int32} (hx : ¬ (255 : Int32) < x) (hy : ¬ (255 : Int32) < y) (hq : ∀ z ∈ q, ¬ (255 : Int32) < z) : ∀ i, i < (own_cs x y q).length → ¬ (255 : Int32) < own_g (own_cs x y q) i := by
 have h : ∀ z ∈ own_cs x y q, ¬ (255 : Int32) < z := by
  intro z hz
  simp only [own_cs, List.mem_append, List.mem_cons, List.not_mem_nil, or_false] at hz
  rcases hz with (hz | hz) | hz
  ·rcases hz with rfl | rfl | rfl | rfl | rfl | rfl | rfl | rfl | rfl | rfl | rfl | rfl | rfl | rfl | rfl | rfl | rfl | rfl | rfl <;> first | assumption | decide
  ·exact hq z hz
  ·rcases hz with rfl | rfl | rfl | rfl | rfl | rfl | rfl | rfl | rfl | rfl | rfl | rfl | rfl | rfl | rfl | rfl | rfl | rfl <;> first | assumption | decide
 intro i hi
 rw [own_g, List.getD_eq_getElem?_getD, List.getElem?_eq_getElem hi, Option.getD_some]
 exact h _ (List.getElem_mem _)
theorem own_c8 {k : Nat} (h : k < 256) : ¬ (255 : Int32) < ofNat k := fun q => absurd ((own_lt (a := 255) (by decide) (by omega)).mp q) (by omega)
theorem own_c28_ {c0 c1 : Nat} (h0 : c0 < 256) (h1 : c1 < 256) : ∀ i, i < [ofNat c0, ofNat c1].length → ¬ (255 : Int32) < own_g [ofNat c0, ofNat c1] i := by
 intro i hi
 rcases (show i = 0 ∨ i = 1 by simp at hi; omega) with rfl | rfl
 ·exact own_c8 h0
 ·exact own_c8 h1
theorem own_pemcs (x y : Int32) (q : List Int32) : own_pem (own_xs [x, y]) (own_xs q) = own_xs (own_cs x y q) := by
 simp [own_pem, own_xs, own_cs, own_c22, own_c28, own_c30]
/-- the body of one group -/
theorem own_enq {xs : List Int32} {kk a b c : Nat} (hk : kk = 1 ∨ kk = 2 ∨ kk = 3) (hl : xs.length = kk) (h0 : own_ug xs 0 = a) (h1 : 1 < kk → own_ug xs 1 = b) (h2 : 2 < kk → own_ug xs 2 = c) : own_en xs (List.replicate (own_D xs.length) (.int 0)) xs.length = own_xs (own_q kk a b c) := by
 rw [hl]
 rcases hk with rfl | rfl | rfl
 ·subst h0; rfl
 ·subst h0; have e1 := h1 (by decide); subst e1; rfl
 ·subst h0; have e1 := h1 (by decide); have e2 := h2 (by decide); subst e1; subst e2; rfl
theorem own_short {xs : List Int32} {x y : Int32} {kk a b c : Nat} (hk : kk = 1 ∨ kk = 2 ∨ kk = 3) (ha : a < 256) (hb : b < 256) (hc : c < 256) (hl : xs.length = kk) (h0 : own_ug xs 0 = a) (h1 : 1 < kk → own_ug xs 1 = b) (h2 : 2 < kk → own_ug xs 2 = c) : own_pem (own_xs (own_bs [x, y])) (own_en xs (List.replicate (own_D xs.length) (.int 0)) xs.length) = own_xs (own_bs (own_cs x y (own_q kk a b c))) := by
 rw [own_enq hk hl h0 h1 h2, show own_bs [x, y] = [own_b x, own_b y] from rfl, own_pemcs, own_bcs, own_bq hk ha hb hc]
theorem own_short0 {xs : List Int32} {x y : Int32} (hl : xs.length = 0) : own_pem (own_xs (own_bs [x, y])) (own_en xs (List.replicate (own_D xs.length) (.int 0)) xs.length) = own_xs (own_bs (own_cs x y [])) := by
 rw [hl, show own_en xs (List.replicate (own_D 0) (.int 0)) 0 = own_xs [] from rfl, show own_bs [x, y] = [own_b x, own_b y] from rfl, own_pemcs, own_bcs]; rfl
/-- a sign of a text of bytes -/
def own_at (vs : List Value) (i k : Nat) : Prop := ∃ x, vs.getD i (.int 0) = .int x ∧ own_u x = k
theorem own_ubk {k : Nat} (h : k < 256) : own_u (own_b (ofNat k)) = k := (show ∀ k < 256, own_u (own_b (ofNat k)) = k by decide +kernel) k h
theorem own_u8 {k : Nat} (h : k < 256) : own_u (nar .byte ((ofNat k).toInt8.toInt32)) = k := (show ∀ k < 256, own_u (nar .byte ((ofNat k).toInt8.toInt32)) = k by decide +kernel) k h
theorem own_ix (y : Int32) : ∃ k, k < 256 ∧ y &&& (255 : Int32) = ofNat k := ⟨own_u y, own_ub y, own_a255 y⟩
theorem own_cx (y : Int32) : ∃ k, k < 256 ∧ (y &&& (255 : Int32)).toUInt32.toUInt16.toUInt32.toInt32 = ofNat k := by
 refine ⟨own_u y, own_ub y, ?_⟩
 rw [own_a255]
 have h := own_ub y
 generalize own_u y = k at h
 exact (show ∀ k < 256, (ofNat k).toUInt32.toUInt16.toUInt32.toInt32 = ofNat k by decide +kernel) k h
theorem own_lx (y : Int64) : ∃ k, k < 256 ∧ (y &&& (255 : Int64)).toInt32 = ofNat k := by
 obtain ⟨k, hk, e⟩ := own_ix y.toInt32
 refine ⟨k, hk, ?_⟩
 rw [← e]
 first | (rw [Int64.toInt32_and]; rfl) | (apply Int32.toBitVec_inj.mp; simp [Int64.toBitVec_and, Int32.toBitVec_and])
theorem own_k3 (y : Int32) : ∃ k, k < 4 ∧ y &&& (3 : Int32) = ofNat k := by
 have e : ofNat y.toBitVec.toNat = y := by apply Int32.toBitVec_inj.mp; simp
 refine ⟨y.toBitVec.toNat % 4, Nat.mod_lt _ (by decide), ?_⟩
 have q := own_a3 y.toBitVec.toNat
 rw [e] at q; exact q
def D50 : List (Nat × Instr × Nat) := [(0, .iload_n 0, 1), (1, .bipush 26, 2), (3, .if_icmp .ge 9, 3), (6, .bipush 65, 2), (8, .iload_n 0, 1), (9, .iadd, 1), (10, .i2c, 1), (11, .ireturn, 1), (12, .iload_n 0, 1), (13, .bipush 52, 2), (15, .if_icmp .ge 12, 3), (18, .bipush 97, 2), (20, .iload_n 0, 1), (21, .bipush 26, 2), (23, .isub, 1), (24, .iadd, 1), (25, .i2c, 1), (26, .ireturn, 1), (27, .iload_n 0, 1), (28, .bipush 62, 2), (30, .if_icmp .ge 12, 3), (33, .bipush 48, 2), (35, .iload_n 0, 1), (36, .bipush 52, 2), (38, .isub, 1), (39, .iadd, 1), (40, .i2c, 1), (41, .ireturn, 1), (42, .iload_n 0, 1), (43, .bipush 62, 2), (45, .if_icmp .ne 6, 3), (48, .bipush 43, 2), (50, .ireturn, 1), (51, .bipush 47, 2), (53, .ireturn, 1)]
theorem A50 : ∀ q ∈ D50, decode method_3_code q.1 = .ok q.2 := by decide +kernel
theorem d50 {c : Code} (h0 : c.code = method_3_code) (i : Nat) {pc n : Nat} {q : Instr} (h : D50[i]? = some (pc, q, n) := by rfl) : decode c.code pc = .ok (q, n) := hb h0 (A50 (pc, q, n) (List.mem_of_getElem? h))
theorem pn_rm51 : plainName "com/example/bevaka/bevaka/store/PemEncodePinLaw" = true := by first | (simp [plainName, overriddenIn]; done) | decide +kernel
theorem ef_rm51 (m : MethodId) (j : Nat) : entryFrame m #[(.int (ofNat j))] 1 = mkF m 0 #[.val (.int (ofNat j))] [] := by first | (simp [entryFrame, mkF, argsToLocals, Value.category, maxLocals]; done) | rfl
def rm51_Q (Z : State) (j : Nat)  (h0 : Heap) (n0 : Nat) (v : Option Value) (h : Heap) (L : List Loc) : Prop := v = some (.int (own_sn j)) ∧ Fr n0 L ∧ h = h0
set_option maxRecDepth 65536 in
set_option maxHeartbeats 40000000 in
theorem rm51 (l : Launch) (Z : State) (a0 : Array Value) (hw : ∀ d ∈ tables_1, d.before a0 Z = true) (ws : List Jvm.Cond) (j : Nat)  (h0 : Heap) (n0 : Nat) (Z0 : n0 ≤ h0.size) (hj : j < 64) :
  MetFree l yM51 (head1 (Jvm.Cond.code yM51 method_3_code 1 (some .char) :: ws) rM0_0_0_0) (fun a U => a = #[(.int (ofNat j))] ∧ Z.Warmed39 U.vm ∧ U.heap = h0) (fun _ _ _ _ _ => True) (fun _ U o U' => ∃ v L, o = .returned v ∧ rm51_Q Z j h0 n0 v U'.heap L ∧ FrameEnd U o U' L rM0_0_0_0.cells rM0_0_0_0.slots) := by
 refine MetFree.of_bodySF (plainFor_of_name pn_rm51) hisR ?_
 intro p e s m args below meth c s₁ Bd hml0 hP hK
 obtain ⟨rfl, hZ, hh⟩ := hP
 have hx := Bd.exec
 have hby := Bd.bytes
 have hml : c.maxLocals = 1 := hml0
 have hown : s.vm.findClass "com/example/bevaka/bevaka/store/PemEncodePinLaw" = some m.cls := findClass_of_methodNamed Bd.named
 have hnm := (name_of_methodNamed Bd.named Bd.method).1
 have X0 : Stand p l e rM0_0_0_0 s m #[(.int (ofNat j))] below meth c s₁ [] 0 0 := Stand.of_body Bd
 have e0 : s₁.heap = h0 := by rw [← hh, Bd.state]; rfl
 have N0 := Fr.nil n0
 refine own_enter (QQ := rm51_Q Z j h0 n0) (ef_rm51 m j) ?_
 show own_Run p e below s _ _ _ s₁ (mkF m 0 #[.val (.int (ofNat j))] [])
 refine oP s₁ (mkF m 3 #[oI (ofNat j)] [(.int 26), (.int (ofNat j))]) (fun t k => ?_) ?_
 ·skip
  refine XS.iloadN X0.here hx rfl (d50 hby 0) rfl ?_
  refine XS.bipush X0.here hx rfl (d50 hby 1) ?_
  exact k
 by_cases hc1 : (ofNat j) < (26 : Int32)
 ·skip
  refine oP s₁ (mkF m 11 #[oI (ofNat j)] [(.int (((65 : Int32) + (ofNat j)).toUInt32.toUInt16.toUInt32.toInt32))]) (fun t k => ?_) ?_
  ·skip
   refine XS.icmpNo X0.here hx rfl (d50 hby 2) rfl (tlt hc1).2.1 ?_
   refine XS.bipush X0.here hx rfl (d50 hby 3) ?_
   refine XS.iloadN X0.here hx rfl (d50 hby 4) rfl ?_
   refine XS.iadd X0.here hx rfl (d50 hby 5) rfl ?_
   refine XS.i2c X0.here hx rfl (d50 hby 6) rfl ?_
   exact k
  refine own_retN X0 hx (t := .char) Bd.returns (by simp) (d50 hby 7) (BodyLoose.notSynchronized Bd) (by decide) (by decide) ?_
  rw [show s₁.heap = h0 from e0]
  exact ⟨congrArg (fun z => some (Value.int z)) ((by decide +kernel : ∀ j < 64, (ofNat j) < (26 : Int32) → (nar .char (((65 : Int32) + (ofNat j)).toUInt32.toUInt16.toUInt32.toInt32)) = own_sn j) j hj hc1), N0, rfl⟩
 ·skip
  refine oP s₁ (mkF m 15 #[oI (ofNat j)] [(.int 52), (.int (ofNat j))]) (fun t k => ?_) ?_
  ·skip
   refine XS.icmpYes X0.here hx rfl (pc0 := 3) (pc' := 12) rfl (d50 hby 2) rfl (flt hc1).2.1 (by decide) (by decide) ?_
   refine XS.iloadN X0.here hx rfl (d50 hby 8) rfl ?_
   refine XS.bipush X0.here hx rfl (d50 hby 9) ?_
   exact k
  by_cases hc2 : (ofNat j) < (52 : Int32)
  ·skip
   refine oP s₁ (mkF m 26 #[oI (ofNat j)] [(.int (((97 : Int32) + ((ofNat j) - (26 : Int32))).toUInt32.toUInt16.toUInt32.toInt32))]) (fun t k => ?_) ?_
   ·skip
    refine XS.icmpNo X0.here hx rfl (d50 hby 10) rfl (tlt hc2).2.1 ?_
    refine XS.bipush X0.here hx rfl (d50 hby 11) ?_
    refine XS.iloadN X0.here hx rfl (d50 hby 12) rfl ?_
    refine XS.bipush X0.here hx rfl (d50 hby 13) ?_
    refine XS.isub X0.here hx rfl (d50 hby 14) rfl ?_
    refine XS.iadd X0.here hx rfl (d50 hby 15) rfl ?_
    refine XS.i2c X0.here hx rfl (d50 hby 16) rfl ?_
    exact k
   refine own_retN X0 hx (t := .char) Bd.returns (by simp) (d50 hby 17) (BodyLoose.notSynchronized Bd) (by decide) (by decide) ?_
   rw [show s₁.heap = h0 from e0]
   exact ⟨congrArg (fun z => some (Value.int z)) ((by decide +kernel : ∀ j < 64, ¬ ((ofNat j) < (26 : Int32)) → (ofNat j) < (52 : Int32) → (nar .char (((97 : Int32) + ((ofNat j) - (26 : Int32))).toUInt32.toUInt16.toUInt32.toInt32)) = own_sn j) j hj hc1 hc2), N0, rfl⟩
  ·skip
   refine oP s₁ (mkF m 30 #[oI (ofNat j)] [(.int 62), (.int (ofNat j))]) (fun t k => ?_) ?_
   ·skip
    refine XS.icmpYes X0.here hx rfl (pc0 := 15) (pc' := 27) rfl (d50 hby 10) rfl (flt hc2).2.1 (by decide) (by decide) ?_
    refine XS.iloadN X0.here hx rfl (d50 hby 18) rfl ?_
    refine XS.bipush X0.here hx rfl (d50 hby 19) ?_
    exact k
   by_cases hc3 : (ofNat j) < (62 : Int32)
   ·skip
    refine oP s₁ (mkF m 41 #[oI (ofNat j)] [(.int (((48 : Int32) + ((ofNat j) - (52 : Int32))).toUInt32.toUInt16.toUInt32.toInt32))]) (fun t k => ?_) ?_
    ·skip
     refine XS.icmpNo X0.here hx rfl (d50 hby 20) rfl (tlt hc3).2.1 ?_
     refine XS.bipush X0.here hx rfl (d50 hby 21) ?_
     refine XS.iloadN X0.here hx rfl (d50 hby 22) rfl ?_
     refine XS.bipush X0.here hx rfl (d50 hby 23) ?_
     refine XS.isub X0.here hx rfl (d50 hby 24) rfl ?_
     refine XS.iadd X0.here hx rfl (d50 hby 25) rfl ?_
     refine XS.i2c X0.here hx rfl (d50 hby 26) rfl ?_
     exact k
    refine own_retN X0 hx (t := .char) Bd.returns (by simp) (d50 hby 27) (BodyLoose.notSynchronized Bd) (by decide) (by decide) ?_
    rw [show s₁.heap = h0 from e0]
    exact ⟨congrArg (fun z => some (Value.int z)) ((by decide +kernel : ∀ j < 64, ¬ ((ofNat j) < (26 : Int32)) → ¬ ((ofNat j) < (52 : Int32)) → (ofNat j) < (62 : Int32) → (nar .char (((48 : Int32) + ((ofNat j) - (52 : Int32))).toUInt32.toUInt16.toUInt32.toInt32)) = own_sn j) j hj hc1 hc2 hc3), N0, rfl⟩
   ·skip
    refine oP s₁ (mkF m 45 #[oI (ofNat j)] [(.int 62), (.int (ofNat j))]) (fun t k => ?_) ?_
    ·skip
     refine XS.icmpYes X0.here hx rfl (pc0 := 30) (pc' := 42) rfl (d50 hby 20) rfl (flt hc3).2.1 (by decide) (by decide) ?_
     refine XS.iloadN X0.here hx rfl (d50 hby 28) rfl ?_
     refine XS.bipush X0.here hx rfl (d50 hby 29) ?_
     exact k
    by_cases hc4 : (ofNat j) = (62 : Int32)
    ·skip
     refine oP s₁ (mkF m 50 #[oI (ofNat j)] [(.int 43)]) (fun t k => ?_) ?_
     ·skip
      refine XS.icmpNo X0.here hx rfl (d50 hby 30) rfl (teq hc4).2 ?_
      refine XS.bipush X0.here hx rfl (d50 hby 31) ?_
      exact k
     refine own_retN X0 hx (t := .char) Bd.returns (by simp) (d50 hby 32) (BodyLoose.notSynchronized Bd) (by decide) (by decide) ?_
     rw [show s₁.heap = h0 from e0]
     exact ⟨congrArg (fun z => some (Value.int z)) ((by decide +kernel : ∀ j < 64, ¬ ((ofNat j) < (26 : Int32)) → ¬ ((ofNat j) < (52 : Int32)) → ¬ ((ofNat j) < (62 : Int32)) → (ofNat j) = (62 : Int32) → (nar .char (43 : Int32)) = own_sn j) j hj hc1 hc2 hc3 hc4), N0, rfl⟩
    ·skip
     refine oP s₁ (mkF m 53 #[oI (ofNat j)] [(.int 47)]) (fun t k => ?_) ?_
     ·skip
      refine XS.icmpYes X0.here hx rfl (pc0 := 45) (pc' := 51) rfl (d50 hby 30) rfl (feq hc4).2 (by decide) (by decide) ?_
      refine XS.bipush X0.here hx rfl (d50 hby 33) ?_
      exact k
     refine own_retN X0 hx (t := .char) Bd.returns (by simp) (d50 hby 34) (BodyLoose.notSynchronized Bd) (by decide) (by decide) ?_
     rw [show s₁.heap = h0 from e0]
     exact ⟨congrArg (fun z => some (Value.int z)) ((by decide +kernel : ∀ j < 64, ¬ ((ofNat j) < (26 : Int32)) → ¬ ((ofNat j) < (52 : Int32)) → ¬ ((ofNat j) < (62 : Int32)) → ¬ ((ofNat j) = (62 : Int32)) → (nar .char (47 : Int32)) = own_sn j) j hj hc1 hc2 hc3 hc4), N0, rfl⟩
def D45 : List (Nat × Instr × Nat) := [(0, .aload_n 0, 1), (1, .iload_n 1, 1), (2, .bipush 45, 2), (4, .castore, 1), (5, .aload_n 0, 1), (6, .iload_n 1, 1), (7, .iconst 1, 1), (8, .iadd, 1), (9, .bipush 45, 2), (11, .castore, 1), (12, .aload_n 0, 1), (13, .iload_n 1, 1), (14, .iconst 2, 1), (15, .iadd, 1), (16, .bipush 45, 2), (18, .castore, 1), (19, .aload_n 0, 1), (20, .iload_n 1, 1), (21, .iconst 3, 1), (22, .iadd, 1), (23, .bipush 45, 2), (25, .castore, 1), (26, .aload_n 0, 1), (27, .iload_n 1, 1), (28, .iconst 4, 1), (29, .iadd, 1), (30, .bipush 45, 2), (32, .castore, 1), (33, .return_, 1)]
theorem A45 : ∀ q ∈ D45, decode method_6_code q.1 = .ok q.2 := by decide +kernel
theorem d45 {c : Code} (h0 : c.code = method_6_code) (i : Nat) {pc n : Nat} {q : Instr} (h : D45[i]? = some (pc, q, n) := by rfl) : decode c.code pc = .ok (q, n) := hb h0 (A45 (pc, q, n) (List.mem_of_getElem? h))
theorem pn_rm46 : plainName "com/example/bevaka/bevaka/store/PemEncodePinLaw" = true := by first | (simp [plainName, overriddenIn]; done) | decide +kernel
theorem ef_rm46 (m : MethodId) (o0 : Addr) (at_ : Nat) : entryFrame m #[(.ref o0), (.int (ofNat at_))] 2 = mkF m 0 #[.val (.ref o0), .val (.int (ofNat at_))] [] := by first | (simp [entryFrame, mkF, argsToLocals, Value.category, maxLocals]; done) | rfl
def rm46_Q (Z : State) (o0 : Addr) (at_ : Nat) (k : ClassId) (n : Nat) (vs : List Value) (h0 : Heap) (n0 : Nat) (v : Option Value) (h : Heap) (L : List Loc) : Prop := v = none ∧ Fr n0 L ∧ Keep h0 h [o0] ∧ Arv Z h o0 k .char (ofNat n) (own_dsh vs at_) (.int 0)
set_option maxRecDepth 65536 in
set_option maxHeartbeats 40000000 in
theorem rm46 (l : Launch) (Z : State) (a0 : Array Value) (hw : ∀ d ∈ tables_1, d.before a0 Z = true) (ws : List Jvm.Cond) (o0 : Addr) (at_ : Nat) (k : ClassId) (n : Nat) (vs : List Value) (h0 : Heap) (n0 : Nat) (Z0 : n0 ≤ h0.size) (V_o0 : Arv Z h0 o0 k .char (ofNat n) vs (.int 0)) (g_o0 : n0 ≤ o0) (hl : vs.length = n) (ha : at_ + 5 ≤ n) (hn : n ≤ 64) :
  MetFree l yM52 (head1 (Jvm.Cond.code yM52 method_6_code 2 none :: ws) rM0_0_0_0) (fun a U => a = #[(.ref o0), (.int (ofNat at_))] ∧ Z.Warmed39 U.vm ∧ U.heap = h0) (fun _ _ _ _ _ => True) (fun _ U o U' => ∃ v L, o = .returned v ∧ rm46_Q Z o0 at_ k n vs h0 n0 v U'.heap L ∧ FrameEnd U o U' L rM0_0_0_0.cells rM0_0_0_0.slots) := by
 refine MetFree.of_bodySF (plainFor_of_name pn_rm46) hisR ?_
 intro p e s m args below meth c s₁ Bd hml0 hP hK
 obtain ⟨rfl, hZ, hh⟩ := hP
 have hx := Bd.exec
 have hby := Bd.bytes
 have hml : c.maxLocals = 2 := hml0
 have hown : s.vm.findClass "com/example/bevaka/bevaka/store/PemEncodePinLaw" = some m.cls := findClass_of_methodNamed Bd.named
 have hnm := (name_of_methodNamed Bd.named Bd.method).1
 have X0 : Stand p l e rM0_0_0_0 s m #[(.ref o0), (.int (ofNat at_))] below meth c s₁ [] 0 0 := Stand.of_body Bd
 have e0 : s₁.heap = h0 := by rw [← hh, Bd.state]; rfl
 have N0 := Fr.nil n0
 have K0 := Keep.refl h0 [o0]
 refine own_enter (QQ := rm46_Q Z o0 at_ k n vs h0 n0) (ef_rm46 m o0 at_) ?_
 show own_Run p e below s _ _ _ s₁ (mkF m 0 #[.val (.ref o0), .val (.int (ofNat at_))] [])
 refine oP s₁ (mkF m 4 #[oR o0, oI (ofNat at_)] [(.int 45), (.int (ofNat at_)), (.ref o0)]) (fun t k => ?_) ?_
 ·skip
  refine XS.aloadN X0.here hx rfl (d45 hby 0) rfl rfl ?_
  refine XS.iloadN X0.here hx rfl (d45 hby 1) rfl ?_
  refine XS.bipush X0.here hx rfl (d45 hby 2) ?_
  exact k
 obtain ⟨cl1, Arcl1, qcl1, Scl1, Mcl1, Hcl1, Gcl1⟩ := V_o0
 have hincl1 : ¬ ((ofNat at_) < 0 ∨ cl1.slots.size ≤ ((ofNat at_)).toNatClampNeg) := inb_of Scl1 (own_tin (by omega) (by omega))
 obtain ⟨T2, h2, X2, e2, W2, st2⟩ := stC X0 hx hZ e0 Arcl1 (j := (ofNat at_)) hincl1 (g := (mkF m 4 #[oR o0, oI (ofNat at_)] [(.int 45), (.int (ofNat at_)), (.ref o0)])) rfl rfl (d45 hby 3)
 have V3 := Arv.set Arcl1 qcl1 Scl1 Mcl1 Hcl1 Gcl1 (fits_nar_char _) W2 at_ (own_tn (by omega)) (by (try simp only [List.length_set, own_dshl]); omega)
 have K2 := K0.wr W2 (Or.inl (List.mem_of_getElem? (i := 0) rfl))
 have N2 := Fr.snoc X2 N0 g_o0
 refine own_step st2 ?_
 refine oP T2 (mkF m 9 #[oR o0, oI (ofNat at_)] [(.int ((ofNat at_) + (1 : Int32))), (.ref o0)]) (fun t k => ?_) ?_
 ·skip
  refine XS.aloadN X2.here hx rfl (d45 hby 4) rfl rfl ?_
  refine XS.iloadN X2.here hx rfl (d45 hby 5) rfl ?_
  refine XS.iconst X2.here hx rfl (d45 hby 6) ?_
  refine XS.iadd X2.here hx rfl (d45 hby 7) rfl ?_
  exact k
 rw [show (((ofNat at_) + (1 : Int32)) : Int32) = (ofNat (at_ + 1)) from own_add (at_) 1]
 refine oP T2 (mkF m 11 #[oR o0, oI (ofNat at_)] [(.int 45), (.int (ofNat (at_ + 1))), (.ref o0)]) (fun t k => ?_) ?_
 ·skip
  refine XS.bipush X2.here hx rfl (d45 hby 8) ?_
  exact k
 obtain ⟨cl5, Arcl5, qcl5, Scl5, Mcl5, Hcl5, Gcl5⟩ := V3
 have hincl5 : ¬ ((ofNat (at_ + 1)) < 0 ∨ cl5.slots.size ≤ ((ofNat (at_ + 1))).toNatClampNeg) := inb_of Scl5 (own_tin (by omega) (by omega))
 obtain ⟨T6, h6, X6, e6, W6, st6⟩ := stC X2 hx hZ e2 Arcl5 (j := (ofNat (at_ + 1))) hincl5 (g := (mkF m 11 #[oR o0, oI (ofNat at_)] [(.int 45), (.int (ofNat (at_ + 1))), (.ref o0)])) rfl rfl (d45 hby 9)
 have V7 := Arv.set Arcl5 qcl5 Scl5 Mcl5 Hcl5 Gcl5 (fits_nar_char _) W6 (at_ + 1) (own_tn (by omega)) (by (try simp only [List.length_set, own_dshl]); omega)
 have K6 := K2.wr W6 (Or.inl (List.mem_of_getElem? (i := 0) rfl))
 have N6 := Fr.snoc X6 N2 g_o0
 refine own_step st6 ?_
 refine oP T6 (mkF m 16 #[oR o0, oI (ofNat at_)] [(.int ((ofNat at_) + (2 : Int32))), (.ref o0)]) (fun t k => ?_) ?_
 ·skip
  refine XS.aloadN X6.here hx rfl (d45 hby 10) rfl rfl ?_
  refine XS.iloadN X6.here hx rfl (d45 hby 11) rfl ?_
  refine XS.iconst X6.here hx rfl (d45 hby 12) ?_
  refine XS.iadd X6.here hx rfl (d45 hby 13) rfl ?_
  exact k
 rw [show (((ofNat at_) + (2 : Int32)) : Int32) = (ofNat (at_ + 2)) from own_add (at_) 2]
 refine oP T6 (mkF m 18 #[oR o0, oI (ofNat at_)] [(.int 45), (.int (ofNat (at_ + 2))), (.ref o0)]) (fun t k => ?_) ?_
 ·skip
  refine XS.bipush X6.here hx rfl (d45 hby 14) ?_
  exact k
 obtain ⟨cl9, Arcl9, qcl9, Scl9, Mcl9, Hcl9, Gcl9⟩ := V7
 have hincl9 : ¬ ((ofNat (at_ + 2)) < 0 ∨ cl9.slots.size ≤ ((ofNat (at_ + 2))).toNatClampNeg) := inb_of Scl9 (own_tin (by omega) (by omega))
 obtain ⟨T10, h10, X10, e10, W10, st10⟩ := stC X6 hx hZ e6 Arcl9 (j := (ofNat (at_ + 2))) hincl9 (g := (mkF m 18 #[oR o0, oI (ofNat at_)] [(.int 45), (.int (ofNat (at_ + 2))), (.ref o0)])) rfl rfl (d45 hby 15)
 have V11 := Arv.set Arcl9 qcl9 Scl9 Mcl9 Hcl9 Gcl9 (fits_nar_char _) W10 (at_ + 2) (own_tn (by omega)) (by (try simp only [List.length_set, own_dshl]); omega)
 have K10 := K6.wr W10 (Or.inl (List.mem_of_getElem? (i := 0) rfl))
 have N10 := Fr.snoc X10 N6 g_o0
 refine own_step st10 ?_
 refine oP T10 (mkF m 23 #[oR o0, oI (ofNat at_)] [(.int ((ofNat at_) + (3 : Int32))), (.ref o0)]) (fun t k => ?_) ?_
 ·skip
  refine XS.aloadN X10.here hx rfl (d45 hby 16) rfl rfl ?_
  refine XS.iloadN X10.here hx rfl (d45 hby 17) rfl ?_
  refine XS.iconst X10.here hx rfl (d45 hby 18) ?_
  refine XS.iadd X10.here hx rfl (d45 hby 19) rfl ?_
  exact k
 rw [show (((ofNat at_) + (3 : Int32)) : Int32) = (ofNat (at_ + 3)) from own_add (at_) 3]
 refine oP T10 (mkF m 25 #[oR o0, oI (ofNat at_)] [(.int 45), (.int (ofNat (at_ + 3))), (.ref o0)]) (fun t k => ?_) ?_
 ·skip
  refine XS.bipush X10.here hx rfl (d45 hby 20) ?_
  exact k
 obtain ⟨cl13, Arcl13, qcl13, Scl13, Mcl13, Hcl13, Gcl13⟩ := V11
 have hincl13 : ¬ ((ofNat (at_ + 3)) < 0 ∨ cl13.slots.size ≤ ((ofNat (at_ + 3))).toNatClampNeg) := inb_of Scl13 (own_tin (by omega) (by omega))
 obtain ⟨T14, h14, X14, e14, W14, st14⟩ := stC X10 hx hZ e10 Arcl13 (j := (ofNat (at_ + 3))) hincl13 (g := (mkF m 25 #[oR o0, oI (ofNat at_)] [(.int 45), (.int (ofNat (at_ + 3))), (.ref o0)])) rfl rfl (d45 hby 21)
 have V15 := Arv.set Arcl13 qcl13 Scl13 Mcl13 Hcl13 Gcl13 (fits_nar_char _) W14 (at_ + 3) (own_tn (by omega)) (by (try simp only [List.length_set, own_dshl]); omega)
 have K14 := K10.wr W14 (Or.inl (List.mem_of_getElem? (i := 0) rfl))
 have N14 := Fr.snoc X14 N10 g_o0
 refine own_step st14 ?_
 refine oP T14 (mkF m 30 #[oR o0, oI (ofNat at_)] [(.int ((ofNat at_) + (4 : Int32))), (.ref o0)]) (fun t k => ?_) ?_
 ·skip
  refine XS.aloadN X14.here hx rfl (d45 hby 22) rfl rfl ?_
  refine XS.iloadN X14.here hx rfl (d45 hby 23) rfl ?_
  refine XS.iconst X14.here hx rfl (d45 hby 24) ?_
  refine XS.iadd X14.here hx rfl (d45 hby 25) rfl ?_
  exact k
 rw [show (((ofNat at_) + (4 : Int32)) : Int32) = (ofNat (at_ + 4)) from own_add (at_) 4]
 refine oP T14 (mkF m 32 #[oR o0, oI (ofNat at_)] [(.int 45), (.int (ofNat (at_ + 4))), (.ref o0)]) (fun t k => ?_) ?_
 ·skip
  refine XS.bipush X14.here hx rfl (d45 hby 26) ?_
  exact k
 obtain ⟨cl17, Arcl17, qcl17, Scl17, Mcl17, Hcl17, Gcl17⟩ := V15
 have hincl17 : ¬ ((ofNat (at_ + 4)) < 0 ∨ cl17.slots.size ≤ ((ofNat (at_ + 4))).toNatClampNeg) := inb_of Scl17 (own_tin (by omega) (by omega))
 obtain ⟨T18, h18, X18, e18, W18, st18⟩ := stC X14 hx hZ e14 Arcl17 (j := (ofNat (at_ + 4))) hincl17 (g := (mkF m 32 #[oR o0, oI (ofNat at_)] [(.int 45), (.int (ofNat (at_ + 4))), (.ref o0)])) rfl rfl (d45 hby 27)
 have V19 := Arv.set Arcl17 qcl17 Scl17 Mcl17 Hcl17 Gcl17 (fits_nar_char _) W18 (at_ + 4) (own_tn (by omega)) (by (try simp only [List.length_set, own_dshl]); omega)
 have K18 := K14.wr W18 (Or.inl (List.mem_of_getElem? (i := 0) rfl))
 have N18 := Fr.snoc X18 N14 g_o0
 refine own_step st18 ?_
 refine own_retV X18 hx Bd.returns (d45 hby 28) (BodyLoose.notSynchronized Bd) (by decide) (by decide) ?_
 rw [show T18.heap = h18 from e18]
 exact ⟨rfl, N18, K18, by have q := V19; rw [own_nl45] at q; exact q⟩
def own_frm (c0 c1 bl : Nat) (vs : List Value) : List Value := ((own_dsh (((((((own_dsh (((own_dsh (((((((((own_dsh vs (0)).set 5 (.int 66)).set 6 (.int 69)).set 7 (.int 71)).set 8 (.int 73)).set 9 (.int 78)).set 10 (.int 32)).set 11 (.int (ofNat c0))).set 12 (.int (ofNat c1))) (13)).set 18 (.int 10)).set (19 + bl) (.int 10)) (19 + bl + 1)).set ((19 + bl) + 6) (.int 69)).set ((19 + bl) + 7) (.int 78)).set ((19 + bl) + 8) (.int 68)).set ((19 + bl) + 9) (.int 32)).set ((19 + bl) + 10) (.int (ofNat c0))).set ((19 + bl) + 11) (.int (ofNat c1))) (19 + bl + 12)).set ((19 + bl) + 17) (.int 10))
theorem own_frml (c0 c1 bl : Nat) (vs : List Value) : (own_frm c0 c1 bl vs).length = vs.length := by simp [own_frm, own_dsh]
set_option maxRecDepth 16384 in
theorem own_frm0 (c0 c1 : Nat) : own_frm c0 c1 0 (List.replicate 37 (.int 0)) = own_xs (own_cs (ofNat c0) (ofNat c1) []) := by
 simp only [own_putq, own_frm, own_dsh, own_xs, own_cs, List.replicate, List.set_cons_zero, List.set_cons_succ, List.map_cons, List.map_nil, List.map_append, List.append_assoc, List.nil_append, List.cons_append, Nat.reduceAdd]
set_option maxRecDepth 16384 in
theorem own_frm4 (c0 c1 : Nat) (q : List Int32) : own_putq (own_frm c0 c1 4 (List.replicate 41 (.int 0))) 19 q = own_xs (own_cs (ofNat c0) (ofNat c1) [q.getD 0 (0 : Int32), q.getD 1 (0 : Int32), q.getD 2 (0 : Int32), q.getD 3 (0 : Int32)]) := by
 simp only [own_putq, own_frm, own_dsh, own_xs, own_cs, List.replicate, List.set_cons_zero, List.set_cons_succ, List.map_cons, List.map_nil, List.map_append, List.append_assoc, List.nil_append, List.cons_append, Nat.reduceAdd]
def D44 : List (Nat × Instr × Nat) := [(0, .aload_n 0, 1), (1, .iconst 0, 1), (2, .invokestatic 49, 3), (5, .aload_n 0, 1), (6, .iconst 5, 1), (7, .bipush 66, 2), (9, .castore, 1), (10, .aload_n 0, 1), (11, .bipush 6, 2), (13, .bipush 69, 2), (15, .castore, 1), (16, .aload_n 0, 1), (17, .bipush 7, 2), (19, .bipush 71, 2), (21, .castore, 1), (22, .aload_n 0, 1), (23, .bipush 8, 2), (25, .bipush 73, 2), (27, .castore, 1), (28, .aload_n 0, 1), (29, .bipush 9, 2), (31, .bipush 78, 2), (33, .castore, 1), (34, .aload_n 0, 1), (35, .bipush 10, 2), (37, .bipush 32, 2), (39, .castore, 1), (40, .aload_n 0, 1), (41, .bipush 11, 2), (43, .iload_n 1, 1), (44, .castore, 1), (45, .aload_n 0, 1), (46, .bipush 12, 2), (48, .iload_n 2, 1), (49, .castore, 1), (50, .aload_n 0, 1), (51, .bipush 13, 2), (53, .invokestatic 49, 3), (56, .aload_n 0, 1), (57, .bipush 18, 2), (59, .bipush 10, 2), (61, .castore, 1), (62, .bipush 19, 2), (64, .iload_n 3, 1), (65, .iadd, 1), (66, .istore 4, 2), (68, .aload_n 0, 1), (69, .iload 4, 2), (71, .bipush 10, 2), (73, .castore, 1), (74, .aload_n 0, 1), (75, .iload 4, 2), (77, .iconst 1, 1), (78, .iadd, 1), (79, .invokestatic 49, 3), (82, .aload_n 0, 1), (83, .iload 4, 2), (85, .bipush 6, 2), (87, .iadd, 1), (88, .bipush 69, 2), (90, .castore, 1), (91, .aload_n 0, 1), (92, .iload 4, 2), (94, .bipush 7, 2), (96, .iadd, 1), (97, .bipush 78, 2), (99, .castore, 1), (100, .aload_n 0, 1), (101, .iload 4, 2), (103, .bipush 8, 2), (105, .iadd, 1), (106, .bipush 68, 2), (108, .castore, 1), (109, .aload_n 0, 1), (110, .iload 4, 2), (112, .bipush 9, 2), (114, .iadd, 1), (115, .bipush 32, 2), (117, .castore, 1), (118, .aload_n 0, 1), (119, .iload 4, 2), (121, .bipush 10, 2), (123, .iadd, 1), (124, .iload_n 1, 1), (125, .castore, 1), (126, .aload_n 0, 1), (127, .iload 4, 2), (129, .bipush 11, 2), (131, .iadd, 1), (132, .iload_n 2, 1), (133, .castore, 1), (134, .aload_n 0, 1), (135, .iload 4, 2), (137, .bipush 12, 2), (139, .iadd, 1), (140, .invokestatic 49, 3), (143, .aload_n 0, 1), (144, .iload 4, 2), (146, .bipush 17, 2), (148, .iadd, 1), (149, .bipush 10, 2), (151, .castore, 1), (152, .return_, 1)]
theorem A44 : ∀ q ∈ D44, decode method_7_code q.1 = .ok q.2 := by decide +kernel
theorem d44 {c : Code} (h0 : c.code = method_7_code) (i : Nat) {pc n : Nat} {q : Instr} (h : D44[i]? = some (pc, q, n) := by rfl) : decode c.code pc = .ok (q, n) := hb h0 (A44 (pc, q, n) (List.mem_of_getElem? h))
theorem pn_rm45 : plainName "com/example/bevaka/bevaka/store/PemEncodePinLaw" = true := by first | (simp [plainName, overriddenIn]; done) | decide +kernel
theorem ef_rm45 (m : MethodId) (o0 : Addr) (c0 : Nat) (c1 : Nat) (bl : Nat) : entryFrame m #[(.ref o0), (.int (ofNat c0)), (.int (ofNat c1)), (.int (ofNat bl))] 5 = mkF m 0 #[.val (.ref o0), .val (.int (ofNat c0)), .val (.int (ofNat c1)), .val (.int (ofNat bl)), .unset] [] := by first | (simp [entryFrame, mkF, argsToLocals, Value.category, maxLocals]; done) | rfl
def rm45_Q (Z : State) (o0 : Addr) (c0 : Nat) (c1 : Nat) (bl : Nat) (k : ClassId) (vs : List Value) (h0 : Heap) (n0 : Nat) (v : Option Value) (h : Heap) (L : List Loc) : Prop := v = none ∧ Fr n0 L ∧ Keep h0 h [o0] ∧ Arv Z h o0 k .char (ofNat (37 + bl)) (own_frm c0 c1 bl vs) (.int 0)
set_option maxRecDepth 65536 in
set_option maxHeartbeats 40000000 in
theorem rm45 (l : Launch) (Z : State) (a0 : Array Value) (hw : ∀ d ∈ tables_1, d.before a0 Z = true) (ws : List Jvm.Cond) (o0 : Addr) (c0 : Nat) (c1 : Nat) (bl : Nat) (k : ClassId) (vs : List Value) (h0 : Heap) (n0 : Nat) (Z0 : n0 ≤ h0.size) (V_o0 : Arv Z h0 o0 k .char (ofNat (37 + bl)) vs (.int 0)) (g_o0 : n0 ≤ o0) (hl : vs.length = (37 + bl)) (hc0 : c0 < 256) (hc1 : c1 < 256) (hbl : bl ≤ 4) :
  MetFree l yM53 (head1 (Jvm.Cond.code yM53 method_7_code 5 none :: ws) rM1_0_0_13) (fun a U => a = #[(.ref o0), (.int (ofNat c0)), (.int (ofNat c1)), (.int (ofNat bl))] ∧ Z.Warmed39 U.vm ∧ U.heap = h0) (fun _ _ _ _ _ => True) (fun _ U o U' => ∃ v L, o = .returned v ∧ rm45_Q Z o0 c0 c1 bl k vs h0 n0 v U'.heap L ∧ FrameEnd U o U' L rM1_0_0_13.cells rM1_0_0_13.slots) := by
 refine MetFree.of_bodySF (plainFor_of_name pn_rm45) hisR ?_
 intro p e s m args below meth c s₁ Bd hml0 hP hK
 obtain ⟨rfl, hZ, hh⟩ := hP
 have hx := Bd.exec
 have hby := Bd.bytes
 have hml : c.maxLocals = 5 := hml0
 have hown : s.vm.findClass "com/example/bevaka/bevaka/store/PemEncodePinLaw" = some m.cls := findClass_of_methodNamed Bd.named
 have hnm := (name_of_methodNamed Bd.named Bd.method).1
 have X0 : Stand p l e rM1_0_0_13 s m #[(.ref o0), (.int (ofNat c0)), (.int (ofNat c1)), (.int (ofNat bl))] below meth c s₁ [] 0 0 := Stand.of_body Bd
 have e0 : s₁.heap = h0 := by rw [← hh, Bd.state]; rfl
 have N0 := Fr.nil n0
 have K0 := Keep.refl h0 [o0]
 refine own_enter (QQ := rm45_Q Z o0 c0 c1 bl k vs h0 n0) (ef_rm45 m o0 c0 c1 bl) ?_
 show own_Run p e below s _ _ _ s₁ (mkF m 0 #[.val (.ref o0), .val (.int (ofNat c0)), .val (.int (ofNat c1)), .val (.int (ofNat bl)), .unset] [])
 refine oP s₁ (mkF m 2 #[oR o0, oI (ofNat c0), oI (ofNat c1), oI (ofNat bl), .unset] [(.int 0), (.ref o0)]) (fun t k => ?_) ?_
 ·skip
  refine XS.aloadN X0.here hx rfl (d44 hby 0) rfl rfl ?_
  refine XS.iconst X0.here hx rfl (d44 hby 1) ?_
  exact k
 obtain ⟨_, _, ⟨T1, L1, k1, n1⟩, -, X1, ⟨Lc1, hQ1, l1, y1, z1⟩, st1⟩ := Jvm.LawKit.callS X0 hx (y := yM52) hown (mvT hZ (own_w hw 237)) (mvT hZ (own_w hw 238)) (mvT hZ (own_w hw 235)) (mvT hZ (own_w hw 239)) (by decide) (backOf (W := 0) (rm46 l Z a0 hw [] o0 (0) k (37 + bl) _ h0 n0 Z0 V_o0 g_o0 (by (try simp only [List.length_set, own_dshl]); exact hl) (by omega) (by omega)) hZ (own_w hw 239) (own_w hw 235) (by decide) (by decide)) (g := (mkF m 2 #[oR o0, oI (ofNat c0), oI (ofNat c1), oI (ofNat bl), .unset] [(.int (ofNat 0)), (.ref o0)])) rfl (by rw [hml]; rfl) (argsL := [(.ref o0), (.int (ofNat 0))]) (rest := []) (lenOf pd_37 rfl) rfl (by show 2 * 0 + _ ≤ _; exact Nat.le_of_eq rfl) (d44 hby 2) (fun _ _ => ⟨rfl, e0, (by decide : 0 + 0 ≤ _), (by decide : 0 + 0 ≤ _)⟩)
 dsimp only [Pt.U, Pt.locs, Pt.cells, Pt.slots] at X1 l1 y1 z1 st1 hQ1
 subst l1 y1 z1
 obtain ⟨rfl, N1q, Kq1, Vq1⟩ := hQ1
 have N1 := Fr.app N0 N1q
 refine own_step st1 ?_
 have Z2 := Nat.le_trans Z0 Kq1.1
 have K3 := K0.trans Kq1 (allS (Or.inl (List.mem_of_getElem? (i := 0) rfl)) all0)
 refine oP T1 (mkF m 9 #[oR o0, oI (ofNat c0), oI (ofNat c1), oI (ofNat bl), .unset] [(.int 66), (.int 5), (.ref o0)]) (fun t k => ?_) ?_
 ·skip
  refine XS.aloadN X1.here hx rfl (d44 hby 3) rfl rfl ?_
  refine XS.iconst X1.here hx rfl (d44 hby 4) ?_
  refine XS.bipush X1.here hx rfl (d44 hby 5) ?_
  exact k
 obtain ⟨cl4, Arcl4, qcl4, Scl4, Mcl4, Hcl4, Gcl4⟩ := Vq1
 have hincl4 : ¬ ((5 : Int32) < 0 ∨ cl4.slots.size ≤ ((5 : Int32)).toNatClampNeg) := inb_of Scl4 (own_tin (j := 5) (by omega) (by omega))
 obtain ⟨T5, h5, X5, e5, W5, st5⟩ := stC X1 hx hZ rfl Arcl4 (j := (5 : Int32)) hincl4 (g := (mkF m 9 #[oR o0, oI (ofNat c0), oI (ofNat c1), oI (ofNat bl), .unset] [(.int 66), (.int 5), (.ref o0)])) rfl rfl (d44 hby 6)
 have V6 := Arv.set Arcl4 qcl4 Scl4 Mcl4 Hcl4 Gcl4 (fits_nar_char _) W5 5 rfl (by (try simp only [List.length_set, own_dshl]); omega)
 have Z7 := Nat.le_trans Z2 (Keep.of_wr W5).1
 have K5 := K3.wr W5 (Or.inl (List.mem_of_getElem? (i := 0) rfl))
 have N5 := Fr.snoc X5 N1 g_o0
 refine own_step st5 ?_
 refine oP T5 (mkF m 15 #[oR o0, oI (ofNat c0), oI (ofNat c1), oI (ofNat bl), .unset] [(.int 69), (.int 6), (.ref o0)]) (fun t k => ?_) ?_
 ·skip
  refine XS.aloadN X5.here hx rfl (d44 hby 7) rfl rfl ?_
  refine XS.bipush X5.here hx rfl (d44 hby 8) ?_
  refine XS.bipush X5.here hx rfl (d44 hby 9) ?_
  exact k
 obtain ⟨cl8, Arcl8, qcl8, Scl8, Mcl8, Hcl8, Gcl8⟩ := V6
 have hincl8 : ¬ ((6 : Int32) < 0 ∨ cl8.slots.size ≤ ((6 : Int32)).toNatClampNeg) := inb_of Scl8 (own_tin (j := 6) (by omega) (by omega))
 obtain ⟨T9, h9, X9, e9, W9, st9⟩ := stC X5 hx hZ e5 Arcl8 (j := (6 : Int32)) hincl8 (g := (mkF m 15 #[oR o0, oI (ofNat c0), oI (ofNat c1), oI (ofNat bl), .unset] [(.int 69), (.int 6), (.ref o0)])) rfl rfl (d44 hby 10)
 have V10 := Arv.set Arcl8 qcl8 Scl8 Mcl8 Hcl8 Gcl8 (fits_nar_char _) W9 6 rfl (by (try simp only [List.length_set, own_dshl]); omega)
 have Z11 := Nat.le_trans Z7 (Keep.of_wr W9).1
 have K9 := K5.wr W9 (Or.inl (List.mem_of_getElem? (i := 0) rfl))
 have N9 := Fr.snoc X9 N5 g_o0
 refine own_step st9 ?_
 refine oP T9 (mkF m 21 #[oR o0, oI (ofNat c0), oI (ofNat c1), oI (ofNat bl), .unset] [(.int 71), (.int 7), (.ref o0)]) (fun t k => ?_) ?_
 ·skip
  refine XS.aloadN X9.here hx rfl (d44 hby 11) rfl rfl ?_
  refine XS.bipush X9.here hx rfl (d44 hby 12) ?_
  refine XS.bipush X9.here hx rfl (d44 hby 13) ?_
  exact k
 obtain ⟨cl12, Arcl12, qcl12, Scl12, Mcl12, Hcl12, Gcl12⟩ := V10
 have hincl12 : ¬ ((7 : Int32) < 0 ∨ cl12.slots.size ≤ ((7 : Int32)).toNatClampNeg) := inb_of Scl12 (own_tin (j := 7) (by omega) (by omega))
 obtain ⟨T13, h13, X13, e13, W13, st13⟩ := stC X9 hx hZ e9 Arcl12 (j := (7 : Int32)) hincl12 (g := (mkF m 21 #[oR o0, oI (ofNat c0), oI (ofNat c1), oI (ofNat bl), .unset] [(.int 71), (.int 7), (.ref o0)])) rfl rfl (d44 hby 14)
 have V14 := Arv.set Arcl12 qcl12 Scl12 Mcl12 Hcl12 Gcl12 (fits_nar_char _) W13 7 rfl (by (try simp only [List.length_set, own_dshl]); omega)
 have Z15 := Nat.le_trans Z11 (Keep.of_wr W13).1
 have K13 := K9.wr W13 (Or.inl (List.mem_of_getElem? (i := 0) rfl))
 have N13 := Fr.snoc X13 N9 g_o0
 refine own_step st13 ?_
 refine oP T13 (mkF m 27 #[oR o0, oI (ofNat c0), oI (ofNat c1), oI (ofNat bl), .unset] [(.int 73), (.int 8), (.ref o0)]) (fun t k => ?_) ?_
 ·skip
  refine XS.aloadN X13.here hx rfl (d44 hby 15) rfl rfl ?_
  refine XS.bipush X13.here hx rfl (d44 hby 16) ?_
  refine XS.bipush X13.here hx rfl (d44 hby 17) ?_
  exact k
 obtain ⟨cl16, Arcl16, qcl16, Scl16, Mcl16, Hcl16, Gcl16⟩ := V14
 have hincl16 : ¬ ((8 : Int32) < 0 ∨ cl16.slots.size ≤ ((8 : Int32)).toNatClampNeg) := inb_of Scl16 (own_tin (j := 8) (by omega) (by omega))
 obtain ⟨T17, h17, X17, e17, W17, st17⟩ := stC X13 hx hZ e13 Arcl16 (j := (8 : Int32)) hincl16 (g := (mkF m 27 #[oR o0, oI (ofNat c0), oI (ofNat c1), oI (ofNat bl), .unset] [(.int 73), (.int 8), (.ref o0)])) rfl rfl (d44 hby 18)
 have V18 := Arv.set Arcl16 qcl16 Scl16 Mcl16 Hcl16 Gcl16 (fits_nar_char _) W17 8 rfl (by (try simp only [List.length_set, own_dshl]); omega)
 have Z19 := Nat.le_trans Z15 (Keep.of_wr W17).1
 have K17 := K13.wr W17 (Or.inl (List.mem_of_getElem? (i := 0) rfl))
 have N17 := Fr.snoc X17 N13 g_o0
 refine own_step st17 ?_
 refine oP T17 (mkF m 33 #[oR o0, oI (ofNat c0), oI (ofNat c1), oI (ofNat bl), .unset] [(.int 78), (.int 9), (.ref o0)]) (fun t k => ?_) ?_
 ·skip
  refine XS.aloadN X17.here hx rfl (d44 hby 19) rfl rfl ?_
  refine XS.bipush X17.here hx rfl (d44 hby 20) ?_
  refine XS.bipush X17.here hx rfl (d44 hby 21) ?_
  exact k
 obtain ⟨cl20, Arcl20, qcl20, Scl20, Mcl20, Hcl20, Gcl20⟩ := V18
 have hincl20 : ¬ ((9 : Int32) < 0 ∨ cl20.slots.size ≤ ((9 : Int32)).toNatClampNeg) := inb_of Scl20 (own_tin (j := 9) (by omega) (by omega))
 obtain ⟨T21, h21, X21, e21, W21, st21⟩ := stC X17 hx hZ e17 Arcl20 (j := (9 : Int32)) hincl20 (g := (mkF m 33 #[oR o0, oI (ofNat c0), oI (ofNat c1), oI (ofNat bl), .unset] [(.int 78), (.int 9), (.ref o0)])) rfl rfl (d44 hby 22)
 have V22 := Arv.set Arcl20 qcl20 Scl20 Mcl20 Hcl20 Gcl20 (fits_nar_char _) W21 9 rfl (by (try simp only [List.length_set, own_dshl]); omega)
 have Z23 := Nat.le_trans Z19 (Keep.of_wr W21).1
 have K21 := K17.wr W21 (Or.inl (List.mem_of_getElem? (i := 0) rfl))
 have N21 := Fr.snoc X21 N17 g_o0
 refine own_step st21 ?_
 refine oP T21 (mkF m 39 #[oR o0, oI (ofNat c0), oI (ofNat c1), oI (ofNat bl), .unset] [(.int 32), (.int 10), (.ref o0)]) (fun t k => ?_) ?_
 ·skip
  refine XS.aloadN X21.here hx rfl (d44 hby 23) rfl rfl ?_
  refine XS.bipush X21.here hx rfl (d44 hby 24) ?_
  refine XS.bipush X21.here hx rfl (d44 hby 25) ?_
  exact k
 obtain ⟨cl24, Arcl24, qcl24, Scl24, Mcl24, Hcl24, Gcl24⟩ := V22
 have hincl24 : ¬ ((10 : Int32) < 0 ∨ cl24.slots.size ≤ ((10 : Int32)).toNatClampNeg) := inb_of Scl24 (own_tin (j := 10) (by omega) (by omega))
 obtain ⟨T25, h25, X25, e25, W25, st25⟩ := stC X21 hx hZ e21 Arcl24 (j := (10 : Int32)) hincl24 (g := (mkF m 39 #[oR o0, oI (ofNat c0), oI (ofNat c1), oI (ofNat bl), .unset] [(.int 32), (.int 10), (.ref o0)])) rfl rfl (d44 hby 26)
 have V26 := Arv.set Arcl24 qcl24 Scl24 Mcl24 Hcl24 Gcl24 (fits_nar_char _) W25 10 rfl (by (try simp only [List.length_set, own_dshl]); omega)
 have Z27 := Nat.le_trans Z23 (Keep.of_wr W25).1
 have K25 := K21.wr W25 (Or.inl (List.mem_of_getElem? (i := 0) rfl))
 have N25 := Fr.snoc X25 N21 g_o0
 refine own_step st25 ?_
 refine oP T25 (mkF m 44 #[oR o0, oI (ofNat c0), oI (ofNat c1), oI (ofNat bl), .unset] [(.int (ofNat c0)), (.int 11), (.ref o0)]) (fun t k => ?_) ?_
 ·skip
  refine XS.aloadN X25.here hx rfl (d44 hby 27) rfl rfl ?_
  refine XS.bipush X25.here hx rfl (d44 hby 28) ?_
  refine XS.iloadN X25.here hx rfl (d44 hby 29) rfl ?_
  exact k
 obtain ⟨cl28, Arcl28, qcl28, Scl28, Mcl28, Hcl28, Gcl28⟩ := V26
 have hincl28 : ¬ ((11 : Int32) < 0 ∨ cl28.slots.size ≤ ((11 : Int32)).toNatClampNeg) := inb_of Scl28 (own_tin (j := 11) (by omega) (by omega))
 obtain ⟨T29, h29, X29, e29, W29, st29⟩ := stC X25 hx hZ e25 Arcl28 (j := (11 : Int32)) hincl28 (g := (mkF m 44 #[oR o0, oI (ofNat c0), oI (ofNat c1), oI (ofNat bl), .unset] [(.int (ofNat c0)), (.int 11), (.ref o0)])) rfl rfl (d44 hby 30)
 have V30 := Arv.set Arcl28 qcl28 Scl28 Mcl28 Hcl28 Gcl28 (fits_nar_char _) W29 11 rfl (by (try simp only [List.length_set, own_dshl]); omega)
 have Z31 := Nat.le_trans Z27 (Keep.of_wr W29).1
 have K29 := K25.wr W29 (Or.inl (List.mem_of_getElem? (i := 0) rfl))
 have N29 := Fr.snoc X29 N25 g_o0
 refine own_step st29 ?_
 refine oP T29 (mkF m 49 #[oR o0, oI (ofNat c0), oI (ofNat c1), oI (ofNat bl), .unset] [(.int (ofNat c1)), (.int 12), (.ref o0)]) (fun t k => ?_) ?_
 ·skip
  refine XS.aloadN X29.here hx rfl (d44 hby 31) rfl rfl ?_
  refine XS.bipush X29.here hx rfl (d44 hby 32) ?_
  refine XS.iloadN X29.here hx rfl (d44 hby 33) rfl ?_
  exact k
 obtain ⟨cl32, Arcl32, qcl32, Scl32, Mcl32, Hcl32, Gcl32⟩ := V30
 have hincl32 : ¬ ((12 : Int32) < 0 ∨ cl32.slots.size ≤ ((12 : Int32)).toNatClampNeg) := inb_of Scl32 (own_tin (j := 12) (by omega) (by omega))
 obtain ⟨T33, h33, X33, e33, W33, st33⟩ := stC X29 hx hZ e29 Arcl32 (j := (12 : Int32)) hincl32 (g := (mkF m 49 #[oR o0, oI (ofNat c0), oI (ofNat c1), oI (ofNat bl), .unset] [(.int (ofNat c1)), (.int 12), (.ref o0)])) rfl rfl (d44 hby 34)
 have V34 := Arv.set Arcl32 qcl32 Scl32 Mcl32 Hcl32 Gcl32 (fits_nar_char _) W33 12 rfl (by (try simp only [List.length_set, own_dshl]); omega)
 have Z35 := Nat.le_trans Z31 (Keep.of_wr W33).1
 have K33 := K29.wr W33 (Or.inl (List.mem_of_getElem? (i := 0) rfl))
 have N33 := Fr.snoc X33 N29 g_o0
 refine own_step st33 ?_
 refine oP T33 (mkF m 53 #[oR o0, oI (ofNat c0), oI (ofNat c1), oI (ofNat bl), .unset] [(.int 13), (.ref o0)]) (fun t k => ?_) ?_
 ·skip
  refine XS.aloadN X33.here hx rfl (d44 hby 35) rfl rfl ?_
  refine XS.bipush X33.here hx rfl (d44 hby 36) ?_
  exact k
 obtain ⟨_, _, ⟨T36, L36, k36, n36⟩, -, X36, ⟨Lc36, hQ36, l36, y36, z36⟩, st36⟩ := Jvm.LawKit.callS X33 hx (y := yM52) hown (mvT hZ (own_w hw 237)) (mvT hZ (own_w hw 238)) (mvT hZ (own_w hw 235)) (mvT hZ (own_w hw 239)) (by decide) (backOf (W := 0) (rm46 l Z a0 hw [] o0 (13) k (37 + bl) _ h33 n0 Z35 V34 g_o0 (by (try simp only [List.length_set, own_dshl]); exact hl) (by omega) (by omega)) hZ (own_w hw 239) (own_w hw 235) (by decide) (by decide)) (g := (mkF m 53 #[oR o0, oI (ofNat c0), oI (ofNat c1), oI (ofNat bl), .unset] [(.int (ofNat 13)), (.ref o0)])) rfl (by rw [hml]; rfl) (argsL := [(.ref o0), (.int (ofNat 13))]) (rest := []) (lenOf pd_37 rfl) rfl (by show 2 * 0 + _ ≤ _; exact Nat.le_of_eq rfl) (d44 hby 37) (fun _ _ => ⟨rfl, e33, (by decide : 0 + 0 ≤ _), (by decide : 0 + 0 ≤ _)⟩)
 dsimp only [Pt.U, Pt.locs, Pt.cells, Pt.slots] at X36 l36 y36 z36 st36 hQ36
 subst l36 y36 z36
 obtain ⟨rfl, N36q, Kq36, Vq36⟩ := hQ36
 have N36 := Fr.app N33 N36q
 refine own_step st36 ?_
 have Z37 := Nat.le_trans Z35 Kq36.1
 have K38 := K33.trans Kq36 (allS (Or.inl (List.mem_of_getElem? (i := 0) rfl)) all0)
 refine oP T36 (mkF m 61 #[oR o0, oI (ofNat c0), oI (ofNat c1), oI (ofNat bl), .unset] [(.int 10), (.int 18), (.ref o0)]) (fun t k => ?_) ?_
 ·skip
  refine XS.aloadN X36.here hx rfl (d44 hby 38) rfl rfl ?_
  refine XS.bipush X36.here hx rfl (d44 hby 39) ?_
  refine XS.bipush X36.here hx rfl (d44 hby 40) ?_
  exact k
 obtain ⟨cl39, Arcl39, qcl39, Scl39, Mcl39, Hcl39, Gcl39⟩ := Vq36
 have hincl39 : ¬ ((18 : Int32) < 0 ∨ cl39.slots.size ≤ ((18 : Int32)).toNatClampNeg) := inb_of Scl39 (own_tin (j := 18) (by omega) (by omega))
 obtain ⟨T40, h40, X40, e40, W40, st40⟩ := stC X36 hx hZ rfl Arcl39 (j := (18 : Int32)) hincl39 (g := (mkF m 61 #[oR o0, oI (ofNat c0), oI (ofNat c1), oI (ofNat bl), .unset] [(.int 10), (.int 18), (.ref o0)])) rfl rfl (d44 hby 41)
 have V41 := Arv.set Arcl39 qcl39 Scl39 Mcl39 Hcl39 Gcl39 (fits_nar_char _) W40 18 rfl (by (try simp only [List.length_set, own_dshl]); omega)
 have Z42 := Nat.le_trans Z37 (Keep.of_wr W40).1
 have K40 := K38.wr W40 (Or.inl (List.mem_of_getElem? (i := 0) rfl))
 have N40 := Fr.snoc X40 N36 g_o0
 refine own_step st40 ?_
 refine oP T40 (mkF m 66 #[oR o0, oI (ofNat c0), oI (ofNat c1), oI (ofNat bl), .unset] [(.int ((19 : Int32) + (ofNat bl)))]) (fun t k => ?_) ?_
 ·skip
  refine XS.bipush X40.here hx rfl (d44 hby 42) ?_
  refine XS.iloadN X40.here hx rfl (d44 hby 43) rfl ?_
  refine XS.iadd X40.here hx rfl (d44 hby 44) rfl ?_
  exact k
 rw [show (((19 : Int32) + (ofNat bl)) : Int32) = (ofNat (19 + bl)) from own_add 19 bl]
 refine oP T40 (mkF m 73 #[oR o0, oI (ofNat c0), oI (ofNat c1), oI (ofNat bl), oI (ofNat (19 + bl))] [(.int 10), (.int (ofNat (19 + bl))), (.ref o0)]) (fun t k => ?_) ?_
 ·skip
  refine XS.istore X40.here hx rfl (d44 hby 45) rfl (l' := #[oR o0, oI (ofNat c0), oI (ofNat c1), oI (ofNat bl), oI (ofNat (19 + bl))]) rfl ?_
  refine XS.aloadN X40.here hx rfl (d44 hby 46) rfl rfl ?_
  refine XS.iload X40.here hx rfl (d44 hby 47) rfl ?_
  refine XS.bipush X40.here hx rfl (d44 hby 48) ?_
  exact k
 obtain ⟨cl43, Arcl43, qcl43, Scl43, Mcl43, Hcl43, Gcl43⟩ := V41
 have hincl43 : ¬ ((ofNat (19 + bl)) < 0 ∨ cl43.slots.size ≤ ((ofNat (19 + bl))).toNatClampNeg) := inb_of Scl43 (own_tin (by omega) (by omega))
 obtain ⟨T44, h44, X44, e44, W44, st44⟩ := stC X40 hx hZ e40 Arcl43 (j := (ofNat (19 + bl))) hincl43 (g := (mkF m 73 #[oR o0, oI (ofNat c0), oI (ofNat c1), oI (ofNat bl), oI (ofNat (19 + bl))] [(.int 10), (.int (ofNat (19 + bl))), (.ref o0)])) rfl rfl (d44 hby 49)
 have V45 := Arv.set Arcl43 qcl43 Scl43 Mcl43 Hcl43 Gcl43 (fits_nar_char _) W44 (19 + bl) (own_tn (by omega)) (by (try simp only [List.length_set, own_dshl]); omega)
 have Z46 := Nat.le_trans Z42 (Keep.of_wr W44).1
 have K44 := K40.wr W44 (Or.inl (List.mem_of_getElem? (i := 0) rfl))
 have N44 := Fr.snoc X44 N40 g_o0
 refine own_step st44 ?_
 refine oP T44 (mkF m 79 #[oR o0, oI (ofNat c0), oI (ofNat c1), oI (ofNat bl), oI (ofNat (19 + bl))] [(.int ((ofNat (19 + bl)) + (1 : Int32))), (.ref o0)]) (fun t k => ?_) ?_
 ·skip
  refine XS.aloadN X44.here hx rfl (d44 hby 50) rfl rfl ?_
  refine XS.iload X44.here hx rfl (d44 hby 51) rfl ?_
  refine XS.iconst X44.here hx rfl (d44 hby 52) ?_
  refine XS.iadd X44.here hx rfl (d44 hby 53) rfl ?_
  exact k
 rw [show (((ofNat (19 + bl)) + (1 : Int32)) : Int32) = (ofNat (19 + bl + 1)) from own_add (19 + bl) 1]
 obtain ⟨_, _, ⟨T47, L47, k47, n47⟩, -, X47, ⟨Lc47, hQ47, l47, y47, z47⟩, st47⟩ := Jvm.LawKit.callS X44 hx (y := yM52) hown (mvT hZ (own_w hw 237)) (mvT hZ (own_w hw 238)) (mvT hZ (own_w hw 235)) (mvT hZ (own_w hw 239)) (by decide) (backOf (W := 0) (rm46 l Z a0 hw [] o0 (19 + bl + 1) k (37 + bl) _ h44 n0 Z46 V45 g_o0 (by (try simp only [List.length_set, own_dshl]); exact hl) (by omega) (by omega)) hZ (own_w hw 239) (own_w hw 235) (by decide) (by decide)) (g := (mkF m 79 #[oR o0, oI (ofNat c0), oI (ofNat c1), oI (ofNat bl), oI (ofNat (19 + bl))] [(.int (ofNat (19 + bl + 1))), (.ref o0)])) rfl (by rw [hml]; rfl) (argsL := [(.ref o0), (.int (ofNat (19 + bl + 1)))]) (rest := []) (lenOf pd_37 rfl) rfl (by show 2 * 0 + _ ≤ _; exact Nat.le_of_eq rfl) (d44 hby 54) (fun _ _ => ⟨rfl, e44, (by decide : 0 + 0 ≤ _), (by decide : 0 + 0 ≤ _)⟩)
 dsimp only [Pt.U, Pt.locs, Pt.cells, Pt.slots] at X47 l47 y47 z47 st47 hQ47
 subst l47 y47 z47
 obtain ⟨rfl, N47q, Kq47, Vq47⟩ := hQ47
 have N47 := Fr.app N44 N47q
 refine own_step st47 ?_
 have Z48 := Nat.le_trans Z46 Kq47.1
 have K49 := K44.trans Kq47 (allS (Or.inl (List.mem_of_getElem? (i := 0) rfl)) all0)
 refine oP T47 (mkF m 88 #[oR o0, oI (ofNat c0), oI (ofNat c1), oI (ofNat bl), oI (ofNat (19 + bl))] [(.int ((ofNat (19 + bl)) + (6 : Int32))), (.ref o0)]) (fun t k => ?_) ?_
 ·skip
  refine XS.aloadN X47.here hx rfl (d44 hby 55) rfl rfl ?_
  refine XS.iload X47.here hx rfl (d44 hby 56) rfl ?_
  refine XS.bipush X47.here hx rfl (d44 hby 57) ?_
  refine XS.iadd X47.here hx rfl (d44 hby 58) rfl ?_
  exact k
 rw [show (((ofNat (19 + bl)) + (6 : Int32)) : Int32) = (ofNat ((19 + bl) + 6)) from own_add ((19 + bl)) 6]
 refine oP T47 (mkF m 90 #[oR o0, oI (ofNat c0), oI (ofNat c1), oI (ofNat bl), oI (ofNat (19 + bl))] [(.int 69), (.int (ofNat ((19 + bl) + 6))), (.ref o0)]) (fun t k => ?_) ?_
 ·skip
  refine XS.bipush X47.here hx rfl (d44 hby 59) ?_
  exact k
 obtain ⟨cl50, Arcl50, qcl50, Scl50, Mcl50, Hcl50, Gcl50⟩ := Vq47
 have hincl50 : ¬ ((ofNat ((19 + bl) + 6)) < 0 ∨ cl50.slots.size ≤ ((ofNat ((19 + bl) + 6))).toNatClampNeg) := inb_of Scl50 (own_tin (by omega) (by omega))
 obtain ⟨T51, h51, X51, e51, W51, st51⟩ := stC X47 hx hZ rfl Arcl50 (j := (ofNat ((19 + bl) + 6))) hincl50 (g := (mkF m 90 #[oR o0, oI (ofNat c0), oI (ofNat c1), oI (ofNat bl), oI (ofNat (19 + bl))] [(.int 69), (.int (ofNat ((19 + bl) + 6))), (.ref o0)])) rfl rfl (d44 hby 60)
 have V52 := Arv.set Arcl50 qcl50 Scl50 Mcl50 Hcl50 Gcl50 (fits_nar_char _) W51 ((19 + bl) + 6) (own_tn (by omega)) (by (try simp only [List.length_set, own_dshl]); omega)
 have Z53 := Nat.le_trans Z48 (Keep.of_wr W51).1
 have K51 := K49.wr W51 (Or.inl (List.mem_of_getElem? (i := 0) rfl))
 have N51 := Fr.snoc X51 N47 g_o0
 refine own_step st51 ?_
 refine oP T51 (mkF m 97 #[oR o0, oI (ofNat c0), oI (ofNat c1), oI (ofNat bl), oI (ofNat (19 + bl))] [(.int ((ofNat (19 + bl)) + (7 : Int32))), (.ref o0)]) (fun t k => ?_) ?_
 ·skip
  refine XS.aloadN X51.here hx rfl (d44 hby 61) rfl rfl ?_
  refine XS.iload X51.here hx rfl (d44 hby 62) rfl ?_
  refine XS.bipush X51.here hx rfl (d44 hby 63) ?_
  refine XS.iadd X51.here hx rfl (d44 hby 64) rfl ?_
  exact k
 rw [show (((ofNat (19 + bl)) + (7 : Int32)) : Int32) = (ofNat ((19 + bl) + 7)) from own_add ((19 + bl)) 7]
 refine oP T51 (mkF m 99 #[oR o0, oI (ofNat c0), oI (ofNat c1), oI (ofNat bl), oI (ofNat (19 + bl))] [(.int 78), (.int (ofNat ((19 + bl) + 7))), (.ref o0)]) (fun t k => ?_) ?_
 ·skip
  refine XS.bipush X51.here hx rfl (d44 hby 65) ?_
  exact k
 obtain ⟨cl54, Arcl54, qcl54, Scl54, Mcl54, Hcl54, Gcl54⟩ := V52
 have hincl54 : ¬ ((ofNat ((19 + bl) + 7)) < 0 ∨ cl54.slots.size ≤ ((ofNat ((19 + bl) + 7))).toNatClampNeg) := inb_of Scl54 (own_tin (by omega) (by omega))
 obtain ⟨T55, h55, X55, e55, W55, st55⟩ := stC X51 hx hZ e51 Arcl54 (j := (ofNat ((19 + bl) + 7))) hincl54 (g := (mkF m 99 #[oR o0, oI (ofNat c0), oI (ofNat c1), oI (ofNat bl), oI (ofNat (19 + bl))] [(.int 78), (.int (ofNat ((19 + bl) + 7))), (.ref o0)])) rfl rfl (d44 hby 66)
 have V56 := Arv.set Arcl54 qcl54 Scl54 Mcl54 Hcl54 Gcl54 (fits_nar_char _) W55 ((19 + bl) + 7) (own_tn (by omega)) (by (try simp only [List.length_set, own_dshl]); omega)
 have Z57 := Nat.le_trans Z53 (Keep.of_wr W55).1
 have K55 := K51.wr W55 (Or.inl (List.mem_of_getElem? (i := 0) rfl))
 have N55 := Fr.snoc X55 N51 g_o0
 refine own_step st55 ?_
 refine oP T55 (mkF m 106 #[oR o0, oI (ofNat c0), oI (ofNat c1), oI (ofNat bl), oI (ofNat (19 + bl))] [(.int ((ofNat (19 + bl)) + (8 : Int32))), (.ref o0)]) (fun t k => ?_) ?_
 ·skip
  refine XS.aloadN X55.here hx rfl (d44 hby 67) rfl rfl ?_
  refine XS.iload X55.here hx rfl (d44 hby 68) rfl ?_
  refine XS.bipush X55.here hx rfl (d44 hby 69) ?_
  refine XS.iadd X55.here hx rfl (d44 hby 70) rfl ?_
  exact k
 rw [show (((ofNat (19 + bl)) + (8 : Int32)) : Int32) = (ofNat ((19 + bl) + 8)) from own_add ((19 + bl)) 8]
 refine oP T55 (mkF m 108 #[oR o0, oI (ofNat c0), oI (ofNat c1), oI (ofNat bl), oI (ofNat (19 + bl))] [(.int 68), (.int (ofNat ((19 + bl) + 8))), (.ref o0)]) (fun t k => ?_) ?_
 ·skip
  refine XS.bipush X55.here hx rfl (d44 hby 71) ?_
  exact k
 obtain ⟨cl58, Arcl58, qcl58, Scl58, Mcl58, Hcl58, Gcl58⟩ := V56
 have hincl58 : ¬ ((ofNat ((19 + bl) + 8)) < 0 ∨ cl58.slots.size ≤ ((ofNat ((19 + bl) + 8))).toNatClampNeg) := inb_of Scl58 (own_tin (by omega) (by omega))
 obtain ⟨T59, h59, X59, e59, W59, st59⟩ := stC X55 hx hZ e55 Arcl58 (j := (ofNat ((19 + bl) + 8))) hincl58 (g := (mkF m 108 #[oR o0, oI (ofNat c0), oI (ofNat c1), oI (ofNat bl), oI (ofNat (19 + bl))] [(.int 68), (.int (ofNat ((19 + bl) + 8))), (.ref o0)])) rfl rfl (d44 hby 72)
 have V60 := Arv.set Arcl58 qcl58 Scl58 Mcl58 Hcl58 Gcl58 (fits_nar_char _) W59 ((19 + bl) + 8) (own_tn (by omega)) (by (try simp only [List.length_set, own_dshl]); omega)
 have Z61 := Nat.le_trans Z57 (Keep.of_wr W59).1
 have K59 := K55.wr W59 (Or.inl (List.mem_of_getElem? (i := 0) rfl))
 have N59 := Fr.snoc X59 N55 g_o0
 refine own_step st59 ?_
 refine oP T59 (mkF m 115 #[oR o0, oI (ofNat c0), oI (ofNat c1), oI (ofNat bl), oI (ofNat (19 + bl))] [(.int ((ofNat (19 + bl)) + (9 : Int32))), (.ref o0)]) (fun t k => ?_) ?_
 ·skip
  refine XS.aloadN X59.here hx rfl (d44 hby 73) rfl rfl ?_
  refine XS.iload X59.here hx rfl (d44 hby 74) rfl ?_
  refine XS.bipush X59.here hx rfl (d44 hby 75) ?_
  refine XS.iadd X59.here hx rfl (d44 hby 76) rfl ?_
  exact k
 rw [show (((ofNat (19 + bl)) + (9 : Int32)) : Int32) = (ofNat ((19 + bl) + 9)) from own_add ((19 + bl)) 9]
 refine oP T59 (mkF m 117 #[oR o0, oI (ofNat c0), oI (ofNat c1), oI (ofNat bl), oI (ofNat (19 + bl))] [(.int 32), (.int (ofNat ((19 + bl) + 9))), (.ref o0)]) (fun t k => ?_) ?_
 ·skip
  refine XS.bipush X59.here hx rfl (d44 hby 77) ?_
  exact k
 obtain ⟨cl62, Arcl62, qcl62, Scl62, Mcl62, Hcl62, Gcl62⟩ := V60
 have hincl62 : ¬ ((ofNat ((19 + bl) + 9)) < 0 ∨ cl62.slots.size ≤ ((ofNat ((19 + bl) + 9))).toNatClampNeg) := inb_of Scl62 (own_tin (by omega) (by omega))
 obtain ⟨T63, h63, X63, e63, W63, st63⟩ := stC X59 hx hZ e59 Arcl62 (j := (ofNat ((19 + bl) + 9))) hincl62 (g := (mkF m 117 #[oR o0, oI (ofNat c0), oI (ofNat c1), oI (ofNat bl), oI (ofNat (19 + bl))] [(.int 32), (.int (ofNat ((19 + bl) + 9))), (.ref o0)])) rfl rfl (d44 hby 78)
 have V64 := Arv.set Arcl62 qcl62 Scl62 Mcl62 Hcl62 Gcl62 (fits_nar_char _) W63 ((19 + bl) + 9) (own_tn (by omega)) (by (try simp only [List.length_set, own_dshl]); omega)
 have Z65 := Nat.le_trans Z61 (Keep.of_wr W63).1
 have K63 := K59.wr W63 (Or.inl (List.mem_of_getElem? (i := 0) rfl))
 have N63 := Fr.snoc X63 N59 g_o0
 refine own_step st63 ?_
 refine oP T63 (mkF m 124 #[oR o0, oI (ofNat c0), oI (ofNat c1), oI (ofNat bl), oI (ofNat (19 + bl))] [(.int ((ofNat (19 + bl)) + (10 : Int32))), (.ref o0)]) (fun t k => ?_) ?_
 ·skip
  refine XS.aloadN X63.here hx rfl (d44 hby 79) rfl rfl ?_
  refine XS.iload X63.here hx rfl (d44 hby 80) rfl ?_
  refine XS.bipush X63.here hx rfl (d44 hby 81) ?_
  refine XS.iadd X63.here hx rfl (d44 hby 82) rfl ?_
  exact k
 rw [show (((ofNat (19 + bl)) + (10 : Int32)) : Int32) = (ofNat ((19 + bl) + 10)) from own_add ((19 + bl)) 10]
 refine oP T63 (mkF m 125 #[oR o0, oI (ofNat c0), oI (ofNat c1), oI (ofNat bl), oI (ofNat (19 + bl))] [(.int (ofNat c0)), (.int (ofNat ((19 + bl) + 10))), (.ref o0)]) (fun t k => ?_) ?_
 ·skip
  refine XS.iloadN X63.here hx rfl (d44 hby 83) rfl ?_
  exact k
 obtain ⟨cl66, Arcl66, qcl66, Scl66, Mcl66, Hcl66, Gcl66⟩ := V64
 have hincl66 : ¬ ((ofNat ((19 + bl) + 10)) < 0 ∨ cl66.slots.size ≤ ((ofNat ((19 + bl) + 10))).toNatClampNeg) := inb_of Scl66 (own_tin (by omega) (by omega))
 obtain ⟨T67, h67, X67, e67, W67, st67⟩ := stC X63 hx hZ e63 Arcl66 (j := (ofNat ((19 + bl) + 10))) hincl66 (g := (mkF m 125 #[oR o0, oI (ofNat c0), oI (ofNat c1), oI (ofNat bl), oI (ofNat (19 + bl))] [(.int (ofNat c0)), (.int (ofNat ((19 + bl) + 10))), (.ref o0)])) rfl rfl (d44 hby 84)
 have V68 := Arv.set Arcl66 qcl66 Scl66 Mcl66 Hcl66 Gcl66 (fits_nar_char _) W67 ((19 + bl) + 10) (own_tn (by omega)) (by (try simp only [List.length_set, own_dshl]); omega)
 have Z69 := Nat.le_trans Z65 (Keep.of_wr W67).1
 have K67 := K63.wr W67 (Or.inl (List.mem_of_getElem? (i := 0) rfl))
 have N67 := Fr.snoc X67 N63 g_o0
 refine own_step st67 ?_
 refine oP T67 (mkF m 132 #[oR o0, oI (ofNat c0), oI (ofNat c1), oI (ofNat bl), oI (ofNat (19 + bl))] [(.int ((ofNat (19 + bl)) + (11 : Int32))), (.ref o0)]) (fun t k => ?_) ?_
 ·skip
  refine XS.aloadN X67.here hx rfl (d44 hby 85) rfl rfl ?_
  refine XS.iload X67.here hx rfl (d44 hby 86) rfl ?_
  refine XS.bipush X67.here hx rfl (d44 hby 87) ?_
  refine XS.iadd X67.here hx rfl (d44 hby 88) rfl ?_
  exact k
 rw [show (((ofNat (19 + bl)) + (11 : Int32)) : Int32) = (ofNat ((19 + bl) + 11)) from own_add ((19 + bl)) 11]
 refine oP T67 (mkF m 133 #[oR o0, oI (ofNat c0), oI (ofNat c1), oI (ofNat bl), oI (ofNat (19 + bl))] [(.int (ofNat c1)), (.int (ofNat ((19 + bl) + 11))), (.ref o0)]) (fun t k => ?_) ?_
 ·skip
  refine XS.iloadN X67.here hx rfl (d44 hby 89) rfl ?_
  exact k
 obtain ⟨cl70, Arcl70, qcl70, Scl70, Mcl70, Hcl70, Gcl70⟩ := V68
 have hincl70 : ¬ ((ofNat ((19 + bl) + 11)) < 0 ∨ cl70.slots.size ≤ ((ofNat ((19 + bl) + 11))).toNatClampNeg) := inb_of Scl70 (own_tin (by omega) (by omega))
 obtain ⟨T71, h71, X71, e71, W71, st71⟩ := stC X67 hx hZ e67 Arcl70 (j := (ofNat ((19 + bl) + 11))) hincl70 (g := (mkF m 133 #[oR o0, oI (ofNat c0), oI (ofNat c1), oI (ofNat bl), oI (ofNat (19 + bl))] [(.int (ofNat c1)), (.int (ofNat ((19 + bl) + 11))), (.ref o0)])) rfl rfl (d44 hby 90)
 have V72 := Arv.set Arcl70 qcl70 Scl70 Mcl70 Hcl70 Gcl70 (fits_nar_char _) W71 ((19 + bl) + 11) (own_tn (by omega)) (by (try simp only [List.length_set, own_dshl]); omega)
 have Z73 := Nat.le_trans Z69 (Keep.of_wr W71).1
 have K71 := K67.wr W71 (Or.inl (List.mem_of_getElem? (i := 0) rfl))
 have N71 := Fr.snoc X71 N67 g_o0
 refine own_step st71 ?_
 refine oP T71 (mkF m 140 #[oR o0, oI (ofNat c0), oI (ofNat c1), oI (ofNat bl), oI (ofNat (19 + bl))] [(.int ((ofNat (19 + bl)) + (12 : Int32))), (.ref o0)]) (fun t k => ?_) ?_
 ·skip
  refine XS.aloadN X71.here hx rfl (d44 hby 91) rfl rfl ?_
  refine XS.iload X71.here hx rfl (d44 hby 92) rfl ?_
  refine XS.bipush X71.here hx rfl (d44 hby 93) ?_
  refine XS.iadd X71.here hx rfl (d44 hby 94) rfl ?_
  exact k
 rw [show (((ofNat (19 + bl)) + (12 : Int32)) : Int32) = (ofNat (19 + bl + 12)) from own_add (19 + bl) 12]
 obtain ⟨_, _, ⟨T74, L74, k74, n74⟩, -, X74, ⟨Lc74, hQ74, l74, y74, z74⟩, st74⟩ := Jvm.LawKit.callS X71 hx (y := yM52) hown (mvT hZ (own_w hw 237)) (mvT hZ (own_w hw 238)) (mvT hZ (own_w hw 235)) (mvT hZ (own_w hw 239)) (by decide) (backOf (W := 0) (rm46 l Z a0 hw [] o0 (19 + bl + 12) k (37 + bl) _ h71 n0 Z73 V72 g_o0 (by (try simp only [List.length_set, own_dshl]); exact hl) (by omega) (by omega)) hZ (own_w hw 239) (own_w hw 235) (by decide) (by decide)) (g := (mkF m 140 #[oR o0, oI (ofNat c0), oI (ofNat c1), oI (ofNat bl), oI (ofNat (19 + bl))] [(.int (ofNat (19 + bl + 12))), (.ref o0)])) rfl (by rw [hml]; rfl) (argsL := [(.ref o0), (.int (ofNat (19 + bl + 12)))]) (rest := []) (lenOf pd_37 rfl) rfl (by show 2 * 0 + _ ≤ _; exact Nat.le_of_eq rfl) (d44 hby 95) (fun _ _ => ⟨rfl, e71, (by decide : 0 + 0 ≤ _), (by decide : 0 + 0 ≤ _)⟩)
 dsimp only [Pt.U, Pt.locs, Pt.cells, Pt.slots] at X74 l74 y74 z74 st74 hQ74
 subst l74 y74 z74
 obtain ⟨rfl, N74q, Kq74, Vq74⟩ := hQ74
 have N74 := Fr.app N71 N74q
 refine own_step st74 ?_
 have K76 := K71.trans Kq74 (allS (Or.inl (List.mem_of_getElem? (i := 0) rfl)) all0)
 refine oP T74 (mkF m 149 #[oR o0, oI (ofNat c0), oI (ofNat c1), oI (ofNat bl), oI (ofNat (19 + bl))] [(.int ((ofNat (19 + bl)) + (17 : Int32))), (.ref o0)]) (fun t k => ?_) ?_
 ·skip
  refine XS.aloadN X74.here hx rfl (d44 hby 96) rfl rfl ?_
  refine XS.iload X74.here hx rfl (d44 hby 97) rfl ?_
  refine XS.bipush X74.here hx rfl (d44 hby 98) ?_
  refine XS.iadd X74.here hx rfl (d44 hby 99) rfl ?_
  exact k
 rw [show (((ofNat (19 + bl)) + (17 : Int32)) : Int32) = (ofNat ((19 + bl) + 17)) from own_add ((19 + bl)) 17]
 refine oP T74 (mkF m 151 #[oR o0, oI (ofNat c0), oI (ofNat c1), oI (ofNat bl), oI (ofNat (19 + bl))] [(.int 10), (.int (ofNat ((19 + bl) + 17))), (.ref o0)]) (fun t k => ?_) ?_
 ·skip
  refine XS.bipush X74.here hx rfl (d44 hby 100) ?_
  exact k
 obtain ⟨cl77, Arcl77, qcl77, Scl77, Mcl77, Hcl77, Gcl77⟩ := Vq74
 have hincl77 : ¬ ((ofNat ((19 + bl) + 17)) < 0 ∨ cl77.slots.size ≤ ((ofNat ((19 + bl) + 17))).toNatClampNeg) := inb_of Scl77 (own_tin (by omega) (by omega))
 obtain ⟨T78, h78, X78, e78, W78, st78⟩ := stC X74 hx hZ rfl Arcl77 (j := (ofNat ((19 + bl) + 17))) hincl77 (g := (mkF m 151 #[oR o0, oI (ofNat c0), oI (ofNat c1), oI (ofNat bl), oI (ofNat (19 + bl))] [(.int 10), (.int (ofNat ((19 + bl) + 17))), (.ref o0)])) rfl rfl (d44 hby 101)
 have V79 := Arv.set Arcl77 qcl77 Scl77 Mcl77 Hcl77 Gcl77 (fits_nar_char _) W78 ((19 + bl) + 17) (own_tn (by omega)) (by (try simp only [List.length_set, own_dshl]); omega)
 have K78 := K76.wr W78 (Or.inl (List.mem_of_getElem? (i := 0) rfl))
 have N78 := Fr.snoc X78 N74 g_o0
 refine own_step st78 ?_
 refine own_retV X78 hx Bd.returns (d44 hby 102) (BodyLoose.notSynchronized Bd) (by decide) (by decide) ?_
 rw [show T78.heap = h78 from e78]
 exact ⟨rfl, N78, K78, by have q := V79; rw [own_nl66, own_nl69, own_nl71, own_nl73, own_nl78, own_nl32, own_nl10, own_nl68, own_nch hc0, own_nch hc1] at q; exact q⟩
def D49 : List (Nat × Instr × Nat) := [(0, .iload 5, 2), (2, .iconst 2, 1), (3, .if_icmp .ge 7, 3), (6, .iconst 0, 1), (7, .goto 4, 3), (10, .iload_n 3, 1), (11, .istore 6, 2), (13, .iload 5, 2), (15, .iconst 3, 1), (16, .if_icmp .ge 7, 3), (19, .iconst 0, 1), (20, .goto 5, 3), (23, .iload 4, 2), (25, .istore 7, 2), (27, .aload_n 0, 1), (28, .iload_n 1, 1), (29, .iload_n 2, 1), (30, .iconst 2, 1), (31, .ishr, 1), (32, .invokestatic 46, 3), (35, .castore, 1), (36, .aload_n 0, 1), (37, .iload_n 1, 1), (38, .iconst 1, 1), (39, .iadd, 1), (40, .iload_n 2, 1), (41, .iconst 3, 1), (42, .iand, 1), (43, .iconst 4, 1), (44, .ishl, 1), (45, .iload 6, 2), (47, .iconst 4, 1), (48, .ishr, 1), (49, .ior, 1), (50, .invokestatic 46, 3), (53, .castore, 1), (54, .aload_n 0, 1), (55, .iload_n 1, 1), (56, .iconst 2, 1), (57, .iadd, 1), (58, .iload 5, 2), (60, .iconst 2, 1), (61, .if_icmp .lt 22, 3), (64, .iload 6, 2), (66, .bipush 15, 2), (68, .iand, 1), (69, .iconst 2, 1), (70, .ishl, 1), (71, .iload 7, 2), (73, .bipush 6, 2), (75, .ishr, 1), (76, .ior, 1), (77, .invokestatic 46, 3), (80, .goto 5, 3), (83, .bipush 61, 2), (85, .castore, 1), (86, .aload_n 0, 1), (87, .iload_n 1, 1), (88, .iconst 3, 1), (89, .iadd, 1), (90, .iload 5, 2), (92, .iconst 3, 1), (93, .if_icmp .lt 14, 3), (96, .iload 7, 2), (98, .bipush 63, 2), (100, .iand, 1), (101, .invokestatic 46, 3), (104, .goto 5, 3), (107, .bipush 61, 2), (109, .castore, 1), (110, .return_, 1)]
theorem A49 : ∀ q ∈ D49, decode method_4_code q.1 = .ok q.2 := by decide +kernel
theorem d49 {c : Code} (h0 : c.code = method_4_code) (i : Nat) {pc n : Nat} {q : Instr} (h : D49[i]? = some (pc, q, n) := by rfl) : decode c.code pc = .ok (q, n) := hb h0 (A49 (pc, q, n) (List.mem_of_getElem? h))
theorem pn_rm50 : plainName "com/example/bevaka/bevaka/store/PemEncodePinLaw" = true := by first | (simp [plainName, overriddenIn]; done) | decide +kernel
theorem ef_rm50 (m : MethodId) (o0 : Addr) (at_ : Nat) (ua : Nat) (ub : Nat) (uc : Nat) (kk : Nat) : entryFrame m #[(.ref o0), (.int (ofNat at_)), (.int (ofNat ua)), (.int (ofNat ub)), (.int (ofNat uc)), (.int (ofNat kk))] 8 = mkF m 0 #[.val (.ref o0), .val (.int (ofNat at_)), .val (.int (ofNat ua)), .val (.int (ofNat ub)), .val (.int (ofNat uc)), .val (.int (ofNat kk)), .unset, .unset] [] := by first | (simp [entryFrame, mkF, argsToLocals, Value.category, maxLocals]; done) | rfl
def rm50_Q (Z : State) (o0 : Addr) (at_ : Nat) (ua : Nat) (ub : Nat) (uc : Nat) (kk : Nat) (k : ClassId) (n : Nat) (vs : List Value) (h0 : Heap) (n0 : Nat) (v : Option Value) (h : Heap) (L : List Loc) : Prop := v = none ∧ Fr n0 L ∧ Keep h0 h [o0] ∧ Arv Z h o0 k .char (ofNat n) (own_putq vs at_ (own_q kk ua ub uc)) (.int 0)
set_option maxRecDepth 65536 in
set_option maxHeartbeats 40000000 in
theorem rm50 (l : Launch) (Z : State) (a0 : Array Value) (hw : ∀ d ∈ tables_1, d.before a0 Z = true) (ws : List Jvm.Cond) (o0 : Addr) (at_ : Nat) (ua : Nat) (ub : Nat) (uc : Nat) (kk : Nat) (k : ClassId) (n : Nat) (vs : List Value) (h0 : Heap) (n0 : Nat) (Z0 : n0 ≤ h0.size) (V_o0 : Arv Z h0 o0 k .char (ofNat n) vs (.int 0)) (g_o0 : n0 ≤ o0) (hl : vs.length = n) (hk : kk = 1 ∨ kk = 2 ∨ kk = 3) (hua : ua < 256) (hub : ub < 256) (huc : uc < 256) (ha : at_ + 4 ≤ n) (hn : n ≤ 64) :
  MetFree l yM54 (head1 (Jvm.Cond.code yM54 method_4_code 8 none :: ws) rM1_0_0_14) (fun a U => a = #[(.ref o0), (.int (ofNat at_)), (.int (ofNat ua)), (.int (ofNat ub)), (.int (ofNat uc)), (.int (ofNat kk))] ∧ Z.Warmed39 U.vm ∧ U.heap = h0) (fun _ _ _ _ _ => True) (fun _ U o U' => ∃ v L, o = .returned v ∧ rm50_Q Z o0 at_ ua ub uc kk k n vs h0 n0 v U'.heap L ∧ FrameEnd U o U' L rM1_0_0_14.cells rM1_0_0_14.slots) := by
 refine MetFree.of_bodySF (plainFor_of_name pn_rm50) hisR ?_
 intro p e s m args below meth c s₁ Bd hml0 hP hK
 obtain ⟨rfl, hZ, hh⟩ := hP
 have hx := Bd.exec
 have hby := Bd.bytes
 have hml : c.maxLocals = 8 := hml0
 have hown : s.vm.findClass "com/example/bevaka/bevaka/store/PemEncodePinLaw" = some m.cls := findClass_of_methodNamed Bd.named
 have hnm := (name_of_methodNamed Bd.named Bd.method).1
 have X0 : Stand p l e rM1_0_0_14 s m #[(.ref o0), (.int (ofNat at_)), (.int (ofNat ua)), (.int (ofNat ub)), (.int (ofNat uc)), (.int (ofNat kk))] below meth c s₁ [] 0 0 := Stand.of_body Bd
 have e0 : s₁.heap = h0 := by rw [← hh, Bd.state]; rfl
 have N0 := Fr.nil n0
 have K0 := Keep.refl h0 [o0]
 refine own_enter (QQ := rm50_Q Z o0 at_ ua ub uc kk k n vs h0 n0) (ef_rm50 m o0 at_ ua ub uc kk) ?_
 show own_Run p e below s _ _ _ s₁ (mkF m 0 #[.val (.ref o0), .val (.int (ofNat at_)), .val (.int (ofNat ua)), .val (.int (ofNat ub)), .val (.int (ofNat uc)), .val (.int (ofNat kk)), .unset, .unset] [])
 rcases hk with rfl | rfl | rfl
 ·skip
  show own_Run p e below s _ _ _ s₁ (mkF m 0 #[oR o0, oI (ofNat at_), oI (ofNat ua), oI (ofNat ub), oI (ofNat uc), oI 1, .unset, .unset] [])
  refine oP s₁ (mkF m 27 #[oR o0, oI (ofNat at_), oI (ofNat ua), oI (ofNat ub), oI (ofNat uc), oI 1, oI 0, oI 0] []) (fun t k => ?_) ?_
  ·skip
   refine XS.iload X0.here hx rfl (d49 hby 0) rfl ?_
   refine XS.iconst X0.here hx rfl (d49 hby 1) ?_
   refine XS.icmpNo X0.here hx rfl (d49 hby 2) rfl (tlt (by decide)).2.1 ?_
   refine XS.iconst X0.here hx rfl (d49 hby 3) ?_
   refine XS.goto X0.here hx rfl (pc0 := 7) (pc' := 11) rfl (d49 hby 4) (by decide) (by decide) ?_
   refine XS.istore X0.here hx rfl (d49 hby 6) rfl (l' := #[oR o0, oI (ofNat at_), oI (ofNat ua), oI (ofNat ub), oI (ofNat uc), oI 1, oI 0, .unset]) rfl ?_
   refine XS.iload X0.here hx rfl (d49 hby 7) rfl ?_
   refine XS.iconst X0.here hx rfl (d49 hby 8) ?_
   refine XS.icmpNo X0.here hx rfl (d49 hby 9) rfl (tlt (by decide)).2.1 ?_
   refine XS.iconst X0.here hx rfl (d49 hby 10) ?_
   refine XS.goto X0.here hx rfl (pc0 := 20) (pc' := 25) rfl (d49 hby 11) (by decide) (by decide) ?_
   refine XS.istore X0.here hx rfl (d49 hby 13) rfl (l' := #[oR o0, oI (ofNat at_), oI (ofNat ua), oI (ofNat ub), oI (ofNat uc), oI 1, oI 0, oI 0]) rfl ?_
   exact k
  show own_Run p e below s _ _ _ s₁ (mkF m 27 #[oR o0, oI (ofNat at_), oI (ofNat ua), oI (ofNat ub), oI (ofNat uc), oI 1, oI (ofNat 0), oI (ofNat 0)] [])
  refine oP s₁ (mkF m 32 #[oR o0, oI (ofNat at_), oI (ofNat ua), oI (ofNat ub), oI (ofNat uc), oI 1, oI (ofNat 0), oI (ofNat 0)] [(.int ((ofNat ua) >>> ((2 : Int32) &&& 31))), (.int (ofNat at_)), (.ref o0)]) (fun t k => ?_) ?_
  ·skip
   refine XS.aloadN X0.here hx rfl (d49 hby 14) rfl rfl ?_
   refine XS.iloadN X0.here hx rfl (d49 hby 15) rfl ?_
   refine XS.iloadN X0.here hx rfl (d49 hby 16) rfl ?_
   refine XS.iconst X0.here hx rfl (d49 hby 17) ?_
   refine XS.ishr X0.here hx rfl (d49 hby 18) rfl ?_
   exact k
  rw [show (((ofNat ua) >>> ((2 : Int32) &&& 31)) : Int32) = (ofNat (own_i0 ua)) from own_y0 hua]
  obtain ⟨_, _, ⟨T3, L3, k3, n3⟩, -, X3, ⟨Lc3, hQ3, l3, y3, z3⟩, st3⟩ := Jvm.LawKit.callS X0 hx (y := yM51) hown (mvT hZ (own_w hw 268)) (mvT hZ (own_w hw 269)) (mvT hZ (own_w hw 235)) (mvT hZ (own_w hw 270)) (by decide) (backOf (W := 2) (rm51 l Z a0 hw [] (own_i0 ua)  h0 n0 Z0 (own_i0l hua)) hZ (own_w hw 270) (own_w hw 235) (by decide) (by decide)) (g := (mkF m 32 #[oR o0, oI (ofNat at_), oI (ofNat ua), oI (ofNat ub), oI (ofNat uc), oI 1, oI (ofNat 0), oI (ofNat 0)] [(.int (ofNat (own_i0 ua))), (.int (ofNat at_)), (.ref o0)])) rfl (by rw [hml]; rfl) (argsL := [(.int (ofNat (own_i0 ua)))]) (rest := [(.int (ofNat at_)), (.ref o0)]) (lenOf pd_38 rfl) rfl (by show 2 * 0 + _ ≤ _; exact Nat.le_of_eq rfl) (d49 hby 19) (fun _ _ => ⟨rfl, e0, (by decide : 0 + 0 ≤ _), (by decide : 0 + 0 ≤ _)⟩)
  dsimp only [Pt.U, Pt.locs, Pt.cells, Pt.slots] at X3 l3 y3 z3 st3 hQ3
  subst l3 y3 z3
  obtain ⟨rfl, N3q, eq3⟩ := hQ3
  have N3 := Fr.app N0 N3q
  refine own_step st3 ?_
  obtain ⟨cl4, Arcl4, qcl4, Scl4, Mcl4, Hcl4, Gcl4⟩ := V_o0
  have hincl4 : ¬ ((ofNat at_) < 0 ∨ cl4.slots.size ≤ ((ofNat at_)).toNatClampNeg) := inb_of Scl4 (own_tin (by omega) (by omega))
  obtain ⟨T5, h5, X5, e5, W5, st5⟩ := stC X3 hx hZ eq3 Arcl4 (j := (ofNat at_)) hincl4 (g := (mkF m 35 #[oR o0, oI (ofNat at_), oI (ofNat ua), oI (ofNat ub), oI (ofNat uc), oI 1, oI (ofNat 0), oI (ofNat 0)] [(.int (own_sn (own_i0 ua))), (.int (ofNat at_)), (.ref o0)])) rfl rfl (d49 hby 20)
  have V6 := Arv.set Arcl4 qcl4 Scl4 Mcl4 Hcl4 Gcl4 (fits_nar_char _) W5 at_ (own_tn (by omega)) (by (try simp only [List.length_set, own_dshl]); omega)
  have Z7 := Nat.le_trans Z0 (Keep.of_wr W5).1
  have K5 := K0.wr W5 (Or.inl (List.mem_of_getElem? (i := 0) rfl))
  have N5 := Fr.snoc X5 N3 g_o0
  refine own_step st5 ?_
  refine oP T5 (mkF m 40 #[oR o0, oI (ofNat at_), oI (ofNat ua), oI (ofNat ub), oI (ofNat uc), oI 1, oI (ofNat 0), oI (ofNat 0)] [(.int ((ofNat at_) + (1 : Int32))), (.ref o0)]) (fun t k => ?_) ?_
  ·skip
   refine XS.aloadN X5.here hx rfl (d49 hby 21) rfl rfl ?_
   refine XS.iloadN X5.here hx rfl (d49 hby 22) rfl ?_
   refine XS.iconst X5.here hx rfl (d49 hby 23) ?_
   refine XS.iadd X5.here hx rfl (d49 hby 24) rfl ?_
   exact k
  rw [show (((ofNat at_) + (1 : Int32)) : Int32) = (ofNat (at_ + 1)) from own_add (at_) 1]
  refine oP T5 (mkF m 50 #[oR o0, oI (ofNat at_), oI (ofNat ua), oI (ofNat ub), oI (ofNat uc), oI 1, oI (ofNat 0), oI (ofNat 0)] [(.int ((((ofNat ua) &&& (3 : Int32)) <<< ((4 : Int32) &&& 31)) ||| ((ofNat 0) >>> ((4 : Int32) &&& 31)))), (.int (ofNat (at_ + 1))), (.ref o0)]) (fun t k => ?_) ?_
  ·skip
   refine XS.iloadN X5.here hx rfl (d49 hby 25) rfl ?_
   refine XS.iconst X5.here hx rfl (d49 hby 26) ?_
   refine XS.iand X5.here hx rfl (d49 hby 27) rfl ?_
   refine XS.iconst X5.here hx rfl (d49 hby 28) ?_
   refine XS.ishl X5.here hx rfl (d49 hby 29) rfl ?_
   refine XS.iload X5.here hx rfl (d49 hby 30) rfl ?_
   refine XS.iconst X5.here hx rfl (d49 hby 31) ?_
   refine XS.ishr X5.here hx rfl (d49 hby 32) rfl ?_
   refine XS.ior X5.here hx rfl (d49 hby 33) rfl ?_
   exact k
  rw [show (((((ofNat ua) &&& (3 : Int32)) <<< ((4 : Int32) &&& 31)) ||| ((ofNat 0) >>> ((4 : Int32) &&& 31))) : Int32) = (ofNat (own_i1 ua 0)) from own_z1 (by decide)]
  obtain ⟨_, _, ⟨T8, L8, k8, n8⟩, -, X8, ⟨Lc8, hQ8, l8, y8, z8⟩, st8⟩ := Jvm.LawKit.callS X5 hx (y := yM51) hown (mvT hZ (own_w hw 268)) (mvT hZ (own_w hw 269)) (mvT hZ (own_w hw 235)) (mvT hZ (own_w hw 270)) (by decide) (backOf (W := 2) (rm51 l Z a0 hw [] (own_i1 ua 0)  h5 n0 Z7 (own_i1l (by decide))) hZ (own_w hw 270) (own_w hw 235) (by decide) (by decide)) (g := (mkF m 50 #[oR o0, oI (ofNat at_), oI (ofNat ua), oI (ofNat ub), oI (ofNat uc), oI 1, oI (ofNat 0), oI (ofNat 0)] [(.int (ofNat (own_i1 ua 0))), (.int (ofNat (at_ + 1))), (.ref o0)])) rfl (by rw [hml]; rfl) (argsL := [(.int (ofNat (own_i1 ua 0)))]) (rest := [(.int (ofNat (at_ + 1))), (.ref o0)]) (lenOf pd_38 rfl) rfl (by show 2 * 0 + _ ≤ _; exact Nat.le_of_eq rfl) (d49 hby 34) (fun _ _ => ⟨rfl, e5, (by decide : 0 + 0 ≤ _), (by decide : 0 + 0 ≤ _)⟩)
  dsimp only [Pt.U, Pt.locs, Pt.cells, Pt.slots] at X8 l8 y8 z8 st8 hQ8
  subst l8 y8 z8
  obtain ⟨rfl, N8q, eq8⟩ := hQ8
  have N8 := Fr.app N5 N8q
  refine own_step st8 ?_
  obtain ⟨cl9, Arcl9, qcl9, Scl9, Mcl9, Hcl9, Gcl9⟩ := V6
  have hincl9 : ¬ ((ofNat (at_ + 1)) < 0 ∨ cl9.slots.size ≤ ((ofNat (at_ + 1))).toNatClampNeg) := inb_of Scl9 (own_tin (by omega) (by omega))
  obtain ⟨T10, h10, X10, e10, W10, st10⟩ := stC X8 hx hZ eq8 Arcl9 (j := (ofNat (at_ + 1))) hincl9 (g := (mkF m 53 #[oR o0, oI (ofNat at_), oI (ofNat ua), oI (ofNat ub), oI (ofNat uc), oI 1, oI (ofNat 0), oI (ofNat 0)] [(.int (own_sn (own_i1 ua 0))), (.int (ofNat (at_ + 1))), (.ref o0)])) rfl rfl (d49 hby 35)
  have V11 := Arv.set Arcl9 qcl9 Scl9 Mcl9 Hcl9 Gcl9 (fits_nar_char _) W10 (at_ + 1) (own_tn (by omega)) (by (try simp only [List.length_set, own_dshl]); omega)
  have K10 := K5.wr W10 (Or.inl (List.mem_of_getElem? (i := 0) rfl))
  have N10 := Fr.snoc X10 N8 g_o0
  refine own_step st10 ?_
  refine oP T10 (mkF m 58 #[oR o0, oI (ofNat at_), oI (ofNat ua), oI (ofNat ub), oI (ofNat uc), oI 1, oI (ofNat 0), oI (ofNat 0)] [(.int ((ofNat at_) + (2 : Int32))), (.ref o0)]) (fun t k => ?_) ?_
  ·skip
   refine XS.aloadN X10.here hx rfl (d49 hby 36) rfl rfl ?_
   refine XS.iloadN X10.here hx rfl (d49 hby 37) rfl ?_
   refine XS.iconst X10.here hx rfl (d49 hby 38) ?_
   refine XS.iadd X10.here hx rfl (d49 hby 39) rfl ?_
   exact k
  rw [show (((ofNat at_) + (2 : Int32)) : Int32) = (ofNat (at_ + 2)) from own_add (at_) 2]
  refine oP T10 (mkF m 85 #[oR o0, oI (ofNat at_), oI (ofNat ua), oI (ofNat ub), oI (ofNat uc), oI 1, oI (ofNat 0), oI (ofNat 0)] [(.int 61), (.int (ofNat (at_ + 2))), (.ref o0)]) (fun t k => ?_) ?_
  ·skip
   refine XS.iload X10.here hx rfl (d49 hby 40) rfl ?_
   refine XS.iconst X10.here hx rfl (d49 hby 41) ?_
   refine XS.icmpYes X10.here hx rfl (pc0 := 61) (pc' := 83) rfl (d49 hby 42) rfl (tlt (by decide)).1 (by decide) (by decide) ?_
   refine XS.bipush X10.here hx rfl (d49 hby 54) ?_
   exact k
  obtain ⟨cl14, Arcl14, qcl14, Scl14, Mcl14, Hcl14, Gcl14⟩ := V11
  have hincl14 : ¬ ((ofNat (at_ + 2)) < 0 ∨ cl14.slots.size ≤ ((ofNat (at_ + 2))).toNatClampNeg) := inb_of Scl14 (own_tin (by omega) (by omega))
  obtain ⟨T15, h15, X15, e15, W15, st15⟩ := stC X10 hx hZ e10 Arcl14 (j := (ofNat (at_ + 2))) hincl14 (g := (mkF m 85 #[oR o0, oI (ofNat at_), oI (ofNat ua), oI (ofNat ub), oI (ofNat uc), oI 1, oI (ofNat 0), oI (ofNat 0)] [(.int 61), (.int (ofNat (at_ + 2))), (.ref o0)])) rfl rfl (d49 hby 55)
  have V16 := Arv.set Arcl14 qcl14 Scl14 Mcl14 Hcl14 Gcl14 (fits_nar_char _) W15 (at_ + 2) (own_tn (by omega)) (by (try simp only [List.length_set, own_dshl]); omega)
  have K15 := K10.wr W15 (Or.inl (List.mem_of_getElem? (i := 0) rfl))
  have N15 := Fr.snoc X15 N10 g_o0
  refine own_step st15 ?_
  refine oP T15 (mkF m 90 #[oR o0, oI (ofNat at_), oI (ofNat ua), oI (ofNat ub), oI (ofNat uc), oI 1, oI (ofNat 0), oI (ofNat 0)] [(.int ((ofNat at_) + (3 : Int32))), (.ref o0)]) (fun t k => ?_) ?_
  ·skip
   refine XS.aloadN X15.here hx rfl (d49 hby 56) rfl rfl ?_
   refine XS.iloadN X15.here hx rfl (d49 hby 57) rfl ?_
   refine XS.iconst X15.here hx rfl (d49 hby 58) ?_
   refine XS.iadd X15.here hx rfl (d49 hby 59) rfl ?_
   exact k
  rw [show (((ofNat at_) + (3 : Int32)) : Int32) = (ofNat (at_ + 3)) from own_add (at_) 3]
  refine oP T15 (mkF m 109 #[oR o0, oI (ofNat at_), oI (ofNat ua), oI (ofNat ub), oI (ofNat uc), oI 1, oI (ofNat 0), oI (ofNat 0)] [(.int 61), (.int (ofNat (at_ + 3))), (.ref o0)]) (fun t k => ?_) ?_
  ·skip
   refine XS.iload X15.here hx rfl (d49 hby 60) rfl ?_
   refine XS.iconst X15.here hx rfl (d49 hby 61) ?_
   refine XS.icmpYes X15.here hx rfl (pc0 := 93) (pc' := 107) rfl (d49 hby 62) rfl (tlt (by decide)).1 (by decide) (by decide) ?_
   refine XS.bipush X15.here hx rfl (d49 hby 68) ?_
   exact k
  obtain ⟨cl19, Arcl19, qcl19, Scl19, Mcl19, Hcl19, Gcl19⟩ := V16
  have hincl19 : ¬ ((ofNat (at_ + 3)) < 0 ∨ cl19.slots.size ≤ ((ofNat (at_ + 3))).toNatClampNeg) := inb_of Scl19 (own_tin (by omega) (by omega))
  obtain ⟨T20, h20, X20, e20, W20, st20⟩ := stC X15 hx hZ e15 Arcl19 (j := (ofNat (at_ + 3))) hincl19 (g := (mkF m 109 #[oR o0, oI (ofNat at_), oI (ofNat ua), oI (ofNat ub), oI (ofNat uc), oI 1, oI (ofNat 0), oI (ofNat 0)] [(.int 61), (.int (ofNat (at_ + 3))), (.ref o0)])) rfl rfl (d49 hby 69)
  have V21 := Arv.set Arcl19 qcl19 Scl19 Mcl19 Hcl19 Gcl19 (fits_nar_char _) W20 (at_ + 3) (own_tn (by omega)) (by (try simp only [List.length_set, own_dshl]); omega)
  have K20 := K15.wr W20 (Or.inl (List.mem_of_getElem? (i := 0) rfl))
  have N20 := Fr.snoc X20 N15 g_o0
  refine own_step st20 ?_
  refine own_retV X20 hx Bd.returns (d49 hby 70) (BodyLoose.notSynchronized Bd) (by decide) (by decide) ?_
  rw [show T20.heap = h20 from e20]
  exact ⟨rfl, N20, K20, by have q := V21; rw [(own_snb (own_i0 ua) (own_i0l hua)).2.2, (own_snb (own_i1 ua 0) (own_i1l (by decide))).2.2, own_nl61] at q; exact q⟩
 ·skip
  show own_Run p e below s _ _ _ s₁ (mkF m 0 #[oR o0, oI (ofNat at_), oI (ofNat ua), oI (ofNat ub), oI (ofNat uc), oI 2, .unset, .unset] [])
  refine oP s₁ (mkF m 27 #[oR o0, oI (ofNat at_), oI (ofNat ua), oI (ofNat ub), oI (ofNat uc), oI 2, oI (ofNat ub), oI 0] []) (fun t k => ?_) ?_
  ·skip
   refine XS.iload X0.here hx rfl (d49 hby 0) rfl ?_
   refine XS.iconst X0.here hx rfl (d49 hby 1) ?_
   refine XS.icmpYes X0.here hx rfl (pc0 := 3) (pc' := 10) rfl (d49 hby 2) rfl (flt (by decide)).2.1 (by decide) (by decide) ?_
   refine XS.iloadN X0.here hx rfl (d49 hby 5) rfl ?_
   refine XS.istore X0.here hx rfl (d49 hby 6) rfl (l' := #[oR o0, oI (ofNat at_), oI (ofNat ua), oI (ofNat ub), oI (ofNat uc), oI 2, oI (ofNat ub), .unset]) rfl ?_
   refine XS.iload X0.here hx rfl (d49 hby 7) rfl ?_
   refine XS.iconst X0.here hx rfl (d49 hby 8) ?_
   refine XS.icmpNo X0.here hx rfl (d49 hby 9) rfl (tlt (by decide)).2.1 ?_
   refine XS.iconst X0.here hx rfl (d49 hby 10) ?_
   refine XS.goto X0.here hx rfl (pc0 := 20) (pc' := 25) rfl (d49 hby 11) (by decide) (by decide) ?_
   refine XS.istore X0.here hx rfl (d49 hby 13) rfl (l' := #[oR o0, oI (ofNat at_), oI (ofNat ua), oI (ofNat ub), oI (ofNat uc), oI 2, oI (ofNat ub), oI 0]) rfl ?_
   exact k
  show own_Run p e below s _ _ _ s₁ (mkF m 27 #[oR o0, oI (ofNat at_), oI (ofNat ua), oI (ofNat ub), oI (ofNat uc), oI 2, oI (ofNat ub), oI (ofNat 0)] [])
  refine oP s₁ (mkF m 32 #[oR o0, oI (ofNat at_), oI (ofNat ua), oI (ofNat ub), oI (ofNat uc), oI 2, oI (ofNat ub), oI (ofNat 0)] [(.int ((ofNat ua) >>> ((2 : Int32) &&& 31))), (.int (ofNat at_)), (.ref o0)]) (fun t k => ?_) ?_
  ·skip
   refine XS.aloadN X0.here hx rfl (d49 hby 14) rfl rfl ?_
   refine XS.iloadN X0.here hx rfl (d49 hby 15) rfl ?_
   refine XS.iloadN X0.here hx rfl (d49 hby 16) rfl ?_
   refine XS.iconst X0.here hx rfl (d49 hby 17) ?_
   refine XS.ishr X0.here hx rfl (d49 hby 18) rfl ?_
   exact k
  rw [show (((ofNat ua) >>> ((2 : Int32) &&& 31)) : Int32) = (ofNat (own_i0 ua)) from own_y0 hua]
  obtain ⟨_, _, ⟨T25, L25, k25, n25⟩, -, X25, ⟨Lc25, hQ25, l25, y25, z25⟩, st25⟩ := Jvm.LawKit.callS X0 hx (y := yM51) hown (mvT hZ (own_w hw 268)) (mvT hZ (own_w hw 269)) (mvT hZ (own_w hw 235)) (mvT hZ (own_w hw 270)) (by decide) (backOf (W := 2) (rm51 l Z a0 hw [] (own_i0 ua)  h0 n0 Z0 (own_i0l hua)) hZ (own_w hw 270) (own_w hw 235) (by decide) (by decide)) (g := (mkF m 32 #[oR o0, oI (ofNat at_), oI (ofNat ua), oI (ofNat ub), oI (ofNat uc), oI 2, oI (ofNat ub), oI (ofNat 0)] [(.int (ofNat (own_i0 ua))), (.int (ofNat at_)), (.ref o0)])) rfl (by rw [hml]; rfl) (argsL := [(.int (ofNat (own_i0 ua)))]) (rest := [(.int (ofNat at_)), (.ref o0)]) (lenOf pd_38 rfl) rfl (by show 2 * 0 + _ ≤ _; exact Nat.le_of_eq rfl) (d49 hby 19) (fun _ _ => ⟨rfl, e0, (by decide : 0 + 0 ≤ _), (by decide : 0 + 0 ≤ _)⟩)
  dsimp only [Pt.U, Pt.locs, Pt.cells, Pt.slots] at X25 l25 y25 z25 st25 hQ25
  subst l25 y25 z25
  obtain ⟨rfl, N25q, eq25⟩ := hQ25
  have N25 := Fr.app N0 N25q
  refine own_step st25 ?_
  obtain ⟨cl26, Arcl26, qcl26, Scl26, Mcl26, Hcl26, Gcl26⟩ := V_o0
  have hincl26 : ¬ ((ofNat at_) < 0 ∨ cl26.slots.size ≤ ((ofNat at_)).toNatClampNeg) := inb_of Scl26 (own_tin (by omega) (by omega))
  obtain ⟨T27, h27, X27, e27, W27, st27⟩ := stC X25 hx hZ eq25 Arcl26 (j := (ofNat at_)) hincl26 (g := (mkF m 35 #[oR o0, oI (ofNat at_), oI (ofNat ua), oI (ofNat ub), oI (ofNat uc), oI 2, oI (ofNat ub), oI (ofNat 0)] [(.int (own_sn (own_i0 ua))), (.int (ofNat at_)), (.ref o0)])) rfl rfl (d49 hby 20)
  have V28 := Arv.set Arcl26 qcl26 Scl26 Mcl26 Hcl26 Gcl26 (fits_nar_char _) W27 at_ (own_tn (by omega)) (by (try simp only [List.length_set, own_dshl]); omega)
  have Z29 := Nat.le_trans Z0 (Keep.of_wr W27).1
  have K27 := K0.wr W27 (Or.inl (List.mem_of_getElem? (i := 0) rfl))
  have N27 := Fr.snoc X27 N25 g_o0
  refine own_step st27 ?_
  refine oP T27 (mkF m 40 #[oR o0, oI (ofNat at_), oI (ofNat ua), oI (ofNat ub), oI (ofNat uc), oI 2, oI (ofNat ub), oI (ofNat 0)] [(.int ((ofNat at_) + (1 : Int32))), (.ref o0)]) (fun t k => ?_) ?_
  ·skip
   refine XS.aloadN X27.here hx rfl (d49 hby 21) rfl rfl ?_
   refine XS.iloadN X27.here hx rfl (d49 hby 22) rfl ?_
   refine XS.iconst X27.here hx rfl (d49 hby 23) ?_
   refine XS.iadd X27.here hx rfl (d49 hby 24) rfl ?_
   exact k
  rw [show (((ofNat at_) + (1 : Int32)) : Int32) = (ofNat (at_ + 1)) from own_add (at_) 1]
  refine oP T27 (mkF m 50 #[oR o0, oI (ofNat at_), oI (ofNat ua), oI (ofNat ub), oI (ofNat uc), oI 2, oI (ofNat ub), oI (ofNat 0)] [(.int ((((ofNat ua) &&& (3 : Int32)) <<< ((4 : Int32) &&& 31)) ||| ((ofNat ub) >>> ((4 : Int32) &&& 31)))), (.int (ofNat (at_ + 1))), (.ref o0)]) (fun t k => ?_) ?_
  ·skip
   refine XS.iloadN X27.here hx rfl (d49 hby 25) rfl ?_
   refine XS.iconst X27.here hx rfl (d49 hby 26) ?_
   refine XS.iand X27.here hx rfl (d49 hby 27) rfl ?_
   refine XS.iconst X27.here hx rfl (d49 hby 28) ?_
   refine XS.ishl X27.here hx rfl (d49 hby 29) rfl ?_
   refine XS.iload X27.here hx rfl (d49 hby 30) rfl ?_
   refine XS.iconst X27.here hx rfl (d49 hby 31) ?_
   refine XS.ishr X27.here hx rfl (d49 hby 32) rfl ?_
   refine XS.ior X27.here hx rfl (d49 hby 33) rfl ?_
   exact k
  rw [show (((((ofNat ua) &&& (3 : Int32)) <<< ((4 : Int32) &&& 31)) ||| ((ofNat ub) >>> ((4 : Int32) &&& 31))) : Int32) = (ofNat (own_i1 ua ub)) from own_z1 hub]
  obtain ⟨_, _, ⟨T30, L30, k30, n30⟩, -, X30, ⟨Lc30, hQ30, l30, y30, z30⟩, st30⟩ := Jvm.LawKit.callS X27 hx (y := yM51) hown (mvT hZ (own_w hw 268)) (mvT hZ (own_w hw 269)) (mvT hZ (own_w hw 235)) (mvT hZ (own_w hw 270)) (by decide) (backOf (W := 2) (rm51 l Z a0 hw [] (own_i1 ua ub)  h27 n0 Z29 (own_i1l hub)) hZ (own_w hw 270) (own_w hw 235) (by decide) (by decide)) (g := (mkF m 50 #[oR o0, oI (ofNat at_), oI (ofNat ua), oI (ofNat ub), oI (ofNat uc), oI 2, oI (ofNat ub), oI (ofNat 0)] [(.int (ofNat (own_i1 ua ub))), (.int (ofNat (at_ + 1))), (.ref o0)])) rfl (by rw [hml]; rfl) (argsL := [(.int (ofNat (own_i1 ua ub)))]) (rest := [(.int (ofNat (at_ + 1))), (.ref o0)]) (lenOf pd_38 rfl) rfl (by show 2 * 0 + _ ≤ _; exact Nat.le_of_eq rfl) (d49 hby 34) (fun _ _ => ⟨rfl, e27, (by decide : 0 + 0 ≤ _), (by decide : 0 + 0 ≤ _)⟩)
  dsimp only [Pt.U, Pt.locs, Pt.cells, Pt.slots] at X30 l30 y30 z30 st30 hQ30
  subst l30 y30 z30
  obtain ⟨rfl, N30q, eq30⟩ := hQ30
  have N30 := Fr.app N27 N30q
  refine own_step st30 ?_
  obtain ⟨cl31, Arcl31, qcl31, Scl31, Mcl31, Hcl31, Gcl31⟩ := V28
  have hincl31 : ¬ ((ofNat (at_ + 1)) < 0 ∨ cl31.slots.size ≤ ((ofNat (at_ + 1))).toNatClampNeg) := inb_of Scl31 (own_tin (by omega) (by omega))
  obtain ⟨T32, h32, X32, e32, W32, st32⟩ := stC X30 hx hZ eq30 Arcl31 (j := (ofNat (at_ + 1))) hincl31 (g := (mkF m 53 #[oR o0, oI (ofNat at_), oI (ofNat ua), oI (ofNat ub), oI (ofNat uc), oI 2, oI (ofNat ub), oI (ofNat 0)] [(.int (own_sn (own_i1 ua ub))), (.int (ofNat (at_ + 1))), (.ref o0)])) rfl rfl (d49 hby 35)
  have V33 := Arv.set Arcl31 qcl31 Scl31 Mcl31 Hcl31 Gcl31 (fits_nar_char _) W32 (at_ + 1) (own_tn (by omega)) (by (try simp only [List.length_set, own_dshl]); omega)
  have Z34 := Nat.le_trans Z29 (Keep.of_wr W32).1
  have K32 := K27.wr W32 (Or.inl (List.mem_of_getElem? (i := 0) rfl))
  have N32 := Fr.snoc X32 N30 g_o0
  refine own_step st32 ?_
  refine oP T32 (mkF m 58 #[oR o0, oI (ofNat at_), oI (ofNat ua), oI (ofNat ub), oI (ofNat uc), oI 2, oI (ofNat ub), oI (ofNat 0)] [(.int ((ofNat at_) + (2 : Int32))), (.ref o0)]) (fun t k => ?_) ?_
  ·skip
   refine XS.aloadN X32.here hx rfl (d49 hby 36) rfl rfl ?_
   refine XS.iloadN X32.here hx rfl (d49 hby 37) rfl ?_
   refine XS.iconst X32.here hx rfl (d49 hby 38) ?_
   refine XS.iadd X32.here hx rfl (d49 hby 39) rfl ?_
   exact k
  rw [show (((ofNat at_) + (2 : Int32)) : Int32) = (ofNat (at_ + 2)) from own_add (at_) 2]
  refine oP T32 (mkF m 77 #[oR o0, oI (ofNat at_), oI (ofNat ua), oI (ofNat ub), oI (ofNat uc), oI 2, oI (ofNat ub), oI (ofNat 0)] [(.int ((((ofNat ub) &&& (15 : Int32)) <<< ((2 : Int32) &&& 31)) ||| ((ofNat 0) >>> ((6 : Int32) &&& 31)))), (.int (ofNat (at_ + 2))), (.ref o0)]) (fun t k => ?_) ?_
  ·skip
   refine XS.iload X32.here hx rfl (d49 hby 40) rfl ?_
   refine XS.iconst X32.here hx rfl (d49 hby 41) ?_
   refine XS.icmpNo X32.here hx rfl (d49 hby 42) rfl (flt (by decide)).1 ?_
   refine XS.iload X32.here hx rfl (d49 hby 43) rfl ?_
   refine XS.bipush X32.here hx rfl (d49 hby 44) ?_
   refine XS.iand X32.here hx rfl (d49 hby 45) rfl ?_
   refine XS.iconst X32.here hx rfl (d49 hby 46) ?_
   refine XS.ishl X32.here hx rfl (d49 hby 47) rfl ?_
   refine XS.iload X32.here hx rfl (d49 hby 48) rfl ?_
   refine XS.bipush X32.here hx rfl (d49 hby 49) ?_
   refine XS.ishr X32.here hx rfl (d49 hby 50) rfl ?_
   refine XS.ior X32.here hx rfl (d49 hby 51) rfl ?_
   exact k
  rw [show (((((ofNat ub) &&& (15 : Int32)) <<< ((2 : Int32) &&& 31)) ||| ((ofNat 0) >>> ((6 : Int32) &&& 31))) : Int32) = (ofNat (own_i2 ub 0)) from own_z2 (by decide)]
  obtain ⟨_, _, ⟨T36, L36, k36, n36⟩, -, X36, ⟨Lc36, hQ36, l36, y36, z36⟩, st36⟩ := Jvm.LawKit.callS X32 hx (y := yM51) hown (mvT hZ (own_w hw 268)) (mvT hZ (own_w hw 269)) (mvT hZ (own_w hw 235)) (mvT hZ (own_w hw 270)) (by decide) (backOf (W := 2) (rm51 l Z a0 hw [] (own_i2 ub 0)  h32 n0 Z34 (own_i2l (by decide))) hZ (own_w hw 270) (own_w hw 235) (by decide) (by decide)) (g := (mkF m 77 #[oR o0, oI (ofNat at_), oI (ofNat ua), oI (ofNat ub), oI (ofNat uc), oI 2, oI (ofNat ub), oI (ofNat 0)] [(.int (ofNat (own_i2 ub 0))), (.int (ofNat (at_ + 2))), (.ref o0)])) rfl (by rw [hml]; rfl) (argsL := [(.int (ofNat (own_i2 ub 0)))]) (rest := [(.int (ofNat (at_ + 2))), (.ref o0)]) (lenOf pd_38 rfl) rfl (by show 2 * 0 + _ ≤ _; exact Nat.le_of_eq rfl) (d49 hby 52) (fun _ _ => ⟨rfl, e32, (by decide : 0 + 0 ≤ _), (by decide : 0 + 0 ≤ _)⟩)
  dsimp only [Pt.U, Pt.locs, Pt.cells, Pt.slots] at X36 l36 y36 z36 st36 hQ36
  subst l36 y36 z36
  obtain ⟨rfl, N36q, eq36⟩ := hQ36
  have N36 := Fr.app N32 N36q
  refine own_step st36 ?_
  refine oP T36 (mkF m 85 #[oR o0, oI (ofNat at_), oI (ofNat ua), oI (ofNat ub), oI (ofNat uc), oI 2, oI (ofNat ub), oI (ofNat 0)] [(.int (own_sn (own_i2 ub 0))), (.int (ofNat (at_ + 2))), (.ref o0)]) (fun t k => ?_) ?_
  ·skip
   refine XS.goto X36.here hx rfl (pc0 := 80) (pc' := 85) rfl (d49 hby 53) (by decide) (by decide) ?_
   exact k
  obtain ⟨cl37, Arcl37, qcl37, Scl37, Mcl37, Hcl37, Gcl37⟩ := V33
  have hincl37 : ¬ ((ofNat (at_ + 2)) < 0 ∨ cl37.slots.size ≤ ((ofNat (at_ + 2))).toNatClampNeg) := inb_of Scl37 (own_tin (by omega) (by omega))
  obtain ⟨T38, h38, X38, e38, W38, st38⟩ := stC X36 hx hZ eq36 Arcl37 (j := (ofNat (at_ + 2))) hincl37 (g := (mkF m 85 #[oR o0, oI (ofNat at_), oI (ofNat ua), oI (ofNat ub), oI (ofNat uc), oI 2, oI (ofNat ub), oI (ofNat 0)] [(.int (own_sn (own_i2 ub 0))), (.int (ofNat (at_ + 2))), (.ref o0)])) rfl rfl (d49 hby 55)
  have V39 := Arv.set Arcl37 qcl37 Scl37 Mcl37 Hcl37 Gcl37 (fits_nar_char _) W38 (at_ + 2) (own_tn (by omega)) (by (try simp only [List.length_set, own_dshl]); omega)
  have K38 := K32.wr W38 (Or.inl (List.mem_of_getElem? (i := 0) rfl))
  have N38 := Fr.snoc X38 N36 g_o0
  refine own_step st38 ?_
  refine oP T38 (mkF m 90 #[oR o0, oI (ofNat at_), oI (ofNat ua), oI (ofNat ub), oI (ofNat uc), oI 2, oI (ofNat ub), oI (ofNat 0)] [(.int ((ofNat at_) + (3 : Int32))), (.ref o0)]) (fun t k => ?_) ?_
  ·skip
   refine XS.aloadN X38.here hx rfl (d49 hby 56) rfl rfl ?_
   refine XS.iloadN X38.here hx rfl (d49 hby 57) rfl ?_
   refine XS.iconst X38.here hx rfl (d49 hby 58) ?_
   refine XS.iadd X38.here hx rfl (d49 hby 59) rfl ?_
   exact k
  rw [show (((ofNat at_) + (3 : Int32)) : Int32) = (ofNat (at_ + 3)) from own_add (at_) 3]
  refine oP T38 (mkF m 109 #[oR o0, oI (ofNat at_), oI (ofNat ua), oI (ofNat ub), oI (ofNat uc), oI 2, oI (ofNat ub), oI (ofNat 0)] [(.int 61), (.int (ofNat (at_ + 3))), (.ref o0)]) (fun t k => ?_) ?_
  ·skip
   refine XS.iload X38.here hx rfl (d49 hby 60) rfl ?_
   refine XS.iconst X38.here hx rfl (d49 hby 61) ?_
   refine XS.icmpYes X38.here hx rfl (pc0 := 93) (pc' := 107) rfl (d49 hby 62) rfl (tlt (by decide)).1 (by decide) (by decide) ?_
   refine XS.bipush X38.here hx rfl (d49 hby 68) ?_
   exact k
  obtain ⟨cl42, Arcl42, qcl42, Scl42, Mcl42, Hcl42, Gcl42⟩ := V39
  have hincl42 : ¬ ((ofNat (at_ + 3)) < 0 ∨ cl42.slots.size ≤ ((ofNat (at_ + 3))).toNatClampNeg) := inb_of Scl42 (own_tin (by omega) (by omega))
  obtain ⟨T43, h43, X43, e43, W43, st43⟩ := stC X38 hx hZ e38 Arcl42 (j := (ofNat (at_ + 3))) hincl42 (g := (mkF m 109 #[oR o0, oI (ofNat at_), oI (ofNat ua), oI (ofNat ub), oI (ofNat uc), oI 2, oI (ofNat ub), oI (ofNat 0)] [(.int 61), (.int (ofNat (at_ + 3))), (.ref o0)])) rfl rfl (d49 hby 69)
  have V44 := Arv.set Arcl42 qcl42 Scl42 Mcl42 Hcl42 Gcl42 (fits_nar_char _) W43 (at_ + 3) (own_tn (by omega)) (by (try simp only [List.length_set, own_dshl]); omega)
  have K43 := K38.wr W43 (Or.inl (List.mem_of_getElem? (i := 0) rfl))
  have N43 := Fr.snoc X43 N38 g_o0
  refine own_step st43 ?_
  refine own_retV X43 hx Bd.returns (d49 hby 70) (BodyLoose.notSynchronized Bd) (by decide) (by decide) ?_
  rw [show T43.heap = h43 from e43]
  exact ⟨rfl, N43, K43, by have q := V44; rw [(own_snb (own_i0 ua) (own_i0l hua)).2.2, (own_snb (own_i1 ua ub) (own_i1l hub)).2.2, (own_snb (own_i2 ub 0) (own_i2l (by decide))).2.2, own_nl61] at q; exact q⟩
 ·skip
  show own_Run p e below s _ _ _ s₁ (mkF m 0 #[oR o0, oI (ofNat at_), oI (ofNat ua), oI (ofNat ub), oI (ofNat uc), oI 3, .unset, .unset] [])
  refine oP s₁ (mkF m 27 #[oR o0, oI (ofNat at_), oI (ofNat ua), oI (ofNat ub), oI (ofNat uc), oI 3, oI (ofNat ub), oI (ofNat uc)] []) (fun t k => ?_) ?_
  ·skip
   refine XS.iload X0.here hx rfl (d49 hby 0) rfl ?_
   refine XS.iconst X0.here hx rfl (d49 hby 1) ?_
   refine XS.icmpYes X0.here hx rfl (pc0 := 3) (pc' := 10) rfl (d49 hby 2) rfl (flt (by decide)).2.1 (by decide) (by decide) ?_
   refine XS.iloadN X0.here hx rfl (d49 hby 5) rfl ?_
   refine XS.istore X0.here hx rfl (d49 hby 6) rfl (l' := #[oR o0, oI (ofNat at_), oI (ofNat ua), oI (ofNat ub), oI (ofNat uc), oI 3, oI (ofNat ub), .unset]) rfl ?_
   refine XS.iload X0.here hx rfl (d49 hby 7) rfl ?_
   refine XS.iconst X0.here hx rfl (d49 hby 8) ?_
   refine XS.icmpYes X0.here hx rfl (pc0 := 16) (pc' := 23) rfl (d49 hby 9) rfl (flt (by decide)).2.1 (by decide) (by decide) ?_
   refine XS.iload X0.here hx rfl (d49 hby 12) rfl ?_
   refine XS.istore X0.here hx rfl (d49 hby 13) rfl (l' := #[oR o0, oI (ofNat at_), oI (ofNat ua), oI (ofNat ub), oI (ofNat uc), oI 3, oI (ofNat ub), oI (ofNat uc)]) rfl ?_
   exact k
  show own_Run p e below s _ _ _ s₁ (mkF m 27 #[oR o0, oI (ofNat at_), oI (ofNat ua), oI (ofNat ub), oI (ofNat uc), oI 3, oI (ofNat ub), oI (ofNat uc)] [])
  refine oP s₁ (mkF m 32 #[oR o0, oI (ofNat at_), oI (ofNat ua), oI (ofNat ub), oI (ofNat uc), oI 3, oI (ofNat ub), oI (ofNat uc)] [(.int ((ofNat ua) >>> ((2 : Int32) &&& 31))), (.int (ofNat at_)), (.ref o0)]) (fun t k => ?_) ?_
  ·skip
   refine XS.aloadN X0.here hx rfl (d49 hby 14) rfl rfl ?_
   refine XS.iloadN X0.here hx rfl (d49 hby 15) rfl ?_
   refine XS.iloadN X0.here hx rfl (d49 hby 16) rfl ?_
   refine XS.iconst X0.here hx rfl (d49 hby 17) ?_
   refine XS.ishr X0.here hx rfl (d49 hby 18) rfl ?_
   exact k
  rw [show (((ofNat ua) >>> ((2 : Int32) &&& 31)) : Int32) = (ofNat (own_i0 ua)) from own_y0 hua]
  obtain ⟨_, _, ⟨T48, L48, k48, n48⟩, -, X48, ⟨Lc48, hQ48, l48, y48, z48⟩, st48⟩ := Jvm.LawKit.callS X0 hx (y := yM51) hown (mvT hZ (own_w hw 268)) (mvT hZ (own_w hw 269)) (mvT hZ (own_w hw 235)) (mvT hZ (own_w hw 270)) (by decide) (backOf (W := 2) (rm51 l Z a0 hw [] (own_i0 ua)  h0 n0 Z0 (own_i0l hua)) hZ (own_w hw 270) (own_w hw 235) (by decide) (by decide)) (g := (mkF m 32 #[oR o0, oI (ofNat at_), oI (ofNat ua), oI (ofNat ub), oI (ofNat uc), oI 3, oI (ofNat ub), oI (ofNat uc)] [(.int (ofNat (own_i0 ua))), (.int (ofNat at_)), (.ref o0)])) rfl (by rw [hml]; rfl) (argsL := [(.int (ofNat (own_i0 ua)))]) (rest := [(.int (ofNat at_)), (.ref o0)]) (lenOf pd_38 rfl) rfl (by show 2 * 0 + _ ≤ _; exact Nat.le_of_eq rfl) (d49 hby 19) (fun _ _ => ⟨rfl, e0, (by decide : 0 + 0 ≤ _), (by decide : 0 + 0 ≤ _)⟩)
  dsimp only [Pt.U, Pt.locs, Pt.cells, Pt.slots] at X48 l48 y48 z48 st48 hQ48
  subst l48 y48 z48
  obtain ⟨rfl, N48q, eq48⟩ := hQ48
  have N48 := Fr.app N0 N48q
  refine own_step st48 ?_
  obtain ⟨cl49, Arcl49, qcl49, Scl49, Mcl49, Hcl49, Gcl49⟩ := V_o0
  have hincl49 : ¬ ((ofNat at_) < 0 ∨ cl49.slots.size ≤ ((ofNat at_)).toNatClampNeg) := inb_of Scl49 (own_tin (by omega) (by omega))
  obtain ⟨T50, h50, X50, e50, W50, st50⟩ := stC X48 hx hZ eq48 Arcl49 (j := (ofNat at_)) hincl49 (g := (mkF m 35 #[oR o0, oI (ofNat at_), oI (ofNat ua), oI (ofNat ub), oI (ofNat uc), oI 3, oI (ofNat ub), oI (ofNat uc)] [(.int (own_sn (own_i0 ua))), (.int (ofNat at_)), (.ref o0)])) rfl rfl (d49 hby 20)
  have V51 := Arv.set Arcl49 qcl49 Scl49 Mcl49 Hcl49 Gcl49 (fits_nar_char _) W50 at_ (own_tn (by omega)) (by (try simp only [List.length_set, own_dshl]); omega)
  have Z52 := Nat.le_trans Z0 (Keep.of_wr W50).1
  have K50 := K0.wr W50 (Or.inl (List.mem_of_getElem? (i := 0) rfl))
  have N50 := Fr.snoc X50 N48 g_o0
  refine own_step st50 ?_
  refine oP T50 (mkF m 40 #[oR o0, oI (ofNat at_), oI (ofNat ua), oI (ofNat ub), oI (ofNat uc), oI 3, oI (ofNat ub), oI (ofNat uc)] [(.int ((ofNat at_) + (1 : Int32))), (.ref o0)]) (fun t k => ?_) ?_
  ·skip
   refine XS.aloadN X50.here hx rfl (d49 hby 21) rfl rfl ?_
   refine XS.iloadN X50.here hx rfl (d49 hby 22) rfl ?_
   refine XS.iconst X50.here hx rfl (d49 hby 23) ?_
   refine XS.iadd X50.here hx rfl (d49 hby 24) rfl ?_
   exact k
  rw [show (((ofNat at_) + (1 : Int32)) : Int32) = (ofNat (at_ + 1)) from own_add (at_) 1]
  refine oP T50 (mkF m 50 #[oR o0, oI (ofNat at_), oI (ofNat ua), oI (ofNat ub), oI (ofNat uc), oI 3, oI (ofNat ub), oI (ofNat uc)] [(.int ((((ofNat ua) &&& (3 : Int32)) <<< ((4 : Int32) &&& 31)) ||| ((ofNat ub) >>> ((4 : Int32) &&& 31)))), (.int (ofNat (at_ + 1))), (.ref o0)]) (fun t k => ?_) ?_
  ·skip
   refine XS.iloadN X50.here hx rfl (d49 hby 25) rfl ?_
   refine XS.iconst X50.here hx rfl (d49 hby 26) ?_
   refine XS.iand X50.here hx rfl (d49 hby 27) rfl ?_
   refine XS.iconst X50.here hx rfl (d49 hby 28) ?_
   refine XS.ishl X50.here hx rfl (d49 hby 29) rfl ?_
   refine XS.iload X50.here hx rfl (d49 hby 30) rfl ?_
   refine XS.iconst X50.here hx rfl (d49 hby 31) ?_
   refine XS.ishr X50.here hx rfl (d49 hby 32) rfl ?_
   refine XS.ior X50.here hx rfl (d49 hby 33) rfl ?_
   exact k
  rw [show (((((ofNat ua) &&& (3 : Int32)) <<< ((4 : Int32) &&& 31)) ||| ((ofNat ub) >>> ((4 : Int32) &&& 31))) : Int32) = (ofNat (own_i1 ua ub)) from own_z1 hub]
  obtain ⟨_, _, ⟨T53, L53, k53, n53⟩, -, X53, ⟨Lc53, hQ53, l53, y53, z53⟩, st53⟩ := Jvm.LawKit.callS X50 hx (y := yM51) hown (mvT hZ (own_w hw 268)) (mvT hZ (own_w hw 269)) (mvT hZ (own_w hw 235)) (mvT hZ (own_w hw 270)) (by decide) (backOf (W := 2) (rm51 l Z a0 hw [] (own_i1 ua ub)  h50 n0 Z52 (own_i1l hub)) hZ (own_w hw 270) (own_w hw 235) (by decide) (by decide)) (g := (mkF m 50 #[oR o0, oI (ofNat at_), oI (ofNat ua), oI (ofNat ub), oI (ofNat uc), oI 3, oI (ofNat ub), oI (ofNat uc)] [(.int (ofNat (own_i1 ua ub))), (.int (ofNat (at_ + 1))), (.ref o0)])) rfl (by rw [hml]; rfl) (argsL := [(.int (ofNat (own_i1 ua ub)))]) (rest := [(.int (ofNat (at_ + 1))), (.ref o0)]) (lenOf pd_38 rfl) rfl (by show 2 * 0 + _ ≤ _; exact Nat.le_of_eq rfl) (d49 hby 34) (fun _ _ => ⟨rfl, e50, (by decide : 0 + 0 ≤ _), (by decide : 0 + 0 ≤ _)⟩)
  dsimp only [Pt.U, Pt.locs, Pt.cells, Pt.slots] at X53 l53 y53 z53 st53 hQ53
  subst l53 y53 z53
  obtain ⟨rfl, N53q, eq53⟩ := hQ53
  have N53 := Fr.app N50 N53q
  refine own_step st53 ?_
  obtain ⟨cl54, Arcl54, qcl54, Scl54, Mcl54, Hcl54, Gcl54⟩ := V51
  have hincl54 : ¬ ((ofNat (at_ + 1)) < 0 ∨ cl54.slots.size ≤ ((ofNat (at_ + 1))).toNatClampNeg) := inb_of Scl54 (own_tin (by omega) (by omega))
  obtain ⟨T55, h55, X55, e55, W55, st55⟩ := stC X53 hx hZ eq53 Arcl54 (j := (ofNat (at_ + 1))) hincl54 (g := (mkF m 53 #[oR o0, oI (ofNat at_), oI (ofNat ua), oI (ofNat ub), oI (ofNat uc), oI 3, oI (ofNat ub), oI (ofNat uc)] [(.int (own_sn (own_i1 ua ub))), (.int (ofNat (at_ + 1))), (.ref o0)])) rfl rfl (d49 hby 35)
  have V56 := Arv.set Arcl54 qcl54 Scl54 Mcl54 Hcl54 Gcl54 (fits_nar_char _) W55 (at_ + 1) (own_tn (by omega)) (by (try simp only [List.length_set, own_dshl]); omega)
  have Z57 := Nat.le_trans Z52 (Keep.of_wr W55).1
  have K55 := K50.wr W55 (Or.inl (List.mem_of_getElem? (i := 0) rfl))
  have N55 := Fr.snoc X55 N53 g_o0
  refine own_step st55 ?_
  refine oP T55 (mkF m 58 #[oR o0, oI (ofNat at_), oI (ofNat ua), oI (ofNat ub), oI (ofNat uc), oI 3, oI (ofNat ub), oI (ofNat uc)] [(.int ((ofNat at_) + (2 : Int32))), (.ref o0)]) (fun t k => ?_) ?_
  ·skip
   refine XS.aloadN X55.here hx rfl (d49 hby 36) rfl rfl ?_
   refine XS.iloadN X55.here hx rfl (d49 hby 37) rfl ?_
   refine XS.iconst X55.here hx rfl (d49 hby 38) ?_
   refine XS.iadd X55.here hx rfl (d49 hby 39) rfl ?_
   exact k
  rw [show (((ofNat at_) + (2 : Int32)) : Int32) = (ofNat (at_ + 2)) from own_add (at_) 2]
  refine oP T55 (mkF m 77 #[oR o0, oI (ofNat at_), oI (ofNat ua), oI (ofNat ub), oI (ofNat uc), oI 3, oI (ofNat ub), oI (ofNat uc)] [(.int ((((ofNat ub) &&& (15 : Int32)) <<< ((2 : Int32) &&& 31)) ||| ((ofNat uc) >>> ((6 : Int32) &&& 31)))), (.int (ofNat (at_ + 2))), (.ref o0)]) (fun t k => ?_) ?_
  ·skip
   refine XS.iload X55.here hx rfl (d49 hby 40) rfl ?_
   refine XS.iconst X55.here hx rfl (d49 hby 41) ?_
   refine XS.icmpNo X55.here hx rfl (d49 hby 42) rfl (flt (by decide)).1 ?_
   refine XS.iload X55.here hx rfl (d49 hby 43) rfl ?_
   refine XS.bipush X55.here hx rfl (d49 hby 44) ?_
   refine XS.iand X55.here hx rfl (d49 hby 45) rfl ?_
   refine XS.iconst X55.here hx rfl (d49 hby 46) ?_
   refine XS.ishl X55.here hx rfl (d49 hby 47) rfl ?_
   refine XS.iload X55.here hx rfl (d49 hby 48) rfl ?_
   refine XS.bipush X55.here hx rfl (d49 hby 49) ?_
   refine XS.ishr X55.here hx rfl (d49 hby 50) rfl ?_
   refine XS.ior X55.here hx rfl (d49 hby 51) rfl ?_
   exact k
  rw [show (((((ofNat ub) &&& (15 : Int32)) <<< ((2 : Int32) &&& 31)) ||| ((ofNat uc) >>> ((6 : Int32) &&& 31))) : Int32) = (ofNat (own_i2 ub uc)) from own_z2 huc]
  obtain ⟨_, _, ⟨T59, L59, k59, n59⟩, -, X59, ⟨Lc59, hQ59, l59, y59, z59⟩, st59⟩ := Jvm.LawKit.callS X55 hx (y := yM51) hown (mvT hZ (own_w hw 268)) (mvT hZ (own_w hw 269)) (mvT hZ (own_w hw 235)) (mvT hZ (own_w hw 270)) (by decide) (backOf (W := 2) (rm51 l Z a0 hw [] (own_i2 ub uc)  h55 n0 Z57 (own_i2l huc)) hZ (own_w hw 270) (own_w hw 235) (by decide) (by decide)) (g := (mkF m 77 #[oR o0, oI (ofNat at_), oI (ofNat ua), oI (ofNat ub), oI (ofNat uc), oI 3, oI (ofNat ub), oI (ofNat uc)] [(.int (ofNat (own_i2 ub uc))), (.int (ofNat (at_ + 2))), (.ref o0)])) rfl (by rw [hml]; rfl) (argsL := [(.int (ofNat (own_i2 ub uc)))]) (rest := [(.int (ofNat (at_ + 2))), (.ref o0)]) (lenOf pd_38 rfl) rfl (by show 2 * 0 + _ ≤ _; exact Nat.le_of_eq rfl) (d49 hby 52) (fun _ _ => ⟨rfl, e55, (by decide : 0 + 0 ≤ _), (by decide : 0 + 0 ≤ _)⟩)
  dsimp only [Pt.U, Pt.locs, Pt.cells, Pt.slots] at X59 l59 y59 z59 st59 hQ59
  subst l59 y59 z59
  obtain ⟨rfl, N59q, eq59⟩ := hQ59
  have N59 := Fr.app N55 N59q
  refine own_step st59 ?_
  refine oP T59 (mkF m 85 #[oR o0, oI (ofNat at_), oI (ofNat ua), oI (ofNat ub), oI (ofNat uc), oI 3, oI (ofNat ub), oI (ofNat uc)] [(.int (own_sn (own_i2 ub uc))), (.int (ofNat (at_ + 2))), (.ref o0)]) (fun t k => ?_) ?_
  ·skip
   refine XS.goto X59.here hx rfl (pc0 := 80) (pc' := 85) rfl (d49 hby 53) (by decide) (by decide) ?_
   exact k
  obtain ⟨cl60, Arcl60, qcl60, Scl60, Mcl60, Hcl60, Gcl60⟩ := V56
  have hincl60 : ¬ ((ofNat (at_ + 2)) < 0 ∨ cl60.slots.size ≤ ((ofNat (at_ + 2))).toNatClampNeg) := inb_of Scl60 (own_tin (by omega) (by omega))
  obtain ⟨T61, h61, X61, e61, W61, st61⟩ := stC X59 hx hZ eq59 Arcl60 (j := (ofNat (at_ + 2))) hincl60 (g := (mkF m 85 #[oR o0, oI (ofNat at_), oI (ofNat ua), oI (ofNat ub), oI (ofNat uc), oI 3, oI (ofNat ub), oI (ofNat uc)] [(.int (own_sn (own_i2 ub uc))), (.int (ofNat (at_ + 2))), (.ref o0)])) rfl rfl (d49 hby 55)
  have V62 := Arv.set Arcl60 qcl60 Scl60 Mcl60 Hcl60 Gcl60 (fits_nar_char _) W61 (at_ + 2) (own_tn (by omega)) (by (try simp only [List.length_set, own_dshl]); omega)
  have Z63 := Nat.le_trans Z57 (Keep.of_wr W61).1
  have K61 := K55.wr W61 (Or.inl (List.mem_of_getElem? (i := 0) rfl))
  have N61 := Fr.snoc X61 N59 g_o0
  refine own_step st61 ?_
  refine oP T61 (mkF m 90 #[oR o0, oI (ofNat at_), oI (ofNat ua), oI (ofNat ub), oI (ofNat uc), oI 3, oI (ofNat ub), oI (ofNat uc)] [(.int ((ofNat at_) + (3 : Int32))), (.ref o0)]) (fun t k => ?_) ?_
  ·skip
   refine XS.aloadN X61.here hx rfl (d49 hby 56) rfl rfl ?_
   refine XS.iloadN X61.here hx rfl (d49 hby 57) rfl ?_
   refine XS.iconst X61.here hx rfl (d49 hby 58) ?_
   refine XS.iadd X61.here hx rfl (d49 hby 59) rfl ?_
   exact k
  rw [show (((ofNat at_) + (3 : Int32)) : Int32) = (ofNat (at_ + 3)) from own_add (at_) 3]
  refine oP T61 (mkF m 101 #[oR o0, oI (ofNat at_), oI (ofNat ua), oI (ofNat ub), oI (ofNat uc), oI 3, oI (ofNat ub), oI (ofNat uc)] [(.int ((ofNat uc) &&& (63 : Int32))), (.int (ofNat (at_ + 3))), (.ref o0)]) (fun t k => ?_) ?_
  ·skip
   refine XS.iload X61.here hx rfl (d49 hby 60) rfl ?_
   refine XS.iconst X61.here hx rfl (d49 hby 61) ?_
   refine XS.icmpNo X61.here hx rfl (d49 hby 62) rfl (flt (by decide)).1 ?_
   refine XS.iload X61.here hx rfl (d49 hby 63) rfl ?_
   refine XS.bipush X61.here hx rfl (d49 hby 64) ?_
   refine XS.iand X61.here hx rfl (d49 hby 65) rfl ?_
   exact k
  rw [show (((ofNat uc) &&& (63 : Int32)) : Int32) = (ofNat (own_i3 uc)) from own_z3 uc]
  obtain ⟨_, _, ⟨T65, L65, k65, n65⟩, -, X65, ⟨Lc65, hQ65, l65, y65, z65⟩, st65⟩ := Jvm.LawKit.callS X61 hx (y := yM51) hown (mvT hZ (own_w hw 268)) (mvT hZ (own_w hw 269)) (mvT hZ (own_w hw 235)) (mvT hZ (own_w hw 270)) (by decide) (backOf (W := 2) (rm51 l Z a0 hw [] (own_i3 uc)  h61 n0 Z63 (own_i3l uc)) hZ (own_w hw 270) (own_w hw 235) (by decide) (by decide)) (g := (mkF m 101 #[oR o0, oI (ofNat at_), oI (ofNat ua), oI (ofNat ub), oI (ofNat uc), oI 3, oI (ofNat ub), oI (ofNat uc)] [(.int (ofNat (own_i3 uc))), (.int (ofNat (at_ + 3))), (.ref o0)])) rfl (by rw [hml]; rfl) (argsL := [(.int (ofNat (own_i3 uc)))]) (rest := [(.int (ofNat (at_ + 3))), (.ref o0)]) (lenOf pd_38 rfl) rfl (by show 2 * 0 + _ ≤ _; exact Nat.le_of_eq rfl) (d49 hby 66) (fun _ _ => ⟨rfl, e61, (by decide : 0 + 0 ≤ _), (by decide : 0 + 0 ≤ _)⟩)
  dsimp only [Pt.U, Pt.locs, Pt.cells, Pt.slots] at X65 l65 y65 z65 st65 hQ65
  subst l65 y65 z65
  obtain ⟨rfl, N65q, eq65⟩ := hQ65
  have N65 := Fr.app N61 N65q
  refine own_step st65 ?_
  refine oP T65 (mkF m 109 #[oR o0, oI (ofNat at_), oI (ofNat ua), oI (ofNat ub), oI (ofNat uc), oI 3, oI (ofNat ub), oI (ofNat uc)] [(.int (own_sn (own_i3 uc))), (.int (ofNat (at_ + 3))), (.ref o0)]) (fun t k => ?_) ?_
  ·skip
   refine XS.goto X65.here hx rfl (pc0 := 104) (pc' := 109) rfl (d49 hby 67) (by decide) (by decide) ?_
   exact k
  obtain ⟨cl66, Arcl66, qcl66, Scl66, Mcl66, Hcl66, Gcl66⟩ := V62
  have hincl66 : ¬ ((ofNat (at_ + 3)) < 0 ∨ cl66.slots.size ≤ ((ofNat (at_ + 3))).toNatClampNeg) := inb_of Scl66 (own_tin (by omega) (by omega))
  obtain ⟨T67, h67, X67, e67, W67, st67⟩ := stC X65 hx hZ eq65 Arcl66 (j := (ofNat (at_ + 3))) hincl66 (g := (mkF m 109 #[oR o0, oI (ofNat at_), oI (ofNat ua), oI (ofNat ub), oI (ofNat uc), oI 3, oI (ofNat ub), oI (ofNat uc)] [(.int (own_sn (own_i3 uc))), (.int (ofNat (at_ + 3))), (.ref o0)])) rfl rfl (d49 hby 69)
  have V68 := Arv.set Arcl66 qcl66 Scl66 Mcl66 Hcl66 Gcl66 (fits_nar_char _) W67 (at_ + 3) (own_tn (by omega)) (by (try simp only [List.length_set, own_dshl]); omega)
  have K67 := K61.wr W67 (Or.inl (List.mem_of_getElem? (i := 0) rfl))
  have N67 := Fr.snoc X67 N65 g_o0
  refine own_step st67 ?_
  refine own_retV X67 hx Bd.returns (d49 hby 70) (BodyLoose.notSynchronized Bd) (by decide) (by decide) ?_
  rw [show T67.heap = h67 from e67]
  exact ⟨rfl, N67, K67, by have q := V68; rw [(own_snb (own_i0 ua) (own_i0l hua)).2.2, (own_snb (own_i1 ua ub) (own_i1l hub)).2.2, (own_snb (own_i2 ub uc) (own_i2l huc)).2.2, (own_snb (own_i3 uc) (own_i3l uc)).2.2] at q; exact q⟩
def D56 : List (Nat × Instr × Nat) := [(0, .iconst 4, 1), (1, .newarray .char, 2), (3, .astore 6, 2), (5, .aload 6, 2), (7, .iconst 0, 1), (8, .iload_n 2, 1), (9, .iload_n 3, 1), (10, .iload 4, 2), (12, .iload 5, 2), (14, .invokestatic 26, 3), (17, .aload_n 0, 1), (18, .iload_n 1, 1), (19, .invokevirtual 38, 3), (22, .aload 6, 2), (24, .iconst 0, 1), (25, .caload, 1), (26, .if_icmp .ne 49, 3), (29, .aload_n 0, 1), (30, .iload_n 1, 1), (31, .iconst 1, 1), (32, .iadd, 1), (33, .invokevirtual 38, 3), (36, .aload 6, 2), (38, .iconst 1, 1), (39, .caload, 1), (40, .if_icmp .ne 35, 3), (43, .aload_n 0, 1), (44, .iload_n 1, 1), (45, .iconst 2, 1), (46, .iadd, 1), (47, .invokevirtual 38, 3), (50, .aload 6, 2), (52, .iconst 2, 1), (53, .caload, 1), (54, .if_icmp .ne 21, 3), (57, .aload_n 0, 1), (58, .iload_n 1, 1), (59, .iconst 3, 1), (60, .iadd, 1), (61, .invokevirtual 38, 3), (64, .aload 6, 2), (66, .iconst 3, 1), (67, .caload, 1), (68, .if_icmp .ne 7, 3), (71, .iconst 1, 1), (72, .goto 4, 3), (75, .iconst 0, 1), (76, .ireturn, 1)]
theorem A56 : ∀ q ∈ D56, decode method_5_code q.1 = .ok q.2 := by decide +kernel
theorem d56 {c : Code} (h0 : c.code = method_5_code) (i : Nat) {pc n : Nat} {q : Instr} (h : D56[i]? = some (pc, q, n) := by rfl) : decode c.code pc = .ok (q, n) := hb h0 (A56 (pc, q, n) (List.mem_of_getElem? h))
theorem pn_rm57 : plainName "com/example/bevaka/bevaka/store/PemEncodePinLaw" = true := by first | (simp [plainName, overriddenIn]; done) | decide +kernel
theorem ef_rm57 (m : MethodId) (o0 : Addr) (at_ : Nat) (ua : Nat) (ub : Nat) (uc : Nat) (kk : Nat) : entryFrame m #[(.ref o0), (.int (ofNat at_)), (.int (ofNat ua)), (.int (ofNat ub)), (.int (ofNat uc)), (.int (ofNat kk))] 7 = mkF m 0 #[.val (.ref o0), .val (.int (ofNat at_)), .val (.int (ofNat ua)), .val (.int (ofNat ub)), .val (.int (ofNat uc)), .val (.int (ofNat kk)), .unset] [] := by first | (simp [entryFrame, mkF, argsToLocals, Value.category, maxLocals]; done) | rfl
def rm57_Q (Z : State) (o0 : Addr) (at_ : Nat) (ua : Nat) (ub : Nat) (uc : Nat) (kk : Nat) (cs : Int32) (fm : Value) (t : Addr) (k : ClassId) (n : Nat) (vs : List Value) (h0 : Heap) (n0 : Nat) (v : Option Value) (h : Heap) (L : List Loc) : Prop := v = some (.int 1) ∧ Fr n0 L ∧ Keep h0 h []
set_option maxRecDepth 65536 in
set_option maxHeartbeats 40000000 in
theorem rm57 (l : Launch) (Z : State) (a0 : Array Value) (hw : ∀ d ∈ tables_1, d.before a0 Z = true) (ws : List Jvm.Cond) (o0 : Addr) (at_ : Nat) (ua : Nat) (ub : Nat) (uc : Nat) (kk : Nat) (cs : Int32) (fm : Value) (t : Addr) (k : ClassId) (n : Nat) (vs : List Value) (h0 : Heap) (n0 : Nat) (Z0 : n0 ≤ h0.size) (O0 : Old Z n0 h0) (S_cs : Sta Z Z.heap "java/lang/String" "COMPACT_STRINGS" "Z" (.int cs)) (hcs : ¬ cs = (0 : Int32)) (S_fm : Sta Z Z.heap "jdk/internal/util/Preconditions" "SIOOBE_FORMATTER" "Ljava/util/function/BiFunction;" fm) (hfm : fm = .null ∨ ∃ f : Addr, fm = .ref f) (E_o0 : Exa Z h0 o0 "java/lang/String") (F_coder_o0 : Fld Z h0 o0 "java/lang/String" "coder" "B" (.int 0)) (F_value_o0 : Fld Z h0 o0 "java/lang/String" "value" "[B" (.ref t)) (V_t : Arv Z h0 t k .byte (ofNat n) vs (.int 0)) (hk : kk = 1 ∨ kk = 2 ∨ kk = 3) (hua : ua < 256) (hub : ub < 256) (huc : uc < 256) (ha : at_ + 4 ≤ n) (hn : n ≤ 1024) (hq : ∀ j, j < 4 → vs.getD (at_ + j) (.int 0) = .int ((own_q kk ua ub uc).getD j (0 : Int32))) :
  MetFree l yM55 (head1 (Jvm.Cond.code yM55 method_5_code 7 (some .boolean) :: ws) rM4_1_4_53) (fun a U => a = #[(.ref o0), (.int (ofNat at_)), (.int (ofNat ua)), (.int (ofNat ub)), (.int (ofNat uc)), (.int (ofNat kk))] ∧ Z.Warmed39 U.vm ∧ U.heap = h0) (fun _ _ _ _ _ => True) (fun _ U o U' => ∃ v L, o = .returned v ∧ rm57_Q Z o0 at_ ua ub uc kk cs fm t k n vs h0 n0 v U'.heap L ∧ FrameEnd U o U' L rM4_1_4_53.cells rM4_1_4_53.slots) := by
 refine MetFree.of_bodySF (plainFor_of_name pn_rm57) hisR ?_
 intro p e s m args below meth c s₁ Bd hml0 hP hK
 obtain ⟨rfl, hZ, hh⟩ := hP
 have hx := Bd.exec
 have hby := Bd.bytes
 have hml : c.maxLocals = 7 := hml0
 have hown : s.vm.findClass "com/example/bevaka/bevaka/store/PemEncodePinLaw" = some m.cls := findClass_of_methodNamed Bd.named
 have hnm := (name_of_methodNamed Bd.named Bd.method).1
 have X0 : Stand p l e rM4_1_4_53 s m #[(.ref o0), (.int (ofNat at_)), (.int (ofNat ua)), (.int (ofNat ub)), (.int (ofNat uc)), (.int (ofNat kk))] below meth c s₁ [] 0 0 := Stand.of_body Bd
 have e0 : s₁.heap = h0 := by rw [← hh, Bd.state]; rfl
 have N0 := Fr.nil n0
 have K0 := Keep.refl h0 []
 refine own_enter (QQ := rm57_Q Z o0 at_ ua ub uc kk cs fm t k n vs h0 n0) (ef_rm57 m o0 at_ ua ub uc kk) ?_
 show own_Run p e below s _ _ _ s₁ (mkF m 0 #[.val (.ref o0), .val (.int (ofNat at_)), .val (.int (ofNat ua)), .val (.int (ofNat ub)), .val (.int (ofNat uc)), .val (.int (ofNat kk)), .unset] [])
 refine oP s₁ (mkF m 1 #[oR o0, oI (ofNat at_), oI (ofNat ua), oI (ofNat ub), oI (ofNat uc), oI (ofNat kk), .unset] [(.int 4)]) (fun t k => ?_) ?_
 ·skip
  refine XS.iconst X0.here hx rfl (d56 hby 0) ?_
  exact k
 obtain ⟨T1, h1, k1, X1, e1, E1, B1, A1, st1⟩ := newPE X0 hx hZ (own_w hw 0) e0 (g := (mkF m 1 #[oR o0, oI (ofNat at_), oI (ofNat ua), oI (ofNat ub), oI (ofNat uc), oI (ofNat kk), .unset] [(.int 4)])) rfl (d56 hby 1 (q := .newarray .char)) rfl (by decide) (cap := 4) (by decide) (by decide) (by decide) (by decide) (ad := "[C") (by decide)
 obtain ⟨b1, g1⟩ : ∃ z, z = h0.size := ⟨_, rfl⟩
 have ne2 : o0 ≠ b1 := Nat.ne_of_lt (Nat.lt_of_lt_of_le F_coder_o0.lt (Nat.le_of_eq g1.symm))
 have ne3 : t ≠ b1 := Nat.ne_of_lt (Nat.lt_of_lt_of_le V_t.lt (Nat.le_of_eq g1.symm))
 have g_b1 : n0 ≤ b1 := Nat.le_trans Z0 (Nat.le_of_eq g1.symm)
 have sz_b1 : h0.size ≤ b1 := Nat.le_trans K0.1 (Nat.le_of_eq g1.symm)
 rw [← g1] at A1 B1 st1
 have F4 := F_coder_o0.ext E1
 have F5 := F_value_o0.ext E1
 have A6 := E_o0.ext E1
 have V7 := V_t.ext E1
 have O8 := O0.ext E1
 have K1 := K0.ext E1
 have V9 : Arv Z h1 b1 k1 .char (4 : Int32) [(.int 0), (.int 0), (.int 0), (.int 0)] (.int 0) := (Arv.new B1 (by decide)).pad (pad_rep [] (.int 0) 4)
 have Z10 := Nat.le_trans Z0 E1.1
 refine own_step st1 ?_
 refine oP T1 (mkF m 14 #[oR o0, oI (ofNat at_), oI (ofNat ua), oI (ofNat ub), oI (ofNat uc), oI (ofNat kk), oR b1] [(.int (ofNat kk)), (.int (ofNat uc)), (.int (ofNat ub)), (.int (ofNat ua)), (.int 0), (.ref b1)]) (fun t k => ?_) ?_
 ·skip
  refine XS.astore X1.here hx rfl (d56 hby 2) rfl rfl (l' := #[oR o0, oI (ofNat at_), oI (ofNat ua), oI (ofNat ub), oI (ofNat uc), oI (ofNat kk), oR b1]) rfl ?_
  refine XS.aload X1.here hx rfl (d56 hby 3) rfl rfl ?_
  refine XS.iconst X1.here hx rfl (d56 hby 4) ?_
  refine XS.iloadN X1.here hx rfl (d56 hby 5) rfl ?_
  refine XS.iloadN X1.here hx rfl (d56 hby 6) rfl ?_
  refine XS.iload X1.here hx rfl (d56 hby 7) rfl ?_
  refine XS.iload X1.here hx rfl (d56 hby 8) rfl ?_
  exact k
 obtain ⟨_, _, ⟨T11, L11, k11, n11⟩, -, X11, ⟨Lc11, hQ11, l11, y11, z11⟩, st11⟩ := Jvm.LawKit.callS X1 hx (y := yM54) hown (mvT hZ (own_w hw 265)) (mvT hZ (own_w hw 266)) (mvT hZ (own_w hw 235)) (mvT hZ (own_w hw 267)) (by decide) (backOf (W := 0) (rm50 l Z a0 hw [] b1 0 ua ub uc kk k1 4 _ h1 n0 Z10 V9 g_b1 rfl hk hua hub huc (by decide) (by decide)) hZ (own_w hw 267) (own_w hw 235) (by decide) (by decide)) (g := (mkF m 14 #[oR o0, oI (ofNat at_), oI (ofNat ua), oI (ofNat ub), oI (ofNat uc), oI (ofNat kk), oR b1] [(.int (ofNat kk)), (.int (ofNat uc)), (.int (ofNat ub)), (.int (ofNat ua)), (.int (ofNat 0)), (.ref b1)])) rfl (by rw [hml]; rfl) (argsL := [(.ref b1), (.int (ofNat 0)), (.int (ofNat ua)), (.int (ofNat ub)), (.int (ofNat uc)), (.int (ofNat kk))]) (rest := []) (lenOf pd_39 rfl) rfl (by show 2 * 0 + _ ≤ _; exact Nat.le_of_eq rfl) (d56 hby 9) (fun _ _ => ⟨rfl, e1, (by decide : 1 + 0 ≤ _), (by decide : 4 + 0 ≤ _)⟩)
 dsimp only [Pt.U, Pt.locs, Pt.cells, Pt.slots] at X11 l11 y11 z11 st11 hQ11
 subst l11 y11 z11
 obtain ⟨rfl, N11q, Kq11, Vq11⟩ := hQ11
 have N11 := Fr.app N0 N11q
 refine own_step st11 ?_
 have F12 := F4.keep Kq11 (ninS ne2 nin0)
 have F13 := F5.keep Kq11 (ninS ne2 nin0)
 have A14 := A6.keep Kq11
 have V16 := V7.keep Kq11 (ninS ne3 nin0)
 have O17 := O8.keep Kq11 (allS g_b1 all0)
 have Z18 := Nat.le_trans Z10 Kq11.1
 have K19 := K1.trans Kq11 (allS (Or.inr sz_b1) all0)
 have V20 : Arv Z T11.heap b1 k1 .char (4 : Int32) [(.int ((own_q kk ua ub uc).getD 0 (0 : Int32))), (.int ((own_q kk ua ub uc).getD 1 (0 : Int32))), (.int ((own_q kk ua ub uc).getD 2 (0 : Int32))), (.int ((own_q kk ua ub uc).getD 3 (0 : Int32)))] (.int 0) := Vq11
 refine oP T11 (mkF m 19 #[oR o0, oI (ofNat at_), oI (ofNat ua), oI (ofNat ub), oI (ofNat uc), oI (ofNat kk), oR b1] [(.int (ofNat at_)), (.ref o0)]) (fun t k => ?_) ?_
 ·skip
  refine XS.aloadN X11.here hx rfl (d56 hby 10) rfl rfl ?_
  refine XS.iloadN X11.here hx rfl (d56 hby 11) rfl ?_
  exact k
 obtain ⟨cq21, kq21, q21a, q21b, q21c⟩ := isOf hZ rfl A14
 obtain ⟨_, _, ⟨T21, L21, k21, n21⟩, -, X21, ⟨Lc21, hQ21, l21, y21, z21⟩, st21⟩ := X11.virtualBack hx (y := yM50) (z := yM50) hown (mvT hZ (own_w hw 272)) (mvT hZ (own_w hw 273)) (notFace_of_selects (args := #[]) (mvT hZ (own_w hw 275))) (mvT hZ (own_w hw 275)) (mvT hZ (own_w hw 274)) (by decide) (backOf (W := 0) (rm52 l Z a0 hw [] o0 (at_ + 0) cs fm t k n vs ((own_q kk ua ub uc).getD 0 (0 : Int32)) T11.heap n0 Z18 O17 S_cs hcs S_fm hfm A14 F12 F13 V16 (by omega) hn (hq 0 (by decide))) hZ (own_w hw 276) (own_w hw 3) (by decide) (by decide)) q21a q21c (g := (mkF m 19 #[oR o0, oI (ofNat at_), oI (ofNat ua), oI (ofNat ub), oI (ofNat uc), oI (ofNat kk), oR b1] [(.int (ofNat (at_ + 0))), (.ref o0)])) rfl (by rw [hml]; rfl) (Steps.refl _) (argsL := [(.int (ofNat (at_ + 0)))]) (rest := []) (lenOf pd_38 rfl) rfl (by show 2 * 0 + _ ≤ _; exact Nat.le_of_eq rfl) (d56 hby 12) (fun _ _ => ⟨rfl, rfl, (by decide : 1 + 0 ≤ _), (by decide : 4 + 0 ≤ _)⟩)
 dsimp only [Pt.U, Pt.locs, Pt.cells, Pt.slots] at X21 l21 y21 z21 st21 hQ21
 subst l21 y21 z21
 obtain ⟨rfl, N21q, eq21⟩ := hQ21
 have N21 := Fr.app N11 N21q
 refine own_step (fun t k => st21.trans k) ?_
 rw [show ((ofNat (own_u ((own_q kk ua ub uc).getD 0 (0 : Int32)))) : Int32) = ((own_q kk ua ub uc).getD 0 (0 : Int32)) from own_uq hk hua hub huc (j := 0) (by decide)]
 refine oP T21 (mkF m 25 #[oR o0, oI (ofNat at_), oI (ofNat ua), oI (ofNat ub), oI (ofNat uc), oI (ofNat kk), oR b1] [(.int 0), (.ref b1), (.int ((own_q kk ua ub uc).getD 0 (0 : Int32)))]) (fun t k => ?_) ?_
 ·skip
  refine XS.aload X21.here hx rfl (d56 hby 13) rfl rfl ?_
  refine XS.iconst X21.here hx rfl (d56 hby 14) ?_
  exact k
 obtain ⟨cl22, Arcl22, qcl22, Scl22, Mcl22, Hcl22, Gcl22⟩ := id V20
 have hincl22 : ¬ ((0 : Int32) < 0 ∨ cl22.slots.size ≤ ((0 : Int32)).toNatClampNeg) := inb_of Scl22 ⟨by decide, by decide⟩
 have hatcl22 : cl22.slots[((0 : Int32)).toNatClampNeg]? = some (.int ((own_q kk ua ub uc).getD 0 (0 : Int32))) := Hcl22.at hincl22 rfl
 refine oP T21 (mkF m 33 #[oR o0, oI (ofNat at_), oI (ofNat ua), oI (ofNat ub), oI (ofNat uc), oI (ofNat kk), oR b1] [(.int ((ofNat at_) + (1 : Int32))), (.ref o0)]) (fun t k => ?_) ?_
 ·skip
  refine X21.caload hx (j := (0 : Int32)) (v := (.int ((own_q kk ua ub uc).getD 0 (0 : Int32)))) (by rw [eq21]; exact Arcl22.1) (State.isArrayOf_alike hZ.alike Arcl22.2.1) Arcl22.2.2 hincl22 hatcl22 (g := (mkF m 25 #[oR o0, oI (ofNat at_), oI (ofNat ua), oI (ofNat ub), oI (ofNat uc), oI (ofNat kk), oR b1] [(.int 0), (.ref b1), (.int ((own_q kk ua ub uc).getD 0 (0 : Int32)))])) rfl rfl (d56 hby 15) _ ?_
  refine XS.icmpNo X21.here hx rfl (d56 hby 16) rfl (teq rfl).2 ?_
  refine XS.aloadN X21.here hx rfl (d56 hby 17) rfl rfl ?_
  refine XS.iloadN X21.here hx rfl (d56 hby 18) rfl ?_
  refine XS.iconst X21.here hx rfl (d56 hby 19) ?_
  refine XS.iadd X21.here hx rfl (d56 hby 20) rfl ?_
  exact k
 rw [show (((ofNat at_) + (1 : Int32)) : Int32) = (ofNat (at_ + 1)) from own_add at_ 1]
 obtain ⟨cq24, kq24, q24a, q24b, q24c⟩ := isOf hZ eq21 A14
 obtain ⟨_, _, ⟨T24, L24, k24, n24⟩, -, X24, ⟨Lc24, hQ24, l24, y24, z24⟩, st24⟩ := X21.virtualBack hx (y := yM50) (z := yM50) hown (mvT hZ (own_w hw 272)) (mvT hZ (own_w hw 273)) (notFace_of_selects (args := #[]) (mvT hZ (own_w hw 275))) (mvT hZ (own_w hw 275)) (mvT hZ (own_w hw 274)) (by decide) (backOf (W := 0) (rm52 l Z a0 hw [] o0 (at_ + 1) cs fm t k n vs ((own_q kk ua ub uc).getD 1 (0 : Int32)) T11.heap n0 Z18 O17 S_cs hcs S_fm hfm A14 F12 F13 V16 (by omega) hn (hq 1 (by decide))) hZ (own_w hw 276) (own_w hw 3) (by decide) (by decide)) q24a q24c (g := (mkF m 33 #[oR o0, oI (ofNat at_), oI (ofNat ua), oI (ofNat ub), oI (ofNat uc), oI (ofNat kk), oR b1] [(.int (ofNat (at_ + 1))), (.ref o0)])) rfl (by rw [hml]; rfl) (Steps.refl _) (argsL := [(.int (ofNat (at_ + 1)))]) (rest := []) (lenOf pd_38 rfl) rfl (by show 2 * 0 + _ ≤ _; exact Nat.le_of_eq rfl) (d56 hby 21) (fun _ _ => ⟨rfl, eq21, (by decide : 1 + 0 ≤ _), (by decide : 4 + 0 ≤ _)⟩)
 dsimp only [Pt.U, Pt.locs, Pt.cells, Pt.slots] at X24 l24 y24 z24 st24 hQ24
 subst l24 y24 z24
 obtain ⟨rfl, N24q, eq24⟩ := hQ24
 have N24 := Fr.app N21 N24q
 refine own_step (fun t k => st24.trans k) ?_
 rw [show ((ofNat (own_u ((own_q kk ua ub uc).getD 1 (0 : Int32)))) : Int32) = ((own_q kk ua ub uc).getD 1 (0 : Int32)) from own_uq hk hua hub huc (j := 1) (by decide)]
 refine oP T24 (mkF m 39 #[oR o0, oI (ofNat at_), oI (ofNat ua), oI (ofNat ub), oI (ofNat uc), oI (ofNat kk), oR b1] [(.int 1), (.ref b1), (.int ((own_q kk ua ub uc).getD 1 (0 : Int32)))]) (fun t k => ?_) ?_
 ·skip
  refine XS.aload X24.here hx rfl (d56 hby 22) rfl rfl ?_
  refine XS.iconst X24.here hx rfl (d56 hby 23) ?_
  exact k
 obtain ⟨cl25, Arcl25, qcl25, Scl25, Mcl25, Hcl25, Gcl25⟩ := id V20
 have hincl25 : ¬ ((1 : Int32) < 0 ∨ cl25.slots.size ≤ ((1 : Int32)).toNatClampNeg) := inb_of Scl25 ⟨by decide, by decide⟩
 have hatcl25 : cl25.slots[((1 : Int32)).toNatClampNeg]? = some (.int ((own_q kk ua ub uc).getD 1 (0 : Int32))) := Hcl25.at hincl25 rfl
 refine oP T24 (mkF m 47 #[oR o0, oI (ofNat at_), oI (ofNat ua), oI (ofNat ub), oI (ofNat uc), oI (ofNat kk), oR b1] [(.int ((ofNat at_) + (2 : Int32))), (.ref o0)]) (fun t k => ?_) ?_
 ·skip
  refine X24.caload hx (j := (1 : Int32)) (v := (.int ((own_q kk ua ub uc).getD 1 (0 : Int32)))) (by rw [eq24]; exact Arcl25.1) (State.isArrayOf_alike hZ.alike Arcl25.2.1) Arcl25.2.2 hincl25 hatcl25 (g := (mkF m 39 #[oR o0, oI (ofNat at_), oI (ofNat ua), oI (ofNat ub), oI (ofNat uc), oI (ofNat kk), oR b1] [(.int 1), (.ref b1), (.int ((own_q kk ua ub uc).getD 1 (0 : Int32)))])) rfl rfl (d56 hby 24) _ ?_
  refine XS.icmpNo X24.here hx rfl (d56 hby 25) rfl (teq rfl).2 ?_
  refine XS.aloadN X24.here hx rfl (d56 hby 26) rfl rfl ?_
  refine XS.iloadN X24.here hx rfl (d56 hby 27) rfl ?_
  refine XS.iconst X24.here hx rfl (d56 hby 28) ?_
  refine XS.iadd X24.here hx rfl (d56 hby 29) rfl ?_
  exact k
 rw [show (((ofNat at_) + (2 : Int32)) : Int32) = (ofNat (at_ + 2)) from own_add at_ 2]
 obtain ⟨cq27, kq27, q27a, q27b, q27c⟩ := isOf hZ eq24 A14
 obtain ⟨_, _, ⟨T27, L27, k27, n27⟩, -, X27, ⟨Lc27, hQ27, l27, y27, z27⟩, st27⟩ := X24.virtualBack hx (y := yM50) (z := yM50) hown (mvT hZ (own_w hw 272)) (mvT hZ (own_w hw 273)) (notFace_of_selects (args := #[]) (mvT hZ (own_w hw 275))) (mvT hZ (own_w hw 275)) (mvT hZ (own_w hw 274)) (by decide) (backOf (W := 0) (rm52 l Z a0 hw [] o0 (at_ + 2) cs fm t k n vs ((own_q kk ua ub uc).getD 2 (0 : Int32)) T11.heap n0 Z18 O17 S_cs hcs S_fm hfm A14 F12 F13 V16 (by omega) hn (hq 2 (by decide))) hZ (own_w hw 276) (own_w hw 3) (by decide) (by decide)) q27a q27c (g := (mkF m 47 #[oR o0, oI (ofNat at_), oI (ofNat ua), oI (ofNat ub), oI (ofNat uc), oI (ofNat kk), oR b1] [(.int (ofNat (at_ + 2))), (.ref o0)])) rfl (by rw [hml]; rfl) (Steps.refl _) (argsL := [(.int (ofNat (at_ + 2)))]) (rest := []) (lenOf pd_38 rfl) rfl (by show 2 * 0 + _ ≤ _; exact Nat.le_of_eq rfl) (d56 hby 30) (fun _ _ => ⟨rfl, eq24, (by decide : 1 + 0 ≤ _), (by decide : 4 + 0 ≤ _)⟩)
 dsimp only [Pt.U, Pt.locs, Pt.cells, Pt.slots] at X27 l27 y27 z27 st27 hQ27
 subst l27 y27 z27
 obtain ⟨rfl, N27q, eq27⟩ := hQ27
 have N27 := Fr.app N24 N27q
 refine own_step (fun t k => st27.trans k) ?_
 rw [show ((ofNat (own_u ((own_q kk ua ub uc).getD 2 (0 : Int32)))) : Int32) = ((own_q kk ua ub uc).getD 2 (0 : Int32)) from own_uq hk hua hub huc (j := 2) (by decide)]
 refine oP T27 (mkF m 53 #[oR o0, oI (ofNat at_), oI (ofNat ua), oI (ofNat ub), oI (ofNat uc), oI (ofNat kk), oR b1] [(.int 2), (.ref b1), (.int ((own_q kk ua ub uc).getD 2 (0 : Int32)))]) (fun t k => ?_) ?_
 ·skip
  refine XS.aload X27.here hx rfl (d56 hby 31) rfl rfl ?_
  refine XS.iconst X27.here hx rfl (d56 hby 32) ?_
  exact k
 obtain ⟨cl28, Arcl28, qcl28, Scl28, Mcl28, Hcl28, Gcl28⟩ := id V20
 have hincl28 : ¬ ((2 : Int32) < 0 ∨ cl28.slots.size ≤ ((2 : Int32)).toNatClampNeg) := inb_of Scl28 ⟨by decide, by decide⟩
 have hatcl28 : cl28.slots[((2 : Int32)).toNatClampNeg]? = some (.int ((own_q kk ua ub uc).getD 2 (0 : Int32))) := Hcl28.at hincl28 rfl
 refine oP T27 (mkF m 61 #[oR o0, oI (ofNat at_), oI (ofNat ua), oI (ofNat ub), oI (ofNat uc), oI (ofNat kk), oR b1] [(.int ((ofNat at_) + (3 : Int32))), (.ref o0)]) (fun t k => ?_) ?_
 ·skip
  refine X27.caload hx (j := (2 : Int32)) (v := (.int ((own_q kk ua ub uc).getD 2 (0 : Int32)))) (by rw [eq27]; exact Arcl28.1) (State.isArrayOf_alike hZ.alike Arcl28.2.1) Arcl28.2.2 hincl28 hatcl28 (g := (mkF m 53 #[oR o0, oI (ofNat at_), oI (ofNat ua), oI (ofNat ub), oI (ofNat uc), oI (ofNat kk), oR b1] [(.int 2), (.ref b1), (.int ((own_q kk ua ub uc).getD 2 (0 : Int32)))])) rfl rfl (d56 hby 33) _ ?_
  refine XS.icmpNo X27.here hx rfl (d56 hby 34) rfl (teq rfl).2 ?_
  refine XS.aloadN X27.here hx rfl (d56 hby 35) rfl rfl ?_
  refine XS.iloadN X27.here hx rfl (d56 hby 36) rfl ?_
  refine XS.iconst X27.here hx rfl (d56 hby 37) ?_
  refine XS.iadd X27.here hx rfl (d56 hby 38) rfl ?_
  exact k
 rw [show (((ofNat at_) + (3 : Int32)) : Int32) = (ofNat (at_ + 3)) from own_add at_ 3]
 obtain ⟨cq30, kq30, q30a, q30b, q30c⟩ := isOf hZ eq27 A14
 obtain ⟨_, _, ⟨T30, L30, k30, n30⟩, -, X30, ⟨Lc30, hQ30, l30, y30, z30⟩, st30⟩ := X27.virtualBack hx (y := yM50) (z := yM50) hown (mvT hZ (own_w hw 272)) (mvT hZ (own_w hw 273)) (notFace_of_selects (args := #[]) (mvT hZ (own_w hw 275))) (mvT hZ (own_w hw 275)) (mvT hZ (own_w hw 274)) (by decide) (backOf (W := 0) (rm52 l Z a0 hw [] o0 (at_ + 3) cs fm t k n vs ((own_q kk ua ub uc).getD 3 (0 : Int32)) T11.heap n0 Z18 O17 S_cs hcs S_fm hfm A14 F12 F13 V16 (by omega) hn (hq 3 (by decide))) hZ (own_w hw 276) (own_w hw 3) (by decide) (by decide)) q30a q30c (g := (mkF m 61 #[oR o0, oI (ofNat at_), oI (ofNat ua), oI (ofNat ub), oI (ofNat uc), oI (ofNat kk), oR b1] [(.int (ofNat (at_ + 3))), (.ref o0)])) rfl (by rw [hml]; rfl) (Steps.refl _) (argsL := [(.int (ofNat (at_ + 3)))]) (rest := []) (lenOf pd_38 rfl) rfl (by show 2 * 0 + _ ≤ _; exact Nat.le_of_eq rfl) (d56 hby 39) (fun _ _ => ⟨rfl, eq27, (by decide : 1 + 0 ≤ _), (by decide : 4 + 0 ≤ _)⟩)
 dsimp only [Pt.U, Pt.locs, Pt.cells, Pt.slots] at X30 l30 y30 z30 st30 hQ30
 subst l30 y30 z30
 obtain ⟨rfl, N30q, eq30⟩ := hQ30
 have N30 := Fr.app N27 N30q
 refine own_step (fun t k => st30.trans k) ?_
 rw [show ((ofNat (own_u ((own_q kk ua ub uc).getD 3 (0 : Int32)))) : Int32) = ((own_q kk ua ub uc).getD 3 (0 : Int32)) from own_uq hk hua hub huc (j := 3) (by decide)]
 refine oP T30 (mkF m 67 #[oR o0, oI (ofNat at_), oI (ofNat ua), oI (ofNat ub), oI (ofNat uc), oI (ofNat kk), oR b1] [(.int 3), (.ref b1), (.int ((own_q kk ua ub uc).getD 3 (0 : Int32)))]) (fun t k => ?_) ?_
 ·skip
  refine XS.aload X30.here hx rfl (d56 hby 40) rfl rfl ?_
  refine XS.iconst X30.here hx rfl (d56 hby 41) ?_
  exact k
 obtain ⟨cl31, Arcl31, qcl31, Scl31, Mcl31, Hcl31, Gcl31⟩ := id V20
 have hincl31 : ¬ ((3 : Int32) < 0 ∨ cl31.slots.size ≤ ((3 : Int32)).toNatClampNeg) := inb_of Scl31 ⟨by decide, by decide⟩
 have hatcl31 : cl31.slots[((3 : Int32)).toNatClampNeg]? = some (.int ((own_q kk ua ub uc).getD 3 (0 : Int32))) := Hcl31.at hincl31 rfl
 refine oP T30 (mkF m 76 #[oR o0, oI (ofNat at_), oI (ofNat ua), oI (ofNat ub), oI (ofNat uc), oI (ofNat kk), oR b1] [(.int 1)]) (fun t k => ?_) ?_
 ·skip
  refine X30.caload hx (j := (3 : Int32)) (v := (.int ((own_q kk ua ub uc).getD 3 (0 : Int32)))) (by rw [eq30]; exact Arcl31.1) (State.isArrayOf_alike hZ.alike Arcl31.2.1) Arcl31.2.2 hincl31 hatcl31 (g := (mkF m 67 #[oR o0, oI (ofNat at_), oI (ofNat ua), oI (ofNat ub), oI (ofNat uc), oI (ofNat kk), oR b1] [(.int 3), (.ref b1), (.int ((own_q kk ua ub uc).getD 3 (0 : Int32)))])) rfl rfl (d56 hby 42) _ ?_
  refine XS.icmpNo X30.here hx rfl (d56 hby 43) rfl (teq rfl).2 ?_
  refine XS.iconst X30.here hx rfl (d56 hby 44) ?_
  refine XS.goto X30.here hx rfl (pc0 := 72) (pc' := 76) rfl (d56 hby 45) (by decide) (by decide) ?_
  exact k
 refine own_retN X30 hx (t := .boolean) Bd.returns (by simp) (d56 hby 47) (BodyLoose.notSynchronized Bd) (by decide) (by decide) ?_
 rw [show T30.heap = T11.heap from eq30]
 exact ⟨rfl, N30, K19⟩
theorem own_ql {kk : Nat} (a b c : Nat) (hk : kk = 1 ∨ kk = 2 ∨ kk = 3) : (own_q kk a b c).length = 4 := by rcases hk with rfl | rfl | rfl <;> rfl
theorem own_bsl (cs : List Int32) : (own_bs cs).length = cs.length := by simp [own_bs]
theorem own_xset (xs : List Int32) (i : Nat) (x : Int32) : own_xs (xs.set i x) = (own_xs xs).set i (.int x) := by simp [own_xs, List.map_set]
theorem own_xrep (n : Nat) : own_xs (List.replicate n (0 : Int32)) = List.replicate n (.int 0) := by simp [own_xs]
set_option maxRecDepth 65536 in
set_option maxHeartbeats 40000000 in
theorem own_long {xs : List Int32} {x y : Int32} {vs : List Value} {kk c0 c1 u0 u1 u2 u3 u4 u5 v0 v1 v2 : Nat} (hkk : kk < 4) (hxl : xs.length = 48 + kk) (hx : own_u x = c0) (hy : own_u y = c1) (U0 : own_ug xs 0 = u0) (U1 : own_ug xs 1 = u1) (U2 : own_ug xs 2 = u2) (Z3 : own_ug xs 3 = 0) (Z44 : own_ug xs 44 = 0) (U45 : own_ug xs 45 = u3) (U46 : own_ug xs 46 = u4) (U47 : own_ug xs 47 = u5) (W48 : 0 < kk → own_ug xs 48 = v0) (W49 : 1 < kk → own_ug xs 49 = v1) (W50 : 2 < kk → own_ug xs 50 = v2) (hvs : vs = own_pem (own_xs [x, y]) (own_en xs (List.replicate (own_D xs.length) (.int 0)) xs.length)) :
  ∃ len, vs.length = len ∧ 101 ≤ len ∧ len ≤ 106 ∧ own_pick (ofNat kk = (0 : Int32)) (101 : Int32) (106 : Int32) = ofNat len ∧ own_at vs 0 45 ∧ own_at vs 5 66 ∧ own_at vs 10 32 ∧ own_at vs 11 c0 ∧ own_at vs 12 c1 ∧ own_at vs 17 45 ∧ own_at vs 18 10 ∧ (∀ j, j < 4 → vs.getD (19 + j) (.int 0) = .int ((own_q 3 u0 u1 u2).getD j (0 : Int32))) ∧ own_at vs 23 65 ∧ own_at vs 78 65 ∧ (∀ j, j < 4 → vs.getD (79 + j) (.int 0) = .int ((own_q 3 u3 u4 u5).getD j (0 : Int32))) ∧ own_at vs 83 10 ∧ (0 < kk → ∀ j, j < 4 → vs.getD (84 + j) (.int 0) = .int ((own_q kk v0 v1 v2).getD j (0 : Int32))) ∧ own_at vs (len - 18) 10 ∧ own_at vs (len - 17) 45 ∧ own_at vs (len - 12) 69 ∧ own_at vs (len - 9) 32 ∧ own_at vs (len - 8) c0 ∧ own_at vs (len - 7) c1 ∧ own_at vs (len - 2) 45 ∧ own_at vs (len - 1) 10 := by
 subst hx hy U0 U1 U2 U45 U46 U47
 rw [hxl] at hvs
 have j4 : ∀ {P : Nat → Prop}, P 0 → P 1 → P 2 → P 3 → ∀ j, j < 4 → P j := fun a b c d j hj => by
  rcases (show j = 0 ∨ j = 1 ∨ j = 2 ∨ j = 3 by omega) with rfl | rfl | rfl | rfl <;> assumption
 have a3 : own_u (own_sn (own_i0 (own_ug xs 3))) = 65 := by rw [Z3]; rfl
 have a44 : own_u (own_sn (own_i3 (own_ug xs 44))) = 65 := by rw [Z44]; rfl
 rcases (show kk = 0 ∨ kk = 1 ∨ kk = 2 ∨ kk = 3 by omega) with rfl | rfl | rfl | rfl
 ·rw [show own_en xs (List.replicate (own_D (48 + 0)) (.int 0)) (48 + 0) = own_blk xs 16 0 0 (List.replicate 64 (.int 0)) from rfl] at hvs
  simp only [own_pem, own_blk, own_put4, own_t1, own_t2, own_l1, List.replicate, List.set_cons_zero, List.set_cons_succ, own_xs, own_c22, own_c28, own_c30, List.cons_append, List.nil_append, List.map_cons, List.map_nil, Nat.reduceAdd] at hvs
  subst hvs
  refine ⟨101, rfl, by decide, by decide, by decide, ⟨_, rfl, rfl⟩, ⟨_, rfl, rfl⟩, ⟨_, rfl, rfl⟩, ⟨_, rfl, rfl⟩, ⟨_, rfl, rfl⟩, ⟨_, rfl, rfl⟩, ⟨_, rfl, rfl⟩, j4 rfl rfl rfl rfl, ⟨_, rfl, a3⟩, ⟨_, rfl, a44⟩, j4 rfl rfl rfl rfl, ⟨_, rfl, rfl⟩, fun q => absurd q (by decide), ⟨_, rfl, rfl⟩, ⟨_, rfl, rfl⟩, ⟨_, rfl, rfl⟩, ⟨_, rfl, rfl⟩, ⟨_, rfl, rfl⟩, ⟨_, rfl, rfl⟩, ⟨_, rfl, rfl⟩, ⟨_, rfl, rfl⟩⟩
 ·have e0 := W48 (by decide)
  subst e0
  rw [show own_en xs (List.replicate (own_D (48 + 1)) (.int 0)) (48 + 1) = own_t1 xs 48 65 (own_l1 xs (List.replicate 69 (.int 0))) from rfl] at hvs
  simp only [own_pem, own_blk, own_put4, own_t1, own_t2, own_l1, List.replicate, List.set_cons_zero, List.set_cons_succ, own_xs, own_c22, own_c28, own_c30, List.cons_append, List.nil_append, List.map_cons, List.map_nil, Nat.reduceAdd] at hvs
  subst hvs
  refine ⟨106, rfl, by decide, by decide, by decide, ⟨_, rfl, rfl⟩, ⟨_, rfl, rfl⟩, ⟨_, rfl, rfl⟩, ⟨_, rfl, rfl⟩, ⟨_, rfl, rfl⟩, ⟨_, rfl, rfl⟩, ⟨_, rfl, rfl⟩, j4 rfl rfl rfl rfl, ⟨_, rfl, a3⟩, ⟨_, rfl, a44⟩, j4 rfl rfl rfl rfl, ⟨_, rfl, rfl⟩, fun _ => j4 rfl rfl rfl rfl, ⟨_, rfl, rfl⟩, ⟨_, rfl, rfl⟩, ⟨_, rfl, rfl⟩, ⟨_, rfl, rfl⟩, ⟨_, rfl, rfl⟩, ⟨_, rfl, rfl⟩, ⟨_, rfl, rfl⟩, ⟨_, rfl, rfl⟩⟩
 ·have e0 := W48 (by decide)
  subst e0
  have e1 := W49 (by decide)
  subst e1
  rw [show own_en xs (List.replicate (own_D (48 + 2)) (.int 0)) (48 + 2) = own_t2 xs 48 65 (own_l1 xs (List.replicate 69 (.int 0))) from rfl] at hvs
  simp only [own_pem, own_blk, own_put4, own_t1, own_t2, own_l1, List.replicate, List.set_cons_zero, List.set_cons_succ, own_xs, own_c22, own_c28, own_c30, List.cons_append, List.nil_append, List.map_cons, List.map_nil, Nat.reduceAdd] at hvs
  subst hvs
  refine ⟨106, rfl, by decide, by decide, by decide, ⟨_, rfl, rfl⟩, ⟨_, rfl, rfl⟩, ⟨_, rfl, rfl⟩, ⟨_, rfl, rfl⟩, ⟨_, rfl, rfl⟩, ⟨_, rfl, rfl⟩, ⟨_, rfl, rfl⟩, j4 rfl rfl rfl rfl, ⟨_, rfl, a3⟩, ⟨_, rfl, a44⟩, j4 rfl rfl rfl rfl, ⟨_, rfl, rfl⟩, fun _ => j4 rfl rfl rfl rfl, ⟨_, rfl, rfl⟩, ⟨_, rfl, rfl⟩, ⟨_, rfl, rfl⟩, ⟨_, rfl, rfl⟩, ⟨_, rfl, rfl⟩, ⟨_, rfl, rfl⟩, ⟨_, rfl, rfl⟩, ⟨_, rfl, rfl⟩⟩
 ·have e0 := W48 (by decide)
  subst e0
  have e1 := W49 (by decide)
  subst e1
  have e2 := W50 (by decide)
  subst e2
  rw [show own_en xs (List.replicate (own_D (48 + 3)) (.int 0)) (48 + 3) = own_blk xs 1 48 65 (own_l1 xs (List.replicate 69 (.int 0))) from rfl] at hvs
  simp only [own_pem, own_blk, own_put4, own_t1, own_t2, own_l1, List.replicate, List.set_cons_zero, List.set_cons_succ, own_xs, own_c22, own_c28, own_c30, List.cons_append, List.nil_append, List.map_cons, List.map_nil, Nat.reduceAdd] at hvs
  subst hvs
  refine ⟨106, rfl, by decide, by decide, by decide, ⟨_, rfl, rfl⟩, ⟨_, rfl, rfl⟩, ⟨_, rfl, rfl⟩, ⟨_, rfl, rfl⟩, ⟨_, rfl, rfl⟩, ⟨_, rfl, rfl⟩, ⟨_, rfl, rfl⟩, j4 rfl rfl rfl rfl, ⟨_, rfl, a3⟩, ⟨_, rfl, a44⟩, j4 rfl rfl rfl rfl, ⟨_, rfl, rfl⟩, fun _ => j4 rfl rfl rfl rfl, ⟨_, rfl, rfl⟩, ⟨_, rfl, rfl⟩, ⟨_, rfl, rfl⟩, ⟨_, rfl, rfl⟩, ⟨_, rfl, rfl⟩, ⟨_, rfl, rfl⟩, ⟨_, rfl, rfl⟩, ⟨_, rfl, rfl⟩⟩
theorem pn_rm0 : plainName "com/example/bevaka/bevaka/store/PemEncodePinLaw" = true := by first | (simp [plainName, overriddenIn]; done) | decide +kernel
theorem ef_rm0 (m : MethodId) (p0 : Int32) (p1 : Int32) (q2 : Int64) (p3 : Int32) : entryFrame m #[(.int p0), (.int p1), (.long q2), (.int p3)] maxLocals = mkF m 0 #[.val (.int p0), .val (.int p1), .val (.long q2), .second, .val (.int p3), .unset, .unset, .unset, .unset, .unset, .unset, .unset, .unset, .unset, .unset, .unset, .unset, .unset, .unset, .unset, .unset, .unset, .unset] [] := by first | (simp [entryFrame, mkF, argsToLocals, Value.category, maxLocals]; done) | rfl
def rm0_Q (Z : State) (p0 : Int32) (p1 : Int32) (q2 : Int64) (p3 : Int32) (cs : Int32) (fm : Value) (tb : Addr) (kt : ClassId) (fb : Addr) (h0 : Heap) (n0 : Nat) (v : Option Value) (h : Heap) (L : List Loc) : Prop := v = some (.int 1) ∧ Fr n0 L
set_option maxRecDepth 65536 in
set_option maxHeartbeats 40000000 in
theorem rm0 (l : Launch) (Z : State) (a0 : Array Value) (hw : ∀ d ∈ tables_1, d.before a0 Z = true) (ws : List Jvm.Cond) (p0 : Int32) (p1 : Int32) (q2 : Int64) (p3 : Int32) (cs : Int32) (fm : Value) (tb : Addr) (kt : ClassId) (fb : Addr) (h0 : Heap) (n0 : Nat) (Z0 : n0 ≤ h0.size) (O0 : Old Z n0 h0) (S_cs : Sta Z Z.heap "java/lang/String" "COMPACT_STRINGS" "Z" (.int cs)) (hcs : ¬ cs = (0 : Int32)) (S_fm : Sta Z Z.heap "jdk/internal/util/Preconditions" "SIOOBE_FORMATTER" "Ljava/util/function/BiFunction;" fm) (hfm : fm = .null ∨ ∃ f : Addr, fm = .ref f) (S_tb : Sta Z Z.heap "java/util/Base64$Encoder" "toBase64" "[C" (.ref tb)) (V_tb : Arv Z Z.heap tb kt .char (64 : Int32) own_tbl (.int 0)) (S_fb : Sta Z Z.heap "java/util/Base64$Decoder" "fromBase64" "[I" (.ref fb)) (V_fb : ∃ cl, Arr Z Z.heap fb cl .int ∧ ¬ ((10 : Int32) < 0 ∨ cl.slots.size ≤ (10 : Int32).toNatClampNeg) ∧ cl.slots[(10 : Int32).toNatClampNeg]? = some (.int (-1 : Int32))) :
  MetFree l x (head1 (Jvm.Cond.code x code maxLocals ret :: ws) room_1) (fun a U => a = #[(.int p0), (.int p1), (.long q2), (.int p3)] ∧ Z.Warmed39 U.vm ∧ U.heap = h0 ∧ CHv Z own_EL U.vm h0 ∧ ∀ x ∈ ([] : List Addr), Safe Z own_EL U.vm h0 x) (fun _ _ _ _ _ => True) (fun _ U o U' => ∃ v L, o = .returned v ∧ rm0_Q Z p0 p1 q2 p3 cs fm tb kt fb h0 n0 v U'.heap L ∧ CHr Z own_EL U.vm U.heap U'.vm U'.heap ∧ ReturnedEndW U o U' L room_1.cells room_1.slots) := by
 refine MetFree.of_bodySF (plainFor_of_name pn_rm0) hisR ?_
 intro p e s m args below meth c s₁ Bd hml0 hP hK
 obtain ⟨rfl, hZ, hh, hCH, hSS⟩ := hP
 have hx := Bd.exec
 have hby := Bd.bytes
 have hml : c.maxLocals = 23 := hml0
 have hown : s.vm.findClass "com/example/bevaka/bevaka/store/PemEncodePinLaw" = some m.cls := findClass_of_methodNamed Bd.named
 have hnm := (name_of_methodNamed Bd.named Bd.method).1
 have X0 : Stand p l e room_1 s m #[(.int p0), (.int p1), (.long q2), (.int p3)] below meth c s₁ [] 0 0 := Stand.of_body Bd
 have e0 : s₁.heap = h0 := by rw [← hh, Bd.state]; rfl
 have N0 := Fr.nil n0
 have C0 := CHr.refl hCH
 have hEL := own_ew hw
 refine own_enterH (Q0 := rm0_Q Z p0 p1 q2 p3 cs fm tb kt fb h0 n0) hh (ef_rm0 m p0 p1 q2 p3) ?_
 show own_RunH p e below s _ _ _ s₁ (mkF m 0 #[.val (.int p0), .val (.int p1), .val (.long q2), .second, .val (.int p3), .unset, .unset, .unset, .unset, .unset, .unset, .unset, .unset, .unset, .unset, .unset, .unset, .unset, .unset, .unset, .unset, .unset, .unset] [])
 have tS0 : ∀  (c0 c1 : Nat) (r8 lb b : Addr) (kl kb : ClassId) (x0 x1 x2 x3 x4 x7 x9 x10 x11 x12 x13 x14 x15 x16 x17 : Slot) (T : State) (hp : Heap) (lc : List Loc) (xs : List Int32) (Vb : Arv Z hp b kb .byte (ofNat xs.length) (own_xs xs) (.int 0)) (hc0 : c0 < 256) (hc1 : c1 < 256) (hxl : xs.length = 0) (X : Stand p l e room_1 s m #[(.int p0), (.int p1), (.long q2), (.int p3)] below meth c T lc 4 73) (eT : T.heap = hp) (Nl : Fr n0 lc) (Zl : n0 ≤ hp.size) (Ol : Old Z n0 hp) (Cl : CHr Z own_EL s.vm h0 s.vm hp) (Es : Exa Z hp r8 "java/lang/String") (Fc : Fld Z hp r8 "java/lang/String" "coder" "B" (.int 0)) (Fv : Fld Z hp r8 "java/lang/String" "value" "[B" (.ref lb)) (Vl : Arv Z hp lb kl .byte (ofNat 2) (own_xs (own_bs [ofNat c0, ofNat c1])) (.int 0)), own_RunH p e below s (fun v vm h L => rm0_Q Z p0 p1 q2 p3 cs fm tb kt fb h0 n0 v h L ∧ CHr Z own_EL s.vm h0 vm h) room_1.cells room_1.slots T (mkF m 195 #[x0, x1, x2, x3, x4, oI (ofNat c0), oI (ofNat c1), x7, oR r8, x9, x10, x11, x12, x13, x14, x15, x16, x17, oI 0, oR b, .unset, .unset, .unset] []) := by
  intro  c0 c1 r8 lb b kl kb x0 x1 x2 x3 x4 x7 x9 x10 x11 x12 x13 x14 x15 x16 x17 T hp lc xs Vb hc0 hc1 hxl X eT Nl Zl Ol Cl Es Fc Fv Vl
  refine oPH T (mkF m 199 #[x0, x1, x2, x3, x4, oI (ofNat c0), oI (ofNat c1), x7, oR r8, x9, x10, x11, x12, x13, x14, x15, x16, x17, oI 0, oR b, .unset, .unset, .unset] [(.ref b), (.ref r8)]) (fun t k => ?_) ?_
  ·skip
   refine XS.aload X.here hx rfl (hb hby at_195) rfl rfl ?_
   refine XS.aload X.here hx rfl (hb hby at_197) rfl rfl ?_
   exact k
  obtain ⟨_, _, ⟨T277, L277, k277, n277⟩, -, Xq277, Sq277, gq277, ⟨Lc277, hQ277, l277, y277, z277, Cq277⟩, st277⟩ := callSS (show Stand _ _ _ _ (s.setVm s.vm) _ _ _ _ _ _ _ _ _ from X) hx (y := yM38) hown (mvT hZ (own_w hw 31)) (mvT hZ (own_w hw 32)) (mvT hZ (own_w hw 33)) (mvT hZ (own_w hw 34)) (by decide) (own_backH (s := s) (vm0 := s.vm) (EL := own_EL) (xs := []) (W := 0) (rm7 l Z a0 hw [] r8 b cs fm tb kt fb lb kl (own_xs (own_bs [ofNat c0, ofNat c1])) kb xs hp n0 Zl Ol S_cs hcs S_fm hfm S_tb V_tb S_fb V_fb Es Fc Fv Vl Vb rfl (by rw [hxl]; unfold own_ok; omega)) hZ (own_w hw 34) (own_w hw 33) (by decide) (by decide) hEL Cl.1 all0) (g := (mkF m 199 #[x0, x1, x2, x3, x4, oI (ofNat c0), oI (ofNat c1), x7, oR r8, x9, x10, x11, x12, x13, x14, x15, x16, x17, oI 0, oR b, .unset, .unset, .unset] [(.ref b), (.ref r8)])) rfl (by rw [hml]; rfl) (argsL := [(.ref r8), (.ref b)]) (rest := []) (lenOf pd_41 rfl) rfl (by show 2 * 0 + _ ≤ _; exact Nat.le_of_eq rfl) (hb hby at_199) (fun _ _ => ⟨rfl, eT, (by decide : 4 + 27 ≤ _), (by decide : 73 + 4346 ≤ _)⟩)
  dsimp only [Pt.U, Pt.locs, Pt.cells, Pt.slots] at Xq277 Sq277 gq277 l277 y277 z277 st277 hQ277 Cq277
  subst l277 y277 z277
  obtain ⟨r, t, kr, rfl, N277q, Kq277, szr, szt, Er, Cr, Vr, Vt⟩ := hQ277
  have N277 := Fr.app Nl N277q
  obtain ⟨X277, hS277, hZ, hown⟩ := rebS (vm0 := s.vm) ((State.WarmedH.refl s).since 0) (by rw [eT]; exact (Nat.zero_le _)) Xq277 Sq277 gq277 hZ hown
  have C278 := Cl.trans Cq277
  refine own_stepH (fun t k => st277.trans k) ?_
  have O279 := Ol.keep Kq277 all0
  have Z280 := Nat.le_trans Zl Kq277.1
  have Vt2 : Arv Z T277.heap t kr .byte (ofNat (own_bs (own_cs (ofNat c0) (ofNat c1) [])).length) (own_xs (own_bs (own_cs (ofNat c0) (ofNat c1) []))) (.int 0) := by have q := Vt; rw [own_short0 hxl, own_xsl] at q; exact q
  refine oPH T277 (mkF m 223 #[x0, x1, x2, x3, x4, oI (ofNat c0), oI (ofNat c1), x7, oR r8, x9, x10, x11, x12, x13, x14, x15, x16, x17, oI 0, oR b, oR r, oI 0, .unset] [(.int 37)]) (fun t k => ?_) ?_
  ·skip
   refine XS.astore X277.here hx rfl (hb hby at_202) rfl rfl (l' := #[x0, x1, x2, x3, x4, oI (ofNat c0), oI (ofNat c1), x7, oR r8, x9, x10, x11, x12, x13, x14, x15, x16, x17, oI 0, oR b, oR r, .unset, .unset]) rfl ?_
   refine XS.iload X277.here hx rfl (hb hby at_204) rfl ?_
   refine XS.ifNo X277.here hx rfl (hb hby at_206) rfl ((if0 _ _).trans (teq rfl).2) ?_
   refine XS.iconst X277.here hx rfl (hb hby at_209) ?_
   refine XS.goto X277.here hx rfl (pc0 := 210) (pc' := 214) rfl (hb hby at_210) (by decide) (by decide) ?_
   refine XS.istore X277.here hx rfl (hb hby at_214) rfl (l' := #[x0, x1, x2, x3, x4, oI (ofNat c0), oI (ofNat c1), x7, oR r8, x9, x10, x11, x12, x13, x14, x15, x16, x17, oI 0, oR b, oR r, oI 0, .unset]) rfl ?_
   refine XS.iload X277.here hx rfl (hb hby at_216) rfl ?_
   refine XS.ifNo X277.here hx rfl (hb hby at_218) rfl ((if0 _ _).trans (teq rfl).2) ?_
   refine XS.bipush X277.here hx rfl (hb hby at_221) ?_
   exact k
  obtain ⟨T283, h283, k283, X283, e283, E283, B283, A283, st283⟩ := newPE X277 hx hZ (own_w hw 0) rfl (g := (mkF m 223 #[x0, x1, x2, x3, x4, oI (ofNat c0), oI (ofNat c1), x7, oR r8, x9, x10, x11, x12, x13, x14, x15, x16, x17, oI 0, oR b, oR r, oI 0, .unset] [(.int (ofNat 37))])) rfl (hb hby at_223) rfl (by decide) (cap := 37) (by decide) (by decide) (by decide) (by decide) (ad := "[C") (by decide)
  obtain ⟨b283, g283⟩ : ∃ z, z = T277.heap.size := ⟨_, rfl⟩
  have ne284 : r ≠ b283 := Nat.ne_of_lt (Nat.lt_of_lt_of_le Cr.lt (Nat.le_of_eq g283.symm))
  have ne285 : t ≠ b283 := Nat.ne_of_lt (Nat.lt_of_lt_of_le Vt2.lt (Nat.le_of_eq g283.symm))
  have g_b283 : n0 ≤ b283 := Nat.le_trans Z280 (Nat.le_of_eq g283.symm)
  rw [← g283] at A283 B283 st283
  have Sn283 : Safe Z own_EL T277.vm T277.heap b283 := Safe.new (Nat.le_of_eq g283.symm)
  have F286 := Cr.ext E283
  have F287 := Vr.ext E283
  have A288 := Er.ext E283
  have V289 := Vt2.ext E283
  have O290 := O279.ext E283
  have Sf291 := Safe.ext E283 C278.1 Sn283
  have C292 := C278.trans (CHr.ext E283 C278.1)
  have V293 : Arv Z h283 b283 k283 .char (ofNat 37) [] (.int 0) := Arv.new B283 (by decide)
  have Z294 := Nat.le_trans Z280 E283.1
  have hk295 := Nat.le_trans (Nat.le_refl _) E283.1
  refine own_stepH st283 ?_
  have V296 : Arv Z h283 b283 k283 .char (ofNat 37) (List.replicate 37 (.int 0)) (.int 0) := V293.pad (pad_rep [] (.int 0) 37)
  refine oPH T283 (mkF m 242 #[x0, x1, x2, x3, x4, oI (ofNat c0), oI (ofNat c1), x7, oR r8, x9, x10, x11, x12, x13, x14, x15, x16, x17, oI 0, oR b, oR r, oI 0, oR b283] [(.int 0), (.int (ofNat c1)), (.int (ofNat c0)), (.ref b283)]) (fun t k => ?_) ?_
  ·skip
   refine XS.goto X283.here hx rfl (pc0 := 225) (pc' := 232) rfl (hb hby at_225) (by decide) (by decide) ?_
   refine XS.astore X283.here hx rfl (hb hby at_232) rfl rfl (l' := #[x0, x1, x2, x3, x4, oI (ofNat c0), oI (ofNat c1), x7, oR r8, x9, x10, x11, x12, x13, x14, x15, x16, x17, oI 0, oR b, oR r, oI 0, oR b283]) rfl ?_
   refine XS.aload X283.here hx rfl (hb hby at_234) rfl rfl ?_
   refine XS.iload X283.here hx rfl (hb hby at_236) rfl ?_
   refine XS.iload X283.here hx rfl (hb hby at_238) rfl ?_
   refine XS.iload X283.here hx rfl (hb hby at_240) rfl ?_
   exact k
  obtain ⟨_, _, ⟨T297, L297, k297, n297⟩, -, X297, ⟨Lc297, hQ297, l297, y297, z297⟩, st297⟩ := Jvm.LawKit.callS X283 hx (y := yM53) hown (mvT hZ (own_w hw 233)) (mvT hZ (own_w hw 234)) (mvT hZ (own_w hw 235)) (mvT hZ (own_w hw 236)) (by decide) (backOf (W := 0) (rm45 l Z a0 hw [] b283 c0 c1 0 k283 _ h283 n0 Z294 V296 g_b283 (by simp) hc0 hc1 (by decide)) hZ (own_w hw 236) (own_w hw 235) (by decide) (by decide)) (g := (mkF m 242 #[x0, x1, x2, x3, x4, oI (ofNat c0), oI (ofNat c1), x7, oR r8, x9, x10, x11, x12, x13, x14, x15, x16, x17, oI 0, oR b, oR r, oI 0, oR b283] [(.int (ofNat 0)), (.int (ofNat c1)), (.int (ofNat c0)), (.ref b283)])) rfl (by rw [hml]; rfl) (argsL := [(.ref b283), (.int (ofNat c0)), (.int (ofNat c1)), (.int (ofNat 0))]) (rest := []) (lenOf pd_42 rfl) rfl (by show 2 * 0 + _ ≤ _; exact Nat.le_of_eq rfl) (hb hby at_242) (fun _ _ => ⟨rfl, e283, (by decide : 32 + 0 ≤ _), (by decide : 4456 + 0 ≤ _)⟩)
  dsimp only [Pt.U, Pt.locs, Pt.cells, Pt.slots] at X297 l297 y297 z297 st297 hQ297
  subst l297 y297 z297
  obtain ⟨rfl, N297q, Kq297, Vq297⟩ := hQ297
  have N297 := Fr.app N277 N297q
  refine own_stepH st297 ?_
  have F298 := F286.keep Kq297 (ninS ne284 nin0)
  have F299 := F287.keep Kq297 (ninS ne284 nin0)
  have A300 := A288.keep Kq297
  have A301 := A283.keep Kq297
  have V302 := V289.keep Kq297 (ninS ne285 nin0)
  have O303 := O290.keep Kq297 (allS g_b283 all0)
  have Z304 := Nat.le_trans Z294 Kq297.1
  have hk305 := Nat.le_trans hk295 Kq297.1
  have C307 := C292.trans (CHr.keep Kq297 (allS Sf291 all0) C292.1)
  have V308 : Arv Z T297.heap b283 k283 .char (ofNat (own_cs (ofNat c0) (ofNat c1) []).length) (own_xs (own_cs (ofNat c0) (ofNat c1) [])) (.int 0) := by have q := Vq297; rw [own_frm0] at q; exact q
  refine oPH T297 (mkF m 272 #[x0, x1, x2, x3, x4, oI (ofNat c0), oI (ofNat c1), x7, oR r8, x9, x10, x11, x12, x13, x14, x15, x16, x17, oI 0, oR b, oR r, oI 0, oR b283] [(.ref r)]) (fun t k => ?_) ?_
  ·skip
   refine XS.iload X297.here hx rfl (hb hby at_245) rfl ?_
   refine XS.ifYes X297.here hx rfl (pc0 := 247) (pc' := 265) rfl (hb hby at_247) rfl ((if0 _ _).trans (flt (by decide)).2.2.2) (by decide) (by decide) ?_
   refine XS.aload X297.here hx rfl (hb hby at_265) rfl rfl ?_
   refine XS.ifnullNo X297.here hx rfl (hb hby at_267) rfl ?_
   refine XS.aload X297.here hx rfl (hb hby at_270) rfl rfl ?_
   exact k
  obtain ⟨T310, h310, X310, e310, E310, A310, D310, -, st310⟩ := newO X297 hx hZ hown (own_w hw 1) (own_w hw 2) (own_w hw 3) rfl (g := (mkF m 272 #[x0, x1, x2, x3, x4, oI (ofNat c0), oI (ofNat c1), x7, oR r8, x9, x10, x11, x12, x13, x14, x15, x16, x17, oI 0, oR b, oR r, oI 0, oR b283] [(.ref r)])) rfl (hb hby at_272) (by decide) (by decide)
  obtain ⟨b310, g310⟩ : ∃ z, z = T297.heap.size := ⟨_, rfl⟩
  have ne311 : r ≠ b310 := Nat.ne_of_lt (Nat.lt_of_lt_of_le F298.lt (Nat.le_of_eq g310.symm))
  have ne312 : b283 ≠ b310 := Nat.ne_of_lt (Nat.lt_of_lt_of_le A301.lt (Nat.le_of_eq g310.symm))
  have ne313 : t ≠ b310 := Nat.ne_of_lt (Nat.lt_of_lt_of_le V302.lt (Nat.le_of_eq g310.symm))
  have g_b310 : n0 ≤ b310 := Nat.le_trans Z304 (Nat.le_of_eq g310.symm)
  rw [← g310] at A310 D310 st310
  have Sn310 : Safe Z own_EL T277.vm T297.heap b310 := Safe.new (Nat.le_of_eq g310.symm)
  have F314 := F298.ext E310
  have F315 := F299.ext E310
  have A316 := A300.ext E310
  have V318 := V302.ext E310
  have V319 := V308.ext E310
  have O320 := O303.ext E310
  have Sf322 := Safe.ext E310 C307.1 Sn310
  have C323 := C307.trans (CHr.ext E310 C307.1)
  have F324 : Fld Z h310 b310 "java/lang/String" "coder" "B" (.int 0) := D310 (Or.inr (own_w hw 27)) (ty := .byte) (by decide)
  have F325 : Fld Z h310 b310 "java/lang/String" "value" "[B" .null := D310 (Or.inr (own_w hw 29)) (ty := (.array .byte)) (by decide)
  have Z326 := Nat.le_trans Z304 E310.1
  have hk327 := Nat.le_trans hk305 E310.1
  refine own_stepH st310 ?_
  refine oPH T310 (mkF m 278 #[x0, x1, x2, x3, x4, oI (ofNat c0), oI (ofNat c1), x7, oR r8, x9, x10, x11, x12, x13, x14, x15, x16, x17, oI 0, oR b, oR r, oI 0, oR b283] [(.ref b283), (.ref b310), (.ref b310), (.ref r)]) (fun t k => ?_) ?_
  ·skip
   refine XS.dup X310.here hx rfl (hb hby at_275) rfl rfl ?_
   refine XS.aload X310.here hx rfl (hb hby at_276) rfl rfl ?_
   exact k
  obtain ⟨_, _, ⟨T328, L328, k328, n328⟩, -, X328, ⟨Lc328, hQ328, l328, y328, z328⟩, st328⟩ := X310.specialBack hx (y := yM43) rfl hown (mvT hZ (own_w hw 4)) (mvT hZ (own_w hw 5)) (mvT hZ (own_w hw 6)) (by decide) (backOf (W := 2) (rm1 l Z a0 hw [] b310 b283 (own_cs (ofNat c0) (ofNat c1) []) cs k283 h310 n0 Z326 O320 S_cs hcs A310 F325 F324 g_b310 V319 ne312 (by rw [own_csl]; omega) (by rw [own_csl]; decide) (own_cs8 (own_c8 hc0) (own_c8 hc1) (fun _ q => by cases q))) hZ (own_w hw 6) (own_w hw 3) (by decide) (by decide)) (g := (mkF m 278 #[x0, x1, x2, x3, x4, oI (ofNat c0), oI (ofNat c1), x7, oR r8, x9, x10, x11, x12, x13, x14, x15, x16, x17, oI 0, oR b, oR r, oI 0, oR b283] [(.ref b283), (.ref b310), (.ref b310), (.ref r)])) rfl (by rw [hml]; rfl) (Steps.refl _) (a := b310) (argsL := [(.ref b283)]) (rest := [(.ref b310), (.ref r)]) (lenOf pd_40 rfl) rfl (by show 2 * 0 + _ ≤ _; exact Nat.le_of_eq rfl) (hb hby at_278) (fun _ _ => ⟨rfl, e310, (by decide : 33 + 1 ≤ _), (by decide : 4460 + 64 ≤ _)⟩)
  dsimp only [Pt.U, Pt.locs, Pt.cells, Pt.slots] at X328 l328 y328 z328 st328 hQ328
  subst l328 y328 z328
  obtain ⟨t2, k2, rfl, N328q, Kq328, szt2, E2, C2, F2, V2⟩ := hQ328
  have N328 := Fr.app N297 N328q
  refine own_stepH (fun t k => st328.trans k) ?_
  have F332 := F314.keep Kq328 (ninS ne311 nin0)
  have F333 := F315.keep Kq328 (ninS ne311 nin0)
  have A334 := A316.keep Kq328
  have V336 := V318.keep Kq328 (ninS ne313 nin0)
  have O337 := O320.keep Kq328 (allS g_b310 all0)
  have Z338 := Nat.le_trans Z326 Kq328.1
  have hk339 := Nat.le_trans hk327 Kq328.1
  have C342 := C323.trans (CHr.keep Kq328 (allS Sf322 all0) C323.1)
  have V3 : Arv Z T328.heap t2 k2 .byte (ofNat (own_bs (own_cs (ofNat c0) (ofNat c1) [])).length) (own_xs (own_bs (own_cs (ofNat c0) (ofNat c1) []))) (.int 0) := by rw [own_bsl]; exact V2
  obtain ⟨cq343, kq343, q343a, q343b, q343c⟩ := isOf hZ rfl A334
  obtain ⟨_, _, ⟨T343, L343, k343, n343⟩, -, X343, ⟨Lc343, hQ343, l343, y343, z343⟩, st343⟩ := X328.virtualBack hx (y := yM45) (z := yM45) hown (mvT hZ (own_w hw 240)) (mvT hZ (own_w hw 241)) (notFace_of_selects (args := #[]) (mvT hZ (own_w hw 243))) (mvT hZ (own_w hw 243)) (mvT hZ (own_w hw 242)) (by decide) (backOf (W := 0) (rm47 l Z a0 hw [] r b310 (own_bs (own_cs (ofNat c0) (ofNat c1) [])) cs t t2 kr k2 T328.heap n0 Z338 O337 S_cs hcs A334 F332 F333 E2 C2 F2 V336 V3 (by rw [own_bsl, own_csl]; decide)) hZ (own_w hw 244) (own_w hw 3) (by decide) (by decide)) q343a q343c (g := (mkF m 281 #[x0, x1, x2, x3, x4, oI (ofNat c0), oI (ofNat c1), x7, oR r8, x9, x10, x11, x12, x13, x14, x15, x16, x17, oI 0, oR b, oR r, oI 0, oR b283] [(.ref b310), (.ref r)])) rfl (by rw [hml]; rfl) (Steps.refl _) (argsL := [(.ref b310)]) (rest := []) (lenOf pd_43 rfl) rfl (by show 2 * 0 + _ ≤ _; exact Nat.le_of_eq rfl) (hb hby at_281) (fun _ _ => ⟨rfl, rfl, (by decide : 34 + 0 ≤ _), (by decide : 4524 + 0 ≤ _)⟩)
  dsimp only [Pt.U, Pt.locs, Pt.cells, Pt.slots] at X343 l343 y343 z343 st343 hQ343
  subst l343 y343 z343
  obtain ⟨rfl, N343q, eq343⟩ := hQ343
  have N343 := Fr.app N328 N343q
  refine own_stepH (fun t k => st343.trans k) ?_
  refine oPH T343 (mkF m 292 #[x0, x1, x2, x3, x4, oI (ofNat c0), oI (ofNat c1), x7, oR r8, x9, x10, x11, x12, x13, x14, x15, x16, x17, oI 0, oR b, oR r, oI 0, oR b283] [(.int 1)]) (fun t k => ?_) ?_
  ·skip
   refine XS.ifNo X343.here hx rfl (hb hby at_284) rfl ((if0 _ _).trans (feq (by decide)).1) ?_
   refine XS.iconst X343.here hx rfl (hb hby at_287) ?_
   refine XS.goto X343.here hx rfl (pc0 := 288) (pc' := 292) rfl (hb hby at_288) (by decide) (by decide) ?_
   exact k
  refine own_retNH (s := s) X343 hx hS277 (by rw [eq343]; exact hk339) (t := .boolean) Bd.returns (by simp) (hb hby at_292) (BodyLoose.notSynchronized Bd) (by decide) (by decide) ?_
  rw [show T343.heap = T328.heap from eq343]
  refine ⟨?_, C342.trans (CHv.at (s := s) (vm0 := T277.vm) X343 hZ hEL C342.1)⟩
  exact ⟨rfl, N343⟩
 have tS : ∀ (kk u0 u1 u2 : Nat) (c0 c1 : Nat) (r8 lb b : Addr) (kl kb : ClassId) (x0 x1 x2 x3 x4 x7 x12 x13 x14 x15 x16 x17 : Slot) (T : State) (hp : Heap) (lc : List Loc) (xs : List Int32) (Vb : Arv Z hp b kb .byte (ofNat xs.length) (own_xs xs) (.int 0)) (hc0 : c0 < 256) (hc1 : c1 < 256) (hxl : xs.length = kk) (hk : kk = 1 ∨ kk = 2 ∨ kk = 3) (hu0 : u0 < 256) (hu1 : u1 < 256) (hu2 : u2 < 256) (hx0 : own_ug xs 0 = u0) (hx1 : 1 < kk → own_ug xs 1 = u1) (hx2 : 2 < kk → own_ug xs 2 = u2) (X : Stand p l e room_1 s m #[(.int p0), (.int p1), (.long q2), (.int p3)] below meth c T lc 4 73) (eT : T.heap = hp) (Nl : Fr n0 lc) (Zl : n0 ≤ hp.size) (Ol : Old Z n0 hp) (Cl : CHr Z own_EL s.vm h0 s.vm hp) (Es : Exa Z hp r8 "java/lang/String") (Fc : Fld Z hp r8 "java/lang/String" "coder" "B" (.int 0)) (Fv : Fld Z hp r8 "java/lang/String" "value" "[B" (.ref lb)) (Vl : Arv Z hp lb kl .byte (ofNat 2) (own_xs (own_bs [ofNat c0, ofNat c1])) (.int 0)), own_RunH p e below s (fun v vm h L => rm0_Q Z p0 p1 q2 p3 cs fm tb kt fb h0 n0 v h L ∧ CHr Z own_EL s.vm h0 vm h) room_1.cells room_1.slots T (mkF m 195 #[x0, x1, x2, x3, x4, oI (ofNat c0), oI (ofNat c1), x7, oR r8, oI (ofNat u0), oI (ofNat u1), oI (ofNat u2), x12, x13, x14, x15, x16, x17, oI (ofNat kk), oR b, .unset, .unset, .unset] []) := by
  intro kk u0 u1 u2 c0 c1 r8 lb b kl kb x0 x1 x2 x3 x4 x7 x12 x13 x14 x15 x16 x17 T hp lc xs Vb hc0 hc1 hxl hk hu0 hu1 hu2 hx0 hx1 hx2 X eT Nl Zl Ol Cl Es Fc Fv Vl
  refine oPH T (mkF m 199 #[x0, x1, x2, x3, x4, oI (ofNat c0), oI (ofNat c1), x7, oR r8, oI (ofNat u0), oI (ofNat u1), oI (ofNat u2), x12, x13, x14, x15, x16, x17, oI (ofNat kk), oR b, .unset, .unset, .unset] [(.ref b), (.ref r8)]) (fun t k => ?_) ?_
  ·skip
   refine XS.aload X.here hx rfl (hb hby at_195) rfl rfl ?_
   refine XS.aload X.here hx rfl (hb hby at_197) rfl rfl ?_
   exact k
  obtain ⟨_, _, ⟨T345, L345, k345, n345⟩, -, Xq345, Sq345, gq345, ⟨Lc345, hQ345, l345, y345, z345, Cq345⟩, st345⟩ := callSS (show Stand _ _ _ _ (s.setVm s.vm) _ _ _ _ _ _ _ _ _ from X) hx (y := yM38) hown (mvT hZ (own_w hw 31)) (mvT hZ (own_w hw 32)) (mvT hZ (own_w hw 33)) (mvT hZ (own_w hw 34)) (by decide) (own_backH (s := s) (vm0 := s.vm) (EL := own_EL) (xs := []) (W := 0) (rm7 l Z a0 hw [] r8 b cs fm tb kt fb lb kl (own_xs (own_bs [ofNat c0, ofNat c1])) kb xs hp n0 Zl Ol S_cs hcs S_fm hfm S_tb V_tb S_fb V_fb Es Fc Fv Vl Vb rfl (by rw [hxl]; unfold own_ok; omega)) hZ (own_w hw 34) (own_w hw 33) (by decide) (by decide) hEL Cl.1 all0) (g := (mkF m 199 #[x0, x1, x2, x3, x4, oI (ofNat c0), oI (ofNat c1), x7, oR r8, oI (ofNat u0), oI (ofNat u1), oI (ofNat u2), x12, x13, x14, x15, x16, x17, oI (ofNat kk), oR b, .unset, .unset, .unset] [(.ref b), (.ref r8)])) rfl (by rw [hml]; rfl) (argsL := [(.ref r8), (.ref b)]) (rest := []) (lenOf pd_41 rfl) rfl (by show 2 * 0 + _ ≤ _; exact Nat.le_of_eq rfl) (hb hby at_199) (fun _ _ => ⟨rfl, eT, (by decide : 4 + 27 ≤ _), (by decide : 73 + 4346 ≤ _)⟩)
  dsimp only [Pt.U, Pt.locs, Pt.cells, Pt.slots] at Xq345 Sq345 gq345 l345 y345 z345 st345 hQ345 Cq345
  subst l345 y345 z345
  obtain ⟨r, t, kr, rfl, N345q, Kq345, szr, szt, Er, Cr, Vr, Vt⟩ := hQ345
  have N345 := Fr.app Nl N345q
  obtain ⟨X345, hS345, hZ, hown⟩ := rebS (vm0 := s.vm) ((State.WarmedH.refl s).since 0) (by rw [eT]; exact (Nat.zero_le _)) Xq345 Sq345 gq345 hZ hown
  have C346 := Cl.trans Cq345
  refine own_stepH (fun t k => st345.trans k) ?_
  have O347 := Ol.keep Kq345 all0
  have Z348 := Nat.le_trans Zl Kq345.1
  have Vt2 : Arv Z T345.heap t kr .byte (ofNat (own_bs (own_cs (ofNat c0) (ofNat c1) (own_q kk u0 u1 u2))).length) (own_xs (own_bs (own_cs (ofNat c0) (ofNat c1) (own_q kk u0 u1 u2)))) (.int 0) := by have q := Vt; rw [own_short hk hu0 hu1 hu2 hxl hx0 hx1 hx2, own_xsl] at q; exact q
  refine oPH T345 (mkF m 230 #[x0, x1, x2, x3, x4, oI (ofNat c0), oI (ofNat c1), x7, oR r8, oI (ofNat u0), oI (ofNat u1), oI (ofNat u2), x12, x13, x14, x15, x16, x17, oI (ofNat kk), oR b, oR r, oI 4, .unset] [(.int 41)]) (fun t k => ?_) ?_
  ·skip
   refine XS.astore X345.here hx rfl (hb hby at_202) rfl rfl (l' := #[x0, x1, x2, x3, x4, oI (ofNat c0), oI (ofNat c1), x7, oR r8, oI (ofNat u0), oI (ofNat u1), oI (ofNat u2), x12, x13, x14, x15, x16, x17, oI (ofNat kk), oR b, oR r, .unset, .unset]) rfl ?_
   refine XS.iload X345.here hx rfl (hb hby at_204) rfl ?_
   refine XS.ifYes X345.here hx rfl (pc0 := 206) (pc' := 213) rfl (hb hby at_206) rfl ((if0 _ _).trans (feq (fun q => absurd ((own_eqn (b := 0) (by omega) (by decide)).mp q) (by omega))).2) (by decide) (by decide) ?_
   refine XS.iconst X345.here hx rfl (hb hby at_213) ?_
   refine XS.istore X345.here hx rfl (hb hby at_214) rfl (l' := #[x0, x1, x2, x3, x4, oI (ofNat c0), oI (ofNat c1), x7, oR r8, oI (ofNat u0), oI (ofNat u1), oI (ofNat u2), x12, x13, x14, x15, x16, x17, oI (ofNat kk), oR b, oR r, oI 4, .unset]) rfl ?_
   refine XS.iload X345.here hx rfl (hb hby at_216) rfl ?_
   refine XS.ifYes X345.here hx rfl (pc0 := 218) (pc' := 228) rfl (hb hby at_218) rfl ((if0 _ _).trans (feq (fun q => absurd ((own_eqn (b := 0) (by omega) (by decide)).mp q) (by omega))).2) (by decide) (by decide) ?_
   refine XS.bipush X345.here hx rfl (hb hby at_228) ?_
   exact k
  obtain ⟨T351, h351, k351, X351, e351, E351, B351, A351, st351⟩ := newPE X345 hx hZ (own_w hw 0) rfl (g := (mkF m 230 #[x0, x1, x2, x3, x4, oI (ofNat c0), oI (ofNat c1), x7, oR r8, oI (ofNat u0), oI (ofNat u1), oI (ofNat u2), x12, x13, x14, x15, x16, x17, oI (ofNat kk), oR b, oR r, oI 4, .unset] [(.int (ofNat 41))])) rfl (hb hby at_230) rfl (by decide) (cap := 41) (by decide) (by decide) (by decide) (by decide) (ad := "[C") (by decide)
  obtain ⟨b351, g351⟩ : ∃ z, z = T345.heap.size := ⟨_, rfl⟩
  have ne352 : r ≠ b351 := Nat.ne_of_lt (Nat.lt_of_lt_of_le Cr.lt (Nat.le_of_eq g351.symm))
  have ne353 : t ≠ b351 := Nat.ne_of_lt (Nat.lt_of_lt_of_le Vt2.lt (Nat.le_of_eq g351.symm))
  have g_b351 : n0 ≤ b351 := Nat.le_trans Z348 (Nat.le_of_eq g351.symm)
  rw [← g351] at A351 B351 st351
  have Sn351 : Safe Z own_EL T345.vm T345.heap b351 := Safe.new (Nat.le_of_eq g351.symm)
  have F354 := Cr.ext E351
  have F355 := Vr.ext E351
  have A356 := Er.ext E351
  have V357 := Vt2.ext E351
  have O358 := O347.ext E351
  have Sf359 := Safe.ext E351 C346.1 Sn351
  have C360 := C346.trans (CHr.ext E351 C346.1)
  have V361 : Arv Z h351 b351 k351 .char (ofNat 41) [] (.int 0) := Arv.new B351 (by decide)
  have Z362 := Nat.le_trans Z348 E351.1
  have hk363 := Nat.le_trans (Nat.le_refl _) E351.1
  refine own_stepH st351 ?_
  have V364 : Arv Z h351 b351 k351 .char (ofNat 41) (List.replicate 41 (.int 0)) (.int 0) := V361.pad (pad_rep [] (.int 0) 41)
  refine oPH T351 (mkF m 242 #[x0, x1, x2, x3, x4, oI (ofNat c0), oI (ofNat c1), x7, oR r8, oI (ofNat u0), oI (ofNat u1), oI (ofNat u2), x12, x13, x14, x15, x16, x17, oI (ofNat kk), oR b, oR r, oI 4, oR b351] [(.int 4), (.int (ofNat c1)), (.int (ofNat c0)), (.ref b351)]) (fun t k => ?_) ?_
  ·skip
   refine XS.astore X351.here hx rfl (hb hby at_232) rfl rfl (l' := #[x0, x1, x2, x3, x4, oI (ofNat c0), oI (ofNat c1), x7, oR r8, oI (ofNat u0), oI (ofNat u1), oI (ofNat u2), x12, x13, x14, x15, x16, x17, oI (ofNat kk), oR b, oR r, oI 4, oR b351]) rfl ?_
   refine XS.aload X351.here hx rfl (hb hby at_234) rfl rfl ?_
   refine XS.iload X351.here hx rfl (hb hby at_236) rfl ?_
   refine XS.iload X351.here hx rfl (hb hby at_238) rfl ?_
   refine XS.iload X351.here hx rfl (hb hby at_240) rfl ?_
   exact k
  obtain ⟨_, _, ⟨T365, L365, k365, n365⟩, -, X365, ⟨Lc365, hQ365, l365, y365, z365⟩, st365⟩ := Jvm.LawKit.callS X351 hx (y := yM53) hown (mvT hZ (own_w hw 233)) (mvT hZ (own_w hw 234)) (mvT hZ (own_w hw 235)) (mvT hZ (own_w hw 236)) (by decide) (backOf (W := 0) (rm45 l Z a0 hw [] b351 c0 c1 4 k351 _ h351 n0 Z362 V364 g_b351 (by simp) hc0 hc1 (by decide)) hZ (own_w hw 236) (own_w hw 235) (by decide) (by decide)) (g := (mkF m 242 #[x0, x1, x2, x3, x4, oI (ofNat c0), oI (ofNat c1), x7, oR r8, oI (ofNat u0), oI (ofNat u1), oI (ofNat u2), x12, x13, x14, x15, x16, x17, oI (ofNat kk), oR b, oR r, oI 4, oR b351] [(.int (ofNat 4)), (.int (ofNat c1)), (.int (ofNat c0)), (.ref b351)])) rfl (by rw [hml]; rfl) (argsL := [(.ref b351), (.int (ofNat c0)), (.int (ofNat c1)), (.int (ofNat 4))]) (rest := []) (lenOf pd_42 rfl) rfl (by show 2 * 0 + _ ≤ _; exact Nat.le_of_eq rfl) (hb hby at_242) (fun _ _ => ⟨rfl, e351, (by decide : 32 + 0 ≤ _), (by decide : 4460 + 0 ≤ _)⟩)
  dsimp only [Pt.U, Pt.locs, Pt.cells, Pt.slots] at X365 l365 y365 z365 st365 hQ365
  subst l365 y365 z365
  obtain ⟨rfl, N365q, Kq365, Vq365⟩ := hQ365
  have N365 := Fr.app N345 N365q
  refine own_stepH st365 ?_
  have F366 := F354.keep Kq365 (ninS ne352 nin0)
  have F367 := F355.keep Kq365 (ninS ne352 nin0)
  have A368 := A356.keep Kq365
  have A369 := A351.keep Kq365
  have V370 := V357.keep Kq365 (ninS ne353 nin0)
  have O371 := O358.keep Kq365 (allS g_b351 all0)
  have Z372 := Nat.le_trans Z362 Kq365.1
  have hk373 := Nat.le_trans hk363 Kq365.1
  have Sf374 := Safe.keep Kq365 (allS Sf359 all0) C360.1 Sf359
  have C375 := C360.trans (CHr.keep Kq365 (allS Sf359 all0) C360.1)
  refine oPH T365 (mkF m 262 #[x0, x1, x2, x3, x4, oI (ofNat c0), oI (ofNat c1), x7, oR r8, oI (ofNat u0), oI (ofNat u1), oI (ofNat u2), x12, x13, x14, x15, x16, x17, oI (ofNat kk), oR b, oR r, oI 4, oR b351] [(.int (ofNat kk)), (.int (ofNat u2)), (.int (ofNat u1)), (.int (ofNat u0)), (.int 19), (.ref b351)]) (fun t k => ?_) ?_
  ·skip
   refine XS.iload X365.here hx rfl (hb hby at_245) rfl ?_
   refine XS.ifNo X365.here hx rfl (hb hby at_247) rfl ((if0 _ _).trans (tlt ((own_lt (a := 0) (by omega) (by omega)).mpr (by omega))).2.2.2) ?_
   refine XS.aload X365.here hx rfl (hb hby at_250) rfl rfl ?_
   refine XS.bipush X365.here hx rfl (hb hby at_252) ?_
   refine XS.iload X365.here hx rfl (hb hby at_254) rfl ?_
   refine XS.iload X365.here hx rfl (hb hby at_256) rfl ?_
   refine XS.iload X365.here hx rfl (hb hby at_258) rfl ?_
   refine XS.iload X365.here hx rfl (hb hby at_260) rfl ?_
   exact k
  obtain ⟨_, _, ⟨T377, L377, k377, n377⟩, -, X377, ⟨Lc377, hQ377, l377, y377, z377⟩, st377⟩ := Jvm.LawKit.callS X365 hx (y := yM54) hown (mvT hZ (own_w hw 265)) (mvT hZ (own_w hw 266)) (mvT hZ (own_w hw 235)) (mvT hZ (own_w hw 267)) (by decide) (backOf (W := 0) (rm50 l Z a0 hw [] b351 19 u0 u1 u2 kk k351 41 _ T365.heap n0 Z372 Vq365 g_b351 (by rw [own_frml, List.length_replicate]) hk hu0 hu1 hu2 (by decide) (by decide)) hZ (own_w hw 267) (own_w hw 235) (by decide) (by decide)) (g := (mkF m 262 #[x0, x1, x2, x3, x4, oI (ofNat c0), oI (ofNat c1), x7, oR r8, oI (ofNat u0), oI (ofNat u1), oI (ofNat u2), x12, x13, x14, x15, x16, x17, oI (ofNat kk), oR b, oR r, oI 4, oR b351] [(.int (ofNat kk)), (.int (ofNat u2)), (.int (ofNat u1)), (.int (ofNat u0)), (.int (ofNat 19)), (.ref b351)])) rfl (by rw [hml]; rfl) (argsL := [(.ref b351), (.int (ofNat 19)), (.int (ofNat u0)), (.int (ofNat u1)), (.int (ofNat u2)), (.int (ofNat kk))]) (rest := []) (lenOf pd_39 rfl) rfl (by show 2 * 0 + _ ≤ _; exact Nat.le_of_eq rfl) (hb hby at_262) (fun _ _ => ⟨rfl, rfl, (by decide : 32 + 0 ≤ _), (by decide : 4460 + 0 ≤ _)⟩)
  dsimp only [Pt.U, Pt.locs, Pt.cells, Pt.slots] at X377 l377 y377 z377 st377 hQ377
  subst l377 y377 z377
  obtain ⟨rfl, N377q, Kq377, Vq377⟩ := hQ377
  have N377 := Fr.app N365 N377q
  refine own_stepH st377 ?_
  have F378 := F366.keep Kq377 (ninS ne352 nin0)
  have F379 := F367.keep Kq377 (ninS ne352 nin0)
  have A380 := A368.keep Kq377
  have A381 := A369.keep Kq377
  have V382 := V370.keep Kq377 (ninS ne353 nin0)
  have O383 := O371.keep Kq377 (allS g_b351 all0)
  have Z384 := Nat.le_trans Z372 Kq377.1
  have hk385 := Nat.le_trans hk373 Kq377.1
  have C387 := C375.trans (CHr.keep Kq377 (allS Sf374 all0) C375.1)
  have V388 : Arv Z T377.heap b351 k351 .char (ofNat (own_cs (ofNat c0) (ofNat c1) (own_q kk u0 u1 u2)).length) (own_xs (own_cs (ofNat c0) (ofNat c1) (own_q kk u0 u1 u2))) (.int 0) := by have q := Vq377; rw [own_frm4, ← own_q4 u0 u1 u2 hk] at q; rw [own_csl, own_ql u0 u1 u2 hk]; exact q
  refine oPH T377 (mkF m 272 #[x0, x1, x2, x3, x4, oI (ofNat c0), oI (ofNat c1), x7, oR r8, oI (ofNat u0), oI (ofNat u1), oI (ofNat u2), x12, x13, x14, x15, x16, x17, oI (ofNat kk), oR b, oR r, oI 4, oR b351] [(.ref r)]) (fun t k => ?_) ?_
  ·skip
   refine XS.aload X377.here hx rfl (hb hby at_265) rfl rfl ?_
   refine XS.ifnullNo X377.here hx rfl (hb hby at_267) rfl ?_
   refine XS.aload X377.here hx rfl (hb hby at_270) rfl rfl ?_
   exact k
  obtain ⟨T389, h389, X389, e389, E389, A389, D389, -, st389⟩ := newO X377 hx hZ hown (own_w hw 1) (own_w hw 2) (own_w hw 3) rfl (g := (mkF m 272 #[x0, x1, x2, x3, x4, oI (ofNat c0), oI (ofNat c1), x7, oR r8, oI (ofNat u0), oI (ofNat u1), oI (ofNat u2), x12, x13, x14, x15, x16, x17, oI (ofNat kk), oR b, oR r, oI 4, oR b351] [(.ref r)])) rfl (hb hby at_272) (by decide) (by decide)
  obtain ⟨b389, g389⟩ : ∃ z, z = T377.heap.size := ⟨_, rfl⟩
  have ne390 : r ≠ b389 := Nat.ne_of_lt (Nat.lt_of_lt_of_le F378.lt (Nat.le_of_eq g389.symm))
  have ne391 : b351 ≠ b389 := Nat.ne_of_lt (Nat.lt_of_lt_of_le A381.lt (Nat.le_of_eq g389.symm))
  have ne392 : t ≠ b389 := Nat.ne_of_lt (Nat.lt_of_lt_of_le V382.lt (Nat.le_of_eq g389.symm))
  have g_b389 : n0 ≤ b389 := Nat.le_trans Z384 (Nat.le_of_eq g389.symm)
  rw [← g389] at A389 D389 st389
  have Sn389 : Safe Z own_EL T345.vm T377.heap b389 := Safe.new (Nat.le_of_eq g389.symm)
  have F393 := F378.ext E389
  have F394 := F379.ext E389
  have A395 := A380.ext E389
  have V397 := V382.ext E389
  have V398 := V388.ext E389
  have O399 := O383.ext E389
  have Sf401 := Safe.ext E389 C387.1 Sn389
  have C402 := C387.trans (CHr.ext E389 C387.1)
  have F403 : Fld Z h389 b389 "java/lang/String" "coder" "B" (.int 0) := D389 (Or.inr (own_w hw 27)) (ty := .byte) (by decide)
  have F404 : Fld Z h389 b389 "java/lang/String" "value" "[B" .null := D389 (Or.inr (own_w hw 29)) (ty := (.array .byte)) (by decide)
  have Z405 := Nat.le_trans Z384 E389.1
  have hk406 := Nat.le_trans hk385 E389.1
  refine own_stepH st389 ?_
  refine oPH T389 (mkF m 278 #[x0, x1, x2, x3, x4, oI (ofNat c0), oI (ofNat c1), x7, oR r8, oI (ofNat u0), oI (ofNat u1), oI (ofNat u2), x12, x13, x14, x15, x16, x17, oI (ofNat kk), oR b, oR r, oI 4, oR b351] [(.ref b351), (.ref b389), (.ref b389), (.ref r)]) (fun t k => ?_) ?_
  ·skip
   refine XS.dup X389.here hx rfl (hb hby at_275) rfl rfl ?_
   refine XS.aload X389.here hx rfl (hb hby at_276) rfl rfl ?_
   exact k
  obtain ⟨_, _, ⟨T407, L407, k407, n407⟩, -, X407, ⟨Lc407, hQ407, l407, y407, z407⟩, st407⟩ := X389.specialBack hx (y := yM43) rfl hown (mvT hZ (own_w hw 4)) (mvT hZ (own_w hw 5)) (mvT hZ (own_w hw 6)) (by decide) (backOf (W := 2) (rm1 l Z a0 hw [] b389 b351 (own_cs (ofNat c0) (ofNat c1) (own_q kk u0 u1 u2)) cs k351 h389 n0 Z405 O399 S_cs hcs A389 F404 F403 g_b389 V398 ne391 (by rw [own_csl]; omega) (by rw [own_csl, own_ql u0 u1 u2 hk]; omega) (own_cs8 (own_c8 hc0) (own_c8 hc1) (own_qall (P := fun x => ¬ (255 : Int32) < x) (fun j hj => (own_usn j hj).2.2) (by decide) hk hu0 hu1 hu2))) hZ (own_w hw 6) (own_w hw 3) (by decide) (by decide)) (g := (mkF m 278 #[x0, x1, x2, x3, x4, oI (ofNat c0), oI (ofNat c1), x7, oR r8, oI (ofNat u0), oI (ofNat u1), oI (ofNat u2), x12, x13, x14, x15, x16, x17, oI (ofNat kk), oR b, oR r, oI 4, oR b351] [(.ref b351), (.ref b389), (.ref b389), (.ref r)])) rfl (by rw [hml]; rfl) (Steps.refl _) (a := b389) (argsL := [(.ref b351)]) (rest := [(.ref b389), (.ref r)]) (lenOf pd_40 rfl) rfl (by show 2 * 0 + _ ≤ _; exact Nat.le_of_eq rfl) (hb hby at_278) (fun _ _ => ⟨rfl, e389, (by decide : 33 + 1 ≤ _), (by decide : 4464 + 64 ≤ _)⟩)
  dsimp only [Pt.U, Pt.locs, Pt.cells, Pt.slots] at X407 l407 y407 z407 st407 hQ407
  subst l407 y407 z407
  obtain ⟨t2, k2, rfl, N407q, Kq407, szt2, E2, C2, F2, V2⟩ := hQ407
  have N407 := Fr.app N377 N407q
  refine own_stepH (fun t k => st407.trans k) ?_
  have F411 := F393.keep Kq407 (ninS ne390 nin0)
  have F412 := F394.keep Kq407 (ninS ne390 nin0)
  have A413 := A395.keep Kq407
  have V415 := V397.keep Kq407 (ninS ne392 nin0)
  have O416 := O399.keep Kq407 (allS g_b389 all0)
  have Z417 := Nat.le_trans Z405 Kq407.1
  have hk418 := Nat.le_trans hk406 Kq407.1
  have C421 := C402.trans (CHr.keep Kq407 (allS Sf401 all0) C402.1)
  have V3 : Arv Z T407.heap t2 k2 .byte (ofNat (own_bs (own_cs (ofNat c0) (ofNat c1) (own_q kk u0 u1 u2))).length) (own_xs (own_bs (own_cs (ofNat c0) (ofNat c1) (own_q kk u0 u1 u2)))) (.int 0) := by rw [own_bsl]; exact V2
  obtain ⟨cq422, kq422, q422a, q422b, q422c⟩ := isOf hZ rfl A413
  obtain ⟨_, _, ⟨T422, L422, k422, n422⟩, -, X422, ⟨Lc422, hQ422, l422, y422, z422⟩, st422⟩ := X407.virtualBack hx (y := yM45) (z := yM45) hown (mvT hZ (own_w hw 240)) (mvT hZ (own_w hw 241)) (notFace_of_selects (args := #[]) (mvT hZ (own_w hw 243))) (mvT hZ (own_w hw 243)) (mvT hZ (own_w hw 242)) (by decide) (backOf (W := 0) (rm47 l Z a0 hw [] r b389 (own_bs (own_cs (ofNat c0) (ofNat c1) (own_q kk u0 u1 u2))) cs t t2 kr k2 T407.heap n0 Z417 O416 S_cs hcs A413 F411 F412 E2 C2 F2 V415 V3 (by rw [own_bsl, own_csl, own_ql u0 u1 u2 hk]; omega)) hZ (own_w hw 244) (own_w hw 3) (by decide) (by decide)) q422a q422c (g := (mkF m 281 #[x0, x1, x2, x3, x4, oI (ofNat c0), oI (ofNat c1), x7, oR r8, oI (ofNat u0), oI (ofNat u1), oI (ofNat u2), x12, x13, x14, x15, x16, x17, oI (ofNat kk), oR b, oR r, oI 4, oR b351] [(.ref b389), (.ref r)])) rfl (by rw [hml]; rfl) (Steps.refl _) (argsL := [(.ref b389)]) (rest := []) (lenOf pd_43 rfl) rfl (by show 2 * 0 + _ ≤ _; exact Nat.le_of_eq rfl) (hb hby at_281) (fun _ _ => ⟨rfl, rfl, (by decide : 34 + 0 ≤ _), (by decide : 4528 + 0 ≤ _)⟩)
  dsimp only [Pt.U, Pt.locs, Pt.cells, Pt.slots] at X422 l422 y422 z422 st422 hQ422
  subst l422 y422 z422
  obtain ⟨rfl, N422q, eq422⟩ := hQ422
  have N422 := Fr.app N407 N422q
  refine own_stepH (fun t k => st422.trans k) ?_
  refine oPH T422 (mkF m 292 #[x0, x1, x2, x3, x4, oI (ofNat c0), oI (ofNat c1), x7, oR r8, oI (ofNat u0), oI (ofNat u1), oI (ofNat u2), x12, x13, x14, x15, x16, x17, oI (ofNat kk), oR b, oR r, oI 4, oR b351] [(.int 1)]) (fun t k => ?_) ?_
  ·skip
   refine XS.ifNo X422.here hx rfl (hb hby at_284) rfl ((if0 _ _).trans (feq (by decide)).1) ?_
   refine XS.iconst X422.here hx rfl (hb hby at_287) ?_
   refine XS.goto X422.here hx rfl (pc0 := 288) (pc' := 292) rfl (hb hby at_288) (by decide) (by decide) ?_
   exact k
  refine own_retNH (s := s) X422 hx hS345 (by rw [eq422]; exact hk418) (t := .boolean) Bd.returns (by simp) (hb hby at_292) (BodyLoose.notSynchronized Bd) (by decide) (by decide) ?_
  rw [show T422.heap = T407.heap from eq422]
  refine ⟨?_, C421.trans (CHv.at (s := s) (vm0 := T345.vm) X422 hZ hEL C421.1)⟩
  exact ⟨rfl, N422⟩
 have tL : ∀ (kk u0 u1 u2 u3 u4 u5 v0 v1 v2 : Nat) (c0 c1 : Nat) (r8 lb b : Addr) (kl kb : ClassId) (x0 x1 x2 x3 x4 x7 x19 : Slot) (T : State) (hp : Heap) (lc : List Loc) (xs : List Int32) (Vb : Arv Z hp b kb .byte (ofNat xs.length) (own_xs xs) (.int 0)) (hc0 : c0 < 256) (hc1 : c1 < 256) (hkk : kk < 4) (hxl : xs.length = 48 + kk) (hu0 : u0 < 256) (hu1 : u1 < 256) (hu2 : u2 < 256) (hu3 : u3 < 256) (hu4 : u4 < 256) (hu5 : u5 < 256) (hv0 : v0 < 256) (hv1 : v1 < 256) (hv2 : v2 < 256) (U0 : own_ug xs 0 = u0) (U1 : own_ug xs 1 = u1) (U2 : own_ug xs 2 = u2) (Z3 : own_ug xs 3 = 0) (Z44 : own_ug xs 44 = 0) (U45 : own_ug xs 45 = u3) (U46 : own_ug xs 46 = u4) (U47 : own_ug xs 47 = u5) (W48 : 0 < kk → own_ug xs 48 = v0) (W49 : 1 < kk → own_ug xs 49 = v1) (W50 : 2 < kk → own_ug xs 50 = v2) (X : Stand p l e room_1 s m #[(.int p0), (.int p1), (.long q2), (.int p3)] below meth c T lc 4 121) (eT : T.heap = hp) (Nl : Fr n0 lc) (Zl : n0 ≤ hp.size) (Ol : Old Z n0 hp) (Cl : CHr Z own_EL s.vm h0 s.vm hp) (Es : Exa Z hp r8 "java/lang/String") (Fc : Fld Z hp r8 "java/lang/String" "coder" "B" (.int 0)) (Fv : Fld Z hp r8 "java/lang/String" "value" "[B" (.ref lb)) (Vl : Arv Z hp lb kl .byte (ofNat 2) (own_xs (own_bs [ofNat c0, ofNat c1])) (.int 0)), own_RunH p e below s (fun v vm h L => rm0_Q Z p0 p1 q2 p3 cs fm tb kt fb h0 n0 v h L ∧ CHr Z own_EL s.vm h0 vm h) room_1.cells room_1.slots T (mkF m 396 #[x0, x1, x2, x3, x4, oI (ofNat c0), oI (ofNat c1), x7, oR r8, oI (ofNat u0), oI (ofNat u1), oI (ofNat u2), oI (ofNat u3), oI (ofNat u4), oI (ofNat u5), oI (ofNat v0), oI (ofNat v1), oI (ofNat v2), oI (ofNat kk), x19, oR b, .unset, .unset] []) := by
  intro kk u0 u1 u2 u3 u4 u5 v0 v1 v2 c0 c1 r8 lb b kl kb x0 x1 x2 x3 x4 x7 x19 T hp lc xs Vb hc0 hc1 hkk hxl hu0 hu1 hu2 hu3 hu4 hu5 hv0 hv1 hv2 U0 U1 U2 Z3 Z44 U45 U46 U47 W48 W49 W50 X eT Nl Zl Ol Cl Es Fc Fv Vl
  refine oPH T (mkF m 400 #[x0, x1, x2, x3, x4, oI (ofNat c0), oI (ofNat c1), x7, oR r8, oI (ofNat u0), oI (ofNat u1), oI (ofNat u2), oI (ofNat u3), oI (ofNat u4), oI (ofNat u5), oI (ofNat v0), oI (ofNat v1), oI (ofNat v2), oI (ofNat kk), x19, oR b, .unset, .unset] [(.ref b), (.ref r8)]) (fun t k => ?_) ?_
  ·skip
   refine XS.aload X.here hx rfl (hb hby at_396) rfl rfl ?_
   refine XS.aload X.here hx rfl (hb hby at_398) rfl rfl ?_
   exact k
  obtain ⟨_, _, ⟨T424, L424, k424, n424⟩, -, Xq424, Sq424, gq424, ⟨Lc424, hQ424, l424, y424, z424, Cq424⟩, st424⟩ := callSS (show Stand _ _ _ _ (s.setVm s.vm) _ _ _ _ _ _ _ _ _ from X) hx (y := yM38) hown (mvT hZ (own_w hw 31)) (mvT hZ (own_w hw 32)) (mvT hZ (own_w hw 33)) (mvT hZ (own_w hw 34)) (by decide) (own_backH (s := s) (vm0 := s.vm) (EL := own_EL) (xs := []) (W := 0) (rm7 l Z a0 hw [] r8 b cs fm tb kt fb lb kl (own_xs (own_bs [ofNat c0, ofNat c1])) kb xs hp n0 Zl Ol S_cs hcs S_fm hfm S_tb V_tb S_fb V_fb Es Fc Fv Vl Vb rfl (by rw [hxl]; unfold own_ok; omega)) hZ (own_w hw 34) (own_w hw 33) (by decide) (by decide) hEL Cl.1 all0) (g := (mkF m 400 #[x0, x1, x2, x3, x4, oI (ofNat c0), oI (ofNat c1), x7, oR r8, oI (ofNat u0), oI (ofNat u1), oI (ofNat u2), oI (ofNat u3), oI (ofNat u4), oI (ofNat u5), oI (ofNat v0), oI (ofNat v1), oI (ofNat v2), oI (ofNat kk), x19, oR b, .unset, .unset] [(.ref b), (.ref r8)])) rfl (by rw [hml]; rfl) (argsL := [(.ref r8), (.ref b)]) (rest := []) (lenOf pd_41 rfl) rfl (by show 2 * 0 + _ ≤ _; exact Nat.le_of_eq rfl) (hb hby at_400) (fun _ _ => ⟨rfl, eT, (by decide : 4 + 27 ≤ _), (by decide : 121 + 4346 ≤ _)⟩)
  dsimp only [Pt.U, Pt.locs, Pt.cells, Pt.slots] at Xq424 Sq424 gq424 l424 y424 z424 st424 hQ424 Cq424
  subst l424 y424 z424
  obtain ⟨r, t, kr, rfl, N424q, Kq424, szr, szt, Er, Cr, Vr, Vt⟩ := hQ424
  have N424 := Fr.app Nl N424q
  obtain ⟨X424, hS424, hZ, hown⟩ := rebS (vm0 := s.vm) ((State.WarmedH.refl s).since 0) (by rw [eT]; exact (Nat.zero_le _)) Xq424 Sq424 gq424 hZ hown
  have C425 := Cl.trans Cq424
  refine own_stepH (fun t k => st424.trans k) ?_
  have O426 := Ol.keep Kq424 all0
  have Z427 := Nat.le_trans Zl Kq424.1
  obtain ⟨vs, hvs⟩ : ∃ z, z = own_pem (own_xs (own_bs [ofNat c0, ofNat c1])) (own_en xs (List.replicate (own_D xs.length) (.int 0)) xs.length) := ⟨_, rfl⟩
  rw [← hvs] at Vt
  obtain ⟨len, hlen, hl1, hl2, hpk, g0, g5, g10, g11, g12, g17, g18, G19, g23, g78, G79, g83, G84, z18, z17, z12, z9, z8, z7, z2, z1⟩ := own_long (x := own_b (ofNat c0)) (y := own_b (ofNat c1)) hkk hxl (own_ubk hc0) (own_ubk hc1) U0 U1 U2 Z3 Z44 U45 U46 U47 W48 W49 W50 hvs
  rw [hlen] at Vt
  refine oPH T424 (mkF m 407 #[x0, x1, x2, x3, x4, oI (ofNat c0), oI (ofNat c1), x7, oR r8, oI (ofNat u0), oI (ofNat u1), oI (ofNat u2), oI (ofNat u3), oI (ofNat u4), oI (ofNat u5), oI (ofNat v0), oI (ofNat v1), oI (ofNat v2), oI (ofNat kk), x19, oR b, oR r, .unset] [(.int (ofNat kk))]) (fun t k => ?_) ?_
  ·skip
   refine XS.astore X424.here hx rfl (hb hby at_403) rfl rfl (l' := #[x0, x1, x2, x3, x4, oI (ofNat c0), oI (ofNat c1), x7, oR r8, oI (ofNat u0), oI (ofNat u1), oI (ofNat u2), oI (ofNat u3), oI (ofNat u4), oI (ofNat u5), oI (ofNat v0), oI (ofNat v1), oI (ofNat v2), oI (ofNat kk), x19, oR b, oR r, .unset]) rfl ?_
   refine XS.iload X424.here hx rfl (hb hby at_405) rfl ?_
   exact k
  refine oPH T424 (mkF m 417 #[x0, x1, x2, x3, x4, oI (ofNat c0), oI (ofNat c1), x7, oR r8, oI (ofNat u0), oI (ofNat u1), oI (ofNat u2), oI (ofNat u3), oI (ofNat u4), oI (ofNat u5), oI (ofNat v0), oI (ofNat v1), oI (ofNat v2), oI (ofNat kk), x19, oR b, oR r, .unset] [(.int (own_pick ((ofNat kk) = (0 : Int32)) (101 : Int32) (106 : Int32)))]) (fun t k => ?_) ?_
  ·show Steps p.tables e below (T424.setTop (mkF m 407 #[x0, x1, x2, x3, x4, oI (ofNat c0), oI (ofNat c1), x7, oR r8, oI (ofNat u0), oI (ofNat u1), oI (ofNat u2), oI (ofNat u3), oI (ofNat u4), oI (ofNat u5), oI (ofNat v0), oI (ofNat v1), oI (ofNat v2), oI (ofNat kk), x19, oR b, oR r, .unset] [(.int (ofNat kk))])) _
   by_cases hq : (ofNat kk) = (0 : Int32)
   ·simp only [own_pick_pos hq, own_pickJ_pos hq] at k
    refine XS.ifNo X424.here hx rfl (hb hby at_407) rfl ((if0 _ _).trans (teq hq).2) ?_
    show Steps p.tables e below (T424.setTop (mkF m 410 #[x0, x1, x2, x3, x4, oI (ofNat c0), oI (ofNat c1), x7, oR r8, oI (ofNat u0), oI (ofNat u1), oI (ofNat u2), oI (ofNat u3), oI (ofNat u4), oI (ofNat u5), oI (ofNat v0), oI (ofNat v1), oI (ofNat v2), oI (ofNat kk), x19, oR b, oR r, .unset] [])) _
    refine XS.bipush X424.here hx rfl (hb hby at_410) ?_
    show Steps p.tables e below (T424.setTop (mkF m 412 #[x0, x1, x2, x3, x4, oI (ofNat c0), oI (ofNat c1), x7, oR r8, oI (ofNat u0), oI (ofNat u1), oI (ofNat u2), oI (ofNat u3), oI (ofNat u4), oI (ofNat u5), oI (ofNat v0), oI (ofNat v1), oI (ofNat v2), oI (ofNat kk), x19, oR b, oR r, .unset] [(.int 101)])) _
    refine XS.goto X424.here hx rfl (pc0 := 412) (pc' := 417) rfl (hb hby at_412) (by decide) (by decide) ?_
    show Steps p.tables e below (T424.setTop (mkF m 417 #[x0, x1, x2, x3, x4, oI (ofNat c0), oI (ofNat c1), x7, oR r8, oI (ofNat u0), oI (ofNat u1), oI (ofNat u2), oI (ofNat u3), oI (ofNat u4), oI (ofNat u5), oI (ofNat v0), oI (ofNat v1), oI (ofNat v2), oI (ofNat kk), x19, oR b, oR r, .unset] [(.int 101)])) _
    exact k
   ·simp only [own_pick_neg hq, own_pickJ_neg hq] at k
    refine XS.ifYes X424.here hx rfl (pc0 := 407) (pc' := 415) rfl (hb hby at_407) rfl ((if0 _ _).trans (feq hq).2) (by decide) (by decide) ?_
    show Steps p.tables e below (T424.setTop (mkF m 415 #[x0, x1, x2, x3, x4, oI (ofNat c0), oI (ofNat c1), x7, oR r8, oI (ofNat u0), oI (ofNat u1), oI (ofNat u2), oI (ofNat u3), oI (ofNat u4), oI (ofNat u5), oI (ofNat v0), oI (ofNat v1), oI (ofNat v2), oI (ofNat kk), x19, oR b, oR r, .unset] [])) _
    refine XS.bipush X424.here hx rfl (hb hby at_415) ?_
    show Steps p.tables e below (T424.setTop (mkF m 417 #[x0, x1, x2, x3, x4, oI (ofNat c0), oI (ofNat c1), x7, oR r8, oI (ofNat u0), oI (ofNat u1), oI (ofNat u2), oI (ofNat u3), oI (ofNat u4), oI (ofNat u5), oI (ofNat v0), oI (ofNat v1), oI (ofNat v2), oI (ofNat kk), x19, oR b, oR r, .unset] [(.int 106)])) _
    exact k
  show own_RunH p e below s _ _ _ T424 (mkF m 417 #[x0, x1, x2, x3, x4, oI (ofNat c0), oI (ofNat c1), x7, oR r8, oI (ofNat u0), oI (ofNat u1), oI (ofNat u2), oI (ofNat u3), oI (ofNat u4), oI (ofNat u5), oI (ofNat v0), oI (ofNat v1), oI (ofNat v2), oI (ofNat kk), x19, oR b, oR r, .unset] [(.int (own_pick ((ofNat kk) = (0 : Int32)) (101 : Int32) (106 : Int32)))])
  rw [show ((own_pick ((ofNat kk) = (0 : Int32)) (101 : Int32) (106 : Int32)) : Int32) = (ofNat len) from hpk]
  refine oPH T424 (mkF m 419 #[x0, x1, x2, x3, x4, oI (ofNat c0), oI (ofNat c1), x7, oR r8, oI (ofNat u0), oI (ofNat u1), oI (ofNat u2), oI (ofNat u3), oI (ofNat u4), oI (ofNat u5), oI (ofNat v0), oI (ofNat v1), oI (ofNat v2), oI (ofNat kk), x19, oR b, oR r, oI (ofNat len)] []) (fun t k => ?_) ?_
  ·skip
   refine XS.istore X424.here hx rfl (hb hby at_417) rfl (l' := #[x0, x1, x2, x3, x4, oI (ofNat c0), oI (ofNat c1), x7, oR r8, oI (ofNat u0), oI (ofNat u1), oI (ofNat u2), oI (ofNat u3), oI (ofNat u4), oI (ofNat u5), oI (ofNat v0), oI (ofNat v1), oI (ofNat v2), oI (ofNat kk), x19, oR b, oR r, oI (ofNat len)]) rfl ?_
   exact k
  generalize hLL : (#[x0, x1, x2, x3, x4, oI (ofNat c0), oI (ofNat c1), x7, oR r8, oI (ofNat u0), oI (ofNat u1), oI (ofNat u2), oI (ofNat u3), oI (ofNat u4), oI (ofNat u5), oI (ofNat v0), oI (ofNat v1), oI (ofNat v2), oI (ofNat kk), x19, oR b, oR r, oI (ofNat len)] : Array Slot) = LL
  have l5 : LL[5]? = some (oI (ofNat c0)) := by rw [← hLL]; rfl
  have l6 : LL[6]? = some (oI (ofNat c1)) := by rw [← hLL]; rfl
  have l9 : LL[9]? = some (oI (ofNat u0)) := by rw [← hLL]; rfl
  have l10 : LL[10]? = some (oI (ofNat u1)) := by rw [← hLL]; rfl
  have l11 : LL[11]? = some (oI (ofNat u2)) := by rw [← hLL]; rfl
  have l12 : LL[12]? = some (oI (ofNat u3)) := by rw [← hLL]; rfl
  have l13 : LL[13]? = some (oI (ofNat u4)) := by rw [← hLL]; rfl
  have l14 : LL[14]? = some (oI (ofNat u5)) := by rw [← hLL]; rfl
  have l15 : LL[15]? = some (oI (ofNat v0)) := by rw [← hLL]; rfl
  have l16 : LL[16]? = some (oI (ofNat v1)) := by rw [← hLL]; rfl
  have l17 : LL[17]? = some (oI (ofNat v2)) := by rw [← hLL]; rfl
  have l18 : LL[18]? = some (oI (ofNat kk)) := by rw [← hLL]; rfl
  have l21 : LL[21]? = some (oR r) := by rw [← hLL]; rfl
  have l22 : LL[22]? = some (oI (ofNat len)) := by rw [← hLL]; rfl
  have hsz : LL.size = 23 := by rw [← hLL]; rfl
  have ca : ∀ (pc i kq : Nat) (T : State) (hp : Heap) (lc : List Loc) (ce sl : Nat) (hce : ce + 0 ≤ room_1.cells) (hsl : sl + 0 ≤ room_1.slots) (X : Stand p l e room_1 (s.setVm T424.vm) m #[(.int p0), (.int p1), (.long q2), (.int p3)] below meth c T lc ce sl) (eT : T.heap = hp) (Nl : Fr n0 lc) (Zl : n0 ≤ hp.size) (Ol : Old Z n0 hp) (Er : Exa Z hp r "java/lang/String") (Cr : Fld Z hp r "java/lang/String" "coder" "B" (.int 0)) (Vr : Fld Z hp r "java/lang/String" "value" "[B" (.ref t)) (Vt : Arv Z hp t kr .byte (ofNat len) vs (.int 0)) (hat : own_at vs i kq) (hi : i < len) (hd : decode c.code pc = .ok (.invokevirtual 38, 3)), ∃ (T' : State) (lc' : List Loc), Stand p l e room_1 (s.setVm T424.vm) m #[(.int p0), (.int p1), (.long q2), (.int p3)] below meth c T' lc' ce sl ∧ T'.heap = hp ∧ Fr n0 lc' ∧ Steps p.tables e below (T.setTop (mkF m pc LL [(.int (ofNat i)), (.ref r)])) (T'.setTop (mkF m (pc + 3) LL [(.int (ofNat kq))])) := by
   intro pc i kq T hp lc ce sl hce hsl X eT Nl Zl Ol Er Cr Vr Vt hat hi hd
   obtain ⟨x, hx_, rfl⟩ := hat
   obtain ⟨cq429, kq429, q429a, q429b, q429c⟩ := isOf hZ eT Er
   obtain ⟨_, _, ⟨T429, L429, k429, n429⟩, -, X429, ⟨Lc429, hQ429, l429, y429, z429⟩, st429⟩ := X.virtualBack hx (y := yM50) (z := yM50) hown (mvT hZ (own_w hw 272)) (mvT hZ (own_w hw 273)) (notFace_of_selects (args := #[]) (mvT hZ (own_w hw 275))) (mvT hZ (own_w hw 275)) (mvT hZ (own_w hw 274)) (by decide) (backOf (W := 0) (rm52 l Z a0 hw [] r i cs fm t kr len vs x hp n0 Zl Ol S_cs hcs S_fm hfm Er Cr Vr Vt hi (by omega) hx_) hZ (own_w hw 276) (own_w hw 3) (by decide) (by decide)) q429a q429c (g := (mkF m pc LL [(.int (ofNat i)), (.ref r)])) rfl (hsz.trans hml.symm) (Steps.refl _) (argsL := [(.int (ofNat i))]) (rest := []) (lenOf pd_38 rfl) rfl (by show 2 * 0 + _ ≤ _; exact Nat.le_of_eq rfl) hd (fun _ _ => ⟨rfl, eT, hce, hsl⟩)
   dsimp only [Pt.U, Pt.locs, Pt.cells, Pt.slots] at X429 l429 y429 z429 st429 hQ429
   subst l429 y429 z429
   obtain ⟨rfl, N429q, eq429⟩ := hQ429
   have N429 := Fr.app Nl N429q
   exact ⟨T429, _, X429, eq429, N429, st429⟩
  refine oPH T424 (mkF m 426 LL [(.ref r)]) (fun t k => ?_) ?_
  ·skip
   refine XS.aload X424.here hx rfl (hb hby at_419) l21 rfl ?_
   refine XS.ifnullNo X424.here hx rfl (hb hby at_421) rfl ?_
   refine XS.aload X424.here hx rfl (hb hby at_424) l21 rfl ?_
   exact k
  obtain ⟨cq430, kq430, q430a, q430b, q430c⟩ := isOf hZ rfl Er
  obtain ⟨_, _, ⟨T430, L430, k430, n430⟩, -, X430, ⟨Lc430, hQ430, l430, y430, z430⟩, st430⟩ := X424.virtualBack hx (y := yM1) (z := yM1) hown (mvT hZ (own_w hw 271)) (mvT hZ (own_w hw 134)) (notFace_of_selects (args := #[]) (mvT hZ (own_w hw 136))) (mvT hZ (own_w hw 136)) (mvT hZ (own_w hw 135)) (by decide) (backOf (W := 0) (rm24 l Z a0 hw [] r cs t kr (ofNat len) vs T424.heap n0 Z427 O426 S_cs hcs Er Cr Vr Vt) hZ (own_w hw 137) (own_w hw 3) (by decide) (by decide)) q430a q430c (g := (mkF m 426 LL [(.ref r)])) rfl (hsz.trans hml.symm) (Steps.refl _) (argsL := []) (rest := []) (lenOf pd_7 rfl) rfl (by show 2 * 0 + _ ≤ _; exact Nat.le_of_eq rfl) (hb hby at_426) (fun _ _ => ⟨rfl, rfl, (by decide : 31 + 0 ≤ _), (by decide : 4467 + 0 ≤ _)⟩)
  dsimp only [Pt.U, Pt.locs, Pt.cells, Pt.slots] at X430 l430 y430 z430 st430 hQ430
  subst l430 y430 z430
  obtain ⟨rfl, N430q, eq430⟩ := hQ430
  have N430 := Fr.app N424 N430q
  refine own_stepH (fun t k => st430.trans k) ?_
  refine oPH T430 (mkF m 437 LL [(.int 0), (.ref r)]) (fun t k => ?_) ?_
  ·skip
   refine XS.iload X430.here hx rfl (hb hby at_429) l22 ?_
   refine XS.icmpNo X430.here hx rfl (hb hby at_431) rfl (teq rfl).2 ?_
   refine XS.aload X430.here hx rfl (hb hby at_434) l21 rfl ?_
   refine XS.iconst X430.here hx rfl (hb hby at_436) ?_
   exact k
  obtain ⟨T432, L432, X432, eq432, N432, st432⟩ := ca 437 0 45 _ _ _ _ _ (by decide) (by decide) X430 eq430 N430 Z427 O426 Er Cr Vr Vt g0 (by omega) (hb hby at_437)
  refine own_stepH (fun t k => st432.trans k) ?_
  refine oPH T432 (mkF m 448 LL [(.int 5), (.ref r)]) (fun t k => ?_) ?_
  ·skip
   refine XS.bipush X432.here hx rfl (hb hby at_440) ?_
   refine XS.icmpNo X432.here hx rfl (hb hby at_442) rfl (teq rfl).2 ?_
   refine XS.aload X432.here hx rfl (hb hby at_445) l21 rfl ?_
   refine XS.iconst X432.here hx rfl (hb hby at_447) ?_
   exact k
  obtain ⟨T434, L434, X434, eq434, N434, st434⟩ := ca 448 5 66 _ _ _ _ _ (by decide) (by decide) X432 eq432 N432 Z427 O426 Er Cr Vr Vt g5 (by omega) (hb hby at_448)
  refine own_stepH (fun t k => st434.trans k) ?_
  refine oPH T434 (mkF m 460 LL [(.int 10), (.ref r)]) (fun t k => ?_) ?_
  ·skip
   refine XS.bipush X434.here hx rfl (hb hby at_451) ?_
   refine XS.icmpNo X434.here hx rfl (hb hby at_453) rfl (teq rfl).2 ?_
   refine XS.aload X434.here hx rfl (hb hby at_456) l21 rfl ?_
   refine XS.bipush X434.here hx rfl (hb hby at_458) ?_
   exact k
  obtain ⟨T436, L436, X436, eq436, N436, st436⟩ := ca 460 10 32 _ _ _ _ _ (by decide) (by decide) X434 eq434 N434 Z427 O426 Er Cr Vr Vt g10 (by omega) (hb hby at_460)
  refine own_stepH (fun t k => st436.trans k) ?_
  refine oPH T436 (mkF m 472 LL [(.int 11), (.ref r)]) (fun t k => ?_) ?_
  ·skip
   refine XS.bipush X436.here hx rfl (hb hby at_463) ?_
   refine XS.icmpNo X436.here hx rfl (hb hby at_465) rfl (teq rfl).2 ?_
   refine XS.aload X436.here hx rfl (hb hby at_468) l21 rfl ?_
   refine XS.bipush X436.here hx rfl (hb hby at_470) ?_
   exact k
  obtain ⟨T438, L438, X438, eq438, N438, st438⟩ := ca 472 11 c0 _ _ _ _ _ (by decide) (by decide) X436 eq436 N436 Z427 O426 Er Cr Vr Vt g11 (by omega) (hb hby at_472)
  refine own_stepH (fun t k => st438.trans k) ?_
  refine oPH T438 (mkF m 484 LL [(.int 12), (.ref r)]) (fun t k => ?_) ?_
  ·skip
   refine XS.iload X438.here hx rfl (hb hby at_475) l5 ?_
   refine XS.icmpNo X438.here hx rfl (hb hby at_477) rfl (teq rfl).2 ?_
   refine XS.aload X438.here hx rfl (hb hby at_480) l21 rfl ?_
   refine XS.bipush X438.here hx rfl (hb hby at_482) ?_
   exact k
  obtain ⟨T440, L440, X440, eq440, N440, st440⟩ := ca 484 12 c1 _ _ _ _ _ (by decide) (by decide) X438 eq438 N438 Z427 O426 Er Cr Vr Vt g12 (by omega) (hb hby at_484)
  refine own_stepH (fun t k => st440.trans k) ?_
  refine oPH T440 (mkF m 496 LL [(.int 17), (.ref r)]) (fun t k => ?_) ?_
  ·skip
   refine XS.iload X440.here hx rfl (hb hby at_487) l6 ?_
   refine XS.icmpNo X440.here hx rfl (hb hby at_489) rfl (teq rfl).2 ?_
   refine XS.aload X440.here hx rfl (hb hby at_492) l21 rfl ?_
   refine XS.bipush X440.here hx rfl (hb hby at_494) ?_
   exact k
  obtain ⟨T442, L442, X442, eq442, N442, st442⟩ := ca 496 17 45 _ _ _ _ _ (by decide) (by decide) X440 eq440 N440 Z427 O426 Er Cr Vr Vt g17 (by omega) (hb hby at_496)
  refine own_stepH (fun t k => st442.trans k) ?_
  refine oPH T442 (mkF m 508 LL [(.int 18), (.ref r)]) (fun t k => ?_) ?_
  ·skip
   refine XS.bipush X442.here hx rfl (hb hby at_499) ?_
   refine XS.icmpNo X442.here hx rfl (hb hby at_501) rfl (teq rfl).2 ?_
   refine XS.aload X442.here hx rfl (hb hby at_504) l21 rfl ?_
   refine XS.bipush X442.here hx rfl (hb hby at_506) ?_
   exact k
  obtain ⟨T444, L444, X444, eq444, N444, st444⟩ := ca 508 18 10 _ _ _ _ _ (by decide) (by decide) X442 eq442 N442 Z427 O426 Er Cr Vr Vt g18 (by omega) (hb hby at_508)
  refine own_stepH (fun t k => st444.trans k) ?_
  refine oPH T444 (mkF m 527 LL [(.int 3), (.int (ofNat u2)), (.int (ofNat u1)), (.int (ofNat u0)), (.int 19), (.ref r)]) (fun t k => ?_) ?_
  ·skip
   refine XS.bipush X444.here hx rfl (hb hby at_511) ?_
   refine XS.icmpNo X444.here hx rfl (hb hby at_513) rfl (teq rfl).2 ?_
   refine XS.aload X444.here hx rfl (hb hby at_516) l21 rfl ?_
   refine XS.bipush X444.here hx rfl (hb hby at_518) ?_
   refine XS.iload X444.here hx rfl (hb hby at_520) l9 ?_
   refine XS.iload X444.here hx rfl (hb hby at_522) l10 ?_
   refine XS.iload X444.here hx rfl (hb hby at_524) l11 ?_
   refine XS.iconst X444.here hx rfl (hb hby at_526) ?_
   exact k
  obtain ⟨_, _, ⟨T446, L446, k446, n446⟩, -, X446, ⟨Lc446, hQ446, l446, y446, z446⟩, st446⟩ := Jvm.LawKit.callS X444 hx (y := yM55) hown (mvT hZ (own_w hw 291)) (mvT hZ (own_w hw 292)) (mvT hZ (own_w hw 235)) (mvT hZ (own_w hw 293)) (by decide) (backOf (W := 0) (rm57 l Z a0 hw [] r 19 u0 u1 u2 3 cs fm t kr len vs T424.heap n0 Z427 O426 S_cs hcs S_fm hfm Er Cr Vr Vt (Or.inr (Or.inr rfl)) hu0 hu1 hu2 (by omega) (by omega) G19) hZ (own_w hw 293) (own_w hw 235) (by decide) (by decide)) (g := (mkF m 527 LL [(.int (ofNat 3)), (.int (ofNat u2)), (.int (ofNat u1)), (.int (ofNat u0)), (.int (ofNat 19)), (.ref r)])) rfl (hsz.trans hml.symm) (argsL := [(.ref r), (.int (ofNat 19)), (.int (ofNat u0)), (.int (ofNat u1)), (.int (ofNat u2)), (.int (ofNat 3))]) (rest := []) (lenOf pd_44 rfl) rfl (by show 2 * 0 + _ ≤ _; exact Nat.le_of_eq rfl) (hb hby at_527) (fun _ _ => ⟨rfl, eq444, (by decide : 31 + 1 ≤ _), (by decide : 4467 + 4 ≤ _)⟩)
  dsimp only [Pt.U, Pt.locs, Pt.cells, Pt.slots] at X446 l446 y446 z446 st446 hQ446
  subst l446 y446 z446
  obtain ⟨rfl, N446q, Kq446⟩ := hQ446
  have N446 := Fr.app N444 N446q
  refine own_stepH st446 ?_
  have F447 := Cr.keep Kq446 nin0
  have F448 := Vr.keep Kq446 nin0
  have A449 := Er.keep Kq446
  have V450 := Vt.keep Kq446 nin0
  have O451 := O426.keep Kq446 all0
  have Z452 := Nat.le_trans Z427 Kq446.1
  have hk453 := Nat.le_trans (Nat.le_refl _) Kq446.1
  have C454 := C425.trans (CHr.keep Kq446 all0 C425.1)
  refine oPH T446 (mkF m 537 LL [(.int 23), (.ref r)]) (fun t k => ?_) ?_
  ·skip
   refine XS.ifNo X446.here hx rfl (hb hby at_530) rfl ((if0 _ _).trans (feq (by decide)).1) ?_
   refine XS.aload X446.here hx rfl (hb hby at_533) l21 rfl ?_
   refine XS.bipush X446.here hx rfl (hb hby at_535) ?_
   exact k
  obtain ⟨T456, L456, X456, eq456, N456, st456⟩ := ca 537 23 65 _ _ _ _ _ (by decide) (by decide) X446 rfl N446 Z452 O451 A449 F447 F448 V450 g23 (by omega) (hb hby at_537)
  refine own_stepH (fun t k => st456.trans k) ?_
  refine oPH T456 (mkF m 549 LL [(.int 78), (.ref r)]) (fun t k => ?_) ?_
  ·skip
   refine XS.bipush X456.here hx rfl (hb hby at_540) ?_
   refine XS.icmpNo X456.here hx rfl (hb hby at_542) rfl (teq rfl).2 ?_
   refine XS.aload X456.here hx rfl (hb hby at_545) l21 rfl ?_
   refine XS.bipush X456.here hx rfl (hb hby at_547) ?_
   exact k
  obtain ⟨T458, L458, X458, eq458, N458, st458⟩ := ca 549 78 65 _ _ _ _ _ (by decide) (by decide) X456 eq456 N456 Z452 O451 A449 F447 F448 V450 g78 (by omega) (hb hby at_549)
  refine own_stepH (fun t k => st458.trans k) ?_
  refine oPH T458 (mkF m 568 LL [(.int 3), (.int (ofNat u5)), (.int (ofNat u4)), (.int (ofNat u3)), (.int 79), (.ref r)]) (fun t k => ?_) ?_
  ·skip
   refine XS.bipush X458.here hx rfl (hb hby at_552) ?_
   refine XS.icmpNo X458.here hx rfl (hb hby at_554) rfl (teq rfl).2 ?_
   refine XS.aload X458.here hx rfl (hb hby at_557) l21 rfl ?_
   refine XS.bipush X458.here hx rfl (hb hby at_559) ?_
   refine XS.iload X458.here hx rfl (hb hby at_561) l12 ?_
   refine XS.iload X458.here hx rfl (hb hby at_563) l13 ?_
   refine XS.iload X458.here hx rfl (hb hby at_565) l14 ?_
   refine XS.iconst X458.here hx rfl (hb hby at_567) ?_
   exact k
  obtain ⟨_, _, ⟨T460, L460, k460, n460⟩, -, X460, ⟨Lc460, hQ460, l460, y460, z460⟩, st460⟩ := Jvm.LawKit.callS X458 hx (y := yM55) hown (mvT hZ (own_w hw 291)) (mvT hZ (own_w hw 292)) (mvT hZ (own_w hw 235)) (mvT hZ (own_w hw 293)) (by decide) (backOf (W := 0) (rm57 l Z a0 hw [] r 79 u3 u4 u5 3 cs fm t kr len vs T446.heap n0 Z452 O451 S_cs hcs S_fm hfm A449 F447 F448 V450 (Or.inr (Or.inr rfl)) hu3 hu4 hu5 (by omega) (by omega) G79) hZ (own_w hw 293) (own_w hw 235) (by decide) (by decide)) (g := (mkF m 568 LL [(.int (ofNat 3)), (.int (ofNat u5)), (.int (ofNat u4)), (.int (ofNat u3)), (.int (ofNat 79)), (.ref r)])) rfl (hsz.trans hml.symm) (argsL := [(.ref r), (.int (ofNat 79)), (.int (ofNat u3)), (.int (ofNat u4)), (.int (ofNat u5)), (.int (ofNat 3))]) (rest := []) (lenOf pd_44 rfl) rfl (by show 2 * 0 + _ ≤ _; exact Nat.le_of_eq rfl) (hb hby at_568) (fun _ _ => ⟨rfl, eq458, (by decide : 32 + 1 ≤ _), (by decide : 4471 + 4 ≤ _)⟩)
  dsimp only [Pt.U, Pt.locs, Pt.cells, Pt.slots] at X460 l460 y460 z460 st460 hQ460
  subst l460 y460 z460
  obtain ⟨rfl, N460q, Kq460⟩ := hQ460
  have N460 := Fr.app N458 N460q
  refine own_stepH st460 ?_
  have F461 := F447.keep Kq460 nin0
  have F462 := F448.keep Kq460 nin0
  have A463 := A449.keep Kq460
  have V464 := V450.keep Kq460 nin0
  have O465 := O451.keep Kq460 all0
  have Z466 := Nat.le_trans Z452 Kq460.1
  have hk467 := Nat.le_trans hk453 Kq460.1
  have C468 := C454.trans (CHr.keep Kq460 all0 C454.1)
  refine oPH T460 (mkF m 578 LL [(.int 83), (.ref r)]) (fun t k => ?_) ?_
  ·skip
   refine XS.ifNo X460.here hx rfl (hb hby at_571) rfl ((if0 _ _).trans (feq (by decide)).1) ?_
   refine XS.aload X460.here hx rfl (hb hby at_574) l21 rfl ?_
   refine XS.bipush X460.here hx rfl (hb hby at_576) ?_
   exact k
  obtain ⟨T470, L470, X470, eq470, N470, st470⟩ := ca 578 83 10 _ _ _ _ _ (by decide) (by decide) X460 rfl N460 Z466 O465 A463 F461 F462 V464 g83 (by omega) (hb hby at_578)
  refine own_stepH (fun t k => st470.trans k) ?_
  refine oPH T470 (mkF m 588 LL [(.int (ofNat kk))]) (fun t k => ?_) ?_
  ·skip
   refine XS.bipush X470.here hx rfl (hb hby at_581) ?_
   refine XS.icmpNo X470.here hx rfl (hb hby at_583) rfl (teq rfl).2 ?_
   refine XS.iload X470.here hx rfl (hb hby at_586) l18 ?_
   exact k
  by_cases hc472 : (ofNat kk) = (0 : Int32)
  ·skip
   refine oPH T470 (mkF m 616 LL [(.int ((ofNat len) - (18 : Int32))), (.ref r)]) (fun t k => ?_) ?_
   ·skip
    refine XS.ifYes X470.here hx rfl (pc0 := 588) (pc' := 609) rfl (hb hby at_588) rfl ((if0 _ _).trans (teq hc472).1) (by decide) (by decide) ?_
    refine XS.aload X470.here hx rfl (hb hby at_609) l21 rfl ?_
    refine XS.iload X470.here hx rfl (hb hby at_611) l22 ?_
    refine XS.bipush X470.here hx rfl (hb hby at_613) ?_
    refine XS.isub X470.here hx rfl (hb hby at_615) rfl ?_
    exact k
   rw [show (((ofNat len) - (18 : Int32)) : Int32) = (ofNat (len - 18)) from own_sub (b := 18) (by omega)]
   obtain ⟨T473, L473, X473, eq473, N473, st473⟩ := ca 616 (len - 18) 10 _ _ _ _ _ (by decide) (by decide) X470 eq470 N470 Z466 O465 A463 F461 F462 V464 z18 (by omega) (hb hby at_616)
   refine own_stepH (fun t k => st473.trans k) ?_
   refine oPH T473 (mkF m 631 LL [(.int ((ofNat len) - (17 : Int32))), (.ref r)]) (fun t k => ?_) ?_
   ·skip
    refine XS.bipush X473.here hx rfl (hb hby at_619) ?_
    refine XS.icmpNo X473.here hx rfl (hb hby at_621) rfl (teq rfl).2 ?_
    refine XS.aload X473.here hx rfl (hb hby at_624) l21 rfl ?_
    refine XS.iload X473.here hx rfl (hb hby at_626) l22 ?_
    refine XS.bipush X473.here hx rfl (hb hby at_628) ?_
    refine XS.isub X473.here hx rfl (hb hby at_630) rfl ?_
    exact k
   rw [show (((ofNat len) - (17 : Int32)) : Int32) = (ofNat (len - 17)) from own_sub (b := 17) (by omega)]
   obtain ⟨T475, L475, X475, eq475, N475, st475⟩ := ca 631 (len - 17) 45 _ _ _ _ _ (by decide) (by decide) X473 eq473 N473 Z466 O465 A463 F461 F462 V464 z17 (by omega) (hb hby at_631)
   refine own_stepH (fun t k => st475.trans k) ?_
   refine oPH T475 (mkF m 646 LL [(.int ((ofNat len) - (12 : Int32))), (.ref r)]) (fun t k => ?_) ?_
   ·skip
    refine XS.bipush X475.here hx rfl (hb hby at_634) ?_
    refine XS.icmpNo X475.here hx rfl (hb hby at_636) rfl (teq rfl).2 ?_
    refine XS.aload X475.here hx rfl (hb hby at_639) l21 rfl ?_
    refine XS.iload X475.here hx rfl (hb hby at_641) l22 ?_
    refine XS.bipush X475.here hx rfl (hb hby at_643) ?_
    refine XS.isub X475.here hx rfl (hb hby at_645) rfl ?_
    exact k
   rw [show (((ofNat len) - (12 : Int32)) : Int32) = (ofNat (len - 12)) from own_sub (b := 12) (by omega)]
   obtain ⟨T477, L477, X477, eq477, N477, st477⟩ := ca 646 (len - 12) 69 _ _ _ _ _ (by decide) (by decide) X475 eq475 N475 Z466 O465 A463 F461 F462 V464 z12 (by omega) (hb hby at_646)
   refine own_stepH (fun t k => st477.trans k) ?_
   refine oPH T477 (mkF m 661 LL [(.int ((ofNat len) - (9 : Int32))), (.ref r)]) (fun t k => ?_) ?_
   ·skip
    refine XS.bipush X477.here hx rfl (hb hby at_649) ?_
    refine XS.icmpNo X477.here hx rfl (hb hby at_651) rfl (teq rfl).2 ?_
    refine XS.aload X477.here hx rfl (hb hby at_654) l21 rfl ?_
    refine XS.iload X477.here hx rfl (hb hby at_656) l22 ?_
    refine XS.bipush X477.here hx rfl (hb hby at_658) ?_
    refine XS.isub X477.here hx rfl (hb hby at_660) rfl ?_
    exact k
   rw [show (((ofNat len) - (9 : Int32)) : Int32) = (ofNat (len - 9)) from own_sub (b := 9) (by omega)]
   obtain ⟨T479, L479, X479, eq479, N479, st479⟩ := ca 661 (len - 9) 32 _ _ _ _ _ (by decide) (by decide) X477 eq477 N477 Z466 O465 A463 F461 F462 V464 z9 (by omega) (hb hby at_661)
   refine own_stepH (fun t k => st479.trans k) ?_
   refine oPH T479 (mkF m 676 LL [(.int ((ofNat len) - (8 : Int32))), (.ref r)]) (fun t k => ?_) ?_
   ·skip
    refine XS.bipush X479.here hx rfl (hb hby at_664) ?_
    refine XS.icmpNo X479.here hx rfl (hb hby at_666) rfl (teq rfl).2 ?_
    refine XS.aload X479.here hx rfl (hb hby at_669) l21 rfl ?_
    refine XS.iload X479.here hx rfl (hb hby at_671) l22 ?_
    refine XS.bipush X479.here hx rfl (hb hby at_673) ?_
    refine XS.isub X479.here hx rfl (hb hby at_675) rfl ?_
    exact k
   rw [show (((ofNat len) - (8 : Int32)) : Int32) = (ofNat (len - 8)) from own_sub (b := 8) (by omega)]
   obtain ⟨T481, L481, X481, eq481, N481, st481⟩ := ca 676 (len - 8) c0 _ _ _ _ _ (by decide) (by decide) X479 eq479 N479 Z466 O465 A463 F461 F462 V464 z8 (by omega) (hb hby at_676)
   refine own_stepH (fun t k => st481.trans k) ?_
   refine oPH T481 (mkF m 691 LL [(.int ((ofNat len) - (7 : Int32))), (.ref r)]) (fun t k => ?_) ?_
   ·skip
    refine XS.iload X481.here hx rfl (hb hby at_679) l5 ?_
    refine XS.icmpNo X481.here hx rfl (hb hby at_681) rfl (teq rfl).2 ?_
    refine XS.aload X481.here hx rfl (hb hby at_684) l21 rfl ?_
    refine XS.iload X481.here hx rfl (hb hby at_686) l22 ?_
    refine XS.bipush X481.here hx rfl (hb hby at_688) ?_
    refine XS.isub X481.here hx rfl (hb hby at_690) rfl ?_
    exact k
   rw [show (((ofNat len) - (7 : Int32)) : Int32) = (ofNat (len - 7)) from own_sub (b := 7) (by omega)]
   obtain ⟨T483, L483, X483, eq483, N483, st483⟩ := ca 691 (len - 7) c1 _ _ _ _ _ (by decide) (by decide) X481 eq481 N481 Z466 O465 A463 F461 F462 V464 z7 (by omega) (hb hby at_691)
   refine own_stepH (fun t k => st483.trans k) ?_
   refine oPH T483 (mkF m 705 LL [(.int ((ofNat len) - (2 : Int32))), (.ref r)]) (fun t k => ?_) ?_
   ·skip
    refine XS.iload X483.here hx rfl (hb hby at_694) l6 ?_
    refine XS.icmpNo X483.here hx rfl (hb hby at_696) rfl (teq rfl).2 ?_
    refine XS.aload X483.here hx rfl (hb hby at_699) l21 rfl ?_
    refine XS.iload X483.here hx rfl (hb hby at_701) l22 ?_
    refine XS.iconst X483.here hx rfl (hb hby at_703) ?_
    refine XS.isub X483.here hx rfl (hb hby at_704) rfl ?_
    exact k
   rw [show (((ofNat len) - (2 : Int32)) : Int32) = (ofNat (len - 2)) from own_sub (b := 2) (by omega)]
   obtain ⟨T485, L485, X485, eq485, N485, st485⟩ := ca 705 (len - 2) 45 _ _ _ _ _ (by decide) (by decide) X483 eq483 N483 Z466 O465 A463 F461 F462 V464 z2 (by omega) (hb hby at_705)
   refine own_stepH (fun t k => st485.trans k) ?_
   refine oPH T485 (mkF m 719 LL [(.int ((ofNat len) - (1 : Int32))), (.ref r)]) (fun t k => ?_) ?_
   ·skip
    refine XS.bipush X485.here hx rfl (hb hby at_708) ?_
    refine XS.icmpNo X485.here hx rfl (hb hby at_710) rfl (teq rfl).2 ?_
    refine XS.aload X485.here hx rfl (hb hby at_713) l21 rfl ?_
    refine XS.iload X485.here hx rfl (hb hby at_715) l22 ?_
    refine XS.iconst X485.here hx rfl (hb hby at_717) ?_
    refine XS.isub X485.here hx rfl (hb hby at_718) rfl ?_
    exact k
   rw [show (((ofNat len) - (1 : Int32)) : Int32) = (ofNat (len - 1)) from own_sub (b := 1) (by omega)]
   obtain ⟨T487, L487, X487, eq487, N487, st487⟩ := ca 719 (len - 1) 10 _ _ _ _ _ (by decide) (by decide) X485 eq485 N485 Z466 O465 A463 F461 F462 V464 z1 (by omega) (hb hby at_719)
   refine own_stepH (fun t k => st487.trans k) ?_
   refine oPH T487 (mkF m 732 LL [(.int 1)]) (fun t k => ?_) ?_
   ·skip
    refine XS.bipush X487.here hx rfl (hb hby at_722) ?_
    refine XS.icmpNo X487.here hx rfl (hb hby at_724) rfl (teq rfl).2 ?_
    refine XS.iconst X487.here hx rfl (hb hby at_727) ?_
    refine XS.goto X487.here hx rfl (pc0 := 728) (pc' := 732) rfl (hb hby at_728) (by decide) (by decide) ?_
    exact k
   refine own_retNH (s := s) X487 hx hS424 (by rw [eq487]; exact hk467) (t := .boolean) Bd.returns (by simp) (hb hby at_732) (BodyLoose.notSynchronized Bd) (by decide) (by decide) ?_
   rw [show T487.heap = T460.heap from eq487]
   refine ⟨?_, C468.trans (CHv.at (s := s) (vm0 := T424.vm) X487 hZ hEL C468.1)⟩
   exact ⟨rfl, N487⟩
  ·skip
   refine oPH T470 (mkF m 603 LL [(.int (ofNat kk)), (.int (ofNat v2)), (.int (ofNat v1)), (.int (ofNat v0)), (.int 84), (.ref r)]) (fun t k => ?_) ?_
   ·skip
    refine XS.ifNo X470.here hx rfl (hb hby at_588) rfl ((if0 _ _).trans (feq hc472).1) ?_
    refine XS.aload X470.here hx rfl (hb hby at_591) l21 rfl ?_
    refine XS.bipush X470.here hx rfl (hb hby at_593) ?_
    refine XS.iload X470.here hx rfl (hb hby at_595) l15 ?_
    refine XS.iload X470.here hx rfl (hb hby at_597) l16 ?_
    refine XS.iload X470.here hx rfl (hb hby at_599) l17 ?_
    refine XS.iload X470.here hx rfl (hb hby at_601) l18 ?_
    exact k
   have hk : kk = 1 ∨ kk = 2 ∨ kk = 3 := by have q : ¬ kk = 0 := fun q => hc472 (by rw [q]; rfl); omega
   obtain ⟨_, _, ⟨T489, L489, k489, n489⟩, -, X489, ⟨Lc489, hQ489, l489, y489, z489⟩, st489⟩ := Jvm.LawKit.callS X470 hx (y := yM55) hown (mvT hZ (own_w hw 291)) (mvT hZ (own_w hw 292)) (mvT hZ (own_w hw 235)) (mvT hZ (own_w hw 293)) (by decide) (backOf (W := 0) (rm57 l Z a0 hw [] r 84 v0 v1 v2 kk cs fm t kr len vs T460.heap n0 Z466 O465 S_cs hcs S_fm hfm A463 F461 F462 V464 hk hv0 hv1 hv2 (by omega) (by omega) (G84 (by omega))) hZ (own_w hw 293) (own_w hw 235) (by decide) (by decide)) (g := (mkF m 603 LL [(.int (ofNat kk)), (.int (ofNat v2)), (.int (ofNat v1)), (.int (ofNat v0)), (.int (ofNat 84)), (.ref r)])) rfl (hsz.trans hml.symm) (argsL := [(.ref r), (.int (ofNat 84)), (.int (ofNat v0)), (.int (ofNat v1)), (.int (ofNat v2)), (.int (ofNat kk))]) (rest := []) (lenOf pd_44 rfl) rfl (by show 2 * 0 + _ ≤ _; exact Nat.le_of_eq rfl) (hb hby at_603) (fun _ _ => ⟨rfl, eq470, (by decide : 33 + 1 ≤ _), (by decide : 4475 + 4 ≤ _)⟩)
   dsimp only [Pt.U, Pt.locs, Pt.cells, Pt.slots] at X489 l489 y489 z489 st489 hQ489
   subst l489 y489 z489
   obtain ⟨rfl, N489q, Kq489⟩ := hQ489
   have N489 := Fr.app N470 N489q
   refine own_stepH st489 ?_
   have F490 := F461.keep Kq489 nin0
   have F491 := F462.keep Kq489 nin0
   have A492 := A463.keep Kq489
   have V493 := V464.keep Kq489 nin0
   have O494 := O465.keep Kq489 all0
   have Z495 := Nat.le_trans Z466 Kq489.1
   have hk496 := Nat.le_trans hk467 Kq489.1
   have C497 := C468.trans (CHr.keep Kq489 all0 C468.1)
   refine oPH T489 (mkF m 616 LL [(.int ((ofNat len) - (18 : Int32))), (.ref r)]) (fun t k => ?_) ?_
   ·skip
    refine XS.ifNo X489.here hx rfl (hb hby at_606) rfl ((if0 _ _).trans (feq (by decide)).1) ?_
    refine XS.aload X489.here hx rfl (hb hby at_609) l21 rfl ?_
    refine XS.iload X489.here hx rfl (hb hby at_611) l22 ?_
    refine XS.bipush X489.here hx rfl (hb hby at_613) ?_
    refine XS.isub X489.here hx rfl (hb hby at_615) rfl ?_
    exact k
   rw [show (((ofNat len) - (18 : Int32)) : Int32) = (ofNat (len - 18)) from own_sub (b := 18) (by omega)]
   obtain ⟨T499, L499, X499, eq499, N499, st499⟩ := ca 616 (len - 18) 10 _ _ _ _ _ (by decide) (by decide) X489 rfl N489 Z495 O494 A492 F490 F491 V493 z18 (by omega) (hb hby at_616)
   refine own_stepH (fun t k => st499.trans k) ?_
   refine oPH T499 (mkF m 631 LL [(.int ((ofNat len) - (17 : Int32))), (.ref r)]) (fun t k => ?_) ?_
   ·skip
    refine XS.bipush X499.here hx rfl (hb hby at_619) ?_
    refine XS.icmpNo X499.here hx rfl (hb hby at_621) rfl (teq rfl).2 ?_
    refine XS.aload X499.here hx rfl (hb hby at_624) l21 rfl ?_
    refine XS.iload X499.here hx rfl (hb hby at_626) l22 ?_
    refine XS.bipush X499.here hx rfl (hb hby at_628) ?_
    refine XS.isub X499.here hx rfl (hb hby at_630) rfl ?_
    exact k
   rw [show (((ofNat len) - (17 : Int32)) : Int32) = (ofNat (len - 17)) from own_sub (b := 17) (by omega)]
   obtain ⟨T501, L501, X501, eq501, N501, st501⟩ := ca 631 (len - 17) 45 _ _ _ _ _ (by decide) (by decide) X499 eq499 N499 Z495 O494 A492 F490 F491 V493 z17 (by omega) (hb hby at_631)
   refine own_stepH (fun t k => st501.trans k) ?_
   refine oPH T501 (mkF m 646 LL [(.int ((ofNat len) - (12 : Int32))), (.ref r)]) (fun t k => ?_) ?_
   ·skip
    refine XS.bipush X501.here hx rfl (hb hby at_634) ?_
    refine XS.icmpNo X501.here hx rfl (hb hby at_636) rfl (teq rfl).2 ?_
    refine XS.aload X501.here hx rfl (hb hby at_639) l21 rfl ?_
    refine XS.iload X501.here hx rfl (hb hby at_641) l22 ?_
    refine XS.bipush X501.here hx rfl (hb hby at_643) ?_
    refine XS.isub X501.here hx rfl (hb hby at_645) rfl ?_
    exact k
   rw [show (((ofNat len) - (12 : Int32)) : Int32) = (ofNat (len - 12)) from own_sub (b := 12) (by omega)]
   obtain ⟨T503, L503, X503, eq503, N503, st503⟩ := ca 646 (len - 12) 69 _ _ _ _ _ (by decide) (by decide) X501 eq501 N501 Z495 O494 A492 F490 F491 V493 z12 (by omega) (hb hby at_646)
   refine own_stepH (fun t k => st503.trans k) ?_
   refine oPH T503 (mkF m 661 LL [(.int ((ofNat len) - (9 : Int32))), (.ref r)]) (fun t k => ?_) ?_
   ·skip
    refine XS.bipush X503.here hx rfl (hb hby at_649) ?_
    refine XS.icmpNo X503.here hx rfl (hb hby at_651) rfl (teq rfl).2 ?_
    refine XS.aload X503.here hx rfl (hb hby at_654) l21 rfl ?_
    refine XS.iload X503.here hx rfl (hb hby at_656) l22 ?_
    refine XS.bipush X503.here hx rfl (hb hby at_658) ?_
    refine XS.isub X503.here hx rfl (hb hby at_660) rfl ?_
    exact k
   rw [show (((ofNat len) - (9 : Int32)) : Int32) = (ofNat (len - 9)) from own_sub (b := 9) (by omega)]
   obtain ⟨T505, L505, X505, eq505, N505, st505⟩ := ca 661 (len - 9) 32 _ _ _ _ _ (by decide) (by decide) X503 eq503 N503 Z495 O494 A492 F490 F491 V493 z9 (by omega) (hb hby at_661)
   refine own_stepH (fun t k => st505.trans k) ?_
   refine oPH T505 (mkF m 676 LL [(.int ((ofNat len) - (8 : Int32))), (.ref r)]) (fun t k => ?_) ?_
   ·skip
    refine XS.bipush X505.here hx rfl (hb hby at_664) ?_
    refine XS.icmpNo X505.here hx rfl (hb hby at_666) rfl (teq rfl).2 ?_
    refine XS.aload X505.here hx rfl (hb hby at_669) l21 rfl ?_
    refine XS.iload X505.here hx rfl (hb hby at_671) l22 ?_
    refine XS.bipush X505.here hx rfl (hb hby at_673) ?_
    refine XS.isub X505.here hx rfl (hb hby at_675) rfl ?_
    exact k
   rw [show (((ofNat len) - (8 : Int32)) : Int32) = (ofNat (len - 8)) from own_sub (b := 8) (by omega)]
   obtain ⟨T507, L507, X507, eq507, N507, st507⟩ := ca 676 (len - 8) c0 _ _ _ _ _ (by decide) (by decide) X505 eq505 N505 Z495 O494 A492 F490 F491 V493 z8 (by omega) (hb hby at_676)
   refine own_stepH (fun t k => st507.trans k) ?_
   refine oPH T507 (mkF m 691 LL [(.int ((ofNat len) - (7 : Int32))), (.ref r)]) (fun t k => ?_) ?_
   ·skip
    refine XS.iload X507.here hx rfl (hb hby at_679) l5 ?_
    refine XS.icmpNo X507.here hx rfl (hb hby at_681) rfl (teq rfl).2 ?_
    refine XS.aload X507.here hx rfl (hb hby at_684) l21 rfl ?_
    refine XS.iload X507.here hx rfl (hb hby at_686) l22 ?_
    refine XS.bipush X507.here hx rfl (hb hby at_688) ?_
    refine XS.isub X507.here hx rfl (hb hby at_690) rfl ?_
    exact k
   rw [show (((ofNat len) - (7 : Int32)) : Int32) = (ofNat (len - 7)) from own_sub (b := 7) (by omega)]
   obtain ⟨T509, L509, X509, eq509, N509, st509⟩ := ca 691 (len - 7) c1 _ _ _ _ _ (by decide) (by decide) X507 eq507 N507 Z495 O494 A492 F490 F491 V493 z7 (by omega) (hb hby at_691)
   refine own_stepH (fun t k => st509.trans k) ?_
   refine oPH T509 (mkF m 705 LL [(.int ((ofNat len) - (2 : Int32))), (.ref r)]) (fun t k => ?_) ?_
   ·skip
    refine XS.iload X509.here hx rfl (hb hby at_694) l6 ?_
    refine XS.icmpNo X509.here hx rfl (hb hby at_696) rfl (teq rfl).2 ?_
    refine XS.aload X509.here hx rfl (hb hby at_699) l21 rfl ?_
    refine XS.iload X509.here hx rfl (hb hby at_701) l22 ?_
    refine XS.iconst X509.here hx rfl (hb hby at_703) ?_
    refine XS.isub X509.here hx rfl (hb hby at_704) rfl ?_
    exact k
   rw [show (((ofNat len) - (2 : Int32)) : Int32) = (ofNat (len - 2)) from own_sub (b := 2) (by omega)]
   obtain ⟨T511, L511, X511, eq511, N511, st511⟩ := ca 705 (len - 2) 45 _ _ _ _ _ (by decide) (by decide) X509 eq509 N509 Z495 O494 A492 F490 F491 V493 z2 (by omega) (hb hby at_705)
   refine own_stepH (fun t k => st511.trans k) ?_
   refine oPH T511 (mkF m 719 LL [(.int ((ofNat len) - (1 : Int32))), (.ref r)]) (fun t k => ?_) ?_
   ·skip
    refine XS.bipush X511.here hx rfl (hb hby at_708) ?_
    refine XS.icmpNo X511.here hx rfl (hb hby at_710) rfl (teq rfl).2 ?_
    refine XS.aload X511.here hx rfl (hb hby at_713) l21 rfl ?_
    refine XS.iload X511.here hx rfl (hb hby at_715) l22 ?_
    refine XS.iconst X511.here hx rfl (hb hby at_717) ?_
    refine XS.isub X511.here hx rfl (hb hby at_718) rfl ?_
    exact k
   rw [show (((ofNat len) - (1 : Int32)) : Int32) = (ofNat (len - 1)) from own_sub (b := 1) (by omega)]
   obtain ⟨T513, L513, X513, eq513, N513, st513⟩ := ca 719 (len - 1) 10 _ _ _ _ _ (by decide) (by decide) X511 eq511 N511 Z495 O494 A492 F490 F491 V493 z1 (by omega) (hb hby at_719)
   refine own_stepH (fun t k => st513.trans k) ?_
   refine oPH T513 (mkF m 732 LL [(.int 1)]) (fun t k => ?_) ?_
   ·skip
    refine XS.bipush X513.here hx rfl (hb hby at_722) ?_
    refine XS.icmpNo X513.here hx rfl (hb hby at_724) rfl (teq rfl).2 ?_
    refine XS.iconst X513.here hx rfl (hb hby at_727) ?_
    refine XS.goto X513.here hx rfl (pc0 := 728) (pc' := 732) rfl (hb hby at_728) (by decide) (by decide) ?_
    exact k
   refine own_retNH (s := s) X513 hx hS424 (by rw [eq513]; exact hk496) (t := .boolean) Bd.returns (by simp) (hb hby at_732) (BodyLoose.notSynchronized Bd) (by decide) (by decide) ?_
   rw [show T513.heap = T489.heap from eq513]
   refine ⟨?_, C497.trans (CHv.at (s := s) (vm0 := T424.vm) X513 hZ hEL C497.1)⟩
   exact ⟨rfl, N513⟩
 refine oPH s₁ (mkF m 6 #[oI p0, oI p1, oJ q2, .second, oI p3, .unset, .unset, .unset, .unset, .unset, .unset, .unset, .unset, .unset, .unset, .unset, .unset, .unset, .unset, .unset, .unset, .unset, .unset] [(.int ((p1 &&& (255 : Int32)).toUInt32.toUInt16.toUInt32.toInt32))]) (fun t k => ?_) ?_
 ·skip
  refine XS.iloadN X0.here hx rfl (hb hby at_0) rfl ?_
  refine XS.sipush X0.here hx rfl (hb hby at_1) ?_
  refine XS.iand X0.here hx rfl (hb hby at_4) rfl ?_
  refine XS.i2c X0.here hx rfl (hb hby at_5) rfl ?_
  exact k
 obtain ⟨c0, hc0, ec0⟩ := own_cx p1
 rw [show (((p1 &&& (255 : Int32)).toUInt32.toUInt16.toUInt32.toInt32) : Int32) = (ofNat c0) from ec0]
 refine oPH s₁ (mkF m 17 #[oI p0, oI p1, oJ q2, .second, oI p3, oI (ofNat c0), .unset, .unset, .unset, .unset, .unset, .unset, .unset, .unset, .unset, .unset, .unset, .unset, .unset, .unset, .unset, .unset, .unset] [(.int ((((p1.toUInt32 >>> ((8 : Int32) &&& 31).toUInt32).toInt32) &&& (255 : Int32)).toUInt32.toUInt16.toUInt32.toInt32))]) (fun t k => ?_) ?_
 ·skip
  refine XS.istore X0.here hx rfl (hb hby at_6) rfl (l' := #[oI p0, oI p1, oJ q2, .second, oI p3, oI (ofNat c0), .unset, .unset, .unset, .unset, .unset, .unset, .unset, .unset, .unset, .unset, .unset, .unset, .unset, .unset, .unset, .unset, .unset]) rfl ?_
  refine XS.iloadN X0.here hx rfl (hb hby at_8) rfl ?_
  refine XS.bipush X0.here hx rfl (hb hby at_9) ?_
  refine XS.iushr X0.here hx rfl (hb hby at_11) rfl ?_
  refine XS.sipush X0.here hx rfl (hb hby at_12) ?_
  refine XS.iand X0.here hx rfl (hb hby at_15) rfl ?_
  refine XS.i2c X0.here hx rfl (hb hby at_16) rfl ?_
  exact k
 obtain ⟨c1, hc1, ec1⟩ := own_cx ((p1.toUInt32 >>> ((8 : Int32) &&& 31).toUInt32).toInt32)
 rw [show (((((p1.toUInt32 >>> ((8 : Int32) &&& 31).toUInt32).toInt32) &&& (255 : Int32)).toUInt32.toUInt16.toUInt32.toInt32) : Int32) = (ofNat c1) from ec1]
 refine oPH s₁ (mkF m 20 #[oI p0, oI p1, oJ q2, .second, oI p3, oI (ofNat c0), oI (ofNat c1), .unset, .unset, .unset, .unset, .unset, .unset, .unset, .unset, .unset, .unset, .unset, .unset, .unset, .unset, .unset, .unset] [(.int 2)]) (fun t k => ?_) ?_
 ·skip
  refine XS.istore X0.here hx rfl (hb hby at_17) rfl (l' := #[oI p0, oI p1, oJ q2, .second, oI p3, oI (ofNat c0), oI (ofNat c1), .unset, .unset, .unset, .unset, .unset, .unset, .unset, .unset, .unset, .unset, .unset, .unset, .unset, .unset, .unset, .unset]) rfl ?_
  refine XS.iconst X0.here hx rfl (hb hby at_19) ?_
  exact k
 obtain ⟨T1, h1, k1, X1, e1, E1, B1, A1, st1⟩ := newPE X0 hx hZ (own_w hw 0) e0 (g := (mkF m 20 #[oI p0, oI p1, oJ q2, .second, oI p3, oI (ofNat c0), oI (ofNat c1), .unset, .unset, .unset, .unset, .unset, .unset, .unset, .unset, .unset, .unset, .unset, .unset, .unset, .unset, .unset, .unset] [(.int 2)])) rfl (hb hby at_20) rfl (by decide) (cap := 2) (by decide) (by decide) (by decide) (by decide) (ad := "[C") (by decide)
 obtain ⟨b1, g1⟩ : ∃ z, z = h0.size := ⟨_, rfl⟩
 have g_b1 : n0 ≤ b1 := Nat.le_trans Z0 (Nat.le_of_eq g1.symm)
 rw [← g1] at A1 B1 st1
 have Sn1 : Safe Z own_EL s.vm h0 b1 := Safe.new (Nat.le_of_eq g1.symm)
 have O2 := O0.ext E1
 have Sf3 := Safe.ext E1 C0.1 Sn1
 have C4 := C0.trans (CHr.ext E1 C0.1)
 have V5 : Arv Z h1 b1 k1 .char (2 : Int32) [(.int 0), (.int 0)] (.int 0) := (Arv.new B1 (by decide)).pad (pad_rep [] (.int 0) 2)
 have Z6 := Nat.le_trans Z0 E1.1
 refine own_stepH st1 ?_
 refine oPH T1 (mkF m 29 #[oI p0, oI p1, oJ q2, .second, oI p3, oI (ofNat c0), oI (ofNat c1), oR b1, .unset, .unset, .unset, .unset, .unset, .unset, .unset, .unset, .unset, .unset, .unset, .unset, .unset, .unset, .unset] [(.int (ofNat c0)), (.int 0), (.ref b1)]) (fun t k => ?_) ?_
 ·skip
  refine XS.astore X1.here hx rfl (hb hby at_22) rfl rfl (l' := #[oI p0, oI p1, oJ q2, .second, oI p3, oI (ofNat c0), oI (ofNat c1), oR b1, .unset, .unset, .unset, .unset, .unset, .unset, .unset, .unset, .unset, .unset, .unset, .unset, .unset, .unset, .unset]) rfl ?_
  refine XS.aload X1.here hx rfl (hb hby at_24) rfl rfl ?_
  refine XS.iconst X1.here hx rfl (hb hby at_26) ?_
  refine XS.iload X1.here hx rfl (hb hby at_27) rfl ?_
  exact k
 obtain ⟨cl8, Arcl8, qcl8, Scl8, Mcl8, Hcl8, Gcl8⟩ := V5
 have hincl8 : ¬ ((0 : Int32) < 0 ∨ cl8.slots.size ≤ ((0 : Int32)).toNatClampNeg) := inb_of Scl8 ⟨by decide, by decide⟩
 obtain ⟨T9, h9, X9, e9, W9, st9⟩ := stC X1 hx hZ e1 Arcl8 (j := (0 : Int32)) hincl8 (g := (mkF m 29 #[oI p0, oI p1, oJ q2, .second, oI p3, oI (ofNat c0), oI (ofNat c1), oR b1, .unset, .unset, .unset, .unset, .unset, .unset, .unset, .unset, .unset, .unset, .unset, .unset, .unset, .unset, .unset] [(.int (ofNat c0)), (.int 0), (.ref b1)])) rfl rfl (hb hby at_29)
 have V10 := Arv.set Arcl8 qcl8 Scl8 Mcl8 Hcl8 Gcl8 (fits_nar_char _) W9 0 rfl (Nat.le_of_ble_eq_true rfl)
 have V10l : Arv Z h9 b1 k1 .char (2 : Int32) [(.int (nar .char (ofNat c0))), (.int 0)] (.int 0) := V10
 have A11 := A1.wr W9
 have O12 := O2.wr W9 g_b1
 have Sf13 := Safe.wr W9 Sf3 C4.1 Sf3
 have C14 := C4.trans (CHr.wr W9 Sf3 C4.1)
 have Z15 := Nat.le_trans Z6 (Keep.of_wr W9).1
 have N9 := Fr.snoc X9 N0 g_b1
 refine own_stepH st9 ?_
 refine oPH T9 (mkF m 35 #[oI p0, oI p1, oJ q2, .second, oI p3, oI (ofNat c0), oI (ofNat c1), oR b1, .unset, .unset, .unset, .unset, .unset, .unset, .unset, .unset, .unset, .unset, .unset, .unset, .unset, .unset, .unset] [(.int (ofNat c1)), (.int 1), (.ref b1)]) (fun t k => ?_) ?_
 ·skip
  refine XS.aload X9.here hx rfl (hb hby at_30) rfl rfl ?_
  refine XS.iconst X9.here hx rfl (hb hby at_32) ?_
  refine XS.iload X9.here hx rfl (hb hby at_33) rfl ?_
  exact k
 obtain ⟨cl17, Arcl17, qcl17, Scl17, Mcl17, Hcl17, Gcl17⟩ := V10l
 have hincl17 : ¬ ((1 : Int32) < 0 ∨ cl17.slots.size ≤ ((1 : Int32)).toNatClampNeg) := inb_of Scl17 ⟨by decide, by decide⟩
 obtain ⟨T18, h18, X18, e18, W18, st18⟩ := stC X9 hx hZ e9 Arcl17 (j := (1 : Int32)) hincl17 (g := (mkF m 35 #[oI p0, oI p1, oJ q2, .second, oI p3, oI (ofNat c0), oI (ofNat c1), oR b1, .unset, .unset, .unset, .unset, .unset, .unset, .unset, .unset, .unset, .unset, .unset, .unset, .unset, .unset, .unset] [(.int (ofNat c1)), (.int 1), (.ref b1)])) rfl rfl (hb hby at_35)
 have V19 := Arv.set Arcl17 qcl17 Scl17 Mcl17 Hcl17 Gcl17 (fits_nar_char _) W18 1 rfl (Nat.le_of_ble_eq_true rfl)
 have V19l : Arv Z h18 b1 k1 .char (2 : Int32) [(.int (nar .char (ofNat c0))), (.int (nar .char (ofNat c1)))] (.int 0) := V19
 have A20 := A11.wr W18
 have O21 := O12.wr W18 g_b1
 have C23 := C14.trans (CHr.wr W18 Sf13 C14.1)
 have Z24 := Nat.le_trans Z15 (Keep.of_wr W18).1
 have N18 := Fr.snoc X18 N9 g_b1
 refine own_stepH st18 ?_
 have V26 : Arv Z h18 b1 k1 .char (2 : Int32) [(.int (ofNat c0)), (.int (ofNat c1))] (.int 0) := by have q := V19l; rw [own_nch hc0, own_nch hc1] at q; exact q
 obtain ⟨T27, h27, X27, e27, E27, A27, D27, -, st27⟩ := newO X18 hx hZ hown (own_w hw 1) (own_w hw 2) (own_w hw 3) e18 (g := (mkF m 36 #[oI p0, oI p1, oJ q2, .second, oI p3, oI (ofNat c0), oI (ofNat c1), oR b1, .unset, .unset, .unset, .unset, .unset, .unset, .unset, .unset, .unset, .unset, .unset, .unset, .unset, .unset, .unset] [])) rfl (hb hby at_36) (by decide) (by decide)
 obtain ⟨b27, g27⟩ : ∃ z, z = h18.size := ⟨_, rfl⟩
 have ne28 : b1 ≠ b27 := Nat.ne_of_lt (Nat.lt_of_lt_of_le A20.lt (Nat.le_of_eq g27.symm))
 have g_b27 : n0 ≤ b27 := Nat.le_trans Z24 (Nat.le_of_eq g27.symm)
 rw [← g27] at A27 D27 st27
 have Sn27 : Safe Z own_EL s.vm h18 b27 := Safe.new (Nat.le_of_eq g27.symm)
 have V30 := V26.ext E27
 have O31 := O21.ext E27
 have Sf33 := Safe.ext E27 C23.1 Sn27
 have C34 := C23.trans (CHr.ext E27 C23.1)
 have F35 : Fld Z h27 b27 "java/lang/String" "coder" "B" (.int 0) := D27 (Or.inr (own_w hw 27)) (ty := .byte) (by decide)
 have F36 : Fld Z h27 b27 "java/lang/String" "value" "[B" .null := D27 (Or.inr (own_w hw 29)) (ty := (.array .byte)) (by decide)
 have Z37 := Nat.le_trans Z24 E27.1
 refine own_stepH st27 ?_
 refine oPH T27 (mkF m 42 #[oI p0, oI p1, oJ q2, .second, oI p3, oI (ofNat c0), oI (ofNat c1), oR b1, .unset, .unset, .unset, .unset, .unset, .unset, .unset, .unset, .unset, .unset, .unset, .unset, .unset, .unset, .unset] [(.ref b1), (.ref b27), (.ref b27)]) (fun t k => ?_) ?_
 ·skip
  refine XS.dup X27.here hx rfl (hb hby at_39) rfl rfl ?_
  refine XS.aload X27.here hx rfl (hb hby at_40) rfl rfl ?_
  exact k
 obtain ⟨_, _, ⟨T39, L39, k39, n39⟩, -, X39, ⟨Lc39, hQ39, l39, y39, z39⟩, st39⟩ := X27.specialBack hx (y := yM43) rfl hown (mvT hZ (own_w hw 4)) (mvT hZ (own_w hw 5)) (mvT hZ (own_w hw 6)) (by decide) (backOf (W := 1) (rm1 l Z a0 hw [] b27 b1 [ofNat c0, ofNat c1] cs k1 h27 n0 Z37 O31 S_cs hcs A27 F36 F35 g_b27 V30 ne28 (by simp) (by simp) (own_c28_ hc0 hc1)) hZ (own_w hw 6) (own_w hw 3) (by decide) (by decide)) (g := (mkF m 42 #[oI p0, oI p1, oJ q2, .second, oI p3, oI (ofNat c0), oI (ofNat c1), oR b1, .unset, .unset, .unset, .unset, .unset, .unset, .unset, .unset, .unset, .unset, .unset, .unset, .unset, .unset, .unset] [(.ref b1), (.ref b27), (.ref b27)])) rfl (by rw [hml]; rfl) (Steps.refl _) (a := b27) (argsL := [(.ref b1)]) (rest := [(.ref b27)]) (lenOf pd_40 rfl) rfl (by show 2 * 0 + _ ≤ _; exact Nat.le_of_eq rfl) (hb hby at_42) (fun _ _ => ⟨rfl, e27, (by decide : 2 + 1 ≤ _), (by decide : 6 + 64 ≤ _)⟩)
 dsimp only [Pt.U, Pt.locs, Pt.cells, Pt.slots] at X39 l39 y39 z39 st39 hQ39
 subst l39 y39 z39
 obtain ⟨lb, kl, rfl, N39q, Kq39, szlb, Es, Fc, Fv, Vl⟩ := hQ39
 have N39 := Fr.app N18 N39q
 refine own_stepH (fun t k => st39.trans k) ?_
 have O42 := O31.keep Kq39 (allS g_b27 all0)
 have Z43 := Nat.le_trans Z37 Kq39.1
 have C47 := C34.trans (CHr.keep Kq39 (allS Sf33 all0) C34.1)
 refine oPH T39 (mkF m 53 #[oI p0, oI p1, oJ q2, .second, oI p3, oI (ofNat c0), oI (ofNat c1), oR b1, oR b27, .unset, .unset, .unset, .unset, .unset, .unset, .unset, .unset, .unset, .unset, .unset, .unset, .unset, .unset] [(.int ((q2 &&& (255 : Int64)).toInt32))]) (fun t k => ?_) ?_
 ·skip
  refine XS.astore X39.here hx rfl (hb hby at_45) rfl rfl (l' := #[oI p0, oI p1, oJ q2, .second, oI p3, oI (ofNat c0), oI (ofNat c1), oR b1, oR b27, .unset, .unset, .unset, .unset, .unset, .unset, .unset, .unset, .unset, .unset, .unset, .unset, .unset, .unset]) rfl ?_
  refine XS.lloadN X39.here hx rfl (hb hby at_47) rfl ?_
  refine X39.ldc2Long hx hown (mvT hZ (own_w hw 30)) (g := (mkF m 48 #[oI p0, oI p1, oJ q2, .second, oI p3, oI (ofNat c0), oI (ofNat c1), oR b1, oR b27, .unset, .unset, .unset, .unset, .unset, .unset, .unset, .unset, .unset, .unset, .unset, .unset, .unset, .unset] [(.long q2)])) rfl (hb hby at_48) _ ?_
  refine XS.land X39.here hx rfl (hb hby at_51) rfl ?_
  refine XS.l2i X39.here hx rfl (hb hby at_52) rfl ?_
  exact k
 obtain ⟨u0, hu0, eu0⟩ := own_lx q2
 rw [show (((q2 &&& (255 : Int64)).toInt32) : Int32) = (ofNat u0) from eu0]
 refine oPH T39 (mkF m 64 #[oI p0, oI p1, oJ q2, .second, oI p3, oI (ofNat c0), oI (ofNat c1), oR b1, oR b27, oI (ofNat u0), .unset, .unset, .unset, .unset, .unset, .unset, .unset, .unset, .unset, .unset, .unset, .unset, .unset] [(.int ((((q2.toUInt64 >>> ((8 : Int32) &&& 0x3f).toInt64.toUInt64).toInt64) &&& (255 : Int64)).toInt32))]) (fun t k => ?_) ?_
 ·skip
  refine XS.istore X39.here hx rfl (hb hby at_53) rfl (l' := #[oI p0, oI p1, oJ q2, .second, oI p3, oI (ofNat c0), oI (ofNat c1), oR b1, oR b27, oI (ofNat u0), .unset, .unset, .unset, .unset, .unset, .unset, .unset, .unset, .unset, .unset, .unset, .unset, .unset]) rfl ?_
  refine XS.lloadN X39.here hx rfl (hb hby at_55) rfl ?_
  refine XS.bipush X39.here hx rfl (hb hby at_56) ?_
  refine XS.lushr X39.here hx rfl (hb hby at_58) rfl ?_
  refine X39.ldc2Long hx hown (mvT hZ (own_w hw 30)) (g := (mkF m 59 #[oI p0, oI p1, oJ q2, .second, oI p3, oI (ofNat c0), oI (ofNat c1), oR b1, oR b27, oI (ofNat u0), .unset, .unset, .unset, .unset, .unset, .unset, .unset, .unset, .unset, .unset, .unset, .unset, .unset] [(.long ((q2.toUInt64 >>> ((8 : Int32) &&& 0x3f).toInt64.toUInt64).toInt64))])) rfl (hb hby at_59) _ ?_
  refine XS.land X39.here hx rfl (hb hby at_62) rfl ?_
  refine XS.l2i X39.here hx rfl (hb hby at_63) rfl ?_
  exact k
 obtain ⟨u1, hu1, eu1⟩ := own_lx ((q2.toUInt64 >>> ((8 : Int32) &&& 0x3f).toInt64.toUInt64).toInt64)
 rw [show (((((q2.toUInt64 >>> ((8 : Int32) &&& 0x3f).toInt64.toUInt64).toInt64) &&& (255 : Int64)).toInt32) : Int32) = (ofNat u1) from eu1]
 refine oPH T39 (mkF m 75 #[oI p0, oI p1, oJ q2, .second, oI p3, oI (ofNat c0), oI (ofNat c1), oR b1, oR b27, oI (ofNat u0), oI (ofNat u1), .unset, .unset, .unset, .unset, .unset, .unset, .unset, .unset, .unset, .unset, .unset, .unset] [(.int ((((q2.toUInt64 >>> ((16 : Int32) &&& 0x3f).toInt64.toUInt64).toInt64) &&& (255 : Int64)).toInt32))]) (fun t k => ?_) ?_
 ·skip
  refine XS.istore X39.here hx rfl (hb hby at_64) rfl (l' := #[oI p0, oI p1, oJ q2, .second, oI p3, oI (ofNat c0), oI (ofNat c1), oR b1, oR b27, oI (ofNat u0), oI (ofNat u1), .unset, .unset, .unset, .unset, .unset, .unset, .unset, .unset, .unset, .unset, .unset, .unset]) rfl ?_
  refine XS.lloadN X39.here hx rfl (hb hby at_66) rfl ?_
  refine XS.bipush X39.here hx rfl (hb hby at_67) ?_
  refine XS.lushr X39.here hx rfl (hb hby at_69) rfl ?_
  refine X39.ldc2Long hx hown (mvT hZ (own_w hw 30)) (g := (mkF m 70 #[oI p0, oI p1, oJ q2, .second, oI p3, oI (ofNat c0), oI (ofNat c1), oR b1, oR b27, oI (ofNat u0), oI (ofNat u1), .unset, .unset, .unset, .unset, .unset, .unset, .unset, .unset, .unset, .unset, .unset, .unset] [(.long ((q2.toUInt64 >>> ((16 : Int32) &&& 0x3f).toInt64.toUInt64).toInt64))])) rfl (hb hby at_70) _ ?_
  refine XS.land X39.here hx rfl (hb hby at_73) rfl ?_
  refine XS.l2i X39.here hx rfl (hb hby at_74) rfl ?_
  exact k
 obtain ⟨u2, hu2, eu2⟩ := own_lx ((q2.toUInt64 >>> ((16 : Int32) &&& 0x3f).toInt64.toUInt64).toInt64)
 rw [show (((((q2.toUInt64 >>> ((16 : Int32) &&& 0x3f).toInt64.toUInt64).toInt64) &&& (255 : Int64)).toInt32) : Int32) = (ofNat u2) from eu2]
 refine oPH T39 (mkF m 86 #[oI p0, oI p1, oJ q2, .second, oI p3, oI (ofNat c0), oI (ofNat c1), oR b1, oR b27, oI (ofNat u0), oI (ofNat u1), oI (ofNat u2), .unset, .unset, .unset, .unset, .unset, .unset, .unset, .unset, .unset, .unset, .unset] [(.int ((((q2.toUInt64 >>> ((24 : Int32) &&& 0x3f).toInt64.toUInt64).toInt64) &&& (255 : Int64)).toInt32))]) (fun t k => ?_) ?_
 ·skip
  refine XS.istore X39.here hx rfl (hb hby at_75) rfl (l' := #[oI p0, oI p1, oJ q2, .second, oI p3, oI (ofNat c0), oI (ofNat c1), oR b1, oR b27, oI (ofNat u0), oI (ofNat u1), oI (ofNat u2), .unset, .unset, .unset, .unset, .unset, .unset, .unset, .unset, .unset, .unset, .unset]) rfl ?_
  refine XS.lloadN X39.here hx rfl (hb hby at_77) rfl ?_
  refine XS.bipush X39.here hx rfl (hb hby at_78) ?_
  refine XS.lushr X39.here hx rfl (hb hby at_80) rfl ?_
  refine X39.ldc2Long hx hown (mvT hZ (own_w hw 30)) (g := (mkF m 81 #[oI p0, oI p1, oJ q2, .second, oI p3, oI (ofNat c0), oI (ofNat c1), oR b1, oR b27, oI (ofNat u0), oI (ofNat u1), oI (ofNat u2), .unset, .unset, .unset, .unset, .unset, .unset, .unset, .unset, .unset, .unset, .unset] [(.long ((q2.toUInt64 >>> ((24 : Int32) &&& 0x3f).toInt64.toUInt64).toInt64))])) rfl (hb hby at_81) _ ?_
  refine XS.land X39.here hx rfl (hb hby at_84) rfl ?_
  refine XS.l2i X39.here hx rfl (hb hby at_85) rfl ?_
  exact k
 obtain ⟨u3, hu3, eu3⟩ := own_lx ((q2.toUInt64 >>> ((24 : Int32) &&& 0x3f).toInt64.toUInt64).toInt64)
 rw [show (((((q2.toUInt64 >>> ((24 : Int32) &&& 0x3f).toInt64.toUInt64).toInt64) &&& (255 : Int64)).toInt32) : Int32) = (ofNat u3) from eu3]
 refine oPH T39 (mkF m 97 #[oI p0, oI p1, oJ q2, .second, oI p3, oI (ofNat c0), oI (ofNat c1), oR b1, oR b27, oI (ofNat u0), oI (ofNat u1), oI (ofNat u2), oI (ofNat u3), .unset, .unset, .unset, .unset, .unset, .unset, .unset, .unset, .unset, .unset] [(.int ((((q2.toUInt64 >>> ((32 : Int32) &&& 0x3f).toInt64.toUInt64).toInt64) &&& (255 : Int64)).toInt32))]) (fun t k => ?_) ?_
 ·skip
  refine XS.istore X39.here hx rfl (hb hby at_86) rfl (l' := #[oI p0, oI p1, oJ q2, .second, oI p3, oI (ofNat c0), oI (ofNat c1), oR b1, oR b27, oI (ofNat u0), oI (ofNat u1), oI (ofNat u2), oI (ofNat u3), .unset, .unset, .unset, .unset, .unset, .unset, .unset, .unset, .unset, .unset]) rfl ?_
  refine XS.lloadN X39.here hx rfl (hb hby at_88) rfl ?_
  refine XS.bipush X39.here hx rfl (hb hby at_89) ?_
  refine XS.lushr X39.here hx rfl (hb hby at_91) rfl ?_
  refine X39.ldc2Long hx hown (mvT hZ (own_w hw 30)) (g := (mkF m 92 #[oI p0, oI p1, oJ q2, .second, oI p3, oI (ofNat c0), oI (ofNat c1), oR b1, oR b27, oI (ofNat u0), oI (ofNat u1), oI (ofNat u2), oI (ofNat u3), .unset, .unset, .unset, .unset, .unset, .unset, .unset, .unset, .unset, .unset] [(.long ((q2.toUInt64 >>> ((32 : Int32) &&& 0x3f).toInt64.toUInt64).toInt64))])) rfl (hb hby at_92) _ ?_
  refine XS.land X39.here hx rfl (hb hby at_95) rfl ?_
  refine XS.l2i X39.here hx rfl (hb hby at_96) rfl ?_
  exact k
 obtain ⟨u4, hu4, eu4⟩ := own_lx ((q2.toUInt64 >>> ((32 : Int32) &&& 0x3f).toInt64.toUInt64).toInt64)
 rw [show (((((q2.toUInt64 >>> ((32 : Int32) &&& 0x3f).toInt64.toUInt64).toInt64) &&& (255 : Int64)).toInt32) : Int32) = (ofNat u4) from eu4]
 refine oPH T39 (mkF m 108 #[oI p0, oI p1, oJ q2, .second, oI p3, oI (ofNat c0), oI (ofNat c1), oR b1, oR b27, oI (ofNat u0), oI (ofNat u1), oI (ofNat u2), oI (ofNat u3), oI (ofNat u4), .unset, .unset, .unset, .unset, .unset, .unset, .unset, .unset, .unset] [(.int ((((q2.toUInt64 >>> ((40 : Int32) &&& 0x3f).toInt64.toUInt64).toInt64) &&& (255 : Int64)).toInt32))]) (fun t k => ?_) ?_
 ·skip
  refine XS.istore X39.here hx rfl (hb hby at_97) rfl (l' := #[oI p0, oI p1, oJ q2, .second, oI p3, oI (ofNat c0), oI (ofNat c1), oR b1, oR b27, oI (ofNat u0), oI (ofNat u1), oI (ofNat u2), oI (ofNat u3), oI (ofNat u4), .unset, .unset, .unset, .unset, .unset, .unset, .unset, .unset, .unset]) rfl ?_
  refine XS.lloadN X39.here hx rfl (hb hby at_99) rfl ?_
  refine XS.bipush X39.here hx rfl (hb hby at_100) ?_
  refine XS.lushr X39.here hx rfl (hb hby at_102) rfl ?_
  refine X39.ldc2Long hx hown (mvT hZ (own_w hw 30)) (g := (mkF m 103 #[oI p0, oI p1, oJ q2, .second, oI p3, oI (ofNat c0), oI (ofNat c1), oR b1, oR b27, oI (ofNat u0), oI (ofNat u1), oI (ofNat u2), oI (ofNat u3), oI (ofNat u4), .unset, .unset, .unset, .unset, .unset, .unset, .unset, .unset, .unset] [(.long ((q2.toUInt64 >>> ((40 : Int32) &&& 0x3f).toInt64.toUInt64).toInt64))])) rfl (hb hby at_103) _ ?_
  refine XS.land X39.here hx rfl (hb hby at_106) rfl ?_
  refine XS.l2i X39.here hx rfl (hb hby at_107) rfl ?_
  exact k
 obtain ⟨u5, hu5, eu5⟩ := own_lx ((q2.toUInt64 >>> ((40 : Int32) &&& 0x3f).toInt64.toUInt64).toInt64)
 rw [show (((((q2.toUInt64 >>> ((40 : Int32) &&& 0x3f).toInt64.toUInt64).toInt64) &&& (255 : Int64)).toInt32) : Int32) = (ofNat u5) from eu5]
 refine oPH T39 (mkF m 116 #[oI p0, oI p1, oJ q2, .second, oI p3, oI (ofNat c0), oI (ofNat c1), oR b1, oR b27, oI (ofNat u0), oI (ofNat u1), oI (ofNat u2), oI (ofNat u3), oI (ofNat u4), oI (ofNat u5), .unset, .unset, .unset, .unset, .unset, .unset, .unset, .unset] [(.int (p3 &&& (255 : Int32)))]) (fun t k => ?_) ?_
 ·skip
  refine XS.istore X39.here hx rfl (hb hby at_108) rfl (l' := #[oI p0, oI p1, oJ q2, .second, oI p3, oI (ofNat c0), oI (ofNat c1), oR b1, oR b27, oI (ofNat u0), oI (ofNat u1), oI (ofNat u2), oI (ofNat u3), oI (ofNat u4), oI (ofNat u5), .unset, .unset, .unset, .unset, .unset, .unset, .unset, .unset]) rfl ?_
  refine XS.iload X39.here hx rfl (hb hby at_110) rfl ?_
  refine XS.sipush X39.here hx rfl (hb hby at_112) ?_
  refine XS.iand X39.here hx rfl (hb hby at_115) rfl ?_
  exact k
 obtain ⟨v0, hv0, ev0⟩ := own_ix p3
 rw [show ((p3 &&& (255 : Int32)) : Int32) = (ofNat v0) from ev0]
 refine oPH T39 (mkF m 127 #[oI p0, oI p1, oJ q2, .second, oI p3, oI (ofNat c0), oI (ofNat c1), oR b1, oR b27, oI (ofNat u0), oI (ofNat u1), oI (ofNat u2), oI (ofNat u3), oI (ofNat u4), oI (ofNat u5), oI (ofNat v0), .unset, .unset, .unset, .unset, .unset, .unset, .unset] [(.int (((p3.toUInt32 >>> ((8 : Int32) &&& 31).toUInt32).toInt32) &&& (255 : Int32)))]) (fun t k => ?_) ?_
 ·skip
  refine XS.istore X39.here hx rfl (hb hby at_116) rfl (l' := #[oI p0, oI p1, oJ q2, .second, oI p3, oI (ofNat c0), oI (ofNat c1), oR b1, oR b27, oI (ofNat u0), oI (ofNat u1), oI (ofNat u2), oI (ofNat u3), oI (ofNat u4), oI (ofNat u5), oI (ofNat v0), .unset, .unset, .unset, .unset, .unset, .unset, .unset]) rfl ?_
  refine XS.iload X39.here hx rfl (hb hby at_118) rfl ?_
  refine XS.bipush X39.here hx rfl (hb hby at_120) ?_
  refine XS.iushr X39.here hx rfl (hb hby at_122) rfl ?_
  refine XS.sipush X39.here hx rfl (hb hby at_123) ?_
  refine XS.iand X39.here hx rfl (hb hby at_126) rfl ?_
  exact k
 obtain ⟨v1, hv1, ev1⟩ := own_ix ((p3.toUInt32 >>> ((8 : Int32) &&& 31).toUInt32).toInt32)
 rw [show ((((p3.toUInt32 >>> ((8 : Int32) &&& 31).toUInt32).toInt32) &&& (255 : Int32)) : Int32) = (ofNat v1) from ev1]
 refine oPH T39 (mkF m 138 #[oI p0, oI p1, oJ q2, .second, oI p3, oI (ofNat c0), oI (ofNat c1), oR b1, oR b27, oI (ofNat u0), oI (ofNat u1), oI (ofNat u2), oI (ofNat u3), oI (ofNat u4), oI (ofNat u5), oI (ofNat v0), oI (ofNat v1), .unset, .unset, .unset, .unset, .unset, .unset] [(.int (((p3.toUInt32 >>> ((16 : Int32) &&& 31).toUInt32).toInt32) &&& (255 : Int32)))]) (fun t k => ?_) ?_
 ·skip
  refine XS.istore X39.here hx rfl (hb hby at_127) rfl (l' := #[oI p0, oI p1, oJ q2, .second, oI p3, oI (ofNat c0), oI (ofNat c1), oR b1, oR b27, oI (ofNat u0), oI (ofNat u1), oI (ofNat u2), oI (ofNat u3), oI (ofNat u4), oI (ofNat u5), oI (ofNat v0), oI (ofNat v1), .unset, .unset, .unset, .unset, .unset, .unset]) rfl ?_
  refine XS.iload X39.here hx rfl (hb hby at_129) rfl ?_
  refine XS.bipush X39.here hx rfl (hb hby at_131) ?_
  refine XS.iushr X39.here hx rfl (hb hby at_133) rfl ?_
  refine XS.sipush X39.here hx rfl (hb hby at_134) ?_
  refine XS.iand X39.here hx rfl (hb hby at_137) rfl ?_
  exact k
 obtain ⟨v2, hv2, ev2⟩ := own_ix ((p3.toUInt32 >>> ((16 : Int32) &&& 31).toUInt32).toInt32)
 rw [show ((((p3.toUInt32 >>> ((16 : Int32) &&& 31).toUInt32).toInt32) &&& (255 : Int32)) : Int32) = (ofNat v2) from ev2]
 refine oPH T39 (mkF m 143 #[oI p0, oI p1, oJ q2, .second, oI p3, oI (ofNat c0), oI (ofNat c1), oR b1, oR b27, oI (ofNat u0), oI (ofNat u1), oI (ofNat u2), oI (ofNat u3), oI (ofNat u4), oI (ofNat u5), oI (ofNat v0), oI (ofNat v1), oI (ofNat v2), .unset, .unset, .unset, .unset, .unset] [(.int (p0 &&& (3 : Int32)))]) (fun t k => ?_) ?_
 ·skip
  refine XS.istore X39.here hx rfl (hb hby at_138) rfl (l' := #[oI p0, oI p1, oJ q2, .second, oI p3, oI (ofNat c0), oI (ofNat c1), oR b1, oR b27, oI (ofNat u0), oI (ofNat u1), oI (ofNat u2), oI (ofNat u3), oI (ofNat u4), oI (ofNat u5), oI (ofNat v0), oI (ofNat v1), oI (ofNat v2), .unset, .unset, .unset, .unset, .unset]) rfl ?_
  refine XS.iloadN X39.here hx rfl (hb hby at_140) rfl ?_
  refine XS.iconst X39.here hx rfl (hb hby at_141) ?_
  refine XS.iand X39.here hx rfl (hb hby at_142) rfl ?_
  exact k
 obtain ⟨kk, hkk, ekk⟩ := own_k3 p0
 rw [show ((p0 &&& (3 : Int32)) : Int32) = (ofNat kk) from ekk]
 refine oPH T39 (mkF m 148 #[oI p0, oI p1, oJ q2, .second, oI p3, oI (ofNat c0), oI (ofNat c1), oR b1, oR b27, oI (ofNat u0), oI (ofNat u1), oI (ofNat u2), oI (ofNat u3), oI (ofNat u4), oI (ofNat u5), oI (ofNat v0), oI (ofNat v1), oI (ofNat v2), oI (ofNat kk), .unset, .unset, .unset, .unset] [(.int (p0 &&& (4 : Int32)))]) (fun t k => ?_) ?_
 ·skip
  refine XS.istore X39.here hx rfl (hb hby at_143) rfl (l' := #[oI p0, oI p1, oJ q2, .second, oI p3, oI (ofNat c0), oI (ofNat c1), oR b1, oR b27, oI (ofNat u0), oI (ofNat u1), oI (ofNat u2), oI (ofNat u3), oI (ofNat u4), oI (ofNat u5), oI (ofNat v0), oI (ofNat v1), oI (ofNat v2), oI (ofNat kk), .unset, .unset, .unset, .unset]) rfl ?_
  refine XS.iloadN X39.here hx rfl (hb hby at_145) rfl ?_
  refine XS.iconst X39.here hx rfl (hb hby at_146) ?_
  refine XS.iand X39.here hx rfl (hb hby at_147) rfl ?_
  exact k
 by_cases hc48 : (p0 &&& (4 : Int32)) = (0 : Int32)
 ·skip
  refine oPH T39 (mkF m 153 #[oI p0, oI p1, oJ q2, .second, oI p3, oI (ofNat c0), oI (ofNat c1), oR b1, oR b27, oI (ofNat u0), oI (ofNat u1), oI (ofNat u2), oI (ofNat u3), oI (ofNat u4), oI (ofNat u5), oI (ofNat v0), oI (ofNat v1), oI (ofNat v2), oI (ofNat kk), .unset, .unset, .unset, .unset] [(.int (ofNat kk))]) (fun t k => ?_) ?_
  ·skip
   refine XS.ifNo X39.here hx rfl (hb hby at_148) rfl ((if0 _ _).trans (teq hc48).2) ?_
   refine XS.iload X39.here hx rfl (hb hby at_151) rfl ?_
   exact k
  obtain ⟨T49, h49, k49, X49, e49, E49, B49, A49, st49⟩ := newPE X39 hx hZ (own_w hw 19) rfl (g := (mkF m 153 #[oI p0, oI p1, oJ q2, .second, oI p3, oI (ofNat c0), oI (ofNat c1), oR b1, oR b27, oI (ofNat u0), oI (ofNat u1), oI (ofNat u2), oI (ofNat u3), oI (ofNat u4), oI (ofNat u5), oI (ofNat v0), oI (ofNat v1), oI (ofNat v2), oI (ofNat kk), .unset, .unset, .unset, .unset] [(.int (ofNat kk))])) rfl (hb hby at_153) rfl (own_nn _ (by omega)) (cap := 3) (by rw [own_tn (by omega)]; omega) (by decide) (by decide) (by decide) (ad := "[B") (by decide)
  obtain ⟨b49, g49⟩ : ∃ z, z = T39.heap.size := ⟨_, rfl⟩
  have ne50 : b27 ≠ b49 := Nat.ne_of_lt (Nat.lt_of_lt_of_le Fc.lt (Nat.le_of_eq g49.symm))
  have ne51 : lb ≠ b49 := Nat.ne_of_lt (Nat.lt_of_lt_of_le Vl.lt (Nat.le_of_eq g49.symm))
  have g_b49 : n0 ≤ b49 := Nat.le_trans Z43 (Nat.le_of_eq g49.symm)
  rw [← g49] at A49 B49 st49
  have Sn49 : Safe Z own_EL s.vm T39.heap b49 := Safe.new (Nat.le_of_eq g49.symm)
  have F52 := Fc.ext E49
  have F53 := Fv.ext E49
  have A54 := Es.ext E49
  have V55 := Vl.ext E49
  have O56 := O42.ext E49
  have Sf59 := Safe.ext E49 C47.1 Sn49
  have C60 := C47.trans (CHr.ext E49 C47.1)
  have V61 : Arv Z h49 b49 k49 .byte (ofNat kk) [] (.int 0) := Arv.new B49 (own_nn _ (by omega))
  have Z62 := Nat.le_trans Z43 E49.1
  refine own_stepH st49 ?_
  have V64 : Arv Z h49 b49 k49 .byte (ofNat kk) (List.replicate kk (.int 0)) (.int 0) := V61.pad (pad_rep [] (.int 0) kk)
  refine oPH T49 (mkF m 157 #[oI p0, oI p1, oJ q2, .second, oI p3, oI (ofNat c0), oI (ofNat c1), oR b1, oR b27, oI (ofNat u0), oI (ofNat u1), oI (ofNat u2), oI (ofNat u3), oI (ofNat u4), oI (ofNat u5), oI (ofNat v0), oI (ofNat v1), oI (ofNat v2), oI (ofNat kk), oR b49, .unset, .unset, .unset] []) (fun t k => ?_) ?_
  ·skip
   refine XS.astore X49.here hx rfl (hb hby at_155) rfl rfl (l' := #[oI p0, oI p1, oJ q2, .second, oI p3, oI (ofNat c0), oI (ofNat c1), oR b1, oR b27, oI (ofNat u0), oI (ofNat u1), oI (ofNat u2), oI (ofNat u3), oI (ofNat u4), oI (ofNat u5), oI (ofNat v0), oI (ofNat v1), oI (ofNat v2), oI (ofNat kk), oR b49, .unset, .unset, .unset]) rfl ?_
   exact k
  generalize hLL : (#[oI p0, oI p1, oJ q2, .second, oI p3, oI (ofNat c0), oI (ofNat c1), oR b1, oR b27, oI (ofNat u0), oI (ofNat u1), oI (ofNat u2), oI (ofNat u3), oI (ofNat u4), oI (ofNat u5), oI (ofNat v0), oI (ofNat v1), oI (ofNat v2), oI (ofNat kk), oR b49, .unset, .unset, .unset] : Array Slot) = LL
  have l9 : LL[9]? = some (oI (ofNat u0)) := by rw [← hLL]; rfl
  have l10 : LL[10]? = some (oI (ofNat u1)) := by rw [← hLL]; rfl
  have l11 : LL[11]? = some (oI (ofNat u2)) := by rw [← hLL]; rfl
  have l18 : LL[18]? = some (oI (ofNat kk)) := by rw [← hLL]; rfl
  have l19 : LL[19]? = some (oR b49) := by rw [← hLL]; rfl
  have hsz : LL.size = 23 := by rw [← hLL]; rfl
  refine oPH T49 (mkF m 159 LL [(.int (ofNat kk))]) (fun t k => ?_) ?_
  ·skip
   refine XS.iload X49.here hx rfl (hb hby at_157) l18 ?_
   exact k
  by_cases hc65 : (0 : Int32) < (ofNat kk)
  ·skip
   refine oPH T49 (mkF m 162 LL []) (fun t k => ?_) ?_
   ·skip
    refine XS.ifNo X49.here hx rfl (hb hby at_159) rfl ((if0 _ _).trans (tlt hc65).2.2.2) ?_
    exact k
   have hkp1 : 0 < kk := by have q := (own_lt (a := 0) (by omega) (by omega)).mp hc65; omega
   refine oPH T49 (mkF m 168 LL [(.int ((ofNat u0).toInt8.toInt32)), (.int 0), (.ref b49)]) (fun t k => ?_) ?_
   ·skip
    refine XS.aload X49.here hx rfl (hb hby at_162) l19 rfl ?_
    refine XS.iconst X49.here hx rfl (hb hby at_164) ?_
    refine XS.iload X49.here hx rfl (hb hby at_165) l9 ?_
    refine XS.i2b X49.here hx rfl (hb hby at_167) rfl ?_
    exact k
   obtain ⟨cl66, Arcl66, qcl66, Scl66, Mcl66, Hcl66, Gcl66⟩ := V64
   have hincl66 : ¬ ((0 : Int32) < 0 ∨ cl66.slots.size ≤ ((0 : Int32)).toNatClampNeg) := inb_of Scl66 (own_tin (j := 0) (by omega) (by omega))
   obtain ⟨T67, h67, X67, e67, W67, st67⟩ := stB X49 hx hZ e49 Arcl66 (j := (0 : Int32)) hincl66 (g := (mkF m 168 LL [(.int ((ofNat u0).toInt8.toInt32)), (.int 0), (.ref b49)])) rfl rfl (hb hby at_168)
   have V68 := Arv.set Arcl66 qcl66 Scl66 Mcl66 Hcl66 Gcl66 (fits_nar_byte _) W67 0 rfl (by (try simp only [List.length_set, List.length_replicate]); omega)
   have F69 := F52.other W67 (Or.inl ne50)
   have F70 := F53.other W67 (Or.inl ne50)
   have A71 := A54.wr W67
   have V73 := V55.other W67 ne51
   have O74 := O56.wr W67 g_b49
   have Sf77 := Safe.wr W67 Sf59 C60.1 Sf59
   have C78 := C60.trans (CHr.wr W67 Sf59 C60.1)
   have Z79 := Nat.le_trans Z62 (Keep.of_wr W67).1
   have N67 := Fr.snoc X67 N39 g_b49
   refine own_stepH st67 ?_
   refine oPH T67 (mkF m 172 LL [(.int 1), (.int (ofNat kk))]) (fun t k => ?_) ?_
   ·skip
    refine XS.iload X67.here hx rfl (hb hby at_169) l18 ?_
    refine XS.iconst X67.here hx rfl (hb hby at_171) ?_
    exact k
   by_cases hc81 : (1 : Int32) < (ofNat kk)
   ·skip
    refine oPH T67 (mkF m 175 LL []) (fun t k => ?_) ?_
    ·skip
     refine XS.icmpNo X67.here hx rfl (hb hby at_172) rfl (tlt hc81).2.2.2 ?_
     exact k
    have hkp2 : 1 < kk := by have q := (own_lt (a := 1) (by omega) (by omega)).mp hc81; omega
    refine oPH T67 (mkF m 181 LL [(.int ((ofNat u1).toInt8.toInt32)), (.int 1), (.ref b49)]) (fun t k => ?_) ?_
    ·skip
     refine XS.aload X67.here hx rfl (hb hby at_175) l19 rfl ?_
     refine XS.iconst X67.here hx rfl (hb hby at_177) ?_
     refine XS.iload X67.here hx rfl (hb hby at_178) l10 ?_
     refine XS.i2b X67.here hx rfl (hb hby at_180) rfl ?_
     exact k
    obtain ⟨cl82, Arcl82, qcl82, Scl82, Mcl82, Hcl82, Gcl82⟩ := V68
    have hincl82 : ¬ ((1 : Int32) < 0 ∨ cl82.slots.size ≤ ((1 : Int32)).toNatClampNeg) := inb_of Scl82 (own_tin (j := 1) (by omega) (by omega))
    obtain ⟨T83, h83, X83, e83, W83, st83⟩ := stB X67 hx hZ e67 Arcl82 (j := (1 : Int32)) hincl82 (g := (mkF m 181 LL [(.int ((ofNat u1).toInt8.toInt32)), (.int 1), (.ref b49)])) rfl rfl (hb hby at_181)
    have V84 := Arv.set Arcl82 qcl82 Scl82 Mcl82 Hcl82 Gcl82 (fits_nar_byte _) W83 1 rfl (by (try simp only [List.length_set, List.length_replicate]); omega)
    have F85 := F69.other W83 (Or.inl ne50)
    have F86 := F70.other W83 (Or.inl ne50)
    have A87 := A71.wr W83
    have V89 := V73.other W83 ne51
    have O90 := O74.wr W83 g_b49
    have Sf93 := Safe.wr W83 Sf77 C78.1 Sf77
    have C94 := C78.trans (CHr.wr W83 Sf77 C78.1)
    have Z95 := Nat.le_trans Z79 (Keep.of_wr W83).1
    have N83 := Fr.snoc X83 N67 g_b49
    refine own_stepH st83 ?_
    refine oPH T83 (mkF m 185 LL [(.int 2), (.int (ofNat kk))]) (fun t k => ?_) ?_
    ·skip
     refine XS.iload X83.here hx rfl (hb hby at_182) l18 ?_
     refine XS.iconst X83.here hx rfl (hb hby at_184) ?_
     exact k
    by_cases hc97 : (2 : Int32) < (ofNat kk)
    ·skip
     refine oPH T83 (mkF m 188 LL []) (fun t k => ?_) ?_
     ·skip
      refine XS.icmpNo X83.here hx rfl (hb hby at_185) rfl (tlt hc97).2.2.2 ?_
      exact k
     have hkp3 : 2 < kk := by have q := (own_lt (a := 2) (by omega) (by omega)).mp hc97; omega
     refine oPH T83 (mkF m 194 LL [(.int ((ofNat u2).toInt8.toInt32)), (.int 2), (.ref b49)]) (fun t k => ?_) ?_
     ·skip
      refine XS.aload X83.here hx rfl (hb hby at_188) l19 rfl ?_
      refine XS.iconst X83.here hx rfl (hb hby at_190) ?_
      refine XS.iload X83.here hx rfl (hb hby at_191) l11 ?_
      refine XS.i2b X83.here hx rfl (hb hby at_193) rfl ?_
      exact k
     obtain ⟨cl98, Arcl98, qcl98, Scl98, Mcl98, Hcl98, Gcl98⟩ := V84
     have hincl98 : ¬ ((2 : Int32) < 0 ∨ cl98.slots.size ≤ ((2 : Int32)).toNatClampNeg) := inb_of Scl98 (own_tin (j := 2) (by omega) (by omega))
     obtain ⟨T99, h99, X99, e99, W99, st99⟩ := stB X83 hx hZ e83 Arcl98 (j := (2 : Int32)) hincl98 (g := (mkF m 194 LL [(.int ((ofNat u2).toInt8.toInt32)), (.int 2), (.ref b49)])) rfl rfl (hb hby at_194)
     have V100 := Arv.set Arcl98 qcl98 Scl98 Mcl98 Hcl98 Gcl98 (fits_nar_byte _) W99 2 rfl (by (try simp only [List.length_set, List.length_replicate]); omega)
     have F101 := F85.other W99 (Or.inl ne50)
     have F102 := F86.other W99 (Or.inl ne50)
     have A103 := A87.wr W99
     have V105 := V89.other W99 ne51
     have O106 := O90.wr W99 g_b49
     have C110 := C94.trans (CHr.wr W99 Sf93 C94.1)
     have Z111 := Nat.le_trans Z95 (Keep.of_wr W99).1
     have N99 := Fr.snoc X99 N83 g_b49
     refine own_stepH st99 ?_
     subst hLL
     obtain rfl : kk = 3 := by omega
     exact tS 3 _ _ _ _ _ _ _ _ _ _ _ _ _ _ _ _ _ _ _ _ _ _ _ _ _  [(nar .byte ((ofNat u0).toInt8.toInt32)), (nar .byte ((ofNat u1).toInt8.toInt32)), (nar .byte ((ofNat u2).toInt8.toInt32))] V100 hc0 hc1 rfl (by decide) hu0 hu1 hu2 (own_u8 hu0) (fun _ => (own_u8 hu1)) (fun _ => (own_u8 hu2)) X99 e99 N99 Z111 O106 C110 A103 F101 F102 V105
    ·skip
     refine oPH T83 (mkF m 195 LL []) (fun t k => ?_) ?_
     ·skip
      refine XS.icmpYes X83.here hx rfl (pc0 := 185) (pc' := 195) rfl (hb hby at_185) rfl (flt hc97).2.2.2 (by decide) (by decide) ?_
      exact k
     subst hLL
     obtain rfl : kk = 2 := by have q : ¬ 2 < kk := fun q => hc97 ((own_lt (a := 2) (by omega) (by omega)).mpr (by omega)); omega
     exact tS 2 _ _ _ _ _ _ _ _ _ _ _ _ _ _ _ _ _ _ _ _ _ _ _ _ _  [(nar .byte ((ofNat u0).toInt8.toInt32)), (nar .byte ((ofNat u1).toInt8.toInt32))] V84 hc0 hc1 rfl (by decide) hu0 hu1 hu2 (own_u8 hu0) (fun _ => (own_u8 hu1)) (fun q => absurd q (by decide)) X83 e83 N83 Z95 O90 C94 A87 F85 F86 V89
   ·skip
    refine oPH T67 (mkF m 195 LL []) (fun t k => ?_) ?_
    ·skip
     refine XS.icmpYes X67.here hx rfl (pc0 := 172) (pc' := 182) rfl (hb hby at_172) rfl (flt hc81).2.2.2 (by decide) (by decide) ?_
     refine XS.iload X67.here hx rfl (hb hby at_182) l18 ?_
     refine XS.iconst X67.here hx rfl (hb hby at_184) ?_
     refine XS.icmpYes X67.here hx rfl (pc0 := 185) (pc' := 195) rfl (hb hby at_185) rfl (flt (fun q => hc81 (Int32.lt_trans (by decide) q))).2.2.2 (by decide) (by decide) ?_
     exact k
    subst hLL
    obtain rfl : kk = 1 := by have q : ¬ 1 < kk := fun q => hc81 ((own_lt (a := 1) (by omega) (by omega)).mpr (by omega)); omega
    exact tS 1 _ _ _ _ _ _ _ _ _ _ _ _ _ _ _ _ _ _ _ _ _ _ _ _ _  [(nar .byte ((ofNat u0).toInt8.toInt32))] V68 hc0 hc1 rfl (by decide) hu0 hu1 hu2 (own_u8 hu0) (fun q => absurd q (by decide)) (fun q => absurd q (by decide)) X67 e67 N67 Z79 O74 C78 A71 F69 F70 V73
  ·skip
   refine oPH T49 (mkF m 195 LL []) (fun t k => ?_) ?_
   ·skip
    refine XS.ifYes X49.here hx rfl (pc0 := 159) (pc' := 169) rfl (hb hby at_159) rfl ((if0 _ _).trans (flt hc65).2.2.2) (by decide) (by decide) ?_
    refine XS.iload X49.here hx rfl (hb hby at_169) l18 ?_
    refine XS.iconst X49.here hx rfl (hb hby at_171) ?_
    refine XS.icmpYes X49.here hx rfl (pc0 := 172) (pc' := 182) rfl (hb hby at_172) rfl (flt (fun q => hc65 (Int32.lt_trans (by decide) q))).2.2.2 (by decide) (by decide) ?_
    refine XS.iload X49.here hx rfl (hb hby at_182) l18 ?_
    refine XS.iconst X49.here hx rfl (hb hby at_184) ?_
    refine XS.icmpYes X49.here hx rfl (pc0 := 185) (pc' := 195) rfl (hb hby at_185) rfl (flt (fun q => hc65 (Int32.lt_trans (by decide) q))).2.2.2 (by decide) (by decide) ?_
    exact k
   subst hLL
   obtain rfl : kk = 0 := by have q : ¬ 0 < kk := fun q => hc65 ((own_lt (a := 0) (by omega) (by omega)).mpr (by omega)); omega
   exact tS0 _ _ _ _ _ _ _ _ _ _ _ _ _ _ _ _ _ _ _ _ _ _ _ _ _  [] V64 hc0 hc1 rfl X49 e49 N39 Z62 O56 C60 A54 F52 F53 V55
 ·skip
  refine oPH T39 (mkF m 298 #[oI p0, oI p1, oJ q2, .second, oI p3, oI (ofNat c0), oI (ofNat c1), oR b1, oR b27, oI (ofNat u0), oI (ofNat u1), oI (ofNat u2), oI (ofNat u3), oI (ofNat u4), oI (ofNat u5), oI (ofNat v0), oI (ofNat v1), oI (ofNat v2), oI (ofNat kk), .unset, .unset, .unset, .unset] [(.int ((48 : Int32) + (ofNat kk)))]) (fun t k => ?_) ?_
  ·skip
   refine XS.ifYes X39.here hx rfl (pc0 := 148) (pc' := 293) rfl (hb hby at_148) rfl ((if0 _ _).trans (feq hc48).2) (by decide) (by decide) ?_
   refine XS.bipush X39.here hx rfl (hb hby at_293) ?_
   refine XS.iload X39.here hx rfl (hb hby at_295) rfl ?_
   refine XS.iadd X39.here hx rfl (hb hby at_297) rfl ?_
   exact k
  rw [show (((48 : Int32) + (ofNat kk)) : Int32) = (ofNat (48 + kk)) from own_add 48 kk]
  refine oPH T39 (mkF m 302 #[oI p0, oI p1, oJ q2, .second, oI p3, oI (ofNat c0), oI (ofNat c1), oR b1, oR b27, oI (ofNat u0), oI (ofNat u1), oI (ofNat u2), oI (ofNat u3), oI (ofNat u4), oI (ofNat u5), oI (ofNat v0), oI (ofNat v1), oI (ofNat v2), oI (ofNat kk), oI (ofNat (48 + kk)), .unset, .unset, .unset] [(.int (ofNat (48 + kk)))]) (fun t k => ?_) ?_
  ·skip
   refine XS.istore X39.here hx rfl (hb hby at_298) rfl (l' := #[oI p0, oI p1, oJ q2, .second, oI p3, oI (ofNat c0), oI (ofNat c1), oR b1, oR b27, oI (ofNat u0), oI (ofNat u1), oI (ofNat u2), oI (ofNat u3), oI (ofNat u4), oI (ofNat u5), oI (ofNat v0), oI (ofNat v1), oI (ofNat v2), oI (ofNat kk), oI (ofNat (48 + kk)), .unset, .unset, .unset]) rfl ?_
   refine XS.iload X39.here hx rfl (hb hby at_300) rfl ?_
   exact k
  obtain ⟨T116, h116, k116, X116, e116, E116, B116, A116, st116⟩ := newPE X39 hx hZ (own_w hw 19) rfl (g := (mkF m 302 #[oI p0, oI p1, oJ q2, .second, oI p3, oI (ofNat c0), oI (ofNat c1), oR b1, oR b27, oI (ofNat u0), oI (ofNat u1), oI (ofNat u2), oI (ofNat u3), oI (ofNat u4), oI (ofNat u5), oI (ofNat v0), oI (ofNat v1), oI (ofNat v2), oI (ofNat kk), oI (ofNat (48 + kk)), .unset, .unset, .unset] [(.int (ofNat (48 + kk)))])) rfl (hb hby at_302) rfl (own_nn _ (by omega)) (cap := 51) (by rw [own_tn (by omega)]; omega) (by decide) (by decide) (by decide) (ad := "[B") (by decide)
  obtain ⟨b116, g116⟩ : ∃ z, z = T39.heap.size := ⟨_, rfl⟩
  have ne117 : b27 ≠ b116 := Nat.ne_of_lt (Nat.lt_of_lt_of_le Fc.lt (Nat.le_of_eq g116.symm))
  have ne118 : lb ≠ b116 := Nat.ne_of_lt (Nat.lt_of_lt_of_le Vl.lt (Nat.le_of_eq g116.symm))
  have g_b116 : n0 ≤ b116 := Nat.le_trans Z43 (Nat.le_of_eq g116.symm)
  rw [← g116] at A116 B116 st116
  have Sn116 : Safe Z own_EL s.vm T39.heap b116 := Safe.new (Nat.le_of_eq g116.symm)
  have F119 := Fc.ext E116
  have F120 := Fv.ext E116
  have A121 := Es.ext E116
  have V122 := Vl.ext E116
  have O123 := O42.ext E116
  have Sf126 := Safe.ext E116 C47.1 Sn116
  have C127 := C47.trans (CHr.ext E116 C47.1)
  have V128 : Arv Z h116 b116 k116 .byte (ofNat (48 + kk)) [] (.int 0) := Arv.new B116 (own_nn _ (by omega))
  have Z129 := Nat.le_trans Z43 E116.1
  refine own_stepH st116 ?_
  have V131 : Arv Z h116 b116 k116 .byte (ofNat (48 + kk)) (List.replicate (48 + kk) (.int 0)) (.int 0) := V128.pad (pad_rep [] (.int 0) (48 + kk))
  refine oPH T116 (mkF m 306 #[oI p0, oI p1, oJ q2, .second, oI p3, oI (ofNat c0), oI (ofNat c1), oR b1, oR b27, oI (ofNat u0), oI (ofNat u1), oI (ofNat u2), oI (ofNat u3), oI (ofNat u4), oI (ofNat u5), oI (ofNat v0), oI (ofNat v1), oI (ofNat v2), oI (ofNat kk), oI (ofNat (48 + kk)), oR b116, .unset, .unset] []) (fun t k => ?_) ?_
  ·skip
   refine XS.astore X116.here hx rfl (hb hby at_304) rfl rfl (l' := #[oI p0, oI p1, oJ q2, .second, oI p3, oI (ofNat c0), oI (ofNat c1), oR b1, oR b27, oI (ofNat u0), oI (ofNat u1), oI (ofNat u2), oI (ofNat u3), oI (ofNat u4), oI (ofNat u5), oI (ofNat v0), oI (ofNat v1), oI (ofNat v2), oI (ofNat kk), oI (ofNat (48 + kk)), oR b116, .unset, .unset]) rfl ?_
   exact k
  generalize hLL : (#[oI p0, oI p1, oJ q2, .second, oI p3, oI (ofNat c0), oI (ofNat c1), oR b1, oR b27, oI (ofNat u0), oI (ofNat u1), oI (ofNat u2), oI (ofNat u3), oI (ofNat u4), oI (ofNat u5), oI (ofNat v0), oI (ofNat v1), oI (ofNat v2), oI (ofNat kk), oI (ofNat (48 + kk)), oR b116, .unset, .unset] : Array Slot) = LL
  have l9 : LL[9]? = some (oI (ofNat u0)) := by rw [← hLL]; rfl
  have l10 : LL[10]? = some (oI (ofNat u1)) := by rw [← hLL]; rfl
  have l11 : LL[11]? = some (oI (ofNat u2)) := by rw [← hLL]; rfl
  have l12 : LL[12]? = some (oI (ofNat u3)) := by rw [← hLL]; rfl
  have l13 : LL[13]? = some (oI (ofNat u4)) := by rw [← hLL]; rfl
  have l14 : LL[14]? = some (oI (ofNat u5)) := by rw [← hLL]; rfl
  have l15 : LL[15]? = some (oI (ofNat v0)) := by rw [← hLL]; rfl
  have l16 : LL[16]? = some (oI (ofNat v1)) := by rw [← hLL]; rfl
  have l17 : LL[17]? = some (oI (ofNat v2)) := by rw [← hLL]; rfl
  have l19 : LL[19]? = some (oI (ofNat (48 + kk))) := by rw [← hLL]; rfl
  have l20 : LL[20]? = some (oR b116) := by rw [← hLL]; rfl
  have hsz : LL.size = 23 := by rw [← hLL]; rfl
  refine oPH T116 (mkF m 312 LL [(.int ((ofNat u0).toInt8.toInt32)), (.int 0), (.ref b116)]) (fun t k => ?_) ?_
  ·skip
   refine XS.aload X116.here hx rfl (hb hby at_306) l20 rfl ?_
   refine XS.iconst X116.here hx rfl (hb hby at_308) ?_
   refine XS.iload X116.here hx rfl (hb hby at_309) l9 ?_
   refine XS.i2b X116.here hx rfl (hb hby at_311) rfl ?_
   exact k
  obtain ⟨cl132, Arcl132, qcl132, Scl132, Mcl132, Hcl132, Gcl132⟩ := V131
  have hincl132 : ¬ ((0 : Int32) < 0 ∨ cl132.slots.size ≤ ((0 : Int32)).toNatClampNeg) := inb_of Scl132 (own_tin (j := 0) (by omega) (by omega))
  obtain ⟨T133, h133, X133, e133, W133, st133⟩ := stB X116 hx hZ e116 Arcl132 (j := (0 : Int32)) hincl132 (g := (mkF m 312 LL [(.int ((ofNat u0).toInt8.toInt32)), (.int 0), (.ref b116)])) rfl rfl (hb hby at_312)
  have V134 := Arv.set Arcl132 qcl132 Scl132 Mcl132 Hcl132 Gcl132 (fits_nar_byte _) W133 0 rfl (by (try simp only [List.length_set, List.length_replicate]); omega)
  have F135 := F119.other W133 (Or.inl ne117)
  have F136 := F120.other W133 (Or.inl ne117)
  have A137 := A121.wr W133
  have V139 := V122.other W133 ne118
  have O140 := O123.wr W133 g_b116
  have Sf143 := Safe.wr W133 Sf126 C127.1 Sf126
  have C144 := C127.trans (CHr.wr W133 Sf126 C127.1)
  have Z145 := Nat.le_trans Z129 (Keep.of_wr W133).1
  have N133 := Fr.snoc X133 N39 g_b116
  refine own_stepH st133 ?_
  refine oPH T133 (mkF m 319 LL [(.int ((ofNat u1).toInt8.toInt32)), (.int 1), (.ref b116)]) (fun t k => ?_) ?_
  ·skip
   refine XS.aload X133.here hx rfl (hb hby at_313) l20 rfl ?_
   refine XS.iconst X133.here hx rfl (hb hby at_315) ?_
   refine XS.iload X133.here hx rfl (hb hby at_316) l10 ?_
   refine XS.i2b X133.here hx rfl (hb hby at_318) rfl ?_
   exact k
  obtain ⟨cl147, Arcl147, qcl147, Scl147, Mcl147, Hcl147, Gcl147⟩ := V134
  have hincl147 : ¬ ((1 : Int32) < 0 ∨ cl147.slots.size ≤ ((1 : Int32)).toNatClampNeg) := inb_of Scl147 (own_tin (j := 1) (by omega) (by omega))
  obtain ⟨T148, h148, X148, e148, W148, st148⟩ := stB X133 hx hZ e133 Arcl147 (j := (1 : Int32)) hincl147 (g := (mkF m 319 LL [(.int ((ofNat u1).toInt8.toInt32)), (.int 1), (.ref b116)])) rfl rfl (hb hby at_319)
  have V149 := Arv.set Arcl147 qcl147 Scl147 Mcl147 Hcl147 Gcl147 (fits_nar_byte _) W148 1 rfl (by (try simp only [List.length_set, List.length_replicate]); omega)
  have F150 := F135.other W148 (Or.inl ne117)
  have F151 := F136.other W148 (Or.inl ne117)
  have A152 := A137.wr W148
  have V154 := V139.other W148 ne118
  have O155 := O140.wr W148 g_b116
  have Sf158 := Safe.wr W148 Sf143 C144.1 Sf143
  have C159 := C144.trans (CHr.wr W148 Sf143 C144.1)
  have Z160 := Nat.le_trans Z145 (Keep.of_wr W148).1
  have N148 := Fr.snoc X148 N133 g_b116
  refine own_stepH st148 ?_
  refine oPH T148 (mkF m 326 LL [(.int ((ofNat u2).toInt8.toInt32)), (.int 2), (.ref b116)]) (fun t k => ?_) ?_
  ·skip
   refine XS.aload X148.here hx rfl (hb hby at_320) l20 rfl ?_
   refine XS.iconst X148.here hx rfl (hb hby at_322) ?_
   refine XS.iload X148.here hx rfl (hb hby at_323) l11 ?_
   refine XS.i2b X148.here hx rfl (hb hby at_325) rfl ?_
   exact k
  obtain ⟨cl162, Arcl162, qcl162, Scl162, Mcl162, Hcl162, Gcl162⟩ := V149
  have hincl162 : ¬ ((2 : Int32) < 0 ∨ cl162.slots.size ≤ ((2 : Int32)).toNatClampNeg) := inb_of Scl162 (own_tin (j := 2) (by omega) (by omega))
  obtain ⟨T163, h163, X163, e163, W163, st163⟩ := stB X148 hx hZ e148 Arcl162 (j := (2 : Int32)) hincl162 (g := (mkF m 326 LL [(.int ((ofNat u2).toInt8.toInt32)), (.int 2), (.ref b116)])) rfl rfl (hb hby at_326)
  have V164 := Arv.set Arcl162 qcl162 Scl162 Mcl162 Hcl162 Gcl162 (fits_nar_byte _) W163 2 rfl (by (try simp only [List.length_set, List.length_replicate]); omega)
  have F165 := F150.other W163 (Or.inl ne117)
  have F166 := F151.other W163 (Or.inl ne117)
  have A167 := A152.wr W163
  have V169 := V154.other W163 ne118
  have O170 := O155.wr W163 g_b116
  have Sf173 := Safe.wr W163 Sf158 C159.1 Sf158
  have C174 := C159.trans (CHr.wr W163 Sf158 C159.1)
  have Z175 := Nat.le_trans Z160 (Keep.of_wr W163).1
  have N163 := Fr.snoc X163 N148 g_b116
  refine own_stepH st163 ?_
  refine oPH T163 (mkF m 334 LL [(.int ((ofNat u3).toInt8.toInt32)), (.int 45), (.ref b116)]) (fun t k => ?_) ?_
  ·skip
   refine XS.aload X163.here hx rfl (hb hby at_327) l20 rfl ?_
   refine XS.bipush X163.here hx rfl (hb hby at_329) ?_
   refine XS.iload X163.here hx rfl (hb hby at_331) l12 ?_
   refine XS.i2b X163.here hx rfl (hb hby at_333) rfl ?_
   exact k
  obtain ⟨cl177, Arcl177, qcl177, Scl177, Mcl177, Hcl177, Gcl177⟩ := V164
  have hincl177 : ¬ ((45 : Int32) < 0 ∨ cl177.slots.size ≤ ((45 : Int32)).toNatClampNeg) := inb_of Scl177 (own_tin (j := 45) (by omega) (by omega))
  obtain ⟨T178, h178, X178, e178, W178, st178⟩ := stB X163 hx hZ e163 Arcl177 (j := (45 : Int32)) hincl177 (g := (mkF m 334 LL [(.int ((ofNat u3).toInt8.toInt32)), (.int 45), (.ref b116)])) rfl rfl (hb hby at_334)
  have V179 := Arv.set Arcl177 qcl177 Scl177 Mcl177 Hcl177 Gcl177 (fits_nar_byte _) W178 45 rfl (by (try simp only [List.length_set, List.length_replicate]); omega)
  have F180 := F165.other W178 (Or.inl ne117)
  have F181 := F166.other W178 (Or.inl ne117)
  have A182 := A167.wr W178
  have V184 := V169.other W178 ne118
  have O185 := O170.wr W178 g_b116
  have Sf188 := Safe.wr W178 Sf173 C174.1 Sf173
  have C189 := C174.trans (CHr.wr W178 Sf173 C174.1)
  have Z190 := Nat.le_trans Z175 (Keep.of_wr W178).1
  have N178 := Fr.snoc X178 N163 g_b116
  refine own_stepH st178 ?_
  refine oPH T178 (mkF m 342 LL [(.int ((ofNat u4).toInt8.toInt32)), (.int 46), (.ref b116)]) (fun t k => ?_) ?_
  ·skip
   refine XS.aload X178.here hx rfl (hb hby at_335) l20 rfl ?_
   refine XS.bipush X178.here hx rfl (hb hby at_337) ?_
   refine XS.iload X178.here hx rfl (hb hby at_339) l13 ?_
   refine XS.i2b X178.here hx rfl (hb hby at_341) rfl ?_
   exact k
  obtain ⟨cl192, Arcl192, qcl192, Scl192, Mcl192, Hcl192, Gcl192⟩ := V179
  have hincl192 : ¬ ((46 : Int32) < 0 ∨ cl192.slots.size ≤ ((46 : Int32)).toNatClampNeg) := inb_of Scl192 (own_tin (j := 46) (by omega) (by omega))
  obtain ⟨T193, h193, X193, e193, W193, st193⟩ := stB X178 hx hZ e178 Arcl192 (j := (46 : Int32)) hincl192 (g := (mkF m 342 LL [(.int ((ofNat u4).toInt8.toInt32)), (.int 46), (.ref b116)])) rfl rfl (hb hby at_342)
  have V194 := Arv.set Arcl192 qcl192 Scl192 Mcl192 Hcl192 Gcl192 (fits_nar_byte _) W193 46 rfl (by (try simp only [List.length_set, List.length_replicate]); omega)
  have F195 := F180.other W193 (Or.inl ne117)
  have F196 := F181.other W193 (Or.inl ne117)
  have A197 := A182.wr W193
  have V199 := V184.other W193 ne118
  have O200 := O185.wr W193 g_b116
  have Sf203 := Safe.wr W193 Sf188 C189.1 Sf188
  have C204 := C189.trans (CHr.wr W193 Sf188 C189.1)
  have Z205 := Nat.le_trans Z190 (Keep.of_wr W193).1
  have N193 := Fr.snoc X193 N178 g_b116
  refine own_stepH st193 ?_
  refine oPH T193 (mkF m 350 LL [(.int ((ofNat u5).toInt8.toInt32)), (.int 47), (.ref b116)]) (fun t k => ?_) ?_
  ·skip
   refine XS.aload X193.here hx rfl (hb hby at_343) l20 rfl ?_
   refine XS.bipush X193.here hx rfl (hb hby at_345) ?_
   refine XS.iload X193.here hx rfl (hb hby at_347) l14 ?_
   refine XS.i2b X193.here hx rfl (hb hby at_349) rfl ?_
   exact k
  obtain ⟨cl207, Arcl207, qcl207, Scl207, Mcl207, Hcl207, Gcl207⟩ := V194
  have hincl207 : ¬ ((47 : Int32) < 0 ∨ cl207.slots.size ≤ ((47 : Int32)).toNatClampNeg) := inb_of Scl207 (own_tin (j := 47) (by omega) (by omega))
  obtain ⟨T208, h208, X208, e208, W208, st208⟩ := stB X193 hx hZ e193 Arcl207 (j := (47 : Int32)) hincl207 (g := (mkF m 350 LL [(.int ((ofNat u5).toInt8.toInt32)), (.int 47), (.ref b116)])) rfl rfl (hb hby at_350)
  have V209 := Arv.set Arcl207 qcl207 Scl207 Mcl207 Hcl207 Gcl207 (fits_nar_byte _) W208 47 rfl (by (try simp only [List.length_set, List.length_replicate]); omega)
  have F210 := F195.other W208 (Or.inl ne117)
  have F211 := F196.other W208 (Or.inl ne117)
  have A212 := A197.wr W208
  have V214 := V199.other W208 ne118
  have O215 := O200.wr W208 g_b116
  have Sf218 := Safe.wr W208 Sf203 C204.1 Sf203
  have C219 := C204.trans (CHr.wr W208 Sf203 C204.1)
  have Z220 := Nat.le_trans Z205 (Keep.of_wr W208).1
  have N208 := Fr.snoc X208 N193 g_b116
  refine own_stepH st208 ?_
  refine oPH T208 (mkF m 355 LL [(.int 48), (.int (ofNat (48 + kk)))]) (fun t k => ?_) ?_
  ·skip
   refine XS.iload X208.here hx rfl (hb hby at_351) l19 ?_
   refine XS.bipush X208.here hx rfl (hb hby at_353) ?_
   exact k
  by_cases hc222 : (48 : Int32) < (ofNat (48 + kk))
  ·skip
   refine oPH T208 (mkF m 358 LL []) (fun t k => ?_) ?_
   ·skip
    refine XS.icmpNo X208.here hx rfl (hb hby at_355) rfl (tlt hc222).2.2.2 ?_
    exact k
   have hkp1 : 0 < kk := by have q := (own_lt (a := 48) (by omega) (by omega)).mp hc222; omega
   refine oPH T208 (mkF m 365 LL [(.int ((ofNat v0).toInt8.toInt32)), (.int 48), (.ref b116)]) (fun t k => ?_) ?_
   ·skip
    refine XS.aload X208.here hx rfl (hb hby at_358) l20 rfl ?_
    refine XS.bipush X208.here hx rfl (hb hby at_360) ?_
    refine XS.iload X208.here hx rfl (hb hby at_362) l15 ?_
    refine XS.i2b X208.here hx rfl (hb hby at_364) rfl ?_
    exact k
   obtain ⟨cl223, Arcl223, qcl223, Scl223, Mcl223, Hcl223, Gcl223⟩ := V209
   have hincl223 : ¬ ((48 : Int32) < 0 ∨ cl223.slots.size ≤ ((48 : Int32)).toNatClampNeg) := inb_of Scl223 (own_tin (j := 48) (by omega) (by omega))
   obtain ⟨T224, h224, X224, e224, W224, st224⟩ := stB X208 hx hZ e208 Arcl223 (j := (48 : Int32)) hincl223 (g := (mkF m 365 LL [(.int ((ofNat v0).toInt8.toInt32)), (.int 48), (.ref b116)])) rfl rfl (hb hby at_365)
   have V225 := Arv.set Arcl223 qcl223 Scl223 Mcl223 Hcl223 Gcl223 (fits_nar_byte _) W224 48 rfl (by (try simp only [List.length_set, List.length_replicate]); omega)
   have F226 := F210.other W224 (Or.inl ne117)
   have F227 := F211.other W224 (Or.inl ne117)
   have A228 := A212.wr W224
   have V230 := V214.other W224 ne118
   have O231 := O215.wr W224 g_b116
   have Sf234 := Safe.wr W224 Sf218 C219.1 Sf218
   have C235 := C219.trans (CHr.wr W224 Sf218 C219.1)
   have Z236 := Nat.le_trans Z220 (Keep.of_wr W224).1
   have N224 := Fr.snoc X224 N208 g_b116
   refine own_stepH st224 ?_
   refine oPH T224 (mkF m 370 LL [(.int 49), (.int (ofNat (48 + kk)))]) (fun t k => ?_) ?_
   ·skip
    refine XS.iload X224.here hx rfl (hb hby at_366) l19 ?_
    refine XS.bipush X224.here hx rfl (hb hby at_368) ?_
    exact k
   by_cases hc238 : (49 : Int32) < (ofNat (48 + kk))
   ·skip
    refine oPH T224 (mkF m 373 LL []) (fun t k => ?_) ?_
    ·skip
     refine XS.icmpNo X224.here hx rfl (hb hby at_370) rfl (tlt hc238).2.2.2 ?_
     exact k
    have hkp2 : 1 < kk := by have q := (own_lt (a := 49) (by omega) (by omega)).mp hc238; omega
    refine oPH T224 (mkF m 380 LL [(.int ((ofNat v1).toInt8.toInt32)), (.int 49), (.ref b116)]) (fun t k => ?_) ?_
    ·skip
     refine XS.aload X224.here hx rfl (hb hby at_373) l20 rfl ?_
     refine XS.bipush X224.here hx rfl (hb hby at_375) ?_
     refine XS.iload X224.here hx rfl (hb hby at_377) l16 ?_
     refine XS.i2b X224.here hx rfl (hb hby at_379) rfl ?_
     exact k
    obtain ⟨cl239, Arcl239, qcl239, Scl239, Mcl239, Hcl239, Gcl239⟩ := V225
    have hincl239 : ¬ ((49 : Int32) < 0 ∨ cl239.slots.size ≤ ((49 : Int32)).toNatClampNeg) := inb_of Scl239 (own_tin (j := 49) (by omega) (by omega))
    obtain ⟨T240, h240, X240, e240, W240, st240⟩ := stB X224 hx hZ e224 Arcl239 (j := (49 : Int32)) hincl239 (g := (mkF m 380 LL [(.int ((ofNat v1).toInt8.toInt32)), (.int 49), (.ref b116)])) rfl rfl (hb hby at_380)
    have V241 := Arv.set Arcl239 qcl239 Scl239 Mcl239 Hcl239 Gcl239 (fits_nar_byte _) W240 49 rfl (by (try simp only [List.length_set, List.length_replicate]); omega)
    have F242 := F226.other W240 (Or.inl ne117)
    have F243 := F227.other W240 (Or.inl ne117)
    have A244 := A228.wr W240
    have V246 := V230.other W240 ne118
    have O247 := O231.wr W240 g_b116
    have Sf250 := Safe.wr W240 Sf234 C235.1 Sf234
    have C251 := C235.trans (CHr.wr W240 Sf234 C235.1)
    have Z252 := Nat.le_trans Z236 (Keep.of_wr W240).1
    have N240 := Fr.snoc X240 N224 g_b116
    refine own_stepH st240 ?_
    refine oPH T240 (mkF m 385 LL [(.int 50), (.int (ofNat (48 + kk)))]) (fun t k => ?_) ?_
    ·skip
     refine XS.iload X240.here hx rfl (hb hby at_381) l19 ?_
     refine XS.bipush X240.here hx rfl (hb hby at_383) ?_
     exact k
    by_cases hc254 : (50 : Int32) < (ofNat (48 + kk))
    ·skip
     refine oPH T240 (mkF m 388 LL []) (fun t k => ?_) ?_
     ·skip
      refine XS.icmpNo X240.here hx rfl (hb hby at_385) rfl (tlt hc254).2.2.2 ?_
      exact k
     have hkp3 : 2 < kk := by have q := (own_lt (a := 50) (by omega) (by omega)).mp hc254; omega
     refine oPH T240 (mkF m 395 LL [(.int ((ofNat v2).toInt8.toInt32)), (.int 50), (.ref b116)]) (fun t k => ?_) ?_
     ·skip
      refine XS.aload X240.here hx rfl (hb hby at_388) l20 rfl ?_
      refine XS.bipush X240.here hx rfl (hb hby at_390) ?_
      refine XS.iload X240.here hx rfl (hb hby at_392) l17 ?_
      refine XS.i2b X240.here hx rfl (hb hby at_394) rfl ?_
      exact k
     obtain ⟨cl255, Arcl255, qcl255, Scl255, Mcl255, Hcl255, Gcl255⟩ := V241
     have hincl255 : ¬ ((50 : Int32) < 0 ∨ cl255.slots.size ≤ ((50 : Int32)).toNatClampNeg) := inb_of Scl255 (own_tin (j := 50) (by omega) (by omega))
     obtain ⟨T256, h256, X256, e256, W256, st256⟩ := stB X240 hx hZ e240 Arcl255 (j := (50 : Int32)) hincl255 (g := (mkF m 395 LL [(.int ((ofNat v2).toInt8.toInt32)), (.int 50), (.ref b116)])) rfl rfl (hb hby at_395)
     have V257 := Arv.set Arcl255 qcl255 Scl255 Mcl255 Hcl255 Gcl255 (fits_nar_byte _) W256 50 rfl (by (try simp only [List.length_set, List.length_replicate]); omega)
     have F258 := F242.other W256 (Or.inl ne117)
     have F259 := F243.other W256 (Or.inl ne117)
     have A260 := A244.wr W256
     have V262 := V246.other W256 ne118
     have O263 := O247.wr W256 g_b116
     have C267 := C251.trans (CHr.wr W256 Sf250 C251.1)
     have Z268 := Nat.le_trans Z252 (Keep.of_wr W256).1
     have N256 := Fr.snoc X256 N240 g_b116
     refine own_stepH st256 ?_
     subst hLL
     obtain rfl : kk = 3 := by omega
     have V270 : Arv Z h256 b116 k116 .byte (ofNat (((((((((((List.replicate (48 + 3) (0 : Int32)).set 0 (nar .byte ((ofNat u0).toInt8.toInt32))).set 1 (nar .byte ((ofNat u1).toInt8.toInt32))).set 2 (nar .byte ((ofNat u2).toInt8.toInt32))).set 45 (nar .byte ((ofNat u3).toInt8.toInt32))).set 46 (nar .byte ((ofNat u4).toInt8.toInt32))).set 47 (nar .byte ((ofNat u5).toInt8.toInt32))).set 48 (nar .byte ((ofNat v0).toInt8.toInt32))).set 49 (nar .byte ((ofNat v1).toInt8.toInt32))).set 50 (nar .byte ((ofNat v2).toInt8.toInt32)))).length) (own_xs ((((((((((List.replicate (48 + 3) (0 : Int32)).set 0 (nar .byte ((ofNat u0).toInt8.toInt32))).set 1 (nar .byte ((ofNat u1).toInt8.toInt32))).set 2 (nar .byte ((ofNat u2).toInt8.toInt32))).set 45 (nar .byte ((ofNat u3).toInt8.toInt32))).set 46 (nar .byte ((ofNat u4).toInt8.toInt32))).set 47 (nar .byte ((ofNat u5).toInt8.toInt32))).set 48 (nar .byte ((ofNat v0).toInt8.toInt32))).set 49 (nar .byte ((ofNat v1).toInt8.toInt32))).set 50 (nar .byte ((ofNat v2).toInt8.toInt32)))) (.int 0) := by simp only [own_xset, own_xrep, List.length_set, List.length_replicate]; exact V257
     exact tL 3 _ _ _ _ _ _ _ _ _ _ _ _ _ _ _ _ _ _ _ _ _ _ _ _ _ _  _ V270 hc0 hc1 (by decide) (by simp) hu0 hu1 hu2 hu3 hu4 hu5 hv0 hv1 hv2 (own_u8 hu0) (own_u8 hu1) (own_u8 hu2) rfl rfl (own_u8 hu3) (own_u8 hu4) (own_u8 hu5) (fun _ => own_u8 hv0) (fun _ => own_u8 hv1) (fun _ => own_u8 hv2) X256 e256 N256 Z268 O263 C267 A260 F258 F259 V262
    ·skip
     refine oPH T240 (mkF m 396 LL []) (fun t k => ?_) ?_
     ·skip
      refine XS.icmpYes X240.here hx rfl (pc0 := 385) (pc' := 396) rfl (hb hby at_385) rfl (flt hc254).2.2.2 (by decide) (by decide) ?_
      exact k
     subst hLL
     obtain rfl : kk = 2 := by have q : ¬ 2 < kk := fun q => hc254 ((own_lt (a := 50) (by omega) (by omega)).mpr (by omega)); omega
     have V271 : Arv Z h240 b116 k116 .byte (ofNat ((((((((((List.replicate (48 + 2) (0 : Int32)).set 0 (nar .byte ((ofNat u0).toInt8.toInt32))).set 1 (nar .byte ((ofNat u1).toInt8.toInt32))).set 2 (nar .byte ((ofNat u2).toInt8.toInt32))).set 45 (nar .byte ((ofNat u3).toInt8.toInt32))).set 46 (nar .byte ((ofNat u4).toInt8.toInt32))).set 47 (nar .byte ((ofNat u5).toInt8.toInt32))).set 48 (nar .byte ((ofNat v0).toInt8.toInt32))).set 49 (nar .byte ((ofNat v1).toInt8.toInt32)))).length) (own_xs (((((((((List.replicate (48 + 2) (0 : Int32)).set 0 (nar .byte ((ofNat u0).toInt8.toInt32))).set 1 (nar .byte ((ofNat u1).toInt8.toInt32))).set 2 (nar .byte ((ofNat u2).toInt8.toInt32))).set 45 (nar .byte ((ofNat u3).toInt8.toInt32))).set 46 (nar .byte ((ofNat u4).toInt8.toInt32))).set 47 (nar .byte ((ofNat u5).toInt8.toInt32))).set 48 (nar .byte ((ofNat v0).toInt8.toInt32))).set 49 (nar .byte ((ofNat v1).toInt8.toInt32)))) (.int 0) := by simp only [own_xset, own_xrep, List.length_set, List.length_replicate]; exact V241
     exact tL 2 _ _ _ _ _ _ _ _ _ _ _ _ _ _ _ _ _ _ _ _ _ _ _ _ _ _  _ V271 hc0 hc1 (by decide) (by simp) hu0 hu1 hu2 hu3 hu4 hu5 hv0 hv1 hv2 (own_u8 hu0) (own_u8 hu1) (own_u8 hu2) rfl rfl (own_u8 hu3) (own_u8 hu4) (own_u8 hu5) (fun _ => own_u8 hv0) (fun _ => own_u8 hv1) (fun q => absurd q (by decide)) X240 e240 N240 Z252 O247 C251 A244 F242 F243 V246
   ·skip
    refine oPH T224 (mkF m 396 LL []) (fun t k => ?_) ?_
    ·skip
     refine XS.icmpYes X224.here hx rfl (pc0 := 370) (pc' := 381) rfl (hb hby at_370) rfl (flt hc238).2.2.2 (by decide) (by decide) ?_
     refine XS.iload X224.here hx rfl (hb hby at_381) l19 ?_
     refine XS.bipush X224.here hx rfl (hb hby at_383) ?_
     refine XS.icmpYes X224.here hx rfl (pc0 := 385) (pc' := 396) rfl (hb hby at_385) rfl (flt (fun q => hc238 (Int32.lt_trans (by decide) q))).2.2.2 (by decide) (by decide) ?_
     exact k
    subst hLL
    obtain rfl : kk = 1 := by have q : ¬ 1 < kk := fun q => hc238 ((own_lt (a := 49) (by omega) (by omega)).mpr (by omega)); omega
    have V273 : Arv Z h224 b116 k116 .byte (ofNat (((((((((List.replicate (48 + 1) (0 : Int32)).set 0 (nar .byte ((ofNat u0).toInt8.toInt32))).set 1 (nar .byte ((ofNat u1).toInt8.toInt32))).set 2 (nar .byte ((ofNat u2).toInt8.toInt32))).set 45 (nar .byte ((ofNat u3).toInt8.toInt32))).set 46 (nar .byte ((ofNat u4).toInt8.toInt32))).set 47 (nar .byte ((ofNat u5).toInt8.toInt32))).set 48 (nar .byte ((ofNat v0).toInt8.toInt32)))).length) (own_xs ((((((((List.replicate (48 + 1) (0 : Int32)).set 0 (nar .byte ((ofNat u0).toInt8.toInt32))).set 1 (nar .byte ((ofNat u1).toInt8.toInt32))).set 2 (nar .byte ((ofNat u2).toInt8.toInt32))).set 45 (nar .byte ((ofNat u3).toInt8.toInt32))).set 46 (nar .byte ((ofNat u4).toInt8.toInt32))).set 47 (nar .byte ((ofNat u5).toInt8.toInt32))).set 48 (nar .byte ((ofNat v0).toInt8.toInt32)))) (.int 0) := by simp only [own_xset, own_xrep, List.length_set, List.length_replicate]; exact V225
    exact tL 1 _ _ _ _ _ _ _ _ _ _ _ _ _ _ _ _ _ _ _ _ _ _ _ _ _ _  _ V273 hc0 hc1 (by decide) (by simp) hu0 hu1 hu2 hu3 hu4 hu5 hv0 hv1 hv2 (own_u8 hu0) (own_u8 hu1) (own_u8 hu2) rfl rfl (own_u8 hu3) (own_u8 hu4) (own_u8 hu5) (fun _ => own_u8 hv0) (fun q => absurd q (by decide)) (fun q => absurd q (by decide)) X224 e224 N224 Z236 O231 C235 A228 F226 F227 V230
  ·skip
   refine oPH T208 (mkF m 396 LL []) (fun t k => ?_) ?_
   ·skip
    refine XS.icmpYes X208.here hx rfl (pc0 := 355) (pc' := 366) rfl (hb hby at_355) rfl (flt hc222).2.2.2 (by decide) (by decide) ?_
    refine XS.iload X208.here hx rfl (hb hby at_366) l19 ?_
    refine XS.bipush X208.here hx rfl (hb hby at_368) ?_
    refine XS.icmpYes X208.here hx rfl (pc0 := 370) (pc' := 381) rfl (hb hby at_370) rfl (flt (fun q => hc222 (Int32.lt_trans (by decide) q))).2.2.2 (by decide) (by decide) ?_
    refine XS.iload X208.here hx rfl (hb hby at_381) l19 ?_
    refine XS.bipush X208.here hx rfl (hb hby at_383) ?_
    refine XS.icmpYes X208.here hx rfl (pc0 := 385) (pc' := 396) rfl (hb hby at_385) rfl (flt (fun q => hc222 (Int32.lt_trans (by decide) q))).2.2.2 (by decide) (by decide) ?_
    exact k
   subst hLL
   obtain rfl : kk = 0 := by have q : ¬ 0 < kk := fun q => hc222 ((own_lt (a := 48) (by omega) (by omega)).mpr (by omega)); omega
   have V276 : Arv Z h208 b116 k116 .byte (ofNat ((((((((List.replicate (48 + 0) (0 : Int32)).set 0 (nar .byte ((ofNat u0).toInt8.toInt32))).set 1 (nar .byte ((ofNat u1).toInt8.toInt32))).set 2 (nar .byte ((ofNat u2).toInt8.toInt32))).set 45 (nar .byte ((ofNat u3).toInt8.toInt32))).set 46 (nar .byte ((ofNat u4).toInt8.toInt32))).set 47 (nar .byte ((ofNat u5).toInt8.toInt32)))).length) (own_xs (((((((List.replicate (48 + 0) (0 : Int32)).set 0 (nar .byte ((ofNat u0).toInt8.toInt32))).set 1 (nar .byte ((ofNat u1).toInt8.toInt32))).set 2 (nar .byte ((ofNat u2).toInt8.toInt32))).set 45 (nar .byte ((ofNat u3).toInt8.toInt32))).set 46 (nar .byte ((ofNat u4).toInt8.toInt32))).set 47 (nar .byte ((ofNat u5).toInt8.toInt32)))) (.int 0) := by simp only [own_xset, own_xrep, List.length_set, List.length_replicate]; exact V209
   exact tL 0 _ _ _ _ _ _ _ _ _ _ _ _ _ _ _ _ _ _ _ _ _ _ _ _ _ _  _ V276 hc0 hc1 (by decide) (by simp) hu0 hu1 hu2 hu3 hu4 hu5 hv0 hv1 hv2 (own_u8 hu0) (own_u8 hu1) (own_u8 hu2) rfl rfl (own_u8 hu3) (own_u8 hu4) (own_u8 hu5) (fun q => absurd q (by decide)) (fun q => absurd q (by decide)) (fun q => absurd q (by decide)) X208 e208 N208 Z220 O215 C219 A212 F210 F211 V214
theorem own_j {a0 : Array Value} {Z : State} (hj : ∀ d ∈ jdkStatics_1, d.before a0 Z = true) (i : Nat) {d : Jvm.Cond} (h : jdkStatics_1[i]? = some d := by rfl) : d.before a0 Z = true := hj _ (List.mem_of_getElem? h)
theorem own_fold {a0 : Array Value} {Z : State} {c : Jvm.Cond} : ∀ L : List Jvm.Cond, (L.foldr Jvm.Cond.and c).before a0 Z = true → ∀ d ∈ L, d.before a0 Z = true
 | [], _, _, hd => by cases hd
 | x :: r, h, d, hd => by
  have h' : (Jvm.Cond.and x (r.foldr Jvm.Cond.and c)).before a0 Z = true := h
  rw [Cond.before_and, Bool.and_eq_true] at h'
  rcases List.mem_cons.mp hd with rfl | q
  ·exact h'.1
  ·exact own_fold r h'.2 d q
theorem own_eqi {args : Array Value} {s : State} {t : Term} {v : Int32} (h : (Jvm.Cond.eq t (.int v)).before args s = true) : t.eval args s none [] s = some (.int v) := by
 obtain ⟨x, y, h1, h2, h3, -⟩ := cmp_v (Or.inl (Cond.before_iff.mp h))
 have e2 : y = .int v := by simpa [Term.eval] using h2.symm
 subst e2
 cases x with
 | int z =>
  have q := Cond.before_iff.mp h
  simp [Cond.value, h1, h2] at q
  rw [h1, q]
 | _ => simp [Kin, Value.isRef] at h3
theorem own_len {args : Array Value} {s : State} {t : Term} {a : Addr} {cl : Cell} {z : Int32} (ev : t.eval args s none [] s = some (.ref a)) (ha : s.arrayAt? a = some cl) (h : (Term.length t).eval args s none [] s = some (.int z)) : cl.slots.size < 2 ^ 31 ∧ cl.slots.size.toInt32 = z := by
 by_cases q : cl.slots.size < 2 ^ 31
 ·rw [len_f ev ha q] at h
  exact ⟨q, by simpa using h⟩
 ·simp [Term.eval, ev, ha, q] at h
set_option maxRecDepth 16384 in
theorem own_dr : jdkStatics_1.drop 275 = (List.range 64).map fun j => Jvm.Cond.eq (.elem (.static "java/util/Base64$Encoder" "toBase64" "[C") (.int (ofNat j))) (.int (own_sn j)) := rfl
theorem own_tbe {a0 : Array Value} {Z : State} (hj : ∀ d ∈ jdkStatics_1, d.before a0 Z = true) (j : Nat) (h : j < 64) : (Jvm.Cond.eq (.elem (.static "java/util/Base64$Encoder" "toBase64" "[C") (.int (ofNat j))) (.int (own_sn j))).before a0 Z = true :=
 hj _ (List.mem_of_mem_drop (i := 275) (by rw [own_dr]; exact List.mem_map.mpr ⟨j, List.mem_range.mpr h, rfl⟩))
theorem own_start {a0 : Array Value} {Z : State} (hj : ∀ d ∈ jdkStatics_1, d.before a0 Z = true) : ∃ (cs : Int32) (fm : Value) (tb : Addr) (kt : ClassId) (fb : Addr), (Sta Z Z.heap "java/lang/String" "COMPACT_STRINGS" "Z" (.int cs)) ∧ (¬ cs = (0 : Int32)) ∧ (Sta Z Z.heap "jdk/internal/util/Preconditions" "SIOOBE_FORMATTER" "Ljava/util/function/BiFunction;" fm) ∧ (fm = .null ∨ ∃ f : Addr, fm = .ref f) ∧ (Sta Z Z.heap "java/util/Base64$Encoder" "toBase64" "[C" (.ref tb)) ∧ (Arv Z Z.heap tb kt .char (64 : Int32) own_tbl (.int 0)) ∧ (Sta Z Z.heap "java/util/Base64$Decoder" "fromBase64" "[I" (.ref fb)) ∧ (∃ cl, Arr Z Z.heap fb cl .int ∧ ¬ ((10 : Int32) < 0 ∨ cl.slots.size ≤ (10 : Int32).toNatClampNeg) ∧ cl.slots[(10 : Int32).toNatClampNeg]? = some (.int (-1 : Int32))) := by
 have w1 : (Jvm.Cond.isInt (.static "java/lang/String" "COMPACT_STRINGS" "Z")).before a0 Z = true := own_j hj 1
 have w2 : (Jvm.Cond.not (.eq (.static "java/lang/String" "COMPACT_STRINGS" "Z") (.int 0))).before a0 Z = true := own_j hj 2
 have w8 : (Jvm.Cond.isRef (.static "jdk/internal/util/Preconditions" "SIOOBE_FORMATTER" "Ljava/util/function/BiFunction;")).before a0 Z = true := own_j hj 8
 have w11 : (Jvm.Cond.arrayOf (.static "java/util/Base64$Decoder" "fromBase64" "[I") .int).before a0 Z = true := own_j hj 11
 have w24 : (Jvm.Cond.eq (.elem (.static "java/util/Base64$Decoder" "fromBase64" "[I") (.int 10)) (.int (-1 : Int32))).before a0 Z = true := own_j hj 24
 have w272 : (Jvm.Cond.arrayOf (.static "java/util/Base64$Encoder" "toBase64" "[C") .char).before a0 Z = true := own_j hj 272
 have w274 : (Jvm.Cond.eq (.length (.static "java/util/Base64$Encoder" "toBase64" "[C")) (.int 64)).before a0 Z = true := own_j hj 274
 obtain ⟨cs, ecs⟩ := is_v (Cond.before_iff.mp w1)
 obtain ⟨fm, efm, rfm⟩ := isR_v (Cond.before_iff.mp w8)
 obtain ⟨tb, etb⟩ := arr_v (Cond.before_iff.mp w272)
 obtain ⟨fb, efb⟩ := arr_v (Cond.before_iff.mp w11)
 obtain ⟨ct, At⟩ := Arr.start etb (Cond.before_iff.mp w272)
 obtain ⟨cf, Af⟩ := Arr.start efb (Cond.before_iff.mp w11)
 refine ⟨cs, fm, tb, ct.cls, fb, Sta.start ecs (Or.inl (own_j hj 0)), ?_, Sta.start efm (Or.inl (own_j hj 7)), ?_, Sta.start etb (Or.inl (own_j hj 271)), ?_, Sta.start efb (Or.inl (own_j hj 10)), cf, Af, ?_⟩
 ·intro q
  have h := Cond.before_iff.mp w2
  simp [Cond.value, ecs, Term.int_eval, q] at h
 ·cases fm <;> simp [Value.isRef] at rfm ⊢
 ·obtain ⟨q, e⟩ := own_len etb (Arr.fin (U := Z) (Vm.Alike.refl _) At) (own_eqi w274)
  have hs : ct.slots.size = 64 := by
   have := len_toInt q
   rw [e] at this
   have e64 : (64 : Int32).toInt = 64 := by decide
   omega
  have hv : ∀ j, j < 64 → own_tbl.getD j (.int 0) = .int (own_sn j) := fun j hj => by
   have := own_tat hj
   rwa [own_tn (by omega)] at this
  refine ⟨ct, At, rfl, hs.trans (by decide), by decide, fun j hj' => ?_, fun j hj' => ?_⟩
  ·rw [hv j (by omega)]
   have h := (elem_in (j := ofNat j) (own_eqi (own_tbe hj j (by omega))) etb (Term.int_eval _) At.1).2
   rwa [own_tn (by omega)] at h
  ·rw [hv j (by omega)]
   exact (show ∀ j < 64, fits .char (.int (own_sn j)) = true by decide +kernel) j (by omega)
 ·exact elem_in (own_eqi w24) efb (Term.int_eval _) Af.1
set_option maxRecDepth 65536 in
set_option maxHeartbeats 40000000 in
theorem comes_1 {Post : Tables → Env → Array Value → State → Outcome → State → Prop} (hpost : ∀ tb e args s v u, (limb_1_1.after args s (.returned v) u = true ∧ limb_1_2.after args s (.returned v) u = true ∧ True) → ReturnedEndW s (.returned v) u (Jvm.fieldLocs frame_1_writes args s ++ Jvm.arrayLocs frame_1_arrays args s ++ Jvm.staticLocs frame_1_statics s) 56 5504 → Post tb e args s (.returned v) u) :
  ArmFor flags0 classFile x code maxLocals ret World_1 tables_1 room_1 Calls_1 rest_1 Pre_1 Post := by
 intro l hfl _ _ p e ha hc hk s m args below hf hA hF happ hP
 obtain ⟨hcalls, hrest, hpre⟩ := hP
 obtain ⟨-, -, -, hnamed, -, -, -, hat⟩ := (Spec.applies_iff hf).mp happ
 obtain ⟨hg, hn⟩ := and_e (Cond.before_iff.mp (show (Jvm.Cond.and given_1 narrow_1).before args s = true from hpre))
 obtain ⟨gc, gr0⟩ := and_e hg
 obtain ⟨ga0, gr1⟩ := and_e gr0
 obtain ⟨ga1, gr2⟩ := and_e gr1
 obtain ⟨ga2, gr3⟩ := and_e gr2
 obtain ⟨w0, w1, w2, w3, rfl⟩ : ∃ w0 w1 w2 w3 : Value, args = #[w0, w1, w2, w3] := by
  have hs : args.size = 4 := by simpa [Cond.value, given_1] using gc
  obtain ⟨L⟩ := args
  match L, hs with
  | [w0, w1, w2, w3], _ => exact ⟨w0, w1, w2, w3, rfl⟩
 have hw := fun d (hd : d ∈ tables_1) => atoms_spec (ws := Jvm.Cond.code x code maxLocals ret :: tables_1) hat d (List.mem_cons_of_mem _ hd)
 obtain ⟨i0, ei0⟩ := is_v ga0
 obtain rfl : w0 = (.int i0) := Option.some.inj ei0
 obtain ⟨i1, ei1⟩ := is_v ga1
 obtain rfl : w1 = (.int i1) := Option.some.inj ei1
 obtain ⟨i2, ei2⟩ := isL_v ga2
 obtain rfl : w2 = (.long i2) := Option.some.inj ei2
 obtain ⟨i3, ei3⟩ := is_v gr3
 obtain rfl : w3 = (.int i3) := Option.some.inj ei3
 have hj := own_fold jdkStatics_1 (c := restOwn_1) hrest
 obtain ⟨cs, fm, tb, kt, fb, S_cs, hcs, S_fm, hfm, S_tb, V_tb, S_fb, V_fb⟩ := own_start hj
 obtain ⟨n, o, h1, h2, h3, _, L, rfl, ⟨rfl, N⟩, -, hq⟩ := rm0 l s _ hw tables_1 i0 i1 i2 i3 cs fm tb kt fb s.heap s.heap.size (Nat.le_refl _) (Old.start s) S_cs hcs S_fm hfm S_tb V_tb S_fb V_fb p e ha hc hk s m _ below hf ((Spec.applies_iff_loose hf).mp happ).1 ⟨rfl, State.Warmed39.refl s, rfl, CHv.start (own_ew hw) hcalls.1 (own_j hj 2) (own_w hw 19) (own_w hw 2), fun _ h => by cases h⟩ trivial
 refine ⟨n, _, h1, h2, h3, hpost _ _ _ _ _ _ ⟨Cond.after_iff.mpr rfl, Cond.after_iff.mpr (eq_i res_at (Term.int_eval (1)) rfl), trivial⟩ ⟨hq.1, hq.2.1, hq.2.2.1, (hq.2.2.2.sift fun y hy => Or.inr (N y hy)).mono (by decide) (by decide)⟩⟩
theorem main_1_1 : Claimed_1_1 := comes_1 fun _ _ _ _ _ _ h hF => ⟨h.1, hF⟩
theorem main_1_2 : Claimed_1_2 := comes_1 fun _ _ _ _ _ _ h hF => ⟨h.2.1, hF⟩
end Jvm.Pilot.@@N@@
namespace Jvm.Pilot.@@N@@
open Jvm Jvm.ClassFile Sem Op Lib Jvm.Free Jvm.Stand Jvm.Pilot.@@N@@.Jvm.D
/-! MADE BY PROGRAM (witnessworld.py) out of the Statement's table words and the real class files: 30 classes; the members and pool entries that the words name. The judged class is class 1, her method 1. -/
namespace start1
open Jvm.ClassFile
def u (s : String) : CpInfo := .utf8 (stringToUtf16 s)
/-- a pool by its gaps: so many unusable entries, then the entry; so many at the end -/
def gap : Nat → List CpInfo → List CpInfo
  | 0, r => r
  | n + 1, r => .unusable :: gap n r
def poolList (es : List (Nat × CpInfo)) (last : Nat) : List CpInfo := es.foldr (fun e r => gap e.1 (e.2 :: r)) (gap last [])
def pool (es : List (Nat × CpInfo)) (last : Nat) : Array CpInfo := ⟨poolList es last⟩
def fileOf (pool : Array CpInfo) (this : Nat) (attrs : Array Attribute := #[]) (ms : Array MethodInfo := #[]) (fl : Nat := 33) (sup : Nat := 0) (ifs : Array Nat := #[]) (fds : Array FieldInfo := #[]) : ClassFile where
  minorVersion := 0
  majorVersion := 65
  constantPool := pool
  accessFlags := fl
  thisClass := this
  superClass := sup
  interfaces := ifs
  fields := fds
  methods := ms
  attributes := attrs
def plain (name : String) (sup : Option ClassId) : Class where
  name := name
  kind := .ordinary
  loader := none
  accessFlags := 33
  super := sup
  interfaces := #[]
  cf := none
  fields := #[]
  methods := #[]
  instanceTypes := #[]
  staticTypes := #[]
  resolved := #[]
  callSites := []
  init := .initialized
  statics := none
  mirror := none

def pool0 : Array CpInfo := pool [(5, u "<init>"), (0, u "()V"), (1, .class_ 10), (1, u "java/lang/Object"), (85, u "clone"), (0, u "()Ljava/lang/Object;")] 26

def k0c0 : Code := ⟨0, 1, object_method_1_code, #[], #[]⟩
def k0m0 : Method := { name := "<init>", desc := "()V", sig := ⟨[], none⟩, accessFlags := 1, code := some k0c0 }
def k0m1 : Method := { name := "clone", desc := "()Ljava/lang/Object;", sig := ⟨[], some (.object "java/lang/Object")⟩, accessFlags := 260, code := none }
/-- java/lang/Object -/
def k0 : Class := { plain "java/lang/Object" none with
  accessFlags := 33
  interfaces := #[]
  cf := some (fileOf pool0 8 #[] #[⟨1, 5, 6, #[]⟩, ⟨260, 96, 97, #[]⟩] 33 0 #[] #[])
  fields := #[]
  methods := #[k0m0, k0m1]
  instanceTypes := #[]
  staticTypes := #[]
  resolved := Array.replicate 124 none
  statics := none }

def pool1 : Array CpInfo := pool [(2, .class_ 4), (1, u "java/lang/Object"), (0, u "<init>"), (0, u "()V"), (0, .class_ 8), (0, u "java/lang/String"), (0, .methodref 7 10), (0, .nameAndType 5 11), (0, u "([C)V"), (0, .long 255), (1, .methodref 15 16), (0, .class_ 17), (0, .nameAndType 18 19), (0, u "com/example/bevaka/bevaka/store/Pem"), (0, u "encode"), (0, u "(Ljava/lang/String;[B)Ljava/lang/String;"), (0, .methodref 21 22), (0, .class_ 23), (0, .nameAndType 24 25), (0, u "com/example/bevaka/bevaka/store/PemEncodePinLaw"), (0, u "frame"), (0, u "([CCCI)V"), (0, .methodref 21 27), (0, .nameAndType 28 29), (0, u "group"), (0, u "([CIIIII)V"), (0, .methodref 7 31), (0, .nameAndType 32 33), (0, u "equals"), (0, u "(Ljava/lang/Object;)Z"), (0, .methodref 7 35), (0, .nameAndType 36 37), (0, u "length"), (0, u "()I"), (0, .methodref 7 39), (0, .nameAndType 40 41), (0, u "charAt"), (0, u "(I)C"), (0, .methodref 21 43), (0, .nameAndType 44 45), (0, u "groupAt"), (0, u "(Ljava/lang/String;IIIII)Z"), (0, .methodref 21 47), (0, .nameAndType 48 41), (0, u "sym"), (0, .methodref 21 50), (0, .nameAndType 51 52), (0, u "dashes"), (0, u "([CI)V"), (2, u "law"), (0, u "(IIJI)Z")] 7

def k1m0 : Method := { name := "<init>", desc := "()V", sig := ⟨[], none⟩, accessFlags := 1, code := none }
def k1c1 : Code := ⟨6, 23, code, #[], #[]⟩
def k1m1 : Method := { name := "law", desc := "(IIJI)Z", sig := ⟨[.int, .int, .long, .int], some .boolean⟩, accessFlags := 9, code := some k1c1 }
def k1c2 : Code := ⟨3, 1, method_3_code, #[], #[]⟩
def k1m2 : Method := { name := "sym", desc := "(I)C", sig := ⟨[.int], some .char⟩, accessFlags := 10, code := some k1c2 }
def k1c3 : Code := ⟨5, 8, method_4_code, #[], #[]⟩
def k1m3 : Method := { name := "group", desc := "([CIIIII)V", sig := ⟨[(.array .char), .int, .int, .int, .int, .int], none⟩, accessFlags := 10, code := some k1c3 }
def k1c4 : Code := ⟨6, 7, method_5_code, #[], #[]⟩
def k1m4 : Method := { name := "groupAt", desc := "(Ljava/lang/String;IIIII)Z", sig := ⟨[(.object "java/lang/String"), .int, .int, .int, .int, .int], some .boolean⟩, accessFlags := 10, code := some k1c4 }
def k1c5 : Code := ⟨3, 2, method_6_code, #[], #[]⟩
def k1m5 : Method := { name := "dashes", desc := "([CI)V", sig := ⟨[(.array .char), .int], none⟩, accessFlags := 10, code := some k1c5 }
def k1c6 : Code := ⟨3, 5, method_7_code, #[], #[]⟩
def k1m6 : Method := { name := "frame", desc := "([CCCI)V", sig := ⟨[(.array .char), .char, .char, .int], none⟩, accessFlags := 10, code := some k1c6 }
/-- com/example/bevaka/bevaka/store/PemEncodePinLaw -/
def k1 : Class := { plain "com/example/bevaka/bevaka/store/PemEncodePinLaw" (some 0) with
  accessFlags := 49
  interfaces := #[]
  cf := some (fileOf pool1 21 #[] #[⟨1, 5, 6, #[]⟩, ⟨9, 55, 56, #[]⟩, ⟨10, 48, 41, #[]⟩, ⟨10, 28, 29, #[]⟩, ⟨10, 44, 45, #[]⟩, ⟨10, 51, 52, #[]⟩, ⟨10, 24, 25, #[]⟩] 49 2 #[] #[])
  fields := #[]
  methods := #[k1m0, k1m1, k1m2, k1m3, k1m4, k1m5, k1m6]
  instanceTypes := #[]
  staticTypes := #[]
  resolved := Array.replicate 64 none
  statics := none }

def pool2 : Array CpInfo := pool [(1, .class_ 2), (0, u "java/io/Serializable"), (0, .class_ 4), (0, u "java/lang/Object")] 2

/-- java/io/Serializable -/
def k2 : Class := { plain "java/io/Serializable" (some 0) with
  accessFlags := 1537
  interfaces := #[]
  cf := some (fileOf pool2 1 #[] #[] 1537 3 #[] #[])
  fields := #[]
  methods := #[]
  instanceTypes := #[]
  staticTypes := #[]
  resolved := Array.replicate 7 none
  statics := none }

def pool3 : Array CpInfo := pool [(1, .class_ 2), (0, u "java/lang/Comparable"), (0, .class_ 4), (0, u "java/lang/Object")] 7

/-- java/lang/Comparable -/
def k3 : Class := { plain "java/lang/Comparable" (some 0) with
  accessFlags := 1537
  interfaces := #[]
  cf := some (fileOf pool3 1 #[] #[] 1537 3 #[] #[])
  fields := #[]
  methods := #[]
  instanceTypes := #[]
  staticTypes := #[]
  resolved := Array.replicate 12 none
  statics := none }

def pool4 : Array CpInfo := pool [(2, .class_ 4), (1, u "java/lang/CharSequence"), (42, .class_ 48), (0, u "java/lang/CharSequence$1CodePointIterator"), (10, .class_ 60), (0, u "java/lang/CharSequence$1CharIterator"), (5, .class_ 67), (0, u "java/lang/Object")] 63

/-- java/lang/CharSequence -/
def k4 : Class := { plain "java/lang/CharSequence" (some 0) with
  accessFlags := 1537
  interfaces := #[]
  cf := some (fileOf pool4 2 #[.nestMembers #[47, 59]] #[] 1537 66 #[] #[])
  fields := #[]
  methods := #[]
  instanceTypes := #[]
  staticTypes := #[]
  resolved := Array.replicate 131 none
  statics := none }

def pool5 : Array CpInfo := pool [(1, .class_ 2), (0, u "java/lang/constant/Constable"), (0, .class_ 4), (0, u "java/lang/Object")] 6

/-- java/lang/constant/Constable -/
def k5 : Class := { plain "java/lang/constant/Constable" (some 0) with
  accessFlags := 1537
  interfaces := #[]
  cf := some (fileOf pool5 1 #[] #[] 1537 3 #[] #[])
  fields := #[]
  methods := #[]
  instanceTypes := #[]
  staticTypes := #[]
  resolved := Array.replicate 11 none
  statics := none }

def pool6 : Array CpInfo := pool [(1, .class_ 2), (0, u "java/lang/constant/ConstantDesc"), (0, .class_ 4), (0, u "java/lang/Object")] 32

/-- java/lang/constant/ConstantDesc -/
def k6 : Class := { plain "java/lang/constant/ConstantDesc" (some 0) with
  accessFlags := 1537
  interfaces := #[]
  cf := some (fileOf pool6 1 #[] #[] 1537 3 #[] #[])
  fields := #[]
  methods := #[]
  instanceTypes := #[]
  staticTypes := #[]
  resolved := Array.replicate 37 none
  statics := none }

def pool7 : Array CpInfo := pool [(1, .methodref 2 3), (0, .class_ 4), (0, .nameAndType 5 6), (0, u "java/lang/Object"), (0, u "<init>"), (0, u "()V"), (0, .string 8), (0, u ""), (0, .fieldref 10 11), (0, .class_ 12), (0, .nameAndType 13 14), (0, u "java/lang/String"), (0, u "value"), (0, u "[B"), (0, .fieldref 10 16), (0, .nameAndType 17 18), (0, u "coder"), (0, u "B"), (2, u "hash"), (0, u "I"), (2, u "hashIsZero"), (0, u "Z"), (0, .methodref 10 28), (0, .nameAndType 5 29), (0, u "([CIILjava/lang/Void;)V"), (4, .methodref 10 35), (0, .nameAndType 36 37), (0, u "checkBoundsOffCount"), (0, u "(III)I"), (0, .fieldref 10 39), (0, .nameAndType 40 26), (0, u "COMPACT_STRINGS"), (1, .class_ 44), (1, u "java/lang/StringUTF16"), (0, u "compress"), (1, .methodref 42 48), (0, .nameAndType 49 50), (0, u "coderFromArrayLen"), (0, u "([BI)B"), (3, .methodref 55 56), (0, .class_ 57), (0, .nameAndType 58 59), (0, u "java/util/Arrays"), (0, u "copyOfRange"), (0, u "([BII)[B"), (10, u "([BIII)V"), (36, .class_ 109), (1, u "java/lang/StringLatin1"), (32, u "()Z"), (34, .methodref 42 178), (0, .nameAndType 45 179), (0, u "([CII)[B"), (13, .class_ 195), (1, u "java/lang/System"), (16, .methodref 193 213), (0, .nameAndType 214 215), (0, u "arraycopy"), (0, u "(Ljava/lang/Object;ILjava/lang/Object;II)V"), (118, u "()I"), (0, .methodref 10 336), (0, .nameAndType 17 337), (0, u "()B"), (2, u "()[B"), (22, u "([BI)C"), (27, u "(II)V"), (35, u "(I)C"), (61, .methodref 10 490), (0, .nameAndType 5 491), (0, u "(Ljava/lang/AbstractStringBuilder;Ljava/lang/Void;)V"), (0, .methodref 10 493), (0, .nameAndType 494 142), (0, u "isLatin1"), (0, .methodref 107 496), (0, .nameAndType 497 363), (0, u "charAt"), (3, u "checkIndex"), (4, .nameAndType 507 334), (0, u "length"), (24, u "getBytes"), (8, .methodref 107 542), (0, .nameAndType 543 544), (0, u "equals"), (0, u "([B[B)Z"), (4, .methodref 550 506), (0, .class_ 551), (0, u "java/lang/AbstractStringBuilder"), (0, .methodref 550 553), (0, .nameAndType 554 340), (0, u "getValue"), (18, u "(Ljava/lang/Object;)Z"), (1, .class_ 576), (0, u "java/lang/CharSequence"), (22, u "CASE_INSENSITIVE_ORDER"), (0, u "Ljava/util/Comparator;"), (220, u "([BIB)V"), (188, u "([C)V"), (36, .methodref 550 493), (5, .fieldref 1054 1055), (0, .class_ 1056), (0, .nameAndType 1057 1058), (0, u "jdk/internal/util/Preconditions"), (0, u "SIOOBE_FORMATTER"), (0, u "Ljava/util/function/BiFunction;"), (0, .methodref 1054 1060), (0, .nameAndType 501 1061), (0, u "(IILjava/util/function/BiFunction;)I"), (2, u "(IIILjava/util/function/BiFunction;)I"), (0, .methodref 1054 1066), (0, .nameAndType 1067 1064), (0, u "checkFromIndexSize"), (33, u "serialPersistentFields"), (0, u "[Ljava/io/ObjectStreamField;"), (0, .class_ 1104), (0, u "java/lang/String$CaseInsensitiveComparator"), (1, .class_ 1107), (0, u "java/io/Serializable"), (0, .class_ 1109), (0, u "java/lang/Comparable"), (0, .class_ 1111), (0, u "java/lang/constant/Constable"), (0, .class_ 1113), (0, u "java/lang/constant/ConstantDesc"), (2, u "serialVersionUID"), (0, u "J"), (3, u "REPL"), (0, u "C"), (2, u "LATIN1"), (1, u "UTF16"), (105, u "(Ljava/lang/StringBuilder;)V")] 217

def k7m0 : Method := { name := "<init>", desc := "()V", sig := ⟨[], none⟩, accessFlags := 1, code := none }
def k7c1 : Code := ⟨5, 2, jdk_42_method_3_code, #[], #[]⟩
def k7m1 : Method := { name := "<init>", desc := "([C)V", sig := ⟨[(.array .char)], none⟩, accessFlags := 1, code := some k7c1 }
def k7c2 : Code := ⟨5, 7, jdk_42_method_7_code, #[], #[]⟩
def k7m2 : Method := { name := "<init>", desc := "([BIII)V", sig := ⟨[(.array .byte), .int, .int, .int], none⟩, accessFlags := 1, code := some k7c2 }
def k7c3 : Code := ⟨3, 2, jdk_42_method_53_code, #[], #[]⟩
def k7m3 : Method := { name := "<init>", desc := "(Ljava/lang/StringBuilder;)V", sig := ⟨[(.object "java/lang/StringBuilder")], none⟩, accessFlags := 1, code := some k7c3 }
def k7c4 : Code := ⟨2, 1, jdk_42_method_54_code, #[], #[]⟩
def k7m4 : Method := { name := "length", desc := "()I", sig := ⟨[], some .int⟩, accessFlags := 1, code := some k7c4 }
def k7c5 : Code := ⟨2, 2, jdk_42_method_56_code, #[], #[]⟩
def k7m5 : Method := { name := "charAt", desc := "(I)C", sig := ⟨[.int], some .char⟩, accessFlags := 1, code := some k7c5 }
def k7c6 : Code := ⟨2, 3, jdk_42_method_66_code, #[], #[]⟩
def k7m6 : Method := { name := "equals", desc := "(Ljava/lang/Object;)Z", sig := ⟨[(.object "java/lang/Object")], some .boolean⟩, accessFlags := 1, code := some k7c6 }
def k7c7 : Code := ⟨5, 4, jdk_42_method_147_code, #[], #[]⟩
def k7m7 : Method := { name := "getBytes", desc := "([BIB)V", sig := ⟨[(.array .byte), .int, .byte], none⟩, accessFlags := 0, code := some k7c7 }
def k7c8 : Code := ⟨4, 6, jdk_42_method_149_code, #[], #[]⟩
def k7m8 : Method := { name := "<init>", desc := "([CIILjava/lang/Void;)V", sig := ⟨[(.array .char), .int, .int, (.object "java/lang/Void")], none⟩, accessFlags := 2, code := some k7c8 }
def k7c9 : Code := ⟨5, 5, jdk_42_method_150_code, #[], #[]⟩
def k7m9 : Method := { name := "<init>", desc := "(Ljava/lang/AbstractStringBuilder;Ljava/lang/Void;)V", sig := ⟨[(.object "java/lang/AbstractStringBuilder"), (.object "java/lang/Void")], none⟩, accessFlags := 0, code := some k7c9 }
def k7c10 : Code := ⟨1, 1, jdk_42_method_152_code, #[], #[]⟩
def k7m10 : Method := { name := "coder", desc := "()B", sig := ⟨[], some .byte⟩, accessFlags := 0, code := some k7c10 }
def k7c11 : Code := ⟨1, 1, jdk_42_method_154_code, #[], #[]⟩
def k7m11 : Method := { name := "isLatin1", desc := "()Z", sig := ⟨[], some .boolean⟩, accessFlags := 0, code := some k7c11 }
def k7c12 : Code := ⟨3, 2, jdk_42_method_155_code, #[], #[]⟩
def k7m12 : Method := { name := "checkIndex", desc := "(II)V", sig := ⟨[.int, .int], none⟩, accessFlags := 8, code := some k7c12 }
def k7c13 : Code := ⟨4, 3, jdk_42_method_157_code, #[], #[]⟩
def k7m13 : Method := { name := "checkBoundsOffCount", desc := "(III)I", sig := ⟨[.int, .int, .int], some .int⟩, accessFlags := 8, code := some k7c13 }
/-- java/lang/String -/
def k7 : Class := { plain "java/lang/String" (some 0) with
  accessFlags := 49
  interfaces := #[2, 3, 4, 5, 6]
  cf := some (fileOf pool7 10 #[.nestMembers #[1103]] #[⟨1, 5, 6, #[]⟩, ⟨1, 5, 1010, #[]⟩, ⟨1, 5, 70, #[]⟩, ⟨1, 5, 1233, #[]⟩, ⟨1, 507, 334, #[]⟩, ⟨1, 497, 427, #[]⟩, ⟨1, 543, 573, #[]⟩, ⟨0, 532, 821, #[]⟩, ⟨2, 5, 29, #[]⟩, ⟨0, 5, 491, #[]⟩, ⟨0, 17, 337, #[]⟩, ⟨0, 494, 142, #[]⟩, ⟨8, 501, 391, #[]⟩, ⟨8, 36, 37, #[]⟩] 49 2 #[1106, 1108, 575, 1110, 1112] #[⟨18, 13, 14, #[]⟩, ⟨18, 17, 18, #[]⟩, ⟨2, 21, 22, #[]⟩, ⟨2, 25, 26, #[]⟩, ⟨26, 1116, 1117, #[]⟩, ⟨24, 40, 26, #[]⟩, ⟨26, 1101, 1102, #[]⟩, ⟨26, 1121, 1122, #[]⟩, ⟨25, 599, 600, #[]⟩, ⟨24, 1125, 18, #[]⟩, ⟨24, 1127, 18, #[]⟩])
  fields := #[⟨"value", (.array .byte), 18, 0, 0⟩, ⟨"coder", .byte, 18, 1, 0⟩, ⟨"hash", .int, 2, 2, 0⟩, ⟨"hashIsZero", .boolean, 2, 3, 0⟩, ⟨"serialVersionUID", .long, 26, 0, 0⟩, ⟨"COMPACT_STRINGS", .boolean, 24, 1, 0⟩, ⟨"serialPersistentFields", (.array (.object "java/io/ObjectStreamField")), 26, 2, 0⟩, ⟨"REPL", .char, 26, 3, 0⟩, ⟨"CASE_INSENSITIVE_ORDER", (.object "java/util/Comparator"), 25, 4, 0⟩, ⟨"LATIN1", .byte, 24, 5, 0⟩, ⟨"UTF16", .byte, 24, 6, 0⟩]
  methods := #[k7m0, k7m1, k7m2, k7m3, k7m4, k7m5, k7m6, k7m7, k7m8, k7m9, k7m10, k7m11, k7m12, k7m13]
  instanceTypes := #[(.array .byte), .byte, .int, .boolean]
  staticTypes := #[.long, .boolean, (.array (.object "java/io/ObjectStreamField")), .char, (.object "java/util/Comparator"), .byte, .byte]
  resolved := Array.replicate 1451 none
  statics := some 0 }

def pool8 : Array CpInfo := pool [(6, .class_ 8), (1, u "java/lang/Object"), (0, u "<init>"), (0, u "()V"), (1, .class_ 14), (1, u "java/lang/StringUTF16"), (31, u "$assertionsDisabled"), (0, u "Z"), (13, u "HI_BYTE_SHIFT"), (0, u "I"), (2, u "LO_BYTE_SHIFT"), (49, .methodref 12 116), (0, .nameAndType 117 118), (0, u "compress"), (0, u "([CI[BII)I"), (3, u "([CII)[B"), (138, u "coderFromArrayLen"), (0, u "([BI)B"), (106, .class_ 371), (1, u "java/lang/StringUTF16$LinesSpliterator"), (58, u "MAX_LENGTH"), (196, .class_ 628), (0, u "java/lang/StringUTF16$CodePointsSpliterator"), (0, .class_ 630), (0, u "java/lang/StringUTF16$CharsSpliterator")] 4

def k8m0 : Method := { name := "<init>", desc := "()V", sig := ⟨[], none⟩, accessFlags := 0, code := none }
def k8c1 : Code := ⟨2, 2, jdk_52_method_15_code, #[], #[]⟩
def k8m1 : Method := { name := "coderFromArrayLen", desc := "([BI)B", sig := ⟨[(.array .byte), .int], some .byte⟩, accessFlags := 8, code := some k8c1 }
def k8c2 : Code := ⟨5, 6, jdk_52_method_16_code, #[], #[]⟩
def k8m2 : Method := { name := "compress", desc := "([CII)[B", sig := ⟨[(.array .char), .int, .int], some (.array .byte)⟩, accessFlags := 9, code := some k8c2 }
def k8c3 : Code := ⟨3, 7, jdk_52_method_21_code, #[], #[]⟩
def k8m3 : Method := { name := "compress", desc := "([CI[BII)I", sig := ⟨[(.array .char), .int, (.array .byte), .int, .int], some .int⟩, accessFlags := 9, code := some k8c3 }
/-- java/lang/StringUTF16 -/
def k8 : Class := { plain "java/lang/StringUTF16" (some 0) with
  accessFlags := 48
  interfaces := #[]
  cf := some (fileOf pool8 12 #[.nestMembers #[627, 629, 369]] #[⟨0, 9, 10, #[]⟩, ⟨8, 261, 262, #[]⟩, ⟨9, 117, 122, #[]⟩, ⟨9, 117, 118, #[]⟩] 48 6 #[] #[⟨26, 61, 62, #[]⟩, ⟨26, 65, 62, #[]⟩, ⟨24, 430, 62, #[]⟩, ⟨4120, 46, 47, #[]⟩])
  fields := #[⟨"HI_BYTE_SHIFT", .int, 26, 0, 0⟩, ⟨"LO_BYTE_SHIFT", .int, 26, 1, 0⟩, ⟨"MAX_LENGTH", .int, 24, 2, 0⟩, ⟨"$assertionsDisabled", .boolean, 4120, 3, 0⟩]
  methods := #[k8m0, k8m1, k8m2, k8m3]
  instanceTypes := #[]
  staticTypes := #[.int, .int, .int, .boolean]
  resolved := Array.replicate 635 none
  statics := none }

def pool9 : Array CpInfo := pool [(2, .class_ 4), (0, .nameAndType 5 6), (0, u "java/lang/Object"), (0, u "<init>"), (0, u "()V"), (0, .methodref 8 9), (0, .class_ 10), (0, .nameAndType 11 12), (0, u "java/util/Base64"), (0, u "getMimeEncoder"), (0, u "(I[B)Ljava/util/Base64$Encoder;"), (0, .methodref 14 15), (0, .class_ 16), (0, .nameAndType 17 18), (0, u "java/util/Base64$Encoder"), (0, u "encodeToString"), (0, u "([B)Ljava/lang/String;"), (0, .class_ 20), (0, u "java/lang/StringBuilder"), (0, .methodref 19 3), (0, .string 23), (0, u "-----BEGIN "), (0, .methodref 19 25), (0, .nameAndType 26 27), (0, u "append"), (0, u "(Ljava/lang/String;)Ljava/lang/StringBuilder;"), (0, .string 29), (0, u "-----\n"), (0, .string 31), (0, u "\n-----END "), (0, .methodref 19 33), (0, .nameAndType 34 35), (0, u "toString"), (0, u "()Ljava/lang/String;"), (50, .class_ 87), (0, u "com/example/bevaka/bevaka/store/Pem"), (2, u "encode"), (0, u "(Ljava/lang/String;[B)Ljava/lang/String;")] 7

def k9m0 : Method := { name := "<init>", desc := "()V", sig := ⟨[], none⟩, accessFlags := 2, code := none }
def k9c1 : Code := ⟨5, 3, prog_21_method_2_code, #[], #[]⟩
def k9m1 : Method := { name := "encode", desc := "(Ljava/lang/String;[B)Ljava/lang/String;", sig := ⟨[(.object "java/lang/String"), (.array .byte)], some (.object "java/lang/String")⟩, accessFlags := 8, code := some k9c1 }
/-- com/example/bevaka/bevaka/store/Pem -/
def k9 : Class := { plain "com/example/bevaka/bevaka/store/Pem" (some 0) with
  accessFlags := 48
  interfaces := #[]
  cf := some (fileOf pool9 86 #[] #[⟨2, 5, 6, #[]⟩, ⟨8, 90, 91, #[]⟩] 48 2 #[] #[])
  fields := #[]
  methods := #[k9m0, k9m1]
  instanceTypes := #[]
  staticTypes := #[]
  resolved := Array.replicate 99 none
  statics := none }

def pool10 : Array CpInfo := pool [(2, .class_ 4), (1, u "java/lang/Object"), (0, u "<init>"), (0, u "()V"), (1, .class_ 10), (1, u "java/util/Base64$Encoder"), (8, .methodref 20 21), (0, .class_ 22), (0, .nameAndType 23 24), (0, u "java/util/Objects"), (0, u "requireNonNull"), (0, u "(Ljava/lang/Object;)Ljava/lang/Object;"), (0, .fieldref 26 27), (0, .class_ 28), (0, .nameAndType 29 30), (0, u "java/util/Base64$Decoder"), (0, u "fromBase64"), (0, u "[I"), (23, .methodref 8 55), (0, .nameAndType 5 56), (0, u "(Z[BIZ)V"), (7, .class_ 65), (0, u "java/util/Base64"), (8, u "getMimeEncoder"), (0, u "(I[B)Ljava/util/Base64$Encoder;"), (17, .class_ 94), (0, u "java/util/Base64$DecInputStream"), (0, .class_ 96), (0, u "java/util/Base64$EncOutputStream")] 5

def k10m0 : Method := { name := "<init>", desc := "()V", sig := ⟨[], none⟩, accessFlags := 2, code := none }
def k10c1 : Code := ⟨6, 7, jdk_2448_method_5_code, #[], #[]⟩
def k10m1 : Method := { name := "getMimeEncoder", desc := "(I[B)Ljava/util/Base64$Encoder;", sig := ⟨[.int, (.array .byte)], some (.object "java/util/Base64$Encoder")⟩, accessFlags := 9, code := some k10c1 }
/-- java/util/Base64 -/
def k10 : Class := { plain "java/util/Base64" (some 0) with
  accessFlags := 33
  interfaces := #[]
  cf := some (fileOf pool10 64 #[.nestMembers #[93, 95, 26, 8]] #[⟨2, 5, 6, #[]⟩, ⟨9, 74, 75, #[]⟩] 33 2 #[] #[])
  fields := #[]
  methods := #[k10m0, k10m1]
  instanceTypes := #[]
  staticTypes := #[]
  resolved := Array.replicate 8 none ++ #[some (.cls 13)] ++ Array.replicate 16 none ++ #[some (.field 12 2)] ++ Array.replicate 28 none ++ #[some (.method ⟨13, 0⟩)] ++ Array.replicate 47 none
  statics := none }

def pool11 : Array CpInfo := pool [(2, .class_ 4), (1, u "java/lang/Object"), (0, u "<init>"), (0, u "()V"), (35, .class_ 44), (1, u "java/util/Objects"), (0, u "requireNonNull"), (0, u "(Ljava/lang/Object;)Ljava/lang/Object;")] 137

def k11m0 : Method := { name := "<init>", desc := "()V", sig := ⟨[], none⟩, accessFlags := 2, code := none }
def k11c1 : Code := ⟨2, 1, jdk_31_method_10_code, #[], #[]⟩
def k11m1 : Method := { name := "requireNonNull", desc := "(Ljava/lang/Object;)Ljava/lang/Object;", sig := ⟨[(.object "java/lang/Object")], some (.object "java/lang/Object")⟩, accessFlags := 9, code := some k11c1 }
/-- java/util/Objects -/
def k11 : Class := { plain "java/util/Objects" (some 0) with
  accessFlags := 49
  interfaces := #[]
  cf := some (fileOf pool11 42 #[] #[⟨2, 5, 6, #[]⟩, ⟨9, 45, 46, #[]⟩] 49 2 #[] #[])
  fields := #[]
  methods := #[k11m0, k11m1]
  instanceTypes := #[]
  staticTypes := #[]
  resolved := Array.replicate 184 none
  statics := none }

def pool12 : Array CpInfo := pool [(2, .class_ 4), (1, u "java/lang/Object"), (3, .class_ 10), (1, u "java/util/Base64$Decoder"), (0, u "isURL"), (0, u "Z"), (2, u "isMIME"), (81, u "fromBase64URL"), (0, u "[I"), (2, u "fromBase64"), (58, u "RFC4648"), (0, u "Ljava/util/Base64$Decoder;"), (2, u "RFC4648_URLSAFE"), (2, u "RFC2045"), (52, .class_ 221), (0, u "java/util/Base64")] 4

/-- java/util/Base64$Decoder -/
def k12 : Class := { plain "java/util/Base64$Decoder" (some 0) with
  accessFlags := 33
  interfaces := #[]
  cf := some (fileOf pool12 8 #[.nestHost 220] #[] 33 2 #[] #[⟨18, 11, 12, #[]⟩, ⟨18, 15, 12, #[]⟩, ⟨26, 101, 98, #[]⟩, ⟨26, 97, 98, #[]⟩, ⟨24, 160, 161, #[]⟩, ⟨24, 164, 161, #[]⟩, ⟨24, 167, 161, #[]⟩])
  fields := #[⟨"isURL", .boolean, 18, 0, 0⟩, ⟨"isMIME", .boolean, 18, 1, 0⟩, ⟨"fromBase64", (.array .int), 26, 0, 0⟩, ⟨"fromBase64URL", (.array .int), 26, 1, 0⟩, ⟨"RFC4648", (.object "java/util/Base64$Decoder"), 24, 2, 0⟩, ⟨"RFC4648_URLSAFE", (.object "java/util/Base64$Decoder"), 24, 3, 0⟩, ⟨"RFC2045", (.object "java/util/Base64$Decoder"), 24, 4, 0⟩]
  methods := #[]
  instanceTypes := #[.boolean, .boolean]
  staticTypes := #[(.array .int), (.array .int), (.object "java/util/Base64$Decoder"), (.object "java/util/Base64$Decoder"), (.object "java/util/Base64$Decoder")]
  resolved := Array.replicate 226 none
  statics := some 1 }

def pool13 : Array CpInfo := pool [(1, .methodref 2 3), (0, .class_ 4), (0, .nameAndType 5 6), (0, u "java/lang/Object"), (0, u "<init>"), (0, u "()V"), (0, .fieldref 8 9), (0, .class_ 10), (0, .nameAndType 11 12), (0, u "java/util/Base64$Encoder"), (0, u "isURL"), (0, u "Z"), (0, .fieldref 8 14), (0, .nameAndType 15 16), (0, u "newline"), (0, u "[B"), (0, .fieldref 8 18), (0, .nameAndType 19 20), (0, u "linemax"), (0, u "I"), (0, .fieldref 8 22), (0, .nameAndType 23 12), (0, u "doPadding"), (0, .methodref 25 26), (0, .class_ 27), (0, .nameAndType 28 29), (0, u "java/lang/Math"), (0, u "addExact"), (0, u "(II)I"), (0, .methodref 25 31), (0, .nameAndType 32 29), (0, u "multiplyExact"), (9, .methodref 8 43), (0, .nameAndType 44 45), (0, u "encodedOutLength"), (0, u "(IZ)I"), (0, .methodref 8 47), (0, .nameAndType 48 49), (0, u "encode0"), (0, u "([BII[B)I"), (11, .methodref 8 62), (0, .nameAndType 63 64), (0, u "encode"), (0, u "([B)[B"), (0, .class_ 66), (0, u "java/lang/String"), (0, .methodref 65 68), (0, .nameAndType 5 69), (0, u "([BIII)V"), (43, u "toBase64URL"), (0, u "[C"), (0, .fieldref 8 116), (0, .nameAndType 117 114), (0, u "toBase64"), (5, u "(Z[BIZ)V"), (0, .methodref 25 125), (0, .nameAndType 126 29), (0, u "min"), (0, .methodref 8 128), (0, .nameAndType 129 130), (0, u "encodeBlock"), (0, u "([BII[BIZ)V"), (2, u "CRLF"), (2, u "RFC4648"), (0, u "Ljava/util/Base64$Encoder;"), (2, u "RFC4648_URLSAFE"), (2, u "RFC2045"), (0, u "MIMELINEMAX"), (18, u "encodeToString"), (0, u "([B)Ljava/lang/String;"), (34, .class_ 200), (0, u "java/util/Base64")] 3

def k13c0 : Code := ⟨2, 5, jdk_2452_method_1_code, #[], #[]⟩
def k13m0 : Method := { name := "<init>", desc := "(Z[BIZ)V", sig := ⟨[.boolean, (.array .byte), .int, .boolean], none⟩, accessFlags := 2, code := some k13c0 }
def k13c1 : Code := ⟨3, 5, jdk_2452_method_2_code, #[{ startPc := 2, endPc := 79, handlerPc := 82, catchType := 33 }], #[]⟩
def k13m1 : Method := { name := "encodedOutLength", desc := "(IZ)I", sig := ⟨[.int, .boolean], some .int⟩, accessFlags := 18, code := some k13c1 }
def k13c2 : Code := ⟨5, 5, jdk_2452_method_3_code, #[], #[]⟩
def k13m2 : Method := { name := "encode", desc := "([B)[B", sig := ⟨[(.array .byte)], some (.array .byte)⟩, accessFlags := 1, code := some k13c2 }
def k13c3 : Code := ⟨6, 3, jdk_2452_method_5_code, #[], #[]⟩
def k13m3 : Method := { name := "encodeToString", desc := "([B)Ljava/lang/String;", sig := ⟨[(.array .byte)], some (.object "java/lang/String")⟩, accessFlags := 1, code := some k13c3 }
def k13c4 : Code := ⟨5, 11, jdk_2452_method_9_code, #[], #[]⟩
def k13m4 : Method := { name := "encodeBlock", desc := "([BII[BIZ)V", sig := ⟨[(.array .byte), .int, .int, (.array .byte), .int, .boolean], none⟩, accessFlags := 2, code := some k13c4 }
def k13c5 : Code := ⟨7, 16, jdk_2452_method_10_code, #[], #[]⟩
def k13m5 : Method := { name := "encode0", desc := "([BII[B)I", sig := ⟨[(.array .byte), .int, .int, (.array .byte)], some .int⟩, accessFlags := 2, code := some k13c5 }
/-- java/util/Base64$Encoder -/
def k13 : Class := { plain "java/util/Base64$Encoder" (some 0) with
  accessFlags := 33
  interfaces := #[]
  cf := some (fileOf pool13 8 #[.nestHost 199] #[⟨2, 5, 123, #[]⟩, ⟨18, 44, 45, #[]⟩, ⟨1, 63, 64, #[]⟩, ⟨1, 163, 164, #[]⟩, ⟨2, 129, 130, #[]⟩, ⟨2, 48, 49, #[]⟩] 33 2 #[] #[⟨18, 15, 16, #[]⟩, ⟨18, 19, 20, #[]⟩, ⟨18, 11, 12, #[]⟩, ⟨18, 23, 12, #[]⟩, ⟨26, 117, 114, #[]⟩, ⟨26, 113, 114, #[]⟩, ⟨26, 144, 20, #[]⟩, ⟨26, 133, 16, #[]⟩, ⟨24, 136, 137, #[]⟩, ⟨24, 140, 137, #[]⟩, ⟨24, 143, 137, #[]⟩])
  fields := #[⟨"newline", (.array .byte), 18, 0, 0⟩, ⟨"linemax", .int, 18, 1, 0⟩, ⟨"isURL", .boolean, 18, 2, 0⟩, ⟨"doPadding", .boolean, 18, 3, 0⟩, ⟨"toBase64", (.array .char), 26, 0, 0⟩, ⟨"toBase64URL", (.array .char), 26, 1, 0⟩, ⟨"MIMELINEMAX", .int, 26, 2, 0⟩, ⟨"CRLF", (.array .byte), 26, 3, 0⟩, ⟨"RFC4648", (.object "java/util/Base64$Encoder"), 24, 4, 0⟩, ⟨"RFC4648_URLSAFE", (.object "java/util/Base64$Encoder"), 24, 5, 0⟩, ⟨"RFC2045", (.object "java/util/Base64$Encoder"), 24, 6, 0⟩]
  methods := #[k13m0, k13m1, k13m2, k13m3, k13m4, k13m5]
  instanceTypes := #[(.array .byte), .int, .boolean, .boolean]
  staticTypes := #[(.array .char), (.array .char), .int, (.array .byte), (.object "java/util/Base64$Encoder"), (.object "java/util/Base64$Encoder"), (.object "java/util/Base64$Encoder")]
  resolved := Array.replicate 204 none
  statics := some 2 }

def pool14 : Array CpInfo := pool [(1, .class_ 2), (0, u "java/lang/Math"), (1, .class_ 6), (1, u "java/lang/Object"), (0, u "<init>"), (0, u "()V"), (89, .class_ 100), (1, u "java/lang/Math$RandomNumberGeneratorHolder"), (19, u "multiplyExact"), (51, u "negativeZeroFloatBits"), (0, u "J"), (2, u "negativeZeroDoubleBits"), (21, u "max"), (2, u "min"), (43, u "$assertionsDisabled"), (0, u "Z"), (88, u "(II)I"), (2, u "twoToTheDoubleScaleDown"), (0, u "D"), (4, u "twoToTheDoubleScaleUp"), (9, u "E"), (3, u "PI"), (2, u "TAU"), (2, u "DEGREES_TO_RADIANS"), (0, u "RADIANS_TO_DEGREES"), (27, u "addExact")] 66

def k14m0 : Method := { name := "<init>", desc := "()V", sig := ⟨[], none⟩, accessFlags := 2, code := none }
def k14c1 : Code := ⟨3, 3, jdk_29_method_24_code, #[], #[]⟩
def k14m1 : Method := { name := "addExact", desc := "(II)I", sig := ⟨[.int, .int], some .int⟩, accessFlags := 9, code := some k14c1 }
def k14c2 : Code := ⟨4, 4, jdk_29_method_28_code, #[], #[]⟩
def k14m2 : Method := { name := "multiplyExact", desc := "(II)I", sig := ⟨[.int, .int], some .int⟩, accessFlags := 9, code := some k14c2 }
def k14c3 : Code := ⟨2, 2, jdk_29_method_65_code, #[], #[]⟩
def k14m3 : Method := { name := "max", desc := "(II)I", sig := ⟨[.int, .int], some .int⟩, accessFlags := 9, code := some k14c3 }
def k14c4 : Code := ⟨2, 2, jdk_29_method_69_code, #[], #[]⟩
def k14m4 : Method := { name := "min", desc := "(II)I", sig := ⟨[.int, .int], some .int⟩, accessFlags := 9, code := some k14c4 }
/-- java/lang/Math -/
def k14 : Class := { plain "java/lang/Math" (some 0) with
  accessFlags := 49
  interfaces := #[]
  cf := some (fileOf pool14 1 #[.nestMembers #[98]] #[⟨2, 7, 8, #[]⟩, ⟨9, 393, 335, #[]⟩, ⟨9, 120, 335, #[]⟩, ⟨9, 198, 335, #[]⟩, ⟨9, 201, 335, #[]⟩] 49 4 #[] #[⟨25, 354, 339, #[]⟩, ⟨25, 358, 339, #[]⟩, ⟨25, 361, 339, #[]⟩, ⟨26, 364, 339, #[]⟩, ⟨26, 365, 339, #[]⟩, ⟨26, 172, 173, #[]⟩, ⟨26, 176, 173, #[]⟩, ⟨8, 344, 339, #[]⟩, ⟨8, 338, 339, #[]⟩, ⟨4120, 245, 246, #[]⟩])
  fields := #[⟨"E", .double, 25, 0, 0⟩, ⟨"PI", .double, 25, 1, 0⟩, ⟨"TAU", .double, 25, 2, 0⟩, ⟨"DEGREES_TO_RADIANS", .double, 26, 3, 0⟩, ⟨"RADIANS_TO_DEGREES", .double, 26, 4, 0⟩, ⟨"negativeZeroFloatBits", .long, 26, 5, 0⟩, ⟨"negativeZeroDoubleBits", .long, 26, 6, 0⟩, ⟨"twoToTheDoubleScaleUp", .double, 8, 7, 0⟩, ⟨"twoToTheDoubleScaleDown", .double, 8, 8, 0⟩, ⟨"$assertionsDisabled", .boolean, 4120, 9, 0⟩]
  methods := #[k14m0, k14m1, k14m2, k14m3, k14m4]
  instanceTypes := #[]
  staticTypes := #[.double, .double, .double, .double, .double, .long, .long, .double, .double, .boolean]
  resolved := Array.replicate 460 none
  statics := none }

def pool15 : Array CpInfo := pool [(2, .class_ 4), (1, u "java/lang/Object"), (0, u "<init>"), (0, u "()V"), (17, .class_ 26), (1, u "jdk/internal/util/Preconditions"), (6, u "checkIndex"), (15, u "checkFromIndexSize"), (5, .class_ 56), (0, u "jdk/internal/util/Preconditions$4"), (57, .class_ 115), (0, u "jdk/internal/util/Preconditions$1"), (7, u "SIOOBE_FORMATTER"), (0, u "Ljava/util/function/BiFunction;"), (0, .class_ 126), (0, u "jdk/internal/util/Preconditions$2"), (3, u "AIOOBE_FORMATTER"), (0, .class_ 132), (0, u "jdk/internal/util/Preconditions$3"), (3, u "IOOBE_FORMATTER"), (41, u "(IILjava/util/function/BiFunction;)I"), (4, u "(IIILjava/util/function/BiFunction;)I")] 10

def k15m0 : Method := { name := "<init>", desc := "()V", sig := ⟨[], none⟩, accessFlags := 1, code := none }
def k15c1 : Code := ⟨3, 3, jdk_41_method_11_code, #[], #[]⟩
def k15m1 : Method := { name := "checkIndex", desc := "(IILjava/util/function/BiFunction;)I", sig := ⟨[.int, .int, (.object "java/util/function/BiFunction")], some .int⟩, accessFlags := 9, code := some k15c1 }
def k15c2 : Code := ⟨4, 4, jdk_41_method_13_code, #[], #[]⟩
def k15m2 : Method := { name := "checkFromIndexSize", desc := "(IIILjava/util/function/BiFunction;)I", sig := ⟨[.int, .int, .int, (.object "java/util/function/BiFunction")], some .int⟩, accessFlags := 9, code := some k15c2 }
/-- jdk/internal/util/Preconditions -/
def k15 : Class := { plain "jdk/internal/util/Preconditions" (some 0) with
  accessFlags := 33
  interfaces := #[]
  cf := some (fileOf pool15 24 #[.nestMembers #[55, 131, 125, 114]] #[⟨1, 5, 6, #[]⟩, ⟨9, 33, 178, #[]⟩, ⟨9, 49, 183, #[]⟩] 33 2 #[] #[⟨25, 123, 124, #[]⟩, ⟨25, 130, 124, #[]⟩, ⟨25, 136, 124, #[]⟩])
  fields := #[⟨"SIOOBE_FORMATTER", (.object "java/util/function/BiFunction"), 25, 0, 0⟩, ⟨"AIOOBE_FORMATTER", (.object "java/util/function/BiFunction"), 25, 1, 0⟩, ⟨"IOOBE_FORMATTER", (.object "java/util/function/BiFunction"), 25, 2, 0⟩]
  methods := #[k15m0, k15m1, k15m2]
  instanceTypes := #[]
  staticTypes := #[(.object "java/util/function/BiFunction"), (.object "java/util/function/BiFunction"), (.object "java/util/function/BiFunction")]
  resolved := Array.replicate 194 none
  statics := some 3 }

def pool16 : Array CpInfo := pool [(1, .class_ 2), (0, u "java/lang/Appendable"), (0, .class_ 4), (0, u "java/lang/Object")] 9

/-- java/lang/Appendable -/
def k16 : Class := { plain "java/lang/Appendable" (some 0) with
  accessFlags := 1537
  interfaces := #[]
  cf := some (fileOf pool16 1 #[] #[] 1537 3 #[] #[])
  fields := #[]
  methods := #[]
  instanceTypes := #[]
  staticTypes := #[]
  resolved := Array.replicate 14 none
  statics := none }

def pool17 : Array CpInfo := pool [(1, .class_ 2), (0, u "java/lang/String"), (0, .methodref 4 5), (0, .class_ 6), (0, .nameAndType 7 8), (0, u "java/lang/Object"), (0, u "<init>"), (0, u "()V"), (1, .class_ 12), (1, u "java/lang/AbstractStringBuilder"), (0, u "EMPTYVALUE"), (0, u "[B"), (0, .fieldref 10 16), (0, .nameAndType 17 14), (0, u "value"), (0, .fieldref 1 19), (0, .nameAndType 20 21), (0, u "COMPACT_STRINGS"), (0, u "Z"), (0, .fieldref 10 23), (0, .nameAndType 24 25), (0, u "coder"), (0, u "B"), (6, .methodref 1 33), (0, .nameAndType 34 35), (0, u "length"), (0, u "()I"), (3, .integer 2147483647), (0, .methodref 1 41), (0, .nameAndType 24 42), (0, u "()B"), (2, u "append"), (0, u "(Ljava/lang/String;)Ljava/lang/AbstractStringBuilder;"), (1, .class_ 49), (0, u "java/lang/CharSequence"), (19, u "(Ljava/lang/String;)V"), (5, u "maybeLatin1"), (3, .fieldref 10 80), (0, .nameAndType 81 82), (0, u "count"), (0, u "I"), (2, u "isLatin1"), (0, u "()Z"), (13, .methodref 10 101), (0, .nameAndType 102 103), (0, u "ensureCapacityInternal"), (0, u "(I)V"), (0, .methodref 10 105), (0, .nameAndType 106 107), (0, u "newCapacity"), (0, u "(I)I"), (0, .methodref 109 110), (0, .class_ 111), (0, .nameAndType 112 113), (0, u "java/util/Arrays"), (0, u "copyOf"), (0, u "([BI)[B"), (0, .methodref 115 116), (0, .class_ 117), (0, .nameAndType 118 119), (0, u "jdk/internal/util/ArraysSupport"), (0, u "newLength"), (0, u "(III)I"), (88, .methodref 10 209), (0, .nameAndType 210 211), (0, u "putStringAt"), (0, u "(ILjava/lang/String;)V"), (5, u "inflateIfNeededFor"), (2, .nameAndType 221 222), (0, u "getBytes"), (0, u "([BIB)V"), (174, .methodref 10 398), (0, .nameAndType 217 69), (0, .methodref 1 220), (3, u "()[B"), (40, .class_ 445), (0, u "java/lang/Appendable"), (106, u "getValue")] 56

def k17m0 : Method := { name := "<init>", desc := "()V", sig := ⟨[], none⟩, accessFlags := 0, code := none }
def k17c1 : Code := ⟨2, 2, jdk_68_method_2_code, #[], #[]⟩
def k17m1 : Method := { name := "<init>", desc := "(I)V", sig := ⟨[.int], none⟩, accessFlags := 0, code := some k17c1 }
def k17c2 : Code := ⟨1, 1, jdk_68_method_6_code, #[], #[]⟩
def k17m2 : Method := { name := "length", desc := "()I", sig := ⟨[], some .int⟩, accessFlags := 1, code := some k17c2 }
def k17c3 : Code := ⟨4, 3, jdk_68_method_9_code, #[], #[]⟩
def k17m3 : Method := { name := "ensureCapacityInternal", desc := "(I)V", sig := ⟨[.int], none⟩, accessFlags := 2, code := some k17c3 }
def k17c4 : Code := ⟨5, 6, jdk_68_method_10_code, #[], #[]⟩
def k17m4 : Method := { name := "newCapacity", desc := "(I)I", sig := ⟨[.int], some .int⟩, accessFlags := 2, code := some k17c4 }
def k17c5 : Code := ⟨3, 3, jdk_68_method_22_code, #[], #[]⟩
def k17m5 : Method := { name := "append", desc := "(Ljava/lang/String;)Ljava/lang/AbstractStringBuilder;", sig := ⟨[(.object "java/lang/String")], some (.object "java/lang/AbstractStringBuilder")⟩, accessFlags := 1, code := some k17c5 }
def k17c6 : Code := ⟨1, 1, jdk_68_method_64_code, #[], #[]⟩
def k17m6 : Method := { name := "getValue", desc := "()[B", sig := ⟨[], some (.array .byte)⟩, accessFlags := 16, code := some k17c6 }
def k17c7 : Code := ⟨1, 1, jdk_68_method_68_code, #[], #[]⟩
def k17m7 : Method := { name := "isLatin1", desc := "()Z", sig := ⟨[], some .boolean⟩, accessFlags := 16, code := some k17c7 }
def k17c8 : Code := ⟨2, 2, jdk_68_method_71_code, #[], #[]⟩
def k17m8 : Method := { name := "inflateIfNeededFor", desc := "(Ljava/lang/String;)V", sig := ⟨[(.object "java/lang/String")], none⟩, accessFlags := 2, code := some k17c8 }
def k17c9 : Code := ⟨4, 3, jdk_68_method_73_code, #[], #[]⟩
def k17m9 : Method := { name := "putStringAt", desc := "(ILjava/lang/String;)V", sig := ⟨[.int, (.object "java/lang/String")], none⟩, accessFlags := 2, code := some k17c9 }
/-- java/lang/AbstractStringBuilder -/
def k17 : Class := { plain "java/lang/AbstractStringBuilder" (some 0) with
  accessFlags := 1056
  interfaces := #[16, 4]
  cf := some (fileOf pool17 10 #[] #[⟨0, 7, 8, #[]⟩, ⟨0, 7, 103, #[]⟩, ⟨1, 34, 35, #[]⟩, ⟨2, 102, 103, #[]⟩, ⟨2, 106, 107, #[]⟩, ⟨1, 45, 46, #[]⟩, ⟨16, 552, 403, #[]⟩, ⟨16, 85, 86, #[]⟩, ⟨2, 217, 69, #[]⟩, ⟨2, 210, 211, #[]⟩] 1056 4 #[444, 48] #[⟨0, 17, 14, #[]⟩, ⟨0, 24, 25, #[]⟩, ⟨0, 75, 21, #[]⟩, ⟨0, 81, 82, #[]⟩, ⟨26, 13, 14, #[]⟩])
  fields := #[⟨"value", (.array .byte), 0, 0, 0⟩, ⟨"coder", .byte, 0, 1, 0⟩, ⟨"maybeLatin1", .boolean, 0, 2, 0⟩, ⟨"count", .int, 0, 3, 0⟩, ⟨"EMPTYVALUE", (.array .byte), 26, 0, 0⟩]
  methods := #[k17m0, k17m1, k17m2, k17m3, k17m4, k17m5, k17m6, k17m7, k17m8, k17m9]
  instanceTypes := #[(.array .byte), .byte, .boolean, .int]
  staticTypes := #[(.array .byte)]
  resolved := Array.replicate 609 none
  statics := none }

def pool18 : Array CpInfo := pool [(1, .methodref 2 3), (0, .class_ 4), (0, .nameAndType 5 6), (0, u "java/lang/AbstractStringBuilder"), (0, u "<init>"), (0, u "(I)V"), (11, .class_ 20), (1, u "java/lang/String"), (3, .class_ 26), (1, u "java/lang/StringBuilder"), (0, u "append"), (0, u "(Ljava/lang/String;)Ljava/lang/StringBuilder;"), (0, .methodref 2 30), (0, .nameAndType 27 31), (0, u "(Ljava/lang/String;)Ljava/lang/AbstractStringBuilder;"), (105, .methodref 18 138), (0, .nameAndType 5 139), (0, u "(Ljava/lang/StringBuilder;)V"), (5, u "()V"), (10, u "()I"), (186, .methodref 2 344), (0, .nameAndType 345 156), (0, u "length"), (3, .class_ 350), (0, u "java/lang/Appendable"), (0, .class_ 352), (0, u "java/io/Serializable"), (0, .class_ 354), (0, u "java/lang/Comparable"), (0, .class_ 356), (0, u "java/lang/CharSequence"), (0, u "serialVersionUID"), (0, u "J"), (40, u "toString"), (0, u "()Ljava/lang/String;")] 21

def k18c0 : Code := ⟨2, 1, jdk_67_method_1_code, #[], #[]⟩
def k18m0 : Method := { name := "<init>", desc := "()V", sig := ⟨[], none⟩, accessFlags := 1, code := some k18c0 }
def k18c1 : Code := ⟨2, 2, jdk_67_method_7_code, #[], #[]⟩
def k18m1 : Method := { name := "append", desc := "(Ljava/lang/String;)Ljava/lang/StringBuilder;", sig := ⟨[(.object "java/lang/String")], some (.object "java/lang/StringBuilder")⟩, accessFlags := 1, code := some k18c1 }
def k18c2 : Code := ⟨3, 1, jdk_67_method_42_code, #[], #[]⟩
def k18m2 : Method := { name := "toString", desc := "()Ljava/lang/String;", sig := ⟨[], some (.object "java/lang/String")⟩, accessFlags := 1, code := some k18c2 }
def k18c3 : Code := ⟨1, 1, jdk_67_method_93_code, #[], #[]⟩
def k18m3 : Method := { name := "length", desc := "()I", sig := ⟨[], some .int⟩, accessFlags := 4161, code := some k18c3 }
/-- java/lang/StringBuilder -/
def k18 : Class := { plain "java/lang/StringBuilder" (some 17) with
  accessFlags := 49
  interfaces := #[16, 2, 3, 4]
  cf := some (fileOf pool18 24 #[] #[⟨1, 5, 145, #[]⟩, ⟨1, 27, 28, #[]⟩, ⟨1, 399, 400, #[]⟩, ⟨4161, 345, 156, #[]⟩] 49 2 #[349, 351, 353, 355] #[⟨24, 357, 358, #[]⟩])
  fields := #[⟨"serialVersionUID", .long, 24, 0, 0⟩]
  methods := #[k18m0, k18m1, k18m2, k18m3]
  instanceTypes := #[(.array .byte), .byte, .boolean, .int]
  staticTypes := #[.long]
  resolved := Array.replicate 422 none
  statics := none }

def pool19 : Array CpInfo := pool [(2, .class_ 4), (1, u "java/lang/Object"), (0, u "<init>"), (0, u "()V"), (1, .class_ 10), (1, u "java/lang/System"), (0, u "allowSecurityManager"), (0, u "I"), (16, u "cons"), (0, u "Ljava/io/Console;"), (77, .class_ 110), (1, u "java/lang/System$CallersHolder"), (43, u "initialErrStream"), (0, u "Ljava/io/PrintStream;"), (19, u "security"), (0, u "Ljava/lang/SecurityManager;"), (31, .class_ 209), (0, u "java/lang/System$1"), (7, u "props"), (0, u "Ljava/util/Properties;"), (2, u "lineSeparator"), (0, u "Ljava/lang/String;"), (96, .class_ 321), (1, u "java/lang/System$LoggerFinder"), (5, .class_ 328), (0, u "java/lang/System$Logger"), (67, u "err"), (2, u "out"), (91, u "notSupportedJnuEncoding"), (15, u "in"), (17, u "initialIn"), (0, u "Ljava/io/InputStream;"), (35, u "bootLayer"), (0, u "Ljava/lang/ModuleLayer;"), (99, .class_ 664), (0, u "java/lang/System$2"), (9, u "NEVER"), (2, u "MAYBE"), (49, u "arraycopy"), (0, u "(Ljava/lang/Object;ILjava/lang/Object;II)V"), (72, .class_ 802), (0, u "java/lang/System$Logger$Level")] 31

def k19m0 : Method := { name := "<init>", desc := "()V", sig := ⟨[], none⟩, accessFlags := 2, code := none }
def k19m1 : Method := { name := "arraycopy", desc := "(Ljava/lang/Object;ILjava/lang/Object;II)V", sig := ⟨[(.object "java/lang/Object"), .int, (.object "java/lang/Object"), .int, .int], none⟩, accessFlags := 265, code := none }
/-- java/lang/System -/
def k19 : Class := { plain "java/lang/System" (some 0) with
  accessFlags := 49
  interfaces := #[]
  cf := some (fileOf pool19 8 #[.nestMembers #[319, 327, 801, 108, 663, 208]] #[⟨2, 5, 6, #[]⟩, ⟨265, 727, 728, #[]⟩] 49 2 #[] #[⟨25, 507, 526, #[]⟩, ⟨25, 399, 155, #[]⟩, ⟨25, 396, 155, #[]⟩, ⟨10, 525, 526, #[]⟩, ⟨26, 674, 12, #[]⟩, ⟨26, 677, 12, #[]⟩, ⟨10, 11, 12, #[]⟩, ⟨74, 175, 176, #[]⟩, ⟨10, 491, 222, #[]⟩, ⟨74, 29, 30, #[]⟩, ⟨74, 154, 155, #[]⟩, ⟨10, 217, 218, #[]⟩, ⟨10, 221, 222, #[]⟩, ⟨8, 562, 563, #[]⟩])
  fields := #[⟨"in", (.object "java/io/InputStream"), 25, 0, 0⟩, ⟨"out", (.object "java/io/PrintStream"), 25, 1, 0⟩, ⟨"err", (.object "java/io/PrintStream"), 25, 2, 0⟩, ⟨"initialIn", (.object "java/io/InputStream"), 10, 3, 0⟩, ⟨"NEVER", .int, 26, 4, 0⟩, ⟨"MAYBE", .int, 26, 5, 0⟩, ⟨"allowSecurityManager", .int, 10, 6, 0⟩, ⟨"security", (.object "java/lang/SecurityManager"), 74, 7, 0⟩, ⟨"notSupportedJnuEncoding", (.object "java/lang/String"), 10, 8, 0⟩, ⟨"cons", (.object "java/io/Console"), 74, 9, 0⟩, ⟨"initialErrStream", (.object "java/io/PrintStream"), 74, 10, 0⟩, ⟨"props", (.object "java/util/Properties"), 10, 11, 0⟩, ⟨"lineSeparator", (.object "java/lang/String"), 10, 12, 0⟩, ⟨"bootLayer", (.object "java/lang/ModuleLayer"), 8, 13, 0⟩]
  methods := #[k19m0, k19m1]
  instanceTypes := #[]
  staticTypes := #[(.object "java/io/InputStream"), (.object "java/io/PrintStream"), (.object "java/io/PrintStream"), (.object "java/io/InputStream"), .int, .int, .int, (.object "java/lang/SecurityManager"), (.object "java/lang/String"), (.object "java/io/Console"), (.object "java/io/PrintStream"), (.object "java/util/Properties"), (.object "java/lang/String"), (.object "java/lang/ModuleLayer")]
  resolved := Array.replicate 834 none
  statics := none }

def pool20 : Array CpInfo := pool [(9, u "<init>"), (6, .class_ 18), (1, u "java/lang/Object"), (0, u "()V"), (1, .class_ 23), (1, u "jdk/internal/util/ArraysSupport"), (0, u "LOG2_ARRAY_LONG_INDEX_SCALE"), (0, u "I"), (2, u "U"), (0, u "Ljdk/internal/misc/Unsafe;"), (8, u "BIG_ENDIAN"), (0, u "Z"), (8, u "LOG2_BYTE_BIT_SIZE"), (4, u "LOG2_ARRAY_INT_INDEX_SCALE"), (54, u "JLA"), (0, u "Ljdk/internal/access/JavaLangAccess;"), (11, u "LOG2_ARRAY_BOOLEAN_INDEX_SCALE"), (9, u "LOG2_ARRAY_BYTE_INDEX_SCALE"), (5, u "LOG2_ARRAY_CHAR_INDEX_SCALE"), (5, u "LOG2_ARRAY_SHORT_INDEX_SCALE"), (18, u "LOG2_ARRAY_FLOAT_INDEX_SCALE"), (24, u "LOG2_ARRAY_DOUBLE_INDEX_SCALE"), (6, .methodref 195 196), (0, .class_ 197), (0, .nameAndType 198 199), (0, u "java/lang/Math"), (0, u "max"), (0, u "(II)I"), (0, .integer 2147483639), (76, u "T_BOOLEAN"), (2, u "T_CHAR"), (1, u "T_FLOAT"), (1, u "T_DOUBLE"), (1, u "T_BYTE"), (1, u "T_SHORT"), (1, u "T_INT"), (1, u "T_LONG"), (1, u "SOFT_MAX_ARRAY_LENGTH"), (56, u "newLength"), (0, u "(III)I")] 25

def k20m0 : Method := { name := "<init>", desc := "()V", sig := ⟨[], none⟩, accessFlags := 2, code := none }
def k20c1 : Code := ⟨3, 4, jdk_48_method_27_code, #[], #[]⟩
def k20m1 : Method := { name := "newLength", desc := "(III)I", sig := ⟨[.int, .int, .int], some .int⟩, accessFlags := 9, code := some k20c1 }
/-- jdk/internal/util/ArraysSupport -/
def k20 : Class := { plain "jdk/internal/util/ArraysSupport" (some 0) with
  accessFlags := 33
  interfaces := #[]
  cf := some (fileOf pool20 21 #[] #[⟨2, 9, 19, #[]⟩, ⟨9, 351, 352, #[]⟩] 33 16 #[] #[⟨24, 28, 29, #[]⟩, ⟨26, 38, 39, #[]⟩, ⟨25, 121, 25, #[]⟩, ⟨25, 131, 25, #[]⟩, ⟨25, 137, 25, #[]⟩, ⟨25, 143, 25, #[]⟩, ⟨25, 53, 25, #[]⟩, ⟨25, 24, 25, #[]⟩, ⟨25, 162, 25, #[]⟩, ⟨25, 187, 25, #[]⟩, ⟨26, 48, 25, #[]⟩, ⟨25, 277, 25, #[]⟩, ⟨25, 280, 25, #[]⟩, ⟨25, 282, 25, #[]⟩, ⟨25, 284, 25, #[]⟩, ⟨25, 286, 25, #[]⟩, ⟨25, 288, 25, #[]⟩, ⟨25, 290, 25, #[]⟩, ⟨25, 292, 25, #[]⟩, ⟨26, 108, 109, #[]⟩, ⟨25, 294, 25, #[]⟩])
  fields := #[⟨"U", (.object "jdk/internal/misc/Unsafe"), 24, 0, 0⟩, ⟨"BIG_ENDIAN", .boolean, 26, 1, 0⟩, ⟨"LOG2_ARRAY_BOOLEAN_INDEX_SCALE", .int, 25, 2, 0⟩, ⟨"LOG2_ARRAY_BYTE_INDEX_SCALE", .int, 25, 3, 0⟩, ⟨"LOG2_ARRAY_CHAR_INDEX_SCALE", .int, 25, 4, 0⟩, ⟨"LOG2_ARRAY_SHORT_INDEX_SCALE", .int, 25, 5, 0⟩, ⟨"LOG2_ARRAY_INT_INDEX_SCALE", .int, 25, 6, 0⟩, ⟨"LOG2_ARRAY_LONG_INDEX_SCALE", .int, 25, 7, 0⟩, ⟨"LOG2_ARRAY_FLOAT_INDEX_SCALE", .int, 25, 8, 0⟩, ⟨"LOG2_ARRAY_DOUBLE_INDEX_SCALE", .int, 25, 9, 0⟩, ⟨"LOG2_BYTE_BIT_SIZE", .int, 26, 10, 0⟩, ⟨"T_BOOLEAN", .int, 25, 11, 0⟩, ⟨"T_CHAR", .int, 25, 12, 0⟩, ⟨"T_FLOAT", .int, 25, 13, 0⟩, ⟨"T_DOUBLE", .int, 25, 14, 0⟩, ⟨"T_BYTE", .int, 25, 15, 0⟩, ⟨"T_SHORT", .int, 25, 16, 0⟩, ⟨"T_INT", .int, 25, 17, 0⟩, ⟨"T_LONG", .int, 25, 18, 0⟩, ⟨"JLA", (.object "jdk/internal/access/JavaLangAccess"), 26, 19, 0⟩, ⟨"SOFT_MAX_ARRAY_LENGTH", .int, 25, 20, 0⟩]
  methods := #[k20m0, k20m1]
  instanceTypes := #[]
  staticTypes := #[(.object "jdk/internal/misc/Unsafe"), .boolean, .int, .int, .int, .int, .int, .int, .int, .int, .int, .int, .int, .int, .int, .int, .int, .int, .int, (.object "jdk/internal/access/JavaLangAccess"), .int]
  resolved := Array.replicate 378 none
  statics := none }

def pool21 : Array CpInfo := pool [(2, .class_ 4), (1, u "java/lang/Object"), (0, u "<init>"), (0, u "()V"), (7, .class_ 16), (1, u "java/util/Arrays"), (57, .class_ 76), (1, u "java/util/Arrays$NaturalOrder"), (32, u "()Ljava/lang/Object;"), (3, .class_ 115), (1, u "java/util/Arrays$LegacyMergeSort"), (1, u "Z"), (10, .nameAndType 129 109), (0, u "clone"), (9, u "copyOfRange"), (10, .methodref 151 152), (0, .class_ 153), (0, .nameAndType 154 155), (0, u "java/lang/System"), (0, u "arraycopy"), (0, u "(Ljava/lang/Object;ILjava/lang/Object;II)V"), (146, u "copyOf"), (1, .methodref 305 306), (0, .class_ 307), (0, .nameAndType 308 309), (0, u "java/lang/Math"), (0, u "min"), (0, u "(II)I"), (0, .methodref 311 128), (0, .class_ 312), (0, u "[B"), (26, .methodref 14 340), (0, .nameAndType 341 342), (0, u "copyOfRangeByte"), (0, u "([BII)[B"), (0, .methodref 14 344), (0, .nameAndType 345 346), (0, u "checkLength"), (0, u "(II)V"), (28, .class_ 376), (0, u "java/util/Arrays$ArrayList"), (68, u "$assertionsDisabled"), (269, u "MIN_ARRAY_SORT_GRAN"), (0, u "I"), (2, u "INSERTIONSORT_THRESHOLD"), (149, u "([BI)[B"), (105, .class_ 976), (0, u "java/util/Arrays$ArrayItr")] 52

def k21m0 : Method := { name := "<init>", desc := "()V", sig := ⟨[], none⟩, accessFlags := 2, code := none }
def k21c1 : Code := ⟨6, 3, jdk_65_method_121_code, #[], #[]⟩
def k21m1 : Method := { name := "copyOf", desc := "([BI)[B", sig := ⟨[(.array .byte), .int], some (.array .byte)⟩, accessFlags := 9, code := some k21c1 }
def k21c2 : Code := ⟨4, 2, jdk_65_method_131_code, #[], #[]⟩
def k21m2 : Method := { name := "checkLength", desc := "(II)V", sig := ⟨[.int, .int], none⟩, accessFlags := 10, code := some k21c2 }
def k21c3 : Code := ⟨3, 3, jdk_65_method_132_code, #[], #[]⟩
def k21m3 : Method := { name := "copyOfRange", desc := "([BII)[B", sig := ⟨[(.array .byte), .int, .int], some (.array .byte)⟩, accessFlags := 9, code := some k21c3 }
def k21c4 : Code := ⟨6, 5, jdk_65_method_133_code, #[], #[]⟩
def k21m4 : Method := { name := "copyOfRangeByte", desc := "([BII)[B", sig := ⟨[(.array .byte), .int, .int], some (.array .byte)⟩, accessFlags := 10, code := some k21c4 }
/-- java/util/Arrays -/
def k21 : Class := { plain "java/util/Arrays" (some 0) with
  accessFlags := 49
  interfaces := #[]
  cf := some (fileOf pool21 14 #[.nestMembers #[975, 375, 113, 74]] #[⟨2, 5, 6, #[]⟩, ⟨9, 302, 869, #[]⟩, ⟨10, 345, 346, #[]⟩, ⟨9, 139, 342, #[]⟩, ⟨10, 341, 342, #[]⟩] 49 2 #[] #[⟨26, 715, 716, #[]⟩, ⟨26, 719, 716, #[]⟩, ⟨4120, 445, 117, #[]⟩])
  fields := #[⟨"MIN_ARRAY_SORT_GRAN", .int, 26, 0, 0⟩, ⟨"INSERTIONSORT_THRESHOLD", .int, 26, 1, 0⟩, ⟨"$assertionsDisabled", .boolean, 4120, 2, 0⟩]
  methods := #[k21m0, k21m1, k21m2, k21m3, k21m4]
  instanceTypes := #[]
  staticTypes := #[.int, .int, .boolean]
  resolved := Array.replicate 1029 none
  statics := none }

def pool22 : Array CpInfo := pool [(1, .class_ 2), (0, u "java/lang/String"), (1, .class_ 6), (1, u "java/lang/Object"), (0, u "<init>"), (0, u "()V"), (0, .methodref 1 10), (0, .nameAndType 11 12), (0, u "checkIndex"), (0, u "(II)V"), (1, .class_ 16), (1, u "java/lang/StringLatin1"), (36, u "([BI)C"), (67, u "$assertionsDisabled"), (0, u "Z"), (98, .class_ 223), (1, u "java/lang/StringLatin1$LinesSpliterator"), (28, u "charAt"), (28, u "equals"), (0, u "([B[B)Z"), (107, .class_ 391), (0, u "java/lang/StringLatin1$CharsSpliterator")] 3

def k22m0 : Method := { name := "<init>", desc := "()V", sig := ⟨[], none⟩, accessFlags := 0, code := none }
def k22c1 : Code := ⟨2, 2, jdk_43_method_2_code, #[], #[]⟩
def k22m1 : Method := { name := "charAt", desc := "([BI)C", sig := ⟨[(.array .byte), .int], some .char⟩, accessFlags := 9, code := some k22c1 }
def k22c2 : Code := ⟨3, 3, jdk_43_method_13_code, #[], #[]⟩
def k22m2 : Method := { name := "equals", desc := "([B[B)Z", sig := ⟨[(.array .byte), (.array .byte)], some .boolean⟩, accessFlags := 9, code := some k22c2 }
/-- java/lang/StringLatin1 -/
def k22 : Class := { plain "java/lang/StringLatin1" (some 0) with
  accessFlags := 48
  interfaces := #[]
  cf := some (fileOf pool22 14 #[.nestMembers #[390, 221]] #[⟨0, 7, 8, #[]⟩, ⟨9, 252, 53, #[]⟩, ⟨9, 281, 282, #[]⟩] 48 4 #[] #[⟨4120, 121, 122, #[]⟩])
  fields := #[⟨"$assertionsDisabled", .boolean, 4120, 0, 0⟩]
  methods := #[k22m0, k22m1, k22m2]
  instanceTypes := #[]
  staticTypes := #[.boolean]
  resolved := Array.replicate 395 none
  statics := none }

def pool23 : Array CpInfo := pool [(1, .class_ 2), (0, u "java/lang/Cloneable"), (0, .class_ 4), (0, u "java/lang/Object")] 2

/-- java/lang/Cloneable -/
def k23 : Class := { plain "java/lang/Cloneable" (some 0) with
  accessFlags := 1537
  interfaces := #[]
  cf := some (fileOf pool23 1 #[] #[] 1537 3 #[] #[])
  fields := #[]
  methods := #[]
  instanceTypes := #[]
  staticTypes := #[]
  resolved := Array.replicate 7 none
  statics := none }

/-- the primitive byte -/
def k24 : Class := { plain "byte" none with kind := .primitive 'B', accessFlags := 0x411 }
/-- [B -/
def k25 : Class := { plain "[B" (some 0) with kind := .array 24 .byte, interfaces := #[23, 2], accessFlags := 1041 }

/-- the primitive char -/
def k26 : Class := { plain "char" none with kind := .primitive 'C', accessFlags := 0x411 }
/-- [C -/
def k27 : Class := { plain "[C" (some 0) with kind := .array 26 .char, interfaces := #[23, 2], accessFlags := 1041 }

/-- the primitive int -/
def k28 : Class := { plain "int" none with kind := .primitive 'I', accessFlags := 0x411 }
/-- [I -/
def k29 : Class := { plain "[I" (some 0) with kind := .array 28 .int, interfaces := #[23, 2], accessFlags := 1041 }

def heap : Heap := #[{ cls := 7, slots := #[.long 0, .int 1, .null, .int 0, .null, .int 0, .int 0], vm := .statics 7 },
  { cls := 12, slots := #[.ref 4, .null, .null, .null, .null], vm := .statics 12 },
  { cls := 13, slots := #[.ref 5, .null, .int 0, .null, .null, .null, .null], vm := .statics 13 },
  { cls := 15, slots := #[.null, .null, .null], vm := .statics 15 },
  { cls := 29, slots := #[.int (-1), .int (-1), .int (-1), .int (-1), .int (-1), .int (-1), .int (-1), .int (-1), .int (-1), .int (-1), .int (-1), .int (-1), .int (-1), .int (-1), .int (-1), .int (-1), .int (-1), .int (-1), .int (-1), .int (-1), .int (-1), .int (-1), .int (-1), .int (-1), .int (-1), .int (-1), .int (-1), .int (-1), .int (-1), .int (-1), .int (-1), .int (-1), .int (-1), .int (-1), .int (-1), .int (-1), .int (-1), .int (-1), .int (-1), .int (-1), .int (-1), .int (-1), .int (-1), .int 62, .int (-1), .int (-1), .int (-1), .int 63, .int 52, .int 53, .int 54, .int 55, .int 56, .int 57, .int 58, .int 59, .int 60, .int 61, .int (-1), .int (-1), .int (-1), .int (-2), .int (-1), .int (-1), .int (-1), .int 0, .int 1, .int 2, .int 3, .int 4, .int 5, .int 6, .int 7, .int 8, .int 9, .int 10, .int 11, .int 12, .int 13, .int 14, .int 15, .int 16, .int 17, .int 18, .int 19, .int 20, .int 21, .int 22, .int 23, .int 24, .int 25, .int (-1), .int (-1), .int (-1), .int (-1), .int (-1), .int (-1), .int 26, .int 27, .int 28, .int 29, .int 30, .int 31, .int 32, .int 33, .int 34, .int 35, .int 36, .int 37, .int 38, .int 39, .int 40, .int 41, .int 42, .int 43, .int 44, .int 45, .int 46, .int 47, .int 48, .int 49, .int 50, .int 51, .int (-1), .int (-1), .int (-1), .int (-1), .int (-1), .int (-1), .int (-1), .int (-1), .int (-1), .int (-1), .int (-1), .int (-1), .int (-1), .int (-1), .int (-1), .int (-1), .int (-1), .int (-1), .int (-1), .int (-1), .int (-1), .int (-1), .int (-1), .int (-1), .int (-1), .int (-1), .int (-1), .int (-1), .int (-1), .int (-1), .int (-1), .int (-1), .int (-1), .int (-1), .int (-1), .int (-1), .int (-1), .int (-1), .int (-1), .int (-1), .int (-1), .int (-1), .int (-1), .int (-1), .int (-1), .int (-1), .int (-1), .int (-1), .int (-1), .int (-1), .int (-1), .int (-1), .int (-1), .int (-1), .int (-1), .int (-1), .int (-1), .int (-1), .int (-1), .int (-1), .int (-1), .int (-1), .int (-1), .int (-1), .int (-1), .int (-1), .int (-1), .int (-1), .int (-1), .int (-1), .int (-1), .int (-1), .int (-1), .int (-1), .int (-1), .int (-1), .int (-1), .int (-1), .int (-1), .int (-1), .int (-1), .int (-1), .int (-1), .int (-1), .int (-1), .int (-1), .int (-1), .int (-1), .int (-1), .int (-1), .int (-1), .int (-1), .int (-1), .int (-1), .int (-1), .int (-1), .int (-1), .int (-1), .int (-1), .int (-1), .int (-1), .int (-1), .int (-1), .int (-1), .int (-1), .int (-1), .int (-1), .int (-1), .int (-1), .int (-1), .int (-1), .int (-1), .int (-1), .int (-1), .int (-1), .int (-1), .int (-1), .int (-1), .int (-1), .int (-1), .int (-1), .int (-1), .int (-1), .int (-1), .int (-1), .int (-1), .int (-1), .int (-1), .int (-1), .int (-1), .int (-1), .int (-1), .int (-1)], vm := .none },
  { cls := 27, slots := #[.int 65, .int 66, .int 67, .int 68, .int 69, .int 70, .int 71, .int 72, .int 73, .int 74, .int 75, .int 76, .int 77, .int 78, .int 79, .int 80, .int 81, .int 82, .int 83, .int 84, .int 85, .int 86, .int 87, .int 88, .int 89, .int 90, .int 97, .int 98, .int 99, .int 100, .int 101, .int 102, .int 103, .int 104, .int 105, .int 106, .int 107, .int 108, .int 109, .int 110, .int 111, .int 112, .int 113, .int 114, .int 115, .int 116, .int 117, .int 118, .int 119, .int 120, .int 121, .int 122, .int 48, .int 49, .int 50, .int 51, .int 52, .int 53, .int 54, .int 55, .int 56, .int 57, .int 43, .int 47], vm := .none }]
def classes : Array Class := #[k0, k1, k2, k3, k4, k5, k6, k7, k8, k9, k10, k11, k12, k13, k14, k15, k16, k17, k18, k19, k20, k21, k22, k23, k24, k25, k26, k27, k28, k29]
def interned : List (Array UInt16 × Addr) := []
def slotsUsed : Nat := 342
def theMethod : MethodId := ⟨1, 1⟩
def args0 : Array Value := #[.int 3, .int 16961, .long 5, .int 7]
def aboutOver (below : List Frame) : State where
  vm := { classes := classes, interned := interned.toArray }
  heap := heap
  slotsUsed := slotsUsed
  threads := #[{ frames := .invoking theMethod args0 :: below }]
def below0 : List Frame := [.native { method := ⟨0, 0⟩, args := #[] }]
def about1 : State := aboutOver below0
def p0 : Program := .bare "" "" ""
def e0 : Env := launch0.env 0 0 0
theorem w_frames : about1.frames = Frame.invoking theMethod args0 :: below0 := rfl
set_option maxRecDepth 65536 in
theorem w_args : argsFit about1.vm theMethod args0 = true := by decide +kernel
set_option maxRecDepth 65536 in
theorem w_heap : heapFits about1 = true := by decide +kernel
set_option maxRecDepth 65536 in
theorem w_runnable : about1.curStatus? = some .runnable := by decide +kernel
set_option maxRecDepth 65536 in
theorem w_alone : about1.alone = true := by decide +kernel
set_option maxRecDepth 65536 in
theorem w_named : about1.methodNamed? x = some theMethod := by decide +kernel
set_option maxRecDepth 65536 in
theorem w_hears : about1.hears theMethod below0 = true := by decide +kernel
set_option maxRecDepth 65536 in
theorem w_ripe : about1.ripe theMethod args0 below0 = true := by decide +kernel
theorem w_running : about1.status = .running := rfl
set_option maxRecDepth 65536 in
theorem w_room : about1.hasRoom e0.platform room_1 = true :=
  launch0.hasRoom_least _ room_1 (by decide +kernel) (by decide +kernel) (by decide +kernel) (by decide +kernel) (by decide +kernel) (by decide +kernel)
theorem allAtoms_all (ts : List Jvm.Cond) (a : Array Jvm.Value) (st : Jvm.State) : (allAtoms ts).before a st = ts.all (fun c => c.before a st) := by
  induction ts with
  | nil => rfl
  | cons c t ih =>
    show (Jvm.Cond.and c (allAtoms t)).before a st = _
    rw [Jvm.Cond.before_and, ih, List.all_cons]
def words1 : List Jvm.Cond := Cond.code x code maxLocals ret :: tables_1
/-- a 'code' word, met by the world's own term for the bytes: nothing is compared byte by byte -/
theorem code_word {y : MethodName} {bytes : ByteArray} {mx : Nat} {rt : Option FieldType} {a : Array Value} {s : State} {m : MethodId} {meth : Method} {c : Code} (h1 : s.methodNamed? y = some m) (h2 : s.vm.method? m = some meth) (h3 : meth.code = some c) (h4 : c.code = bytes)
    (h5 : (c.maxLocals == mx && c.exceptionTable.isEmpty && decide (c.maxStack ≤ mostOperands) && decide (meth.sig.returnType = rt) && !meth.locks && decide (parseMethodDescriptor y.desc = some meth.sig)) = true) : (Cond.code y bytes mx rt).before a s = true := by
  simp only [Bool.and_eq_true, beq_iff_eq, Bool.not_eq_true', decide_eq_true_eq] at h5
  obtain ⟨⟨⟨⟨⟨g1, g2⟩, g3⟩, g4⟩, g5⟩, g6⟩ := h5
  simp [Cond.before, Cond.holds, Cond.value, h1, h2, h3, h4, g1, g2, g3, g4, g5, g6]
def isCode : Jvm.Cond → Bool
  | .code _ _ _ _ => true
  | _ => false
theorem all_split {L : List Jvm.Cond} {P : Jvm.Cond → Bool} (h1 : L.all (fun c => isCode c || P c) = true) (h2 : ∀ c ∈ L.filter isCode, P c = true) : L.all P = true := by
  refine List.all_eq_true.mpr fun c hc => ?_
  have h := List.all_eq_true.mp h1 c hc
  rcases Bool.eq_false_or_eq_true (isCode c) with hi | hi
  · exact h2 c (List.mem_filter.mpr ⟨hc, hi⟩)
  · simpa [hi] using h
set_option maxRecDepth 65536 in
theorem w_c0 : (Cond.code x code maxLocals ret).before args0 about1 = true := code_word (m := ⟨1, 1⟩) (meth := k1m1) (c := k1c1) (by decide +kernel) rfl rfl rfl (by decide +kernel)
set_option maxRecDepth 65536 in
theorem w_c1 : (Cond.code ⟨"java/lang/String", "<init>", "([C)V"⟩ jdk_42_method_3_code 2 none).before args0 about1 = true := code_word (m := ⟨7, 1⟩) (meth := k7m1) (c := k7c1) (by decide +kernel) rfl rfl rfl (by decide +kernel)
set_option maxRecDepth 65536 in
theorem w_c2 : (Cond.code ⟨"java/lang/String", "<init>", "([CIILjava/lang/Void;)V"⟩ jdk_42_method_149_code 6 none).before args0 about1 = true := code_word (m := ⟨7, 8⟩) (meth := k7m8) (c := k7c8) (by decide +kernel) rfl rfl rfl (by decide +kernel)
set_option maxRecDepth 65536 in
theorem w_c3 : (Cond.code ⟨"java/lang/Object", "<init>", "()V"⟩ object_method_1_code 1 none).before args0 about1 = true := code_word (m := ⟨0, 0⟩) (meth := k0m0) (c := k0c0) (by decide +kernel) rfl rfl rfl (by decide +kernel)
set_option maxRecDepth 65536 in
theorem w_c4 : (Cond.code ⟨"java/lang/StringUTF16", "compress", "([CII)[B"⟩ jdk_52_method_16_code 6 (Option.some (FieldType.array FieldType.byte))).before args0 about1 = true := code_word (m := ⟨8, 2⟩) (meth := k8m2) (c := k8c2) (by decide +kernel) rfl rfl rfl (by decide +kernel)
set_option maxRecDepth 65536 in
theorem w_c5 : (Cond.code ⟨"java/lang/StringUTF16", "compress", "([CI[BII)I"⟩ jdk_52_method_21_code 7 (Option.some FieldType.int)).before args0 about1 = true := code_word (m := ⟨8, 3⟩) (meth := k8m3) (c := k8c3) (by decide +kernel) rfl rfl rfl (by decide +kernel)
set_option maxRecDepth 65536 in
theorem w_c6 : (Cond.code ⟨"java/lang/StringUTF16", "coderFromArrayLen", "([BI)B"⟩ jdk_52_method_15_code 2 (Option.some FieldType.byte)).before args0 about1 = true := code_word (m := ⟨8, 1⟩) (meth := k8m1) (c := k8c1) (by decide +kernel) rfl rfl rfl (by decide +kernel)
set_option maxRecDepth 65536 in
theorem w_c7 : (Cond.code ⟨"com/example/bevaka/bevaka/store/Pem", "encode", "(Ljava/lang/String;[B)Ljava/lang/String;"⟩ prog_21_method_2_code 3 (Option.some (FieldType.object "java/lang/String"))).before args0 about1 = true := code_word (m := ⟨9, 1⟩) (meth := k9m1) (c := k9c1) (by decide +kernel) rfl rfl rfl (by decide +kernel)
set_option maxRecDepth 65536 in
theorem w_c8 : (Cond.code ⟨"java/util/Base64", "getMimeEncoder", "(I[B)Ljava/util/Base64$Encoder;"⟩ jdk_2448_method_5_code 7 (Option.some (FieldType.object "java/util/Base64$Encoder"))).before args0 about1 = true := code_word (m := ⟨10, 1⟩) (meth := k10m1) (c := k10c1) (by decide +kernel) rfl rfl rfl (by decide +kernel)
set_option maxRecDepth 65536 in
theorem w_c9 : (Cond.code ⟨"java/util/Objects", "requireNonNull", "(Ljava/lang/Object;)Ljava/lang/Object;"⟩ jdk_31_method_10_code 1 (Option.some (FieldType.object "java/lang/Object"))).before args0 about1 = true := code_word (m := ⟨11, 1⟩) (meth := k11m1) (c := k11c1) (by decide +kernel) rfl rfl rfl (by decide +kernel)
set_option maxRecDepth 65536 in
theorem w_c10 : (Cond.code ⟨"java/util/Base64$Encoder", "<init>", "(Z[BIZ)V"⟩ jdk_2452_method_1_code 5 none).before args0 about1 = true := code_word (m := ⟨13, 0⟩) (meth := k13m0) (c := k13c0) (by decide +kernel) rfl rfl rfl (by decide +kernel)
set_option maxRecDepth 65536 in
theorem w_c11 : (Cond.code ⟨"java/util/Base64$Encoder", "encodeToString", "([B)Ljava/lang/String;"⟩ jdk_2452_method_5_code 3 (Option.some (FieldType.object "java/lang/String"))).before args0 about1 = true := code_word (m := ⟨13, 3⟩) (meth := k13m3) (c := k13c3) (by decide +kernel) rfl rfl rfl (by decide +kernel)
set_option maxRecDepth 65536 in
theorem w_c12 : (Cond.code ⟨"java/util/Base64$Encoder", "encode", "([B)[B"⟩ jdk_2452_method_3_code 5 (Option.some (FieldType.array FieldType.byte))).before args0 about1 = true := code_word (m := ⟨13, 2⟩) (meth := k13m2) (c := k13c2) (by decide +kernel) rfl rfl rfl (by decide +kernel)
set_option maxRecDepth 65536 in
theorem w_c13 : (Cond.code ⟨"java/lang/Math", "addExact", "(II)I"⟩ jdk_29_method_24_code 3 (Option.some FieldType.int)).before args0 about1 = true := code_word (m := ⟨14, 1⟩) (meth := k14m1) (c := k14c1) (by decide +kernel) rfl rfl rfl (by decide +kernel)
set_option maxRecDepth 65536 in
theorem w_c14 : (Cond.code ⟨"java/lang/Math", "multiplyExact", "(II)I"⟩ jdk_29_method_28_code 4 (Option.some FieldType.int)).before args0 about1 = true := code_word (m := ⟨14, 2⟩) (meth := k14m2) (c := k14c2) (by decide +kernel) rfl rfl rfl (by decide +kernel)
set_option maxRecDepth 65536 in
theorem w_c15 : (Cond.code ⟨"java/util/Base64$Encoder", "encode0", "([BII[B)I"⟩ jdk_2452_method_10_code 16 (Option.some FieldType.int)).before args0 about1 = true := code_word (m := ⟨13, 5⟩) (meth := k13m5) (c := k13c5) (by decide +kernel) rfl rfl rfl (by decide +kernel)
set_option maxRecDepth 65536 in
theorem w_c16 : (Cond.code ⟨"java/lang/String", "<init>", "([BIII)V"⟩ jdk_42_method_7_code 7 none).before args0 about1 = true := code_word (m := ⟨7, 2⟩) (meth := k7m2) (c := k7c2) (by decide +kernel) rfl rfl rfl (by decide +kernel)
set_option maxRecDepth 65536 in
theorem w_c17 : (Cond.code ⟨"java/lang/String", "checkBoundsOffCount", "(III)I"⟩ jdk_42_method_157_code 3 (Option.some FieldType.int)).before args0 about1 = true := code_word (m := ⟨7, 13⟩) (meth := k7m13) (c := k7c13) (by decide +kernel) rfl rfl rfl (by decide +kernel)
set_option maxRecDepth 65536 in
theorem w_c18 : (Cond.code ⟨"jdk/internal/util/Preconditions", "checkFromIndexSize", "(IIILjava/util/function/BiFunction;)I"⟩ jdk_41_method_13_code 4 (Option.some FieldType.int)).before args0 about1 = true := code_word (m := ⟨15, 2⟩) (meth := k15m2) (c := k15c2) (by decide +kernel) rfl rfl rfl (by decide +kernel)
set_option maxRecDepth 65536 in
theorem w_c19 : (Cond.code ⟨"java/lang/StringBuilder", "<init>", "()V"⟩ jdk_67_method_1_code 1 none).before args0 about1 = true := code_word (m := ⟨18, 0⟩) (meth := k18m0) (c := k18c0) (by decide +kernel) rfl rfl rfl (by decide +kernel)
set_option maxRecDepth 65536 in
theorem w_c20 : (Cond.code ⟨"java/lang/AbstractStringBuilder", "<init>", "(I)V"⟩ jdk_68_method_2_code 2 none).before args0 about1 = true := code_word (m := ⟨17, 1⟩) (meth := k17m1) (c := k17c1) (by decide +kernel) rfl rfl rfl (by decide +kernel)
set_option maxRecDepth 65536 in
theorem w_c21 : (Cond.code ⟨"java/lang/StringBuilder", "append", "(Ljava/lang/String;)Ljava/lang/StringBuilder;"⟩ jdk_67_method_7_code 2 (Option.some (FieldType.object "java/lang/StringBuilder"))).before args0 about1 = true := code_word (m := ⟨18, 1⟩) (meth := k18m1) (c := k18c1) (by decide +kernel) rfl rfl rfl (by decide +kernel)
set_option maxRecDepth 65536 in
theorem w_c22 : (Cond.code ⟨"java/lang/AbstractStringBuilder", "append", "(Ljava/lang/String;)Ljava/lang/AbstractStringBuilder;"⟩ jdk_68_method_22_code 3 (Option.some (FieldType.object "java/lang/AbstractStringBuilder"))).before args0 about1 = true := code_word (m := ⟨17, 5⟩) (meth := k17m5) (c := k17c5) (by decide +kernel) rfl rfl rfl (by decide +kernel)
set_option maxRecDepth 65536 in
theorem w_c23 : (Cond.code ⟨"java/lang/String", "length", "()I"⟩ jdk_42_method_54_code 1 (Option.some FieldType.int)).before args0 about1 = true := code_word (m := ⟨7, 4⟩) (meth := k7m4) (c := k7c4) (by decide +kernel) rfl rfl rfl (by decide +kernel)
set_option maxRecDepth 65536 in
theorem w_c24 : (Cond.code ⟨"java/lang/String", "coder", "()B"⟩ jdk_42_method_152_code 1 (Option.some FieldType.byte)).before args0 about1 = true := code_word (m := ⟨7, 10⟩) (meth := k7m10) (c := k7c10) (by decide +kernel) rfl rfl rfl (by decide +kernel)
set_option maxRecDepth 65536 in
theorem w_c25 : (Cond.code ⟨"java/lang/AbstractStringBuilder", "ensureCapacityInternal", "(I)V"⟩ jdk_68_method_9_code 3 none).before args0 about1 = true := code_word (m := ⟨17, 3⟩) (meth := k17m3) (c := k17c3) (by decide +kernel) rfl rfl rfl (by decide +kernel)
set_option maxRecDepth 65536 in
theorem w_c26 : (Cond.code ⟨"java/lang/AbstractStringBuilder", "putStringAt", "(ILjava/lang/String;)V"⟩ jdk_68_method_73_code 3 none).before args0 about1 = true := code_word (m := ⟨17, 9⟩) (meth := k17m9) (c := k17c9) (by decide +kernel) rfl rfl rfl (by decide +kernel)
set_option maxRecDepth 65536 in
theorem w_c27 : (Cond.code ⟨"java/lang/AbstractStringBuilder", "inflateIfNeededFor", "(Ljava/lang/String;)V"⟩ jdk_68_method_71_code 2 none).before args0 about1 = true := code_word (m := ⟨17, 8⟩) (meth := k17m8) (c := k17c8) (by decide +kernel) rfl rfl rfl (by decide +kernel)
set_option maxRecDepth 65536 in
theorem w_c28 : (Cond.code ⟨"java/lang/String", "getBytes", "([BIB)V"⟩ jdk_42_method_147_code 4 none).before args0 about1 = true := code_word (m := ⟨7, 7⟩) (meth := k7m7) (c := k7c7) (by decide +kernel) rfl rfl rfl (by decide +kernel)
set_option maxRecDepth 65536 in
theorem w_c29 : (Cond.code ⟨"java/lang/AbstractStringBuilder", "newCapacity", "(I)I"⟩ jdk_68_method_10_code 6 (Option.some FieldType.int)).before args0 about1 = true := code_word (m := ⟨17, 4⟩) (meth := k17m4) (c := k17c4) (by decide +kernel) rfl rfl rfl (by decide +kernel)
set_option maxRecDepth 65536 in
theorem w_c30 : (Cond.code ⟨"jdk/internal/util/ArraysSupport", "newLength", "(III)I"⟩ jdk_48_method_27_code 4 (Option.some FieldType.int)).before args0 about1 = true := code_word (m := ⟨20, 1⟩) (meth := k20m1) (c := k20c1) (by decide +kernel) rfl rfl rfl (by decide +kernel)
set_option maxRecDepth 65536 in
theorem w_c31 : (Cond.code ⟨"java/lang/Math", "max", "(II)I"⟩ jdk_29_method_65_code 2 (Option.some FieldType.int)).before args0 about1 = true := code_word (m := ⟨14, 3⟩) (meth := k14m3) (c := k14c3) (by decide +kernel) rfl rfl rfl (by decide +kernel)
set_option maxRecDepth 65536 in
theorem w_c32 : (Cond.code ⟨"java/util/Arrays", "copyOf", "([BI)[B"⟩ jdk_65_method_121_code 3 (Option.some (FieldType.array FieldType.byte))).before args0 about1 = true := code_word (m := ⟨21, 1⟩) (meth := k21m1) (c := k21c1) (by decide +kernel) rfl rfl rfl (by decide +kernel)
set_option maxRecDepth 65536 in
theorem w_c33 : (Cond.code ⟨"java/lang/Math", "min", "(II)I"⟩ jdk_29_method_69_code 2 (Option.some FieldType.int)).before args0 about1 = true := code_word (m := ⟨14, 4⟩) (meth := k14m4) (c := k14c4) (by decide +kernel) rfl rfl rfl (by decide +kernel)
set_option maxRecDepth 65536 in
theorem w_c34 : (Cond.code ⟨"java/lang/StringBuilder", "toString", "()Ljava/lang/String;"⟩ jdk_67_method_42_code 1 (Option.some (FieldType.object "java/lang/String"))).before args0 about1 = true := code_word (m := ⟨18, 2⟩) (meth := k18m2) (c := k18c2) (by decide +kernel) rfl rfl rfl (by decide +kernel)
set_option maxRecDepth 65536 in
theorem w_c35 : (Cond.code ⟨"java/lang/String", "<init>", "(Ljava/lang/StringBuilder;)V"⟩ jdk_42_method_53_code 2 none).before args0 about1 = true := code_word (m := ⟨7, 3⟩) (meth := k7m3) (c := k7c3) (by decide +kernel) rfl rfl rfl (by decide +kernel)
set_option maxRecDepth 65536 in
theorem w_c36 : (Cond.code ⟨"java/lang/String", "<init>", "(Ljava/lang/AbstractStringBuilder;Ljava/lang/Void;)V"⟩ jdk_42_method_150_code 5 none).before args0 about1 = true := code_word (m := ⟨7, 9⟩) (meth := k7m9) (c := k7c9) (by decide +kernel) rfl rfl rfl (by decide +kernel)
set_option maxRecDepth 65536 in
theorem w_c37 : (Cond.code ⟨"java/lang/AbstractStringBuilder", "getValue", "()[B"⟩ jdk_68_method_64_code 1 (Option.some (FieldType.array FieldType.byte))).before args0 about1 = true := code_word (m := ⟨17, 6⟩) (meth := k17m6) (c := k17c6) (by decide +kernel) rfl rfl rfl (by decide +kernel)
set_option maxRecDepth 65536 in
theorem w_c38 : (Cond.code ⟨"java/lang/StringBuilder", "length", "()I"⟩ jdk_67_method_93_code 1 (Option.some FieldType.int)).before args0 about1 = true := code_word (m := ⟨18, 3⟩) (meth := k18m3) (c := k18c3) (by decide +kernel) rfl rfl rfl (by decide +kernel)
set_option maxRecDepth 65536 in
theorem w_c39 : (Cond.code ⟨"java/lang/AbstractStringBuilder", "length", "()I"⟩ jdk_68_method_6_code 1 (Option.some FieldType.int)).before args0 about1 = true := code_word (m := ⟨17, 2⟩) (meth := k17m2) (c := k17c2) (by decide +kernel) rfl rfl rfl (by decide +kernel)
set_option maxRecDepth 65536 in
theorem w_c40 : (Cond.code ⟨"java/lang/AbstractStringBuilder", "isLatin1", "()Z"⟩ jdk_68_method_68_code 1 (Option.some FieldType.boolean)).before args0 about1 = true := code_word (m := ⟨17, 7⟩) (meth := k17m7) (c := k17c7) (by decide +kernel) rfl rfl rfl (by decide +kernel)
set_option maxRecDepth 65536 in
theorem w_c41 : (Cond.code ⟨"java/util/Arrays", "copyOfRange", "([BII)[B"⟩ jdk_65_method_132_code 3 (Option.some (FieldType.array FieldType.byte))).before args0 about1 = true := code_word (m := ⟨21, 3⟩) (meth := k21m3) (c := k21c3) (by decide +kernel) rfl rfl rfl (by decide +kernel)
set_option maxRecDepth 65536 in
theorem w_c42 : (Cond.code ⟨"java/util/Arrays", "copyOfRangeByte", "([BII)[B"⟩ jdk_65_method_133_code 5 (Option.some (FieldType.array FieldType.byte))).before args0 about1 = true := code_word (m := ⟨21, 4⟩) (meth := k21m4) (c := k21c4) (by decide +kernel) rfl rfl rfl (by decide +kernel)
set_option maxRecDepth 65536 in
theorem w_c43 : (Cond.code ⟨"java/util/Arrays", "checkLength", "(II)V"⟩ jdk_65_method_131_code 2 none).before args0 about1 = true := code_word (m := ⟨21, 2⟩) (meth := k21m2) (c := k21c2) (by decide +kernel) rfl rfl rfl (by decide +kernel)
set_option maxRecDepth 65536 in
theorem w_c44 : (Cond.code ⟨"com/example/bevaka/bevaka/store/PemEncodePinLaw", "frame", "([CCCI)V"⟩ method_7_code 5 none).before args0 about1 = true := code_word (m := ⟨1, 6⟩) (meth := k1m6) (c := k1c6) (by decide +kernel) rfl rfl rfl (by decide +kernel)
set_option maxRecDepth 65536 in
theorem w_c45 : (Cond.code ⟨"com/example/bevaka/bevaka/store/PemEncodePinLaw", "dashes", "([CI)V"⟩ method_6_code 2 none).before args0 about1 = true := code_word (m := ⟨1, 5⟩) (meth := k1m5) (c := k1c5) (by decide +kernel) rfl rfl rfl (by decide +kernel)
set_option maxRecDepth 65536 in
theorem w_c46 : (Cond.code ⟨"java/lang/String", "equals", "(Ljava/lang/Object;)Z"⟩ jdk_42_method_66_code 3 (Option.some FieldType.boolean)).before args0 about1 = true := code_word (m := ⟨7, 6⟩) (meth := k7m6) (c := k7c6) (by decide +kernel) rfl rfl rfl (by decide +kernel)
set_option maxRecDepth 65536 in
theorem w_c47 : (Cond.code ⟨"java/lang/StringLatin1", "equals", "([B[B)Z"⟩ jdk_43_method_13_code 3 (Option.some FieldType.boolean)).before args0 about1 = true := code_word (m := ⟨22, 2⟩) (meth := k22m2) (c := k22c2) (by decide +kernel) rfl rfl rfl (by decide +kernel)
set_option maxRecDepth 65536 in
theorem w_c48 : (Cond.code ⟨"java/util/Base64$Encoder", "encodeBlock", "([BII[BIZ)V"⟩ jdk_2452_method_9_code 11 none).before args0 about1 = true := code_word (m := ⟨13, 4⟩) (meth := k13m4) (c := k13c4) (by decide +kernel) rfl rfl rfl (by decide +kernel)
set_option maxRecDepth 65536 in
theorem w_c49 : (Cond.code ⟨"com/example/bevaka/bevaka/store/PemEncodePinLaw", "group", "([CIIIII)V"⟩ method_4_code 8 none).before args0 about1 = true := code_word (m := ⟨1, 3⟩) (meth := k1m3) (c := k1c3) (by decide +kernel) rfl rfl rfl (by decide +kernel)
set_option maxRecDepth 65536 in
theorem w_c50 : (Cond.code ⟨"com/example/bevaka/bevaka/store/PemEncodePinLaw", "sym", "(I)C"⟩ method_3_code 1 (Option.some FieldType.char)).before args0 about1 = true := code_word (m := ⟨1, 2⟩) (meth := k1m2) (c := k1c2) (by decide +kernel) rfl rfl rfl (by decide +kernel)
set_option maxRecDepth 65536 in
theorem w_c51 : (Cond.code ⟨"java/lang/String", "charAt", "(I)C"⟩ jdk_42_method_56_code 2 (Option.some FieldType.char)).before args0 about1 = true := code_word (m := ⟨7, 5⟩) (meth := k7m5) (c := k7c5) (by decide +kernel) rfl rfl rfl (by decide +kernel)
set_option maxRecDepth 65536 in
theorem w_c52 : (Cond.code ⟨"java/lang/String", "isLatin1", "()Z"⟩ jdk_42_method_154_code 1 (Option.some FieldType.boolean)).before args0 about1 = true := code_word (m := ⟨7, 11⟩) (meth := k7m11) (c := k7c11) (by decide +kernel) rfl rfl rfl (by decide +kernel)
set_option maxRecDepth 65536 in
theorem w_c53 : (Cond.code ⟨"java/lang/StringLatin1", "charAt", "([BI)C"⟩ jdk_43_method_2_code 2 (Option.some FieldType.char)).before args0 about1 = true := code_word (m := ⟨22, 1⟩) (meth := k22m1) (c := k22c1) (by decide +kernel) rfl rfl rfl (by decide +kernel)
set_option maxRecDepth 65536 in
theorem w_c54 : (Cond.code ⟨"java/lang/String", "checkIndex", "(II)V"⟩ jdk_42_method_155_code 2 none).before args0 about1 = true := code_word (m := ⟨7, 12⟩) (meth := k7m12) (c := k7c12) (by decide +kernel) rfl rfl rfl (by decide +kernel)
set_option maxRecDepth 65536 in
theorem w_c55 : (Cond.code ⟨"jdk/internal/util/Preconditions", "checkIndex", "(IILjava/util/function/BiFunction;)I"⟩ jdk_41_method_11_code 3 (Option.some FieldType.int)).before args0 about1 = true := code_word (m := ⟨15, 1⟩) (meth := k15m1) (c := k15c1) (by decide +kernel) rfl rfl rfl (by decide +kernel)
set_option maxRecDepth 65536 in
theorem w_c56 : (Cond.code ⟨"com/example/bevaka/bevaka/store/PemEncodePinLaw", "groupAt", "(Ljava/lang/String;IIIII)Z"⟩ method_5_code 7 (Option.some FieldType.boolean)).before args0 about1 = true := code_word (m := ⟨1, 4⟩) (meth := k1m4) (c := k1c4) (by decide +kernel) rfl rfl rfl (by decide +kernel)
def codes1 : List Jvm.Cond := [Cond.code x code maxLocals ret, Cond.code ⟨"java/lang/String", "<init>", "([C)V"⟩ jdk_42_method_3_code 2 none, Cond.code ⟨"java/lang/String", "<init>", "([CIILjava/lang/Void;)V"⟩ jdk_42_method_149_code 6 none, Cond.code ⟨"java/lang/Object", "<init>", "()V"⟩ object_method_1_code 1 none, Cond.code ⟨"java/lang/StringUTF16", "compress", "([CII)[B"⟩ jdk_52_method_16_code 6 (Option.some (FieldType.array FieldType.byte)), Cond.code ⟨"java/lang/StringUTF16", "compress", "([CI[BII)I"⟩ jdk_52_method_21_code 7 (Option.some FieldType.int), Cond.code ⟨"java/lang/StringUTF16", "coderFromArrayLen", "([BI)B"⟩ jdk_52_method_15_code 2 (Option.some FieldType.byte), Cond.code ⟨"com/example/bevaka/bevaka/store/Pem", "encode", "(Ljava/lang/String;[B)Ljava/lang/String;"⟩ prog_21_method_2_code 3 (Option.some (FieldType.object "java/lang/String")), Cond.code ⟨"java/util/Base64", "getMimeEncoder", "(I[B)Ljava/util/Base64$Encoder;"⟩ jdk_2448_method_5_code 7 (Option.some (FieldType.object "java/util/Base64$Encoder")), Cond.code ⟨"java/util/Objects", "requireNonNull", "(Ljava/lang/Object;)Ljava/lang/Object;"⟩ jdk_31_method_10_code 1 (Option.some (FieldType.object "java/lang/Object")), Cond.code ⟨"java/util/Base64$Encoder", "<init>", "(Z[BIZ)V"⟩ jdk_2452_method_1_code 5 none, Cond.code ⟨"java/util/Base64$Encoder", "encodeToString", "([B)Ljava/lang/String;"⟩ jdk_2452_method_5_code 3 (Option.some (FieldType.object "java/lang/String")), Cond.code ⟨"java/util/Base64$Encoder", "encode", "([B)[B"⟩ jdk_2452_method_3_code 5 (Option.some (FieldType.array FieldType.byte)), Cond.code ⟨"java/lang/Math", "addExact", "(II)I"⟩ jdk_29_method_24_code 3 (Option.some FieldType.int), Cond.code ⟨"java/lang/Math", "multiplyExact", "(II)I"⟩ jdk_29_method_28_code 4 (Option.some FieldType.int), Cond.code ⟨"java/util/Base64$Encoder", "encode0", "([BII[B)I"⟩ jdk_2452_method_10_code 16 (Option.some FieldType.int), Cond.code ⟨"java/lang/String", "<init>", "([BIII)V"⟩ jdk_42_method_7_code 7 none, Cond.code ⟨"java/lang/String", "checkBoundsOffCount", "(III)I"⟩ jdk_42_method_157_code 3 (Option.some FieldType.int), Cond.code ⟨"jdk/internal/util/Preconditions", "checkFromIndexSize", "(IIILjava/util/function/BiFunction;)I"⟩ jdk_41_method_13_code 4 (Option.some FieldType.int), Cond.code ⟨"java/lang/StringBuilder", "<init>", "()V"⟩ jdk_67_method_1_code 1 none, Cond.code ⟨"java/lang/AbstractStringBuilder", "<init>", "(I)V"⟩ jdk_68_method_2_code 2 none, Cond.code ⟨"java/lang/StringBuilder", "append", "(Ljava/lang/String;)Ljava/lang/StringBuilder;"⟩ jdk_67_method_7_code 2 (Option.some (FieldType.object "java/lang/StringBuilder")), Cond.code ⟨"java/lang/AbstractStringBuilder", "append", "(Ljava/lang/String;)Ljava/lang/AbstractStringBuilder;"⟩ jdk_68_method_22_code 3 (Option.some (FieldType.object "java/lang/AbstractStringBuilder")), Cond.code ⟨"java/lang/String", "length", "()I"⟩ jdk_42_method_54_code 1 (Option.some FieldType.int), Cond.code ⟨"java/lang/String", "coder", "()B"⟩ jdk_42_method_152_code 1 (Option.some FieldType.byte), Cond.code ⟨"java/lang/AbstractStringBuilder", "ensureCapacityInternal", "(I)V"⟩ jdk_68_method_9_code 3 none, Cond.code ⟨"java/lang/AbstractStringBuilder", "putStringAt", "(ILjava/lang/String;)V"⟩ jdk_68_method_73_code 3 none, Cond.code ⟨"java/lang/AbstractStringBuilder", "inflateIfNeededFor", "(Ljava/lang/String;)V"⟩ jdk_68_method_71_code 2 none, Cond.code ⟨"java/lang/String", "getBytes", "([BIB)V"⟩ jdk_42_method_147_code 4 none, Cond.code ⟨"java/lang/AbstractStringBuilder", "newCapacity", "(I)I"⟩ jdk_68_method_10_code 6 (Option.some FieldType.int), Cond.code ⟨"jdk/internal/util/ArraysSupport", "newLength", "(III)I"⟩ jdk_48_method_27_code 4 (Option.some FieldType.int), Cond.code ⟨"java/lang/Math", "max", "(II)I"⟩ jdk_29_method_65_code 2 (Option.some FieldType.int), Cond.code ⟨"java/util/Arrays", "copyOf", "([BI)[B"⟩ jdk_65_method_121_code 3 (Option.some (FieldType.array FieldType.byte)), Cond.code ⟨"java/lang/Math", "min", "(II)I"⟩ jdk_29_method_69_code 2 (Option.some FieldType.int), Cond.code ⟨"java/lang/StringBuilder", "toString", "()Ljava/lang/String;"⟩ jdk_67_method_42_code 1 (Option.some (FieldType.object "java/lang/String")), Cond.code ⟨"java/lang/String", "<init>", "(Ljava/lang/StringBuilder;)V"⟩ jdk_42_method_53_code 2 none, Cond.code ⟨"java/lang/String", "<init>", "(Ljava/lang/AbstractStringBuilder;Ljava/lang/Void;)V"⟩ jdk_42_method_150_code 5 none, Cond.code ⟨"java/lang/AbstractStringBuilder", "getValue", "()[B"⟩ jdk_68_method_64_code 1 (Option.some (FieldType.array FieldType.byte)), Cond.code ⟨"java/lang/StringBuilder", "length", "()I"⟩ jdk_67_method_93_code 1 (Option.some FieldType.int), Cond.code ⟨"java/lang/AbstractStringBuilder", "length", "()I"⟩ jdk_68_method_6_code 1 (Option.some FieldType.int), Cond.code ⟨"java/lang/AbstractStringBuilder", "isLatin1", "()Z"⟩ jdk_68_method_68_code 1 (Option.some FieldType.boolean), Cond.code ⟨"java/util/Arrays", "copyOfRange", "([BII)[B"⟩ jdk_65_method_132_code 3 (Option.some (FieldType.array FieldType.byte)), Cond.code ⟨"java/util/Arrays", "copyOfRangeByte", "([BII)[B"⟩ jdk_65_method_133_code 5 (Option.some (FieldType.array FieldType.byte)), Cond.code ⟨"java/util/Arrays", "checkLength", "(II)V"⟩ jdk_65_method_131_code 2 none, Cond.code ⟨"com/example/bevaka/bevaka/store/PemEncodePinLaw", "frame", "([CCCI)V"⟩ method_7_code 5 none, Cond.code ⟨"com/example/bevaka/bevaka/store/PemEncodePinLaw", "dashes", "([CI)V"⟩ method_6_code 2 none, Cond.code ⟨"java/lang/String", "equals", "(Ljava/lang/Object;)Z"⟩ jdk_42_method_66_code 3 (Option.some FieldType.boolean), Cond.code ⟨"java/lang/StringLatin1", "equals", "([B[B)Z"⟩ jdk_43_method_13_code 3 (Option.some FieldType.boolean), Cond.code ⟨"java/util/Base64$Encoder", "encodeBlock", "([BII[BIZ)V"⟩ jdk_2452_method_9_code 11 none, Cond.code ⟨"com/example/bevaka/bevaka/store/PemEncodePinLaw", "group", "([CIIIII)V"⟩ method_4_code 8 none, Cond.code ⟨"com/example/bevaka/bevaka/store/PemEncodePinLaw", "sym", "(I)C"⟩ method_3_code 1 (Option.some FieldType.char), Cond.code ⟨"java/lang/String", "charAt", "(I)C"⟩ jdk_42_method_56_code 2 (Option.some FieldType.char), Cond.code ⟨"java/lang/String", "isLatin1", "()Z"⟩ jdk_42_method_154_code 1 (Option.some FieldType.boolean), Cond.code ⟨"java/lang/StringLatin1", "charAt", "([BI)C"⟩ jdk_43_method_2_code 2 (Option.some FieldType.char), Cond.code ⟨"java/lang/String", "checkIndex", "(II)V"⟩ jdk_42_method_155_code 2 none, Cond.code ⟨"jdk/internal/util/Preconditions", "checkIndex", "(IILjava/util/function/BiFunction;)I"⟩ jdk_41_method_11_code 3 (Option.some FieldType.int), Cond.code ⟨"com/example/bevaka/bevaka/store/PemEncodePinLaw", "groupAt", "(Ljava/lang/String;IIIII)Z"⟩ method_5_code 7 (Option.some FieldType.boolean)]
set_option maxRecDepth 65536 in
theorem codes_eq : words1.filter isCode = codes1 := rfl
theorem w_codes : ∀ c ∈ words1.filter isCode, c.before args0 about1 = true := by
  rw [codes_eq]
  intro c hc
  simp only [codes1, List.mem_cons, List.not_mem_nil, or_false] at hc
  rcases hc with rfl | rfl | rfl | rfl | rfl | rfl | rfl | rfl | rfl | rfl | rfl | rfl | rfl | rfl | rfl | rfl | rfl | rfl | rfl | rfl | rfl | rfl | rfl | rfl | rfl | rfl | rfl | rfl | rfl | rfl | rfl | rfl | rfl | rfl | rfl | rfl | rfl | rfl | rfl | rfl | rfl | rfl | rfl | rfl | rfl | rfl | rfl | rfl | rfl | rfl | rfl | rfl | rfl | rfl | rfl | rfl | rfl
  · exact w_c0
  · exact w_c1
  · exact w_c2
  · exact w_c3
  · exact w_c4
  · exact w_c5
  · exact w_c6
  · exact w_c7
  · exact w_c8
  · exact w_c9
  · exact w_c10
  · exact w_c11
  · exact w_c12
  · exact w_c13
  · exact w_c14
  · exact w_c15
  · exact w_c16
  · exact w_c17
  · exact w_c18
  · exact w_c19
  · exact w_c20
  · exact w_c21
  · exact w_c22
  · exact w_c23
  · exact w_c24
  · exact w_c25
  · exact w_c26
  · exact w_c27
  · exact w_c28
  · exact w_c29
  · exact w_c30
  · exact w_c31
  · exact w_c32
  · exact w_c33
  · exact w_c34
  · exact w_c35
  · exact w_c36
  · exact w_c37
  · exact w_c38
  · exact w_c39
  · exact w_c40
  · exact w_c41
  · exact w_c42
  · exact w_c43
  · exact w_c44
  · exact w_c45
  · exact w_c46
  · exact w_c47
  · exact w_c48
  · exact w_c49
  · exact w_c50
  · exact w_c51
  · exact w_c52
  · exact w_c53
  · exact w_c54
  · exact w_c55
  · exact w_c56
set_option maxRecDepth 65536 in
theorem w_t1 : (words1.take 24).all (fun c => isCode c || c.before args0 about1) = true := by decide +kernel
set_option maxRecDepth 65536 in
theorem w_t2 : ((words1.drop 24).take 24).all (fun c => isCode c || c.before args0 about1) = true := by decide +kernel
set_option maxRecDepth 65536 in
theorem w_t3 : (((words1.drop 24).drop 24).take 24).all (fun c => isCode c || c.before args0 about1) = true := by decide +kernel
set_option maxRecDepth 65536 in
theorem w_t4 : ((((words1.drop 24).drop 24).drop 24).take 24).all (fun c => isCode c || c.before args0 about1) = true := by decide +kernel
set_option maxRecDepth 65536 in
theorem w_t5 : (((((words1.drop 24).drop 24).drop 24).drop 24).take 24).all (fun c => isCode c || c.before args0 about1) = true := by decide +kernel
set_option maxRecDepth 65536 in
theorem w_t6 : ((((((words1.drop 24).drop 24).drop 24).drop 24).drop 24).take 24).all (fun c => isCode c || c.before args0 about1) = true := by decide +kernel
set_option maxRecDepth 65536 in
theorem w_t7 : (((((((words1.drop 24).drop 24).drop 24).drop 24).drop 24).drop 24).take 24).all (fun c => isCode c || c.before args0 about1) = true := by decide +kernel
set_option maxRecDepth 65536 in
theorem w_t8 : ((((((((words1.drop 24).drop 24).drop 24).drop 24).drop 24).drop 24).drop 24).take 24).all (fun c => isCode c || c.before args0 about1) = true := by decide +kernel
set_option maxRecDepth 65536 in
theorem w_t9 : (((((((((words1.drop 24).drop 24).drop 24).drop 24).drop 24).drop 24).drop 24).drop 24).take 24).all (fun c => isCode c || c.before args0 about1) = true := by decide +kernel
set_option maxRecDepth 65536 in
theorem w_t10 : ((((((((((words1.drop 24).drop 24).drop 24).drop 24).drop 24).drop 24).drop 24).drop 24).drop 24).take 24).all (fun c => isCode c || c.before args0 about1) = true := by decide +kernel
set_option maxRecDepth 65536 in
theorem w_t11 : (((((((((((words1.drop 24).drop 24).drop 24).drop 24).drop 24).drop 24).drop 24).drop 24).drop 24).drop 24).take 24).all (fun c => isCode c || c.before args0 about1) = true := by decide +kernel
set_option maxRecDepth 65536 in
theorem w_t12 : ((((((((((((words1.drop 24).drop 24).drop 24).drop 24).drop 24).drop 24).drop 24).drop 24).drop 24).drop 24).drop 24).take 24).all (fun c => isCode c || c.before args0 about1) = true := by decide +kernel
set_option maxRecDepth 65536 in
theorem w_t13 : ((((((((((((words1.drop 24).drop 24).drop 24).drop 24).drop 24).drop 24).drop 24).drop 24).drop 24).drop 24).drop 24).drop 24).all (fun c => isCode c || c.before args0 about1) = true := by decide +kernel
theorem w_tables : (allAtoms (Cond.code x code maxLocals ret :: tables_1)).before args0 about1 = true := by
  rw [allAtoms_all]
  show words1.all (fun c => c.before args0 about1) = true
  refine all_split ?_ w_codes
  rw [← List.take_append_drop 24 words1, List.all_append, w_t1, ← List.take_append_drop 24 (words1.drop 24), List.all_append, w_t2, ← List.take_append_drop 24 ((words1.drop 24).drop 24), List.all_append, w_t3, ← List.take_append_drop 24 (((words1.drop 24).drop 24).drop 24), List.all_append, w_t4, ← List.take_append_drop 24 ((((words1.drop 24).drop 24).drop 24).drop 24), List.all_append, w_t5, ← List.take_append_drop 24 (((((words1.drop 24).drop 24).drop 24).drop 24).drop 24), List.all_append, w_t6, ← List.take_append_drop 24 ((((((words1.drop 24).drop 24).drop 24).drop 24).drop 24).drop 24), List.all_append, w_t7, ← List.take_append_drop 24 (((((((words1.drop 24).drop 24).drop 24).drop 24).drop 24).drop 24).drop 24), List.all_append, w_t8, ← List.take_append_drop 24 ((((((((words1.drop 24).drop 24).drop 24).drop 24).drop 24).drop 24).drop 24).drop 24), List.all_append, w_t9, ← List.take_append_drop 24 (((((((((words1.drop 24).drop 24).drop 24).drop 24).drop 24).drop 24).drop 24).drop 24).drop 24), List.all_append, w_t10, ← List.take_append_drop 24 ((((((((((words1.drop 24).drop 24).drop 24).drop 24).drop 24).drop 24).drop 24).drop 24).drop 24).drop 24), List.all_append, w_t11, ← List.take_append_drop 24 (((((((((((words1.drop 24).drop 24).drop 24).drop 24).drop 24).drop 24).drop 24).drop 24).drop 24).drop 24).drop 24), List.all_append, w_t12, w_t13]
  rfl
set_option maxRecDepth 65536 in
theorem w_rest : rest_1_c.before args0 about1 = true := by decide +kernel
set_option maxRecDepth 65536 in
theorem w_case : (Jvm.Cond.and given_1 narrow_1).before args0 about1 = true := by decide +kernel
set_option maxRecDepth 65536 in
theorem w_consts : constsHeld consts_1 about1 := Jvm.Lit.constsHeldB_iff.mp (by decide +kernel)
theorem w_applies : (headSpec (Cond.code x code maxLocals ret :: tables_1) room_1).applies x e0.platform about1 = true :=
  (Spec.applies_iff w_frames).mpr ⟨w_running, w_runnable, w_alone, w_named, w_hears, w_ripe, w_room, w_tables⟩
theorem atStart : AtStart classFile x code maxLocals ret World_1 tables_1 room_1 Calls_1 rest_1 Pre_1 launch0 p0 e0 about1 theMethod args0 below0 :=
  ⟨lists_1, trivial, launch0.admits_env _ _ _, launch0.least_env, fairChoices_fair.cas, fairChoices_fair.clock, w_frames, w_args, w_heap, w_applies, ⟨w_consts, trivial⟩, w_rest, w_case⟩
end start1
theorem witness_1 : WitnessClaimed_1 := ⟨start1.p0, start1.e0, start1.about1, start1.theMethod, start1.args0, start1.below0, start1.atStart⟩
end Jvm.Pilot.@@N@@
