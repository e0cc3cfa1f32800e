import JvmDerived
import JvmDerived.Pilot.@@N@@Statement
import JvmDerived.Pilot.@@N@@Code
set_option linter.unusedVariables false
set_option linter.unusedSimpArgs false
namespace Jvm.Pilot.@@N@@
open Jvm Jvm.ClassFile Sem Op Lib Jvm.Free Jvm.Stand Jvm.LawKit Jvm.RoadKit Bundle Jvm.Pilot.@@N@@.Jvm.D
section Own
variable {p : Program} {l : Launch} {e : Env} {R : Room} {s : State} {m : MethodId} {args : Array Value} {below : List Frame} {meth : Method} {c : Code} {T : State} {locs : List Loc} {cells slots : Nat}
/-- from the frame g on top of T the invocation comes to its end, and there QQ holds of what it returns, of the heap and of what it wrote -/
def own_Run (p : Program) (e : Env) (below : List Frame) (s : State) (QQ : Option Value → Heap → List Loc → Prop) (C S : Nat) (T : State) (g : JFrame) : Prop :=
  ∃ s₂ v L, Steps p.tables e below (T.setTop g) s₂ ∧ s₂.status = .running ∧ Ended s₂ below (.returned v) ∧ QQ v s₂.heap L ∧ FrameEnd s (.returned v) s₂ L C S
variable {QQ : Option Value → Heap → List Loc → Prop} {C S : Nat}
theorem own_enter {g : JFrame} {ml : Nat} (q : entryFrame m args ml = g) (k : own_Run p e below s QQ C S T g) :
    ∃ s₂ o, Steps p.tables e below (T.setTop (entryFrame m args ml)) s₂ ∧ s₂.status = .running ∧ Ended s₂ below o ∧ ∃ v L, o = .returned v ∧ QQ v s₂.heap L ∧ FrameEnd s o s₂ L C S := by
  subst q
  obtain ⟨s₂, v, L, h1, h2, h3, h4, h5⟩ := k
  exact ⟨s₂, _, h1, h2, h3, v, L, rfl, h4, h5⟩
theorem own_step {g g' : JFrame} {T' : State} (h : ∀ t, Steps p.tables e below (T'.setTop g') t → Steps p.tables e below (T.setTop g) t) (k : own_Run p e below s QQ C S T' g') : own_Run p e below s QQ C S T g := by
  obtain ⟨s₂, v, L, h1, h2⟩ := k
  exact ⟨s₂, v, L, h _ h1, h2⟩
theorem own_end (X : Stand p l e R s m args below meth c T locs cells slots) {v : Option Value} (hv : meth.sig.returnType = none → v = none) (hlocks : meth.locks = false) {g : JFrame} (hc : cells ≤ C) (hs : slots ≤ S) (hq : QQ v T.heap locs)
    (k : ∀ fs, (∀ (f : JFrame) (acts : List Action), f.method = m → f.locked = none → f.entered = [] → (doReturn e (T.setTop f) acts v).1 = T.setFrames fs) → Steps p.tables e below (T.setTop g) (T.setFrames fs)) : own_Run p e below s QQ C S T g := by
  obtain ⟨fs, hr, hrun, hended, hW, hsame⟩ := X.leave (v := v) hv hlocks
  exact ⟨_, v, locs, k fs hr, hrun, hended, hq, ⟨_, rfl⟩, hW, hsame.mono hc hs⟩
theorem own_retN (X : Stand p l e R s m args below meth c T locs cells slots) (hx : p.tables.exec = Jvm.exec) {pc : Nat} {Ls : Array Slot} {z : Int32} {t : FieldType} {rest : List Value} (hret : meth.sig.returnType = some t) (ht : t = .boolean ∨ t = .byte ∨ t = .char ∨ t = .short)
    (hd : decode c.code pc = .ok (.ireturn, 1)) (hlocks : meth.locks = false) (hc : cells ≤ C) (hs : slots ≤ S) (hq : QQ (some (.int (nar t z))) T.heap locs) : own_Run p e below s QQ C S T (mkF m pc Ls (.int z :: rest)) :=
  own_end X (fun h => by rw [hret] at h; cases h) hlocks hc hs hq (fun fs hr => retN X hx hret ht hd hr)
theorem own_retI (X : Stand p l e R s m args below meth c T locs cells slots) (hx : p.tables.exec = Jvm.exec) {pc : Nat} {Ls : Array Slot} {z : Int32} {rest : List Value} (hret : meth.sig.returnType = some .int)
    (hd : decode c.code pc = .ok (.ireturn, 1)) (hlocks : meth.locks = false) (hc : cells ≤ C) (hs : slots ≤ S) (hq : QQ (some (.int z)) T.heap locs) : own_Run p e below s QQ C S T (mkF m pc Ls (.int z :: rest)) :=
  own_end X (fun h => by rw [hret] at h; cases h) hlocks hc hs hq (fun fs hr => retOut X hx hret rfl (Or.inl ⟨rfl, Or.inl rfl, _, rfl⟩) hd hr)
theorem own_retJ (X : Stand p l e R s m args below meth c T locs cells slots) (hx : p.tables.exec = Jvm.exec) {pc : Nat} {Ls : Array Slot} {z : Int64} {rest : List Value} (hret : meth.sig.returnType = some .long)
    (hd : decode c.code pc = .ok (.lreturn, 1)) (hlocks : meth.locks = false) (hc : cells ≤ C) (hs : slots ≤ S) (hq : QQ (some (.long z)) T.heap locs) : own_Run p e below s QQ C S T (mkF m pc Ls (.long z :: rest)) :=
  own_end X (fun h => by rw [hret] at h; cases h) hlocks hc hs hq (fun fs hr => retOut X hx hret rfl (Or.inr (Or.inl ⟨rfl, rfl, _, rfl⟩)) hd hr)
theorem own_retA (X : Stand p l e R s m args below meth c T locs cells slots) (hx : p.tables.exec = Jvm.exec) {pc : Nat} {Ls : Array Slot} {w : Value} {t : FieldType} {rest : List Value} (hret : meth.sig.returnType = some t) (ht : t.isReference = true) (hw : w.isRef = true)
    (hd : decode c.code pc = .ok (.areturn, 1)) (hlocks : meth.locks = false) (hc : cells ≤ C) (hs : slots ≤ S) (hq : QQ (some w) T.heap locs) : own_Run p e below s QQ C S T (mkF m pc Ls (w :: rest)) :=
  own_end X (fun h => by rw [hret] at h; cases h) hlocks hc hs hq (fun fs hr => retOut X hx hret (by cases t <;> first | rfl | cases ht) (Or.inr (Or.inr (Or.inr (Or.inr ⟨rfl, ht, hw⟩)))) hd hr)
theorem own_retV (X : Stand p l e R s m args below meth c T locs cells slots) (hx : p.tables.exec = Jvm.exec) {pc : Nat} {Ls : Array Slot} (hret : meth.sig.returnType = none)
    (hd : decode c.code pc = .ok (.return_, 1)) (hlocks : meth.locks = false) (hc : cells ≤ C) (hs : slots ≤ S) (hq : QQ none T.heap locs) : own_Run p e below s QQ C S T (mkF m pc Ls []) :=
  own_end X (fun _ => rfl) hlocks hc hs hq (fun fs hr => X.returnOut hx hret hd hr)
end Own
/-- one of two ints, by a proposition -/
def own_pick (P : Prop) [Decidable P] (a b : Int32) : Int32 := if P then a else b
def own_pickJ (P : Prop) [Decidable P] (a b : Int64) : Int64 := if P then a else b
theorem own_pick_pos {P : Prop} [Decidable P] {a b : Int32} (h : P) : own_pick P a b = a := if_pos h
theorem own_pick_neg {P : Prop} [Decidable P] {a b : Int32} (h : ¬ P) : own_pick P a b = b := if_neg h
theorem own_pickJ_pos {P : Prop} [Decidable P] {a b : Int64} (h : P) : own_pickJ P a b = a := if_pos h
theorem own_pickJ_neg {P : Prop} [Decidable P] {a b : Int64} (h : ¬ P) : own_pickJ P a b = b := if_neg h
section OwnMat
variable {tb : Tables} [Ours tb] {e : Env} {below : List Frame} {T target : State} {m : MethodId} {c : Code} {pc : Nat} {Ls : Array Slot} {x y : Int32} {rest : List Value} {a b : Int} {cd : ClassFile.Cond}
theorem own_mat_i (h : At T m c below) (hx : tb.exec = Jvm.exec) (hd0 : decode c.code pc = .ok (.if_icmp cd 7, 3)) (hd1 : decode c.code (pc + 3) = .ok (.iconst a, 1)) (hd2 : decode c.code (pc + 4) = .ok (.goto 4, 3)) (hd3 : decode c.code (pc + 7) = .ok (.iconst b, 1))
    {w : Int32} (hT : if_icmp.holds cd x y = true → w = Int32.ofInt b) (hF : if_icmp.holds cd x y = false → w = Int32.ofInt a) (hr : Steps tb e below (T.setTop (mkF m (pc + 8) Ls (.int w :: rest))) target) : Steps tb e below (T.setTop (mkF m pc Ls (.int y :: .int x :: rest))) target := by
  cases q : if_icmp.holds cd x y
  · rw [hF q] at hr
    exact XS.icmpNo h hx rfl hd0 rfl q (XS.iconst h hx rfl hd1 (XS.goto h hx rfl (pc0 := pc + 4) (pc' := pc + 8) rfl hd2 (by omega) (by omega) hr))
  · rw [hT q] at hr
    exact XS.icmpYes h hx rfl (pc0 := pc) (pc' := pc + 7) rfl hd0 rfl q (by omega) (by omega) (XS.iconst h hx rfl hd3 hr)
theorem own_mat_c (h : At T m c below) (hx : tb.exec = Jvm.exec) (hd0 : decode c.code pc = .ok (.ifCond cd 7, 3)) (hd1 : decode c.code (pc + 3) = .ok (.iconst a, 1)) (hd2 : decode c.code (pc + 4) = .ok (.goto 4, 3)) (hd3 : decode c.code (pc + 7) = .ok (.iconst b, 1))
    {w : Int32} (hT : if_icmp.holds cd x 0 = true → w = Int32.ofInt b) (hF : if_icmp.holds cd x 0 = false → w = Int32.ofInt a) (hr : Steps tb e below (T.setTop (mkF m (pc + 8) Ls (.int w :: rest))) target) : Steps tb e below (T.setTop (mkF m pc Ls (.int x :: rest))) target := by
  cases q : if_icmp.holds cd x 0
  · rw [hF q] at hr
    exact XS.ifNo h hx rfl hd0 rfl ((if0 _ _).trans q) (XS.iconst h hx rfl hd1 (XS.goto h hx rfl (pc0 := pc + 4) (pc' := pc + 8) rfl hd2 (by omega) (by omega) hr))
  · rw [hT q] at hr
    exact XS.ifYes h hx rfl (pc0 := pc) (pc' := pc + 7) rfl hd0 rfl ((if0 _ _).trans q) (by omega) (by omega) (XS.iconst h hx rfl hd3 hr)
theorem own_mat_i_eq (h : At T m c below) (hx : tb.exec = Jvm.exec) (hg : m = m) (hd0 : decode c.code pc = .ok (.if_icmp .eq 7, 3)) (hd1 : decode c.code (pc + 3) = .ok (.iconst a, 1)) (hd2 : decode c.code (pc + 4) = .ok (.goto 4, 3)) (hd3 : decode c.code (pc + 7) = .ok (.iconst b, 1))
    (hr : Steps tb e below (T.setTop (mkF m (pc + 8) Ls (.int (own_pick (x = y) (Int32.ofInt b) (Int32.ofInt a)) :: rest))) target) : Steps tb e below (T.setTop (mkF m pc Ls (.int y :: .int x :: rest))) target :=
  own_mat_i h hx hd0 hd1 hd2 hd3 (fun q => by by_cases z : x = y <;> simp [own_pick, z] <;> (first | rw [(teq z).1] at q | rw [(feq z).1] at q) <;> cases q) (fun q => by by_cases z : x = y <;> simp [own_pick, z] <;> (first | rw [(teq z).1] at q | rw [(feq z).1] at q) <;> cases q) hr
theorem own_mat_i_ne (h : At T m c below) (hx : tb.exec = Jvm.exec) (hg : m = m) (hd0 : decode c.code pc = .ok (.if_icmp .ne 7, 3)) (hd1 : decode c.code (pc + 3) = .ok (.iconst a, 1)) (hd2 : decode c.code (pc + 4) = .ok (.goto 4, 3)) (hd3 : decode c.code (pc + 7) = .ok (.iconst b, 1))
    (hr : Steps tb e below (T.setTop (mkF m (pc + 8) Ls (.int (own_pick (x = y) (Int32.ofInt a) (Int32.ofInt b)) :: rest))) target) : Steps tb e below (T.setTop (mkF m pc Ls (.int y :: .int x :: rest))) target :=
  own_mat_i h hx hd0 hd1 hd2 hd3 (fun q => by by_cases z : x = y <;> simp [own_pick, z] <;> (first | rw [(teq z).2] at q | rw [(feq z).2] at q) <;> cases q) (fun q => by by_cases z : x = y <;> simp [own_pick, z] <;> (first | rw [(teq z).2] at q | rw [(feq z).2] at q) <;> cases q) hr
theorem own_mat_i_lt (h : At T m c below) (hx : tb.exec = Jvm.exec) (hg : m = m) (hd0 : decode c.code pc = .ok (.if_icmp .lt 7, 3)) (hd1 : decode c.code (pc + 3) = .ok (.iconst a, 1)) (hd2 : decode c.code (pc + 4) = .ok (.goto 4, 3)) (hd3 : decode c.code (pc + 7) = .ok (.iconst b, 1))
    (hr : Steps tb e below (T.setTop (mkF m (pc + 8) Ls (.int (own_pick (x < y) (Int32.ofInt b) (Int32.ofInt a)) :: rest))) target) : Steps tb e below (T.setTop (mkF m pc Ls (.int y :: .int x :: rest))) target :=
  own_mat_i h hx hd0 hd1 hd2 hd3 (fun q => by by_cases z : x < y <;> simp [own_pick, z] <;> (first | rw [(tlt z).1] at q | rw [(flt z).1] at q) <;> cases q) (fun q => by by_cases z : x < y <;> simp [own_pick, z] <;> (first | rw [(tlt z).1] at q | rw [(flt z).1] at q) <;> cases q) hr
theorem own_mat_i_ge (h : At T m c below) (hx : tb.exec = Jvm.exec) (hg : m = m) (hd0 : decode c.code pc = .ok (.if_icmp .ge 7, 3)) (hd1 : decode c.code (pc + 3) = .ok (.iconst a, 1)) (hd2 : decode c.code (pc + 4) = .ok (.goto 4, 3)) (hd3 : decode c.code (pc + 7) = .ok (.iconst b, 1))
    (hr : Steps tb e below (T.setTop (mkF m (pc + 8) Ls (.int (own_pick (x < y) (Int32.ofInt a) (Int32.ofInt b)) :: rest))) target) : Steps tb e below (T.setTop (mkF m pc Ls (.int y :: .int x :: rest))) target :=
  own_mat_i h hx hd0 hd1 hd2 hd3 (fun q => by by_cases z : x < y <;> simp [own_pick, z] <;> (first | rw [(tlt z).2.1] at q | rw [(flt z).2.1] at q) <;> cases q) (fun q => by by_cases z : x < y <;> simp [own_pick, z] <;> (first | rw [(tlt z).2.1] at q | rw [(flt z).2.1] at q) <;> cases q) hr
theorem own_mat_i_gt (h : At T m c below) (hx : tb.exec = Jvm.exec) (hg : m = m) (hd0 : decode c.code pc = .ok (.if_icmp .gt 7, 3)) (hd1 : decode c.code (pc + 3) = .ok (.iconst a, 1)) (hd2 : decode c.code (pc + 4) = .ok (.goto 4, 3)) (hd3 : decode c.code (pc + 7) = .ok (.iconst b, 1))
    (hr : Steps tb e below (T.setTop (mkF m (pc + 8) Ls (.int (own_pick (y < x) (Int32.ofInt b) (Int32.ofInt a)) :: rest))) target) : Steps tb e below (T.setTop (mkF m pc Ls (.int y :: .int x :: rest))) target :=
  own_mat_i h hx hd0 hd1 hd2 hd3 (fun q => by by_cases z : y < x <;> simp [own_pick, z] <;> (first | rw [(tlt z).2.2.1] at q | rw [(flt z).2.2.1] at q) <;> cases q) (fun q => by by_cases z : y < x <;> simp [own_pick, z] <;> (first | rw [(tlt z).2.2.1] at q | rw [(flt z).2.2.1] at q) <;> cases q) hr
theorem own_mat_i_le (h : At T m c below) (hx : tb.exec = Jvm.exec) (hg : m = m) (hd0 : decode c.code pc = .ok (.if_icmp .le 7, 3)) (hd1 : decode c.code (pc + 3) = .ok (.iconst a, 1)) (hd2 : decode c.code (pc + 4) = .ok (.goto 4, 3)) (hd3 : decode c.code (pc + 7) = .ok (.iconst b, 1))
    (hr : Steps tb e below (T.setTop (mkF m (pc + 8) Ls (.int (own_pick (y < x) (Int32.ofInt a) (Int32.ofInt b)) :: rest))) target) : Steps tb e below (T.setTop (mkF m pc Ls (.int y :: .int x :: rest))) target :=
  own_mat_i h hx hd0 hd1 hd2 hd3 (fun q => by by_cases z : y < x <;> simp [own_pick, z] <;> (first | rw [(tlt z).2.2.2] at q | rw [(flt z).2.2.2] at q) <;> cases q) (fun q => by by_cases z : y < x <;> simp [own_pick, z] <;> (first | rw [(tlt z).2.2.2] at q | rw [(flt z).2.2.2] at q) <;> cases q) hr
theorem own_mat_c_eq (h : At T m c below) (hx : tb.exec = Jvm.exec) (hg : m = m) (hd0 : decode c.code pc = .ok (.ifCond .eq 7, 3)) (hd1 : decode c.code (pc + 3) = .ok (.iconst a, 1)) (hd2 : decode c.code (pc + 4) = .ok (.goto 4, 3)) (hd3 : decode c.code (pc + 7) = .ok (.iconst b, 1))
    (hr : Steps tb e below (T.setTop (mkF m (pc + 8) Ls (.int (own_pick (x = (0 : Int32)) (Int32.ofInt b) (Int32.ofInt a)) :: rest))) target) : Steps tb e below (T.setTop (mkF m pc Ls (.int x :: rest))) target :=
  own_mat_c h hx hd0 hd1 hd2 hd3 (fun q => by by_cases z : x = (0 : Int32) <;> simp [own_pick, z] <;> (first | rw [(teq z).1] at q | rw [(feq z).1] at q) <;> cases q) (fun q => by by_cases z : x = (0 : Int32) <;> simp [own_pick, z] <;> (first | rw [(teq z).1] at q | rw [(feq z).1] at q) <;> cases q) hr
theorem own_mat_c_ne (h : At T m c below) (hx : tb.exec = Jvm.exec) (hg : m = m) (hd0 : decode c.code pc = .ok (.ifCond .ne 7, 3)) (hd1 : decode c.code (pc + 3) = .ok (.iconst a, 1)) (hd2 : decode c.code (pc + 4) = .ok (.goto 4, 3)) (hd3 : decode c.code (pc + 7) = .ok (.iconst b, 1))
    (hr : Steps tb e below (T.setTop (mkF m (pc + 8) Ls (.int (own_pick (x = (0 : Int32)) (Int32.ofInt a) (Int32.ofInt b)) :: rest))) target) : Steps tb e below (T.setTop (mkF m pc Ls (.int x :: rest))) target :=
  own_mat_c h hx hd0 hd1 hd2 hd3 (fun q => by by_cases z : x = (0 : Int32) <;> simp [own_pick, z] <;> (first | rw [(teq z).2] at q | rw [(feq z).2] at q) <;> cases q) (fun q => by by_cases z : x = (0 : Int32) <;> simp [own_pick, z] <;> (first | rw [(teq z).2] at q | rw [(feq z).2] at q) <;> cases q) hr
theorem own_mat_c_lt (h : At T m c below) (hx : tb.exec = Jvm.exec) (hg : m = m) (hd0 : decode c.code pc = .ok (.ifCond .lt 7, 3)) (hd1 : decode c.code (pc + 3) = .ok (.iconst a, 1)) (hd2 : decode c.code (pc + 4) = .ok (.goto 4, 3)) (hd3 : decode c.code (pc + 7) = .ok (.iconst b, 1))
    (hr : Steps tb e below (T.setTop (mkF m (pc + 8) Ls (.int (own_pick (x < (0 : Int32)) (Int32.ofInt b) (Int32.ofInt a)) :: rest))) target) : Steps tb e below (T.setTop (mkF m pc Ls (.int x :: rest))) target :=
  own_mat_c h hx hd0 hd1 hd2 hd3 (fun q => by by_cases z : x < (0 : Int32) <;> simp [own_pick, z] <;> (first | rw [(tlt z).1] at q | rw [(flt z).1] at q) <;> cases q) (fun q => by by_cases z : x < (0 : Int32) <;> simp [own_pick, z] <;> (first | rw [(tlt z).1] at q | rw [(flt z).1] at q) <;> cases q) hr
theorem own_mat_c_ge (h : At T m c below) (hx : tb.exec = Jvm.exec) (hg : m = m) (hd0 : decode c.code pc = .ok (.ifCond .ge 7, 3)) (hd1 : decode c.code (pc + 3) = .ok (.iconst a, 1)) (hd2 : decode c.code (pc + 4) = .ok (.goto 4, 3)) (hd3 : decode c.code (pc + 7) = .ok (.iconst b, 1))
    (hr : Steps tb e below (T.setTop (mkF m (pc + 8) Ls (.int (own_pick (x < (0 : Int32)) (Int32.ofInt a) (Int32.ofInt b)) :: rest))) target) : Steps tb e below (T.setTop (mkF m pc Ls (.int x :: rest))) target :=
  own_mat_c h hx hd0 hd1 hd2 hd3 (fun q => by by_cases z : x < (0 : Int32) <;> simp [own_pick, z] <;> (first | rw [(tlt z).2.1] at q | rw [(flt z).2.1] at q) <;> cases q) (fun q => by by_cases z : x < (0 : Int32) <;> simp [own_pick, z] <;> (first | rw [(tlt z).2.1] at q | rw [(flt z).2.1] at q) <;> cases q) hr
theorem own_mat_c_gt (h : At T m c below) (hx : tb.exec = Jvm.exec) (hg : m = m) (hd0 : decode c.code pc = .ok (.ifCond .gt 7, 3)) (hd1 : decode c.code (pc + 3) = .ok (.iconst a, 1)) (hd2 : decode c.code (pc + 4) = .ok (.goto 4, 3)) (hd3 : decode c.code (pc + 7) = .ok (.iconst b, 1))
    (hr : Steps tb e below (T.setTop (mkF m (pc + 8) Ls (.int (own_pick ((0 : Int32) < x) (Int32.ofInt b) (Int32.ofInt a)) :: rest))) target) : Steps tb e below (T.setTop (mkF m pc Ls (.int x :: rest))) target :=
  own_mat_c h hx hd0 hd1 hd2 hd3 (fun q => by by_cases z : (0 : Int32) < x <;> simp [own_pick, z] <;> (first | rw [(tlt z).2.2.1] at q | rw [(flt z).2.2.1] at q) <;> cases q) (fun q => by by_cases z : (0 : Int32) < x <;> simp [own_pick, z] <;> (first | rw [(tlt z).2.2.1] at q | rw [(flt z).2.2.1] at q) <;> cases q) hr
theorem own_mat_c_le (h : At T m c below) (hx : tb.exec = Jvm.exec) (hg : m = m) (hd0 : decode c.code pc = .ok (.ifCond .le 7, 3)) (hd1 : decode c.code (pc + 3) = .ok (.iconst a, 1)) (hd2 : decode c.code (pc + 4) = .ok (.goto 4, 3)) (hd3 : decode c.code (pc + 7) = .ok (.iconst b, 1))
    (hr : Steps tb e below (T.setTop (mkF m (pc + 8) Ls (.int (own_pick ((0 : Int32) < x) (Int32.ofInt a) (Int32.ofInt b)) :: rest))) target) : Steps tb e below (T.setTop (mkF m pc Ls (.int x :: rest))) target :=
  own_mat_c h hx hd0 hd1 hd2 hd3 (fun q => by by_cases z : (0 : Int32) < x <;> simp [own_pick, z] <;> (first | rw [(tlt z).2.2.2] at q | rw [(flt z).2.2.2] at q) <;> cases q) (fun q => by by_cases z : (0 : Int32) < x <;> simp [own_pick, z] <;> (first | rw [(tlt z).2.2.2] at q | rw [(flt z).2.2.2] at q) <;> cases q) hr
end OwnMat
theorem pd_0 : parseMethodDescriptor "(JJ)J" = some ⟨[.long, .long], some .long⟩ := by decide +kernel
theorem pd_1 : parseMethodDescriptor "()V" = some ⟨[], none⟩ := by decide +kernel
theorem pd_2 : parseMethodDescriptor "(JZ)J" = some ⟨[.long, .boolean], some .long⟩ := by decide +kernel
theorem pd_3 : parseMethodDescriptor "(J)V" = some ⟨[.long], none⟩ := by decide +kernel
theorem d1_0 : decode prog_51_method_1_code 0 = .ok (.aload_n 0, 1) := by decide +kernel
theorem d1_1 : decode prog_51_method_1_code 1 = .ok (.invokespecial 1, 3) := by decide +kernel
theorem d1_4 : decode prog_51_method_1_code 4 = .ok (.aload_n 0, 1) := by decide +kernel
theorem d1_5 : decode prog_51_method_1_code 5 = .ok (.ldc2_w 9, 3) := by decide +kernel
theorem d1_8 : decode prog_51_method_1_code 8 = .ok (.putfield 11, 3) := by decide +kernel
theorem d1_11 : decode prog_51_method_1_code 11 = .ok (.return_, 1) := by decide +kernel
theorem pn_rm1 : plainName "com/example/windlass/windlass/ParkLead" = true := by first | (simp [plainName, overriddenIn]; done) | decide +kernel
theorem ef_rm1 (m : MethodId) (o0 : Addr) : entryFrame m #[(.ref o0)] 1 = mkF m 0 #[.val (.ref o0)] [] := by first | (simp [entryFrame, mkF, argsToLocals, Value.category, maxLocals]; done) | rfl
def rm1_Q (Z : State) (o0 : Addr)  (h0 : Heap) (n0 : Nat) (v : Option Value) (h : Heap) (L : List Loc) : Prop := v = none ∧ Fr n0 L ∧ Keep h0 h [o0] ∧ Exa Z h o0 "com/example/windlass/windlass/ParkLead" ∧ Fld Z h o0 "com/example/windlass/windlass/ParkLead" "nanos" "J" (.long (50000 : Int64))
set_option maxRecDepth 65536 in
set_option maxHeartbeats 40000000 in
theorem rm1 (l : Launch) (Z : State) (a0 : Array Value) (hw : ∀ d ∈ tables_1, d.before a0 Z = true) (ws : List Jvm.Cond) (o0 : Addr)  (h0 : Heap) (n0 : Nat) (Z0 : n0 ≤ h0.size) (E_o0 : Exa Z h0 o0 "com/example/windlass/windlass/ParkLead") (F_nanos_o0 : Fld Z h0 o0 "com/example/windlass/windlass/ParkLead" "nanos" "J" (.long (0 : Int64))) (g_o0 : n0 ≤ o0) :
    MetFree l (⟨"com/example/windlass/windlass/ParkLead", "<init>", "()V"⟩ : MethodName) (head1 (Jvm.Cond.code (⟨"com/example/windlass/windlass/ParkLead", "<init>", "()V"⟩ : MethodName) prog_51_method_1_code 1 none :: ws) ({ frames := 1, cells := 0, slots := 0, locals := 12 } : Room)) (fun a U => a = #[(.ref o0)] ∧ Z.Warmed39 U.vm ∧ U.heap = h0) (fun _ _ _ _ _ => True) (fun _ U o U' => ∃ v L, o = .returned v ∧ rm1_Q Z o0 h0 n0 v U'.heap L ∧ FrameEnd U o U' L ({ frames := 1, cells := 0, slots := 0, locals := 12 } : Room).cells ({ frames := 1, cells := 0, slots := 0, locals := 12 } : Room).slots) := by
  refine MetFree.of_bodySF (plainFor_of_name pn_rm1) hisR ?_
  intro p e s m args below meth c s₁ Bd hml0 hP hK
  obtain ⟨rfl, hZ, hh⟩ := hP
  have hx := Bd.exec
  have hby := Bd.bytes
  have hml : c.maxLocals = 1 := hml0
  have hown : s.vm.findClass "com/example/windlass/windlass/ParkLead" = some m.cls := findClass_of_methodNamed Bd.named
  have hnm := (name_of_methodNamed Bd.named Bd.method).1
  have X0 : Stand p l e ({ frames := 1, cells := 0, slots := 0, locals := 12 } : Room) s m #[(.ref o0)] below meth c s₁ [] 0 0 := Stand.of_body Bd
  have e0 : s₁.heap = h0 := by rw [← hh, Bd.state]; rfl
  have N0 := Fr.nil n0
  have K0 := Keep.refl h0 [o0]
  refine own_enter (QQ := rm1_Q Z o0 h0 n0) (ef_rm1 m o0) ?_
  show own_Run p e below s _ _ _ s₁ (mkF m 0 #[.val (.ref o0)] [])
  refine own_step (T' := s₁) (g' := (mkF m 1 #[.val (.ref o0)] [(.ref o0)])) (fun t k => ?_) ?_
  · show Steps p.tables e below (s₁.setTop (mkF m 0 #[.val (.ref o0)] [])) _
    refine XS.aloadN X0.here hx rfl (hb hby d1_0) rfl rfl ?_
    show Steps p.tables e below (s₁.setTop (mkF m 1 #[.val (.ref o0)] [(.ref o0)])) _
    exact k
  obtain ⟨T1, X1, e1, st1⟩ := initO X0 hx hZ hown (hw _ (List.mem_of_getElem? (i := 6) rfl)) (hw _ (List.mem_of_getElem? (i := 7) rfl)) (hw _ (List.mem_of_getElem? (i := 8) rfl)) e0 (g := (mkF m 1 #[.val (.ref o0)] [(.ref o0)])) rfl (by rw [hml]; rfl) rfl (hb hby d1_1) (by decide) (W := 0) (by show 2 * 0 + _ ≤ _; exact Nat.le_of_eq rfl) (by decide)
  refine own_step st1 ?_
  show own_Run p e below s _ _ _ T1 (mkF m 4 #[.val (.ref o0)] [])
  refine own_step (T' := T1) (g' := (mkF m 8 #[.val (.ref o0)] [(.long (50000 : Int64)), (.ref o0)])) (fun t k => ?_) ?_
  · show Steps p.tables e below (T1.setTop (mkF m 4 #[.val (.ref o0)] [])) _
    refine XS.aloadN X1.here hx rfl (hb hby d1_4) rfl rfl ?_
    show Steps p.tables e below (T1.setTop (mkF m 5 #[.val (.ref o0)] [(.ref o0)])) _
    refine X1.ldc2Long hx hown (mvT hZ (hw _ (List.mem_of_getElem? (i := 9) rfl))) (g := (mkF m 5 #[.val (.ref o0)] [(.ref o0)])) rfl (hb hby d1_5) _ ?_
    show Steps p.tables e below (T1.setTop (mkF m 8 #[.val (.ref o0)] [(.long (50000 : Int64)), (.ref o0)])) _
    exact k
  obtain ⟨T2, h2, X2, e2, W2, st2⟩ := putF X1 hx hZ hown (host := "") (Or.inl (hw _ (List.mem_of_getElem? (i := 10) rfl))) Via.refl e1 F_nanos_o0 E_o0 (Or.inl (hw _ (List.mem_of_getElem? (i := 11) rfl))) (hw _ (List.mem_of_getElem? (i := 1) rfl)) (ty := .long) (by decide) rfl rfl (g := (mkF m 8 #[.val (.ref o0)] [(.long (50000 : Int64)), (.ref o0)])) rfl rfl (hb hby d1_8)
  have F3 := F_nanos_o0.same W2
  have A4 := E_o0.wr W2
  have Z5 := Nat.le_trans Z0 (Keep.of_wr W2).1
  have K2 := K0.wr W2 (Or.inl (List.mem_of_getElem? (i := 0) rfl))
  have N2 := Fr.snoc X2 N0 g_o0
  refine own_step st2 ?_
  show own_Run p e below s _ _ _ T2 (mkF m 11 #[.val (.ref o0)] [])
  refine own_retV X2 hx Bd.returns (hb hby d1_11) (BodyLoose.notSynchronized Bd) (by decide) (by decide) ?_
  rw [show T2.heap = h2 from e2]
  exact ⟨rfl, N2, K2, A4, F3⟩
def own_max (q0 q1 : Int64) : Int64 := if lcmpW q0 q1 < 0 then q1 else q0
theorem d5_0 : decode jdk_29_method_66_code 0 = .ok (.lload_n 0, 1) := by decide +kernel
theorem d5_1 : decode jdk_29_method_66_code 1 = .ok (.lload_n 2, 1) := by decide +kernel
theorem d5_2 : decode jdk_29_method_66_code 2 = .ok (.lcmp, 1) := by decide +kernel
theorem d5_3 : decode jdk_29_method_66_code 3 = .ok (.ifCond .lt 7, 3) := by decide +kernel
theorem d5_6 : decode jdk_29_method_66_code 6 = .ok (.lload_n 0, 1) := by decide +kernel
theorem d5_7 : decode jdk_29_method_66_code 7 = .ok (.goto 4, 3) := by decide +kernel
theorem d5_10 : decode jdk_29_method_66_code 10 = .ok (.lload_n 2, 1) := by decide +kernel
theorem d5_11 : decode jdk_29_method_66_code 11 = .ok (.lreturn, 1) := by decide +kernel
theorem ef_rm5 (m : MethodId) (q0 : Int64) (q1 : Int64) : entryFrame m #[(.long q0), (.long q1)] 4 = mkF m 0 #[.val (.long q0), .second, .val (.long q1), .second] [] := by first | (simp [entryFrame, mkF, argsToLocals, Value.category, maxLocals]; done) | rfl
def rm5_Q (Z : State) (q0 : Int64) (q1 : Int64)  (h0 : Heap) (n0 : Nat) (v : Option Value) (h : Heap) (L : List Loc) : Prop := v = some (.long (own_max q0 q1)) ∧ Fr n0 L ∧ h = h0
set_option maxRecDepth 65536 in
set_option maxHeartbeats 40000000 in
theorem rm5 (l : Launch) (Z : State) (a0 : Array Value) (hw : ∀ d ∈ tables_1, d.before a0 Z = true) (ws : List Jvm.Cond) (q0 : Int64) (q1 : Int64)  (h0 : Heap) (n0 : Nat) (Z0 : n0 ≤ h0.size)  :
    MetFree l (⟨"java/lang/Math", "max", "(JJ)J"⟩ : MethodName) (head1 (Jvm.Cond.code (⟨"java/lang/Math", "max", "(JJ)J"⟩ : MethodName) jdk_29_method_66_code 4 (some .long) :: ws) ({ frames := 0, cells := 0, slots := 0, locals := 0 } : Room)) (fun a U => a = #[(.long q0), (.long q1)] ∧ Z.Warmed39 U.vm ∧ U.heap = h0) (fun _ _ _ _ _ => True) (fun _ U o U' => ∃ v L, o = .returned v ∧ rm5_Q Z q0 q1 h0 n0 v U'.heap L ∧ FrameEnd U o U' L ({ frames := 0, cells := 0, slots := 0, locals := 0 } : Room).cells ({ frames := 0, cells := 0, slots := 0, locals := 0 } : Room).slots) := by
  refine MetFree.of_bodySF (Jvm.Free.JP.mathPlain rfl (by decide +kernel)) hisR ?_
  intro p e s m args below meth c s₁ Bd hml0 hP hK
  obtain ⟨rfl, hZ, hh⟩ := hP
  have hx := Bd.exec
  have hby := Bd.bytes
  have hml : c.maxLocals = 4 := hml0
  have hown : s.vm.findClass "java/lang/Math" = some m.cls := findClass_of_methodNamed Bd.named
  have hnm := (name_of_methodNamed Bd.named Bd.method).1
  have X0 : Stand p l e ({ frames := 0, cells := 0, slots := 0, locals := 0 } : Room) s m #[(.long q0), (.long q1)] below meth c s₁ [] 0 0 := Stand.of_body Bd
  have e0 : s₁.heap = h0 := by rw [← hh, Bd.state]; rfl
  have N0 := Fr.nil n0
  refine own_enter (QQ := rm5_Q Z q0 q1 h0 n0) (ef_rm5 m q0 q1) ?_
  show own_Run p e below s _ _ _ s₁ (mkF m 0 #[.val (.long q0), .second, .val (.long q1), .second] [])
  refine own_step (T' := s₁) (g' := (mkF m 3 #[.val (.long q0), .second, .val (.long q1), .second] [(.int (lcmpW q0 q1))])) (fun t k => ?_) ?_
  · show Steps p.tables e below (s₁.setTop (mkF m 0 #[.val (.long q0), .second, .val (.long q1), .second] [])) _
    refine XS.lloadN X0.here hx rfl (hb hby d5_0) rfl ?_
    show Steps p.tables e below (s₁.setTop (mkF m 1 #[.val (.long q0), .second, .val (.long q1), .second] [(.long q0)])) _
    refine XS.lloadN X0.here hx rfl (hb hby d5_1) rfl ?_
    show Steps p.tables e below (s₁.setTop (mkF m 2 #[.val (.long q0), .second, .val (.long q1), .second] [(.long q1), (.long q0)])) _
    refine XS.lcmp X0.here hx rfl (hb hby d5_2) rfl ?_
    show Steps p.tables e below (s₁.setTop (mkF m 3 #[.val (.long q0), .second, .val (.long q1), .second] [(.int (lcmpW q0 q1))])) _
    exact k
  by_cases hc1 : (lcmpW q0 q1) < (0 : Int32)
  · skip
    refine own_step (T' := s₁) (g' := (mkF m 11 #[.val (.long q0), .second, .val (.long q1), .second] [(.long q1)])) (fun t k => ?_) ?_
    · show Steps p.tables e below (s₁.setTop (mkF m 3 #[.val (.long q0), .second, .val (.long q1), .second] [(.int (lcmpW q0 q1))])) _
      refine XS.ifYes X0.here hx rfl (pc0 := 3) (pc' := 10) rfl (hb hby d5_3) rfl ((if0 _ _).trans (tlt hc1).1) (by decide) (by decide) ?_
      show Steps p.tables e below (s₁.setTop (mkF m 10 #[.val (.long q0), .second, .val (.long q1), .second] [])) _
      refine XS.lloadN X0.here hx rfl (hb hby d5_10) rfl ?_
      show Steps p.tables e below (s₁.setTop (mkF m 11 #[.val (.long q0), .second, .val (.long q1), .second] [(.long q1)])) _
      exact k
    refine own_retJ X0 hx Bd.returns (hb hby d5_11) (BodyLoose.notSynchronized Bd) (by decide) (by decide) ?_
    rw [show s₁.heap = h0 from e0]
    exact ⟨by simp [own_max, hc1], N0, rfl⟩
  · skip
    refine own_step (T' := s₁) (g' := (mkF m 11 #[.val (.long q0), .second, .val (.long q1), .second] [(.long q0)])) (fun t k => ?_) ?_
    · show Steps p.tables e below (s₁.setTop (mkF m 3 #[.val (.long q0), .second, .val (.long q1), .second] [(.int (lcmpW q0 q1))])) _
      refine XS.ifNo X0.here hx rfl (hb hby d5_3) rfl ((if0 _ _).trans (flt hc1).1) ?_
      show Steps p.tables e below (s₁.setTop (mkF m 6 #[.val (.long q0), .second, .val (.long q1), .second] [])) _
      refine XS.lloadN X0.here hx rfl (hb hby d5_6) rfl ?_
      show Steps p.tables e below (s₁.setTop (mkF m 7 #[.val (.long q0), .second, .val (.long q1), .second] [(.long q0)])) _
      refine XS.goto X0.here hx rfl (pc0 := 7) (pc' := 11) rfl (hb hby d5_7) (by decide) (by decide) ?_
      show Steps p.tables e below (s₁.setTop (mkF m 11 #[.val (.long q0), .second, .val (.long q1), .second] [(.long q0)])) _
      exact k
    refine own_retJ X0 hx Bd.returns (hb hby d5_11) (BodyLoose.notSynchronized Bd) (by decide) (by decide) ?_
    rw [show s₁.heap = h0 from e0]
    exact ⟨by simp [own_max, hc1], N0, rfl⟩
def own_min (q0 q1 : Int64) : Int64 := if 0 < lcmpW q0 q1 then q1 else q0
theorem d6_0 : decode jdk_29_method_70_code 0 = .ok (.lload_n 0, 1) := by decide +kernel
theorem d6_1 : decode jdk_29_method_70_code 1 = .ok (.lload_n 2, 1) := by decide +kernel
theorem d6_2 : decode jdk_29_method_70_code 2 = .ok (.lcmp, 1) := by decide +kernel
theorem d6_3 : decode jdk_29_method_70_code 3 = .ok (.ifCond .gt 7, 3) := by decide +kernel
theorem d6_6 : decode jdk_29_method_70_code 6 = .ok (.lload_n 0, 1) := by decide +kernel
theorem d6_7 : decode jdk_29_method_70_code 7 = .ok (.goto 4, 3) := by decide +kernel
theorem d6_10 : decode jdk_29_method_70_code 10 = .ok (.lload_n 2, 1) := by decide +kernel
theorem d6_11 : decode jdk_29_method_70_code 11 = .ok (.lreturn, 1) := by decide +kernel
theorem ef_rm6 (m : MethodId) (q0 : Int64) (q1 : Int64) : entryFrame m #[(.long q0), (.long q1)] 4 = mkF m 0 #[.val (.long q0), .second, .val (.long q1), .second] [] := by first | (simp [entryFrame, mkF, argsToLocals, Value.category, maxLocals]; done) | rfl
def rm6_Q (Z : State) (q0 : Int64) (q1 : Int64)  (h0 : Heap) (n0 : Nat) (v : Option Value) (h : Heap) (L : List Loc) : Prop := v = some (.long (own_min q0 q1)) ∧ Fr n0 L ∧ h = h0
set_option maxRecDepth 65536 in
set_option maxHeartbeats 40000000 in
theorem rm6 (l : Launch) (Z : State) (a0 : Array Value) (hw : ∀ d ∈ tables_1, d.before a0 Z = true) (ws : List Jvm.Cond) (q0 : Int64) (q1 : Int64)  (h0 : Heap) (n0 : Nat) (Z0 : n0 ≤ h0.size)  :
    MetFree l (⟨"java/lang/Math", "min", "(JJ)J"⟩ : MethodName) (head1 (Jvm.Cond.code (⟨"java/lang/Math", "min", "(JJ)J"⟩ : MethodName) jdk_29_method_70_code 4 (some .long) :: ws) ({ frames := 0, cells := 0, slots := 0, locals := 0 } : Room)) (fun a U => a = #[(.long q0), (.long q1)] ∧ Z.Warmed39 U.vm ∧ U.heap = h0) (fun _ _ _ _ _ => True) (fun _ U o U' => ∃ v L, o = .returned v ∧ rm6_Q Z q0 q1 h0 n0 v U'.heap L ∧ FrameEnd U o U' L ({ frames := 0, cells := 0, slots := 0, locals := 0 } : Room).cells ({ frames := 0, cells := 0, slots := 0, locals := 0 } : Room).slots) := by
  refine MetFree.of_bodySF (Jvm.Free.JP.mathPlain rfl (by decide +kernel)) hisR ?_
  intro p e s m args below meth c s₁ Bd hml0 hP hK
  obtain ⟨rfl, hZ, hh⟩ := hP
  have hx := Bd.exec
  have hby := Bd.bytes
  have hml : c.maxLocals = 4 := hml0
  have hown : s.vm.findClass "java/lang/Math" = some m.cls := findClass_of_methodNamed Bd.named
  have hnm := (name_of_methodNamed Bd.named Bd.method).1
  have X0 : Stand p l e ({ frames := 0, cells := 0, slots := 0, locals := 0 } : Room) s m #[(.long q0), (.long q1)] below meth c s₁ [] 0 0 := Stand.of_body Bd
  have e0 : s₁.heap = h0 := by rw [← hh, Bd.state]; rfl
  have N0 := Fr.nil n0
  refine own_enter (QQ := rm6_Q Z q0 q1 h0 n0) (ef_rm6 m q0 q1) ?_
  show own_Run p e below s _ _ _ s₁ (mkF m 0 #[.val (.long q0), .second, .val (.long q1), .second] [])
  refine own_step (T' := s₁) (g' := (mkF m 3 #[.val (.long q0), .second, .val (.long q1), .second] [(.int (lcmpW q0 q1))])) (fun t k => ?_) ?_
  · show Steps p.tables e below (s₁.setTop (mkF m 0 #[.val (.long q0), .second, .val (.long q1), .second] [])) _
    refine XS.lloadN X0.here hx rfl (hb hby d6_0) rfl ?_
    show Steps p.tables e below (s₁.setTop (mkF m 1 #[.val (.long q0), .second, .val (.long q1), .second] [(.long q0)])) _
    refine XS.lloadN X0.here hx rfl (hb hby d6_1) rfl ?_
    show Steps p.tables e below (s₁.setTop (mkF m 2 #[.val (.long q0), .second, .val (.long q1), .second] [(.long q1), (.long q0)])) _
    refine XS.lcmp X0.here hx rfl (hb hby d6_2) rfl ?_
    show Steps p.tables e below (s₁.setTop (mkF m 3 #[.val (.long q0), .second, .val (.long q1), .second] [(.int (lcmpW q0 q1))])) _
    exact k
  by_cases hc1 : (0 : Int32) < (lcmpW q0 q1)
  · skip
    refine own_step (T' := s₁) (g' := (mkF m 11 #[.val (.long q0), .second, .val (.long q1), .second] [(.long q1)])) (fun t k => ?_) ?_
    · show Steps p.tables e below (s₁.setTop (mkF m 3 #[.val (.long q0), .second, .val (.long q1), .second] [(.int (lcmpW q0 q1))])) _
      refine XS.ifYes X0.here hx rfl (pc0 := 3) (pc' := 10) rfl (hb hby d6_3) rfl ((if0 _ _).trans (tlt hc1).2.2.1) (by decide) (by decide) ?_
      show Steps p.tables e below (s₁.setTop (mkF m 10 #[.val (.long q0), .second, .val (.long q1), .second] [])) _
      refine XS.lloadN X0.here hx rfl (hb hby d6_10) rfl ?_
      show Steps p.tables e below (s₁.setTop (mkF m 11 #[.val (.long q0), .second, .val (.long q1), .second] [(.long q1)])) _
      exact k
    refine own_retJ X0 hx Bd.returns (hb hby d6_11) (BodyLoose.notSynchronized Bd) (by decide) (by decide) ?_
    rw [show s₁.heap = h0 from e0]
    exact ⟨by simp [own_min, hc1], N0, rfl⟩
  · skip
    refine own_step (T' := s₁) (g' := (mkF m 11 #[.val (.long q0), .second, .val (.long q1), .second] [(.long q0)])) (fun t k => ?_) ?_
    · show Steps p.tables e below (s₁.setTop (mkF m 3 #[.val (.long q0), .second, .val (.long q1), .second] [(.int (lcmpW q0 q1))])) _
      refine XS.ifNo X0.here hx rfl (hb hby d6_3) rfl ((if0 _ _).trans (flt hc1).2.2.1) ?_
      show Steps p.tables e below (s₁.setTop (mkF m 6 #[.val (.long q0), .second, .val (.long q1), .second] [])) _
      refine XS.lloadN X0.here hx rfl (hb hby d6_6) rfl ?_
      show Steps p.tables e below (s₁.setTop (mkF m 7 #[.val (.long q0), .second, .val (.long q1), .second] [(.long q0)])) _
      refine XS.goto X0.here hx rfl (pc0 := 7) (pc' := 11) rfl (hb hby d6_7) (by decide) (by decide) ?_
      show Steps p.tables e below (s₁.setTop (mkF m 11 #[.val (.long q0), .second, .val (.long q1), .second] [(.long q0)])) _
      exact k
    refine own_retJ X0 hx Bd.returns (hb hby d6_11) (BodyLoose.notSynchronized Bd) (by decide) (by decide) ?_
    rw [show s₁.heap = h0 from e0]
    exact ⟨by simp [own_min, hc1], N0, rfl⟩
def own_park (q w : Int64) (p : Int32) : Int64 := if 0 < lcmpW q w then q - w else if p = 0 then q else 0
theorem d3_0 : decode prog_51_method_2_code 0 = .ok (.lload_n 1, 1) := by decide +kernel
theorem d3_1 : decode prog_51_method_2_code 1 = .ok (.aload_n 0, 1) := by decide +kernel
theorem d3_2 : decode prog_51_method_2_code 2 = .ok (.getfield 11, 3) := by decide +kernel
theorem d3_5 : decode prog_51_method_2_code 5 = .ok (.lcmp, 1) := by decide +kernel
theorem d3_6 : decode prog_51_method_2_code 6 = .ok (.ifCond .le 10, 3) := by decide +kernel
theorem d3_9 : decode prog_51_method_2_code 9 = .ok (.lload_n 1, 1) := by decide +kernel
theorem d3_10 : decode prog_51_method_2_code 10 = .ok (.aload_n 0, 1) := by decide +kernel
theorem d3_11 : decode prog_51_method_2_code 11 = .ok (.getfield 11, 3) := by decide +kernel
theorem d3_14 : decode prog_51_method_2_code 14 = .ok (.lsub, 1) := by decide +kernel
theorem d3_15 : decode prog_51_method_2_code 15 = .ok (.lreturn, 1) := by decide +kernel
theorem d3_16 : decode prog_51_method_2_code 16 = .ok (.iload_n 3, 1) := by decide +kernel
theorem d3_17 : decode prog_51_method_2_code 17 = .ok (.ifCond .eq 7, 3) := by decide +kernel
theorem d3_20 : decode prog_51_method_2_code 20 = .ok (.lconst 0, 1) := by decide +kernel
theorem d3_21 : decode prog_51_method_2_code 21 = .ok (.goto 4, 3) := by decide +kernel
theorem d3_24 : decode prog_51_method_2_code 24 = .ok (.lload_n 1, 1) := by decide +kernel
theorem d3_25 : decode prog_51_method_2_code 25 = .ok (.lreturn, 1) := by decide +kernel
theorem pn_rm3 : plainName "com/example/windlass/windlass/ParkLead" = true := by first | (simp [plainName, overriddenIn]; done) | decide +kernel
theorem ef_rm3 (m : MethodId) (o0 : Addr) (q1 : Int64) (p2 : Int32) : entryFrame m #[(.ref o0), (.long q1), (.int p2)] 4 = mkF m 0 #[.val (.ref o0), .val (.long q1), .second, .val (.int p2)] [] := by first | (simp [entryFrame, mkF, argsToLocals, Value.category, maxLocals]; done) | rfl
def rm3_Q (Z : State) (o0 : Addr) (q1 : Int64) (p2 : Int32) (w : Int64) (h0 : Heap) (n0 : Nat) (v : Option Value) (h : Heap) (L : List Loc) : Prop := v = some (.long (own_park q1 w p2)) ∧ Fr n0 L ∧ h = h0
set_option maxRecDepth 65536 in
set_option maxHeartbeats 40000000 in
theorem rm3 (l : Launch) (Z : State) (a0 : Array Value) (hw : ∀ d ∈ tables_1, d.before a0 Z = true) (ws : List Jvm.Cond) (o0 : Addr) (q1 : Int64) (p2 : Int32) (w : Int64) (h0 : Heap) (n0 : Nat) (Z0 : n0 ≤ h0.size) (E_o0 : Exa Z h0 o0 "com/example/windlass/windlass/ParkLead") (F_nanos_o0 : Fld Z h0 o0 "com/example/windlass/windlass/ParkLead" "nanos" "J" (.long w)) :
    MetFree l (⟨"com/example/windlass/windlass/ParkLead", "parkNanos", "(JZ)J"⟩ : MethodName) (head1 (Jvm.Cond.code (⟨"com/example/windlass/windlass/ParkLead", "parkNanos", "(JZ)J"⟩ : MethodName) prog_51_method_2_code 4 (some .long) :: ws) ({ frames := 0, cells := 0, slots := 0, locals := 0 } : Room)) (fun a U => a = #[(.ref o0), (.long q1), (.int p2)] ∧ Z.Warmed39 U.vm ∧ U.heap = h0) (fun _ _ _ _ _ => True) (fun _ U o U' => ∃ v L, o = .returned v ∧ rm3_Q Z o0 q1 p2 w h0 n0 v U'.heap L ∧ FrameEnd U o U' L ({ frames := 0, cells := 0, slots := 0, locals := 0 } : Room).cells ({ frames := 0, cells := 0, slots := 0, locals := 0 } : Room).slots) := by
  refine MetFree.of_bodySF (plainFor_of_name pn_rm3) hisR ?_
  intro p e s m args below meth c s₁ Bd hml0 hP hK
  obtain ⟨rfl, hZ, hh⟩ := hP
  have hx := Bd.exec
  have hby := Bd.bytes
  have hml : c.maxLocals = 4 := hml0
  have hown : s.vm.findClass "com/example/windlass/windlass/ParkLead" = some m.cls := findClass_of_methodNamed Bd.named
  have hnm := (name_of_methodNamed Bd.named Bd.method).1
  have X0 : Stand p l e ({ frames := 0, cells := 0, slots := 0, locals := 0 } : Room) s m #[(.ref o0), (.long q1), (.int p2)] below meth c s₁ [] 0 0 := Stand.of_body Bd
  have e0 : s₁.heap = h0 := by rw [← hh, Bd.state]; rfl
  have N0 := Fr.nil n0
  refine own_enter (QQ := rm3_Q Z o0 q1 p2 w h0 n0) (ef_rm3 m o0 q1 p2) ?_
  show own_Run p e below s _ _ _ s₁ (mkF m 0 #[.val (.ref o0), .val (.long q1), .second, .val (.int p2)] [])
  refine own_step (T' := s₁) (g' := (mkF m 2 #[.val (.ref o0), .val (.long q1), .second, .val (.int p2)] [(.ref o0), (.long q1)])) (fun t k => ?_) ?_
  · show Steps p.tables e below (s₁.setTop (mkF m 0 #[.val (.ref o0), .val (.long q1), .second, .val (.int p2)] [])) _
    refine XS.lloadN X0.here hx rfl (hb hby d3_0) rfl ?_
    show Steps p.tables e below (s₁.setTop (mkF m 1 #[.val (.ref o0), .val (.long q1), .second, .val (.int p2)] [(.long q1)])) _
    refine XS.aloadN X0.here hx rfl (hb hby d3_1) rfl rfl ?_
    show Steps p.tables e below (s₁.setTop (mkF m 2 #[.val (.ref o0), .val (.long q1), .second, .val (.int p2)] [(.ref o0), (.long q1)])) _
    exact k
  obtain ⟨T1, X1, e1, st1⟩ := getF X0 hx hZ hown (host := "") (Or.inl (hw _ (List.mem_of_getElem? (i := 10) rfl))) Via.refl e0 F_nanos_o0 (g := (mkF m 2 #[.val (.ref o0), .val (.long q1), .second, .val (.int p2)] [(.ref o0), (.long q1)])) rfl rfl (hb hby d3_2)
  refine own_step st1 ?_
  show own_Run p e below s _ _ _ T1 (mkF m 5 #[.val (.ref o0), .val (.long q1), .second, .val (.int p2)] [(.long w), (.long q1)])
  refine own_step (T' := T1) (g' := (mkF m 6 #[.val (.ref o0), .val (.long q1), .second, .val (.int p2)] [(.int (lcmpW q1 w))])) (fun t k => ?_) ?_
  · show Steps p.tables e below (T1.setTop (mkF m 5 #[.val (.ref o0), .val (.long q1), .second, .val (.int p2)] [(.long w), (.long q1)])) _
    refine XS.lcmp X1.here hx rfl (hb hby d3_5) rfl ?_
    show Steps p.tables e below (T1.setTop (mkF m 6 #[.val (.ref o0), .val (.long q1), .second, .val (.int p2)] [(.int (lcmpW q1 w))])) _
    exact k
  by_cases hc2 : (0 : Int32) < (lcmpW q1 w)
  · skip
    refine own_step (T' := T1) (g' := (mkF m 11 #[.val (.ref o0), .val (.long q1), .second, .val (.int p2)] [(.ref o0), (.long q1)])) (fun t k => ?_) ?_
    · show Steps p.tables e below (T1.setTop (mkF m 6 #[.val (.ref o0), .val (.long q1), .second, .val (.int p2)] [(.int (lcmpW q1 w))])) _
      refine XS.ifNo X1.here hx rfl (hb hby d3_6) rfl ((if0 _ _).trans (tlt hc2).2.2.2) ?_
      show Steps p.tables e below (T1.setTop (mkF m 9 #[.val (.ref o0), .val (.long q1), .second, .val (.int p2)] [])) _
      refine XS.lloadN X1.here hx rfl (hb hby d3_9) rfl ?_
      show Steps p.tables e below (T1.setTop (mkF m 10 #[.val (.ref o0), .val (.long q1), .second, .val (.int p2)] [(.long q1)])) _
      refine XS.aloadN X1.here hx rfl (hb hby d3_10) rfl rfl ?_
      show Steps p.tables e below (T1.setTop (mkF m 11 #[.val (.ref o0), .val (.long q1), .second, .val (.int p2)] [(.ref o0), (.long q1)])) _
      exact k
    obtain ⟨T3, X3, e3, st3⟩ := getF X1 hx hZ hown (host := "") (Or.inl (hw _ (List.mem_of_getElem? (i := 10) rfl))) Via.refl e1 F_nanos_o0 (g := (mkF m 11 #[.val (.ref o0), .val (.long q1), .second, .val (.int p2)] [(.ref o0), (.long q1)])) rfl rfl (hb hby d3_11)
    refine own_step st3 ?_
    show own_Run p e below s _ _ _ T3 (mkF m 14 #[.val (.ref o0), .val (.long q1), .second, .val (.int p2)] [(.long w), (.long q1)])
    refine own_step (T' := T3) (g' := (mkF m 15 #[.val (.ref o0), .val (.long q1), .second, .val (.int p2)] [(.long (q1 - w))])) (fun t k => ?_) ?_
    · show Steps p.tables e below (T3.setTop (mkF m 14 #[.val (.ref o0), .val (.long q1), .second, .val (.int p2)] [(.long w), (.long q1)])) _
      refine XS.lsub X3.here hx rfl (hb hby d3_14) rfl ?_
      show Steps p.tables e below (T3.setTop (mkF m 15 #[.val (.ref o0), .val (.long q1), .second, .val (.int p2)] [(.long (q1 - w))])) _
      exact k
    refine own_retJ X3 hx Bd.returns (hb hby d3_15) (BodyLoose.notSynchronized Bd) (by decide) (by decide) ?_
    rw [show T3.heap = h0 from e3]
    exact ⟨by simp [own_park, hc2], N0, rfl⟩
  · skip
    refine own_step (T' := T1) (g' := (mkF m 17 #[.val (.ref o0), .val (.long q1), .second, .val (.int p2)] [(.int p2)])) (fun t k => ?_) ?_
    · show Steps p.tables e below (T1.setTop (mkF m 6 #[.val (.ref o0), .val (.long q1), .second, .val (.int p2)] [(.int (lcmpW q1 w))])) _
      refine XS.ifYes X1.here hx rfl (pc0 := 6) (pc' := 16) rfl (hb hby d3_6) rfl ((if0 _ _).trans (flt hc2).2.2.2) (by decide) (by decide) ?_
      show Steps p.tables e below (T1.setTop (mkF m 16 #[.val (.ref o0), .val (.long q1), .second, .val (.int p2)] [])) _
      refine XS.iloadN X1.here hx rfl (hb hby d3_16) rfl ?_
      show Steps p.tables e below (T1.setTop (mkF m 17 #[.val (.ref o0), .val (.long q1), .second, .val (.int p2)] [(.int p2)])) _
      exact k
    by_cases hc4 : p2 = (0 : Int32)
    · skip
      refine own_step (T' := T1) (g' := (mkF m 25 #[.val (.ref o0), .val (.long q1), .second, .val (.int p2)] [(.long q1)])) (fun t k => ?_) ?_
      · show Steps p.tables e below (T1.setTop (mkF m 17 #[.val (.ref o0), .val (.long q1), .second, .val (.int p2)] [(.int p2)])) _
        refine XS.ifYes X1.here hx rfl (pc0 := 17) (pc' := 24) rfl (hb hby d3_17) rfl ((if0 _ _).trans (teq hc4).1) (by decide) (by decide) ?_
        show Steps p.tables e below (T1.setTop (mkF m 24 #[.val (.ref o0), .val (.long q1), .second, .val (.int p2)] [])) _
        refine XS.lloadN X1.here hx rfl (hb hby d3_24) rfl ?_
        show Steps p.tables e below (T1.setTop (mkF m 25 #[.val (.ref o0), .val (.long q1), .second, .val (.int p2)] [(.long q1)])) _
        exact k
      refine own_retJ X1 hx Bd.returns (hb hby d3_25) (BodyLoose.notSynchronized Bd) (by decide) (by decide) ?_
      rw [show T1.heap = h0 from e1]
      exact ⟨by simp [own_park, hc2, hc4], N0, rfl⟩
    · skip
      refine own_step (T' := T1) (g' := (mkF m 25 #[.val (.ref o0), .val (.long q1), .second, .val (.int p2)] [(.long (0 : Int64))])) (fun t k => ?_) ?_
      · show Steps p.tables e below (T1.setTop (mkF m 17 #[.val (.ref o0), .val (.long q1), .second, .val (.int p2)] [(.int p2)])) _
        refine XS.ifNo X1.here hx rfl (hb hby d3_17) rfl ((if0 _ _).trans (feq hc4).1) ?_
        show Steps p.tables e below (T1.setTop (mkF m 20 #[.val (.ref o0), .val (.long q1), .second, .val (.int p2)] [])) _
        refine XS.lconst X1.here hx rfl (hb hby d3_20) ?_
        show Steps p.tables e below (T1.setTop (mkF m 21 #[.val (.ref o0), .val (.long q1), .second, .val (.int p2)] [(.long (0 : Int64))])) _
        refine XS.goto X1.here hx rfl (pc0 := 21) (pc' := 25) rfl (hb hby d3_21) (by decide) (by decide) ?_
        show Steps p.tables e below (T1.setTop (mkF m 25 #[.val (.ref o0), .val (.long q1), .second, .val (.int p2)] [(.long (0 : Int64))])) _
        exact k
      refine own_retJ X1 hx Bd.returns (hb hby d3_25) (BodyLoose.notSynchronized Bd) (by decide) (by decide) ?_
      rw [show T1.heap = h0 from e1]
      exact ⟨by simp [own_park, hc2, hc4], N0, rfl⟩
def own_lead (q : Int64) : Int64 := if lcmpW q 50000 < 0 then 46775 else 50358
theorem d4_0 : decode prog_51_method_3_code 0 = .ok (.aload_n 0, 1) := by decide +kernel
theorem d4_1 : decode prog_51_method_3_code 1 = .ok (.getfield 11, 3) := by decide +kernel
theorem d4_4 : decode prog_51_method_3_code 4 = .ok (.iconst 4, 1) := by decide +kernel
theorem d4_5 : decode prog_51_method_3_code 5 = .ok (.lshr, 1) := by decide +kernel
theorem d4_6 : decode prog_51_method_3_code 6 = .ok (.ldc2_w 15, 3) := by decide +kernel
theorem d4_9 : decode prog_51_method_3_code 9 = .ok (.ladd, 1) := by decide +kernel
theorem d4_10 : decode prog_51_method_3_code 10 = .ok (.lstore_n 3, 1) := by decide +kernel
theorem d4_11 : decode prog_51_method_3_code 11 = .ok (.lload_n 1, 1) := by decide +kernel
theorem d4_12 : decode prog_51_method_3_code 12 = .ok (.aload_n 0, 1) := by decide +kernel
theorem d4_13 : decode prog_51_method_3_code 13 = .ok (.getfield 11, 3) := by decide +kernel
theorem d4_16 : decode prog_51_method_3_code 16 = .ok (.lcmp, 1) := by decide +kernel
theorem d4_17 : decode prog_51_method_3_code 17 = .ok (.ifCond .ge 20, 3) := by decide +kernel
theorem d4_20 : decode prog_51_method_3_code 20 = .ok (.aload_n 0, 1) := by decide +kernel
theorem d4_21 : decode prog_51_method_3_code 21 = .ok (.lconst 0, 1) := by decide +kernel
theorem d4_22 : decode prog_51_method_3_code 22 = .ok (.aload_n 0, 1) := by decide +kernel
theorem d4_23 : decode prog_51_method_3_code 23 = .ok (.getfield 11, 3) := by decide +kernel
theorem d4_26 : decode prog_51_method_3_code 26 = .ok (.lload_n 3, 1) := by decide +kernel
theorem d4_27 : decode prog_51_method_3_code 27 = .ok (.lsub, 1) := by decide +kernel
theorem d4_28 : decode prog_51_method_3_code 28 = .ok (.invokestatic 17, 3) := by decide +kernel
theorem d4_31 : decode prog_51_method_3_code 31 = .ok (.putfield 11, 3) := by decide +kernel
theorem d4_34 : decode prog_51_method_3_code 34 = .ok (.goto 23, 3) := by decide +kernel
theorem d4_37 : decode prog_51_method_3_code 37 = .ok (.aload_n 0, 1) := by decide +kernel
theorem d4_38 : decode prog_51_method_3_code 38 = .ok (.ldc2_w 23, 3) := by decide +kernel
theorem d4_41 : decode prog_51_method_3_code 41 = .ok (.aload_n 0, 1) := by decide +kernel
theorem d4_42 : decode prog_51_method_3_code 42 = .ok (.getfield 11, 3) := by decide +kernel
theorem d4_45 : decode prog_51_method_3_code 45 = .ok (.lload_n 3, 1) := by decide +kernel
theorem d4_46 : decode prog_51_method_3_code 46 = .ok (.ldc2_w 25, 3) := by decide +kernel
theorem d4_49 : decode prog_51_method_3_code 49 = .ok (.ldiv, 1) := by decide +kernel
theorem d4_50 : decode prog_51_method_3_code 50 = .ok (.ladd, 1) := by decide +kernel
theorem d4_51 : decode prog_51_method_3_code 51 = .ok (.invokestatic 27, 3) := by decide +kernel
theorem d4_54 : decode prog_51_method_3_code 54 = .ok (.putfield 11, 3) := by decide +kernel
theorem d4_57 : decode prog_51_method_3_code 57 = .ok (.return_, 1) := by decide +kernel
theorem pn_rm4 : plainName "com/example/windlass/windlass/ParkLead" = true := by first | (simp [plainName, overriddenIn]; done) | decide +kernel
theorem ef_rm4 (m : MethodId) (o0 : Addr) (q1 : Int64) : entryFrame m #[(.ref o0), (.long q1)] 5 = mkF m 0 #[.val (.ref o0), .val (.long q1), .second, .unset, .unset] [] := by first | (simp [entryFrame, mkF, argsToLocals, Value.category, maxLocals]; done) | rfl
def rm4_Q (Z : State) (o0 : Addr) (q1 : Int64)  (h0 : Heap) (n0 : Nat) (v : Option Value) (h : Heap) (L : List Loc) : Prop := v = none ∧ Fr n0 L ∧ Keep h0 h [o0] ∧ Exa Z h o0 "com/example/windlass/windlass/ParkLead" ∧ Fld Z h o0 "com/example/windlass/windlass/ParkLead" "nanos" "J" (.long (own_lead q1))
set_option maxRecDepth 65536 in
set_option maxHeartbeats 40000000 in
theorem rm4 (l : Launch) (Z : State) (a0 : Array Value) (hw : ∀ d ∈ tables_1, d.before a0 Z = true) (ws : List Jvm.Cond) (o0 : Addr) (q1 : Int64)  (h0 : Heap) (n0 : Nat) (Z0 : n0 ≤ h0.size) (E_o0 : Exa Z h0 o0 "com/example/windlass/windlass/ParkLead") (F_nanos_o0 : Fld Z h0 o0 "com/example/windlass/windlass/ParkLead" "nanos" "J" (.long (50000 : Int64))) (g_o0 : n0 ≤ o0) :
    MetFree l (⟨"com/example/windlass/windlass/ParkLead", "learn", "(J)V"⟩ : MethodName) (head1 (Jvm.Cond.code (⟨"com/example/windlass/windlass/ParkLead", "learn", "(J)V"⟩ : MethodName) prog_51_method_3_code 5 none :: ws) ({ frames := 1, cells := 0, slots := 0, locals := 16 } : Room)) (fun a U => a = #[(.ref o0), (.long q1)] ∧ Z.Warmed39 U.vm ∧ U.heap = h0) (fun _ _ _ _ _ => True) (fun _ U o U' => ∃ v L, o = .returned v ∧ rm4_Q Z o0 q1 h0 n0 v U'.heap L ∧ FrameEnd U o U' L ({ frames := 1, cells := 0, slots := 0, locals := 16 } : Room).cells ({ frames := 1, cells := 0, slots := 0, locals := 16 } : Room).slots) := by
  refine MetFree.of_bodySF (plainFor_of_name pn_rm4) hisR ?_
  intro p e s m args below meth c s₁ Bd hml0 hP hK
  obtain ⟨rfl, hZ, hh⟩ := hP
  have hx := Bd.exec
  have hby := Bd.bytes
  have hml : c.maxLocals = 5 := hml0
  have hown : s.vm.findClass "com/example/windlass/windlass/ParkLead" = some m.cls := findClass_of_methodNamed Bd.named
  have hnm := (name_of_methodNamed Bd.named Bd.method).1
  have X0 : Stand p l e ({ frames := 1, cells := 0, slots := 0, locals := 16 } : Room) s m #[(.ref o0), (.long q1)] below meth c s₁ [] 0 0 := Stand.of_body Bd
  have e0 : s₁.heap = h0 := by rw [← hh, Bd.state]; rfl
  have N0 := Fr.nil n0
  have K0 := Keep.refl h0 [o0]
  refine own_enter (QQ := rm4_Q Z o0 q1 h0 n0) (ef_rm4 m o0 q1) ?_
  show own_Run p e below s _ _ _ s₁ (mkF m 0 #[.val (.ref o0), .val (.long q1), .second, .unset, .unset] [])
  refine own_step (T' := s₁) (g' := (mkF m 1 #[.val (.ref o0), .val (.long q1), .second, .unset, .unset] [(.ref o0)])) (fun t k => ?_) ?_
  · show Steps p.tables e below (s₁.setTop (mkF m 0 #[.val (.ref o0), .val (.long q1), .second, .unset, .unset] [])) _
    refine XS.aloadN X0.here hx rfl (hb hby d4_0) rfl rfl ?_
    show Steps p.tables e below (s₁.setTop (mkF m 1 #[.val (.ref o0), .val (.long q1), .second, .unset, .unset] [(.ref o0)])) _
    exact k
  obtain ⟨T1, X1, e1, st1⟩ := getF X0 hx hZ hown (host := "") (Or.inl (hw _ (List.mem_of_getElem? (i := 10) rfl))) Via.refl e0 F_nanos_o0 (g := (mkF m 1 #[.val (.ref o0), .val (.long q1), .second, .unset, .unset] [(.ref o0)])) rfl rfl (hb hby d4_1)
  refine own_step st1 ?_
  show own_Run p e below s _ _ _ T1 (mkF m 4 #[.val (.ref o0), .val (.long q1), .second, .unset, .unset] [(.long (50000 : Int64))])
  refine own_step (T' := T1) (g' := (mkF m 13 #[.val (.ref o0), .val (.long q1), .second, .val (.long (((50000 : Int64) >>> ((4 : Int32) &&& 0x3f).toInt64) + (100 : Int64))), .second] [(.ref o0), (.long q1)])) (fun t k => ?_) ?_
  · show Steps p.tables e below (T1.setTop (mkF m 4 #[.val (.ref o0), .val (.long q1), .second, .unset, .unset] [(.long (50000 : Int64))])) _
    refine XS.iconst X1.here hx rfl (hb hby d4_4) ?_
    show Steps p.tables e below (T1.setTop (mkF m 5 #[.val (.ref o0), .val (.long q1), .second, .unset, .unset] [(.int (4 : Int32)), (.long (50000 : Int64))])) _
    refine XS.lshr X1.here hx rfl (hb hby d4_5) rfl ?_
    show Steps p.tables e below (T1.setTop (mkF m 6 #[.val (.ref o0), .val (.long q1), .second, .unset, .unset] [(.long ((50000 : Int64) >>> ((4 : Int32) &&& 0x3f).toInt64))])) _
    refine X1.ldc2Long hx hown (mvT hZ (hw _ (List.mem_of_getElem? (i := 24) rfl))) (g := (mkF m 6 #[.val (.ref o0), .val (.long q1), .second, .unset, .unset] [(.long ((50000 : Int64) >>> ((4 : Int32) &&& 0x3f).toInt64))])) rfl (hb hby d4_6) _ ?_
    show Steps p.tables e below (T1.setTop (mkF m 9 #[.val (.ref o0), .val (.long q1), .second, .unset, .unset] [(.long (100 : Int64)), (.long ((50000 : Int64) >>> ((4 : Int32) &&& 0x3f).toInt64))])) _
    refine XS.ladd X1.here hx rfl (hb hby d4_9) rfl ?_
    show Steps p.tables e below (T1.setTop (mkF m 10 #[.val (.ref o0), .val (.long q1), .second, .unset, .unset] [(.long (((50000 : Int64) >>> ((4 : Int32) &&& 0x3f).toInt64) + (100 : Int64)))])) _
    refine XS.lstoreN X1.here hx rfl (hb hby d4_10) rfl (l' := #[.val (.ref o0), .val (.long q1), .second, .val (.long (((50000 : Int64) >>> ((4 : Int32) &&& 0x3f).toInt64) + (100 : Int64))), .second]) rfl ?_
    show Steps p.tables e below (T1.setTop (mkF m 11 #[.val (.ref o0), .val (.long q1), .second, .val (.long (((50000 : Int64) >>> ((4 : Int32) &&& 0x3f).toInt64) + (100 : Int64))), .second] [])) _
    refine XS.lloadN X1.here hx rfl (hb hby d4_11) rfl ?_
    show Steps p.tables e below (T1.setTop (mkF m 12 #[.val (.ref o0), .val (.long q1), .second, .val (.long (((50000 : Int64) >>> ((4 : Int32) &&& 0x3f).toInt64) + (100 : Int64))), .second] [(.long q1)])) _
    refine XS.aloadN X1.here hx rfl (hb hby d4_12) rfl rfl ?_
    show Steps p.tables e below (T1.setTop (mkF m 13 #[.val (.ref o0), .val (.long q1), .second, .val (.long (((50000 : Int64) >>> ((4 : Int32) &&& 0x3f).toInt64) + (100 : Int64))), .second] [(.ref o0), (.long q1)])) _
    exact k
  obtain ⟨T2, X2, e2, st2⟩ := getF X1 hx hZ hown (host := "") (Or.inl (hw _ (List.mem_of_getElem? (i := 10) rfl))) Via.refl e1 F_nanos_o0 (g := (mkF m 13 #[.val (.ref o0), .val (.long q1), .second, .val (.long (((50000 : Int64) >>> ((4 : Int32) &&& 0x3f).toInt64) + (100 : Int64))), .second] [(.ref o0), (.long q1)])) rfl rfl (hb hby d4_13)
  refine own_step st2 ?_
  show own_Run p e below s _ _ _ T2 (mkF m 16 #[.val (.ref o0), .val (.long q1), .second, .val (.long (((50000 : Int64) >>> ((4 : Int32) &&& 0x3f).toInt64) + (100 : Int64))), .second] [(.long (50000 : Int64)), (.long q1)])
  refine own_step (T' := T2) (g' := (mkF m 17 #[.val (.ref o0), .val (.long q1), .second, .val (.long (((50000 : Int64) >>> ((4 : Int32) &&& 0x3f).toInt64) + (100 : Int64))), .second] [(.int (lcmpW q1 (50000 : Int64)))])) (fun t k => ?_) ?_
  · show Steps p.tables e below (T2.setTop (mkF m 16 #[.val (.ref o0), .val (.long q1), .second, .val (.long (((50000 : Int64) >>> ((4 : Int32) &&& 0x3f).toInt64) + (100 : Int64))), .second] [(.long (50000 : Int64)), (.long q1)])) _
    refine XS.lcmp X2.here hx rfl (hb hby d4_16) rfl ?_
    show Steps p.tables e below (T2.setTop (mkF m 17 #[.val (.ref o0), .val (.long q1), .second, .val (.long (((50000 : Int64) >>> ((4 : Int32) &&& 0x3f).toInt64) + (100 : Int64))), .second] [(.int (lcmpW q1 (50000 : Int64)))])) _
    exact k
  by_cases hc3 : (lcmpW q1 (50000 : Int64)) < (0 : Int32)
  · skip
    refine own_step (T' := T2) (g' := (mkF m 23 #[.val (.ref o0), .val (.long q1), .second, .val (.long (((50000 : Int64) >>> ((4 : Int32) &&& 0x3f).toInt64) + (100 : Int64))), .second] [(.ref o0), (.long (0 : Int64)), (.ref o0)])) (fun t k => ?_) ?_
    · show Steps p.tables e below (T2.setTop (mkF m 17 #[.val (.ref o0), .val (.long q1), .second, .val (.long (((50000 : Int64) >>> ((4 : Int32) &&& 0x3f).toInt64) + (100 : Int64))), .second] [(.int (lcmpW q1 (50000 : Int64)))])) _
      refine XS.ifNo X2.here hx rfl (hb hby d4_17) rfl ((if0 _ _).trans (tlt hc3).2.1) ?_
      show Steps p.tables e below (T2.setTop (mkF m 20 #[.val (.ref o0), .val (.long q1), .second, .val (.long (((50000 : Int64) >>> ((4 : Int32) &&& 0x3f).toInt64) + (100 : Int64))), .second] [])) _
      refine XS.aloadN X2.here hx rfl (hb hby d4_20) rfl rfl ?_
      show Steps p.tables e below (T2.setTop (mkF m 21 #[.val (.ref o0), .val (.long q1), .second, .val (.long (((50000 : Int64) >>> ((4 : Int32) &&& 0x3f).toInt64) + (100 : Int64))), .second] [(.ref o0)])) _
      refine XS.lconst X2.here hx rfl (hb hby d4_21) ?_
      show Steps p.tables e below (T2.setTop (mkF m 22 #[.val (.ref o0), .val (.long q1), .second, .val (.long (((50000 : Int64) >>> ((4 : Int32) &&& 0x3f).toInt64) + (100 : Int64))), .second] [(.long (0 : Int64)), (.ref o0)])) _
      refine XS.aloadN X2.here hx rfl (hb hby d4_22) rfl rfl ?_
      show Steps p.tables e below (T2.setTop (mkF m 23 #[.val (.ref o0), .val (.long q1), .second, .val (.long (((50000 : Int64) >>> ((4 : Int32) &&& 0x3f).toInt64) + (100 : Int64))), .second] [(.ref o0), (.long (0 : Int64)), (.ref o0)])) _
      exact k
    obtain ⟨T4, X4, e4, st4⟩ := getF X2 hx hZ hown (host := "") (Or.inl (hw _ (List.mem_of_getElem? (i := 10) rfl))) Via.refl e2 F_nanos_o0 (g := (mkF m 23 #[.val (.ref o0), .val (.long q1), .second, .val (.long (((50000 : Int64) >>> ((4 : Int32) &&& 0x3f).toInt64) + (100 : Int64))), .second] [(.ref o0), (.long (0 : Int64)), (.ref o0)])) rfl rfl (hb hby d4_23)
    refine own_step st4 ?_
    show own_Run p e below s _ _ _ T4 (mkF m 26 #[.val (.ref o0), .val (.long q1), .second, .val (.long (((50000 : Int64) >>> ((4 : Int32) &&& 0x3f).toInt64) + (100 : Int64))), .second] [(.long (50000 : Int64)), (.long (0 : Int64)), (.ref o0)])
    refine own_step (T' := T4) (g' := (mkF m 28 #[.val (.ref o0), .val (.long q1), .second, .val (.long (((50000 : Int64) >>> ((4 : Int32) &&& 0x3f).toInt64) + (100 : Int64))), .second] [(.long ((50000 : Int64) - (((50000 : Int64) >>> ((4 : Int32) &&& 0x3f).toInt64) + (100 : Int64)))), (.long (0 : Int64)), (.ref o0)])) (fun t k => ?_) ?_
    · show Steps p.tables e below (T4.setTop (mkF m 26 #[.val (.ref o0), .val (.long q1), .second, .val (.long (((50000 : Int64) >>> ((4 : Int32) &&& 0x3f).toInt64) + (100 : Int64))), .second] [(.long (50000 : Int64)), (.long (0 : Int64)), (.ref o0)])) _
      refine XS.lloadN X4.here hx rfl (hb hby d4_26) rfl ?_
      show Steps p.tables e below (T4.setTop (mkF m 27 #[.val (.ref o0), .val (.long q1), .second, .val (.long (((50000 : Int64) >>> ((4 : Int32) &&& 0x3f).toInt64) + (100 : Int64))), .second] [(.long (((50000 : Int64) >>> ((4 : Int32) &&& 0x3f).toInt64) + (100 : Int64))), (.long (50000 : Int64)), (.long (0 : Int64)), (.ref o0)])) _
      refine XS.lsub X4.here hx rfl (hb hby d4_27) rfl ?_
      show Steps p.tables e below (T4.setTop (mkF m 28 #[.val (.ref o0), .val (.long q1), .second, .val (.long (((50000 : Int64) >>> ((4 : Int32) &&& 0x3f).toInt64) + (100 : Int64))), .second] [(.long ((50000 : Int64) - (((50000 : Int64) >>> ((4 : Int32) &&& 0x3f).toInt64) + (100 : Int64)))), (.long (0 : Int64)), (.ref o0)])) _
      exact k
    obtain ⟨_, _, ⟨T5, L5, k5, n5⟩, -, X5, ⟨Lc5, hQ5, l5, y5, z5⟩, st5⟩ := Jvm.LawKit.callS X4 hx (y := (⟨"java/lang/Math", "max", "(JJ)J"⟩ : MethodName)) hown (mvT hZ (hw _ (List.mem_of_getElem? (i := 25) rfl))) (mvT hZ (hw _ (List.mem_of_getElem? (i := 26) rfl))) (mvT hZ (hw _ (List.mem_of_getElem? (i := 27) rfl))) (mvT hZ (hw _ (List.mem_of_getElem? (i := 28) rfl))) (by decide) (backOf (W := 1) (rm5 l Z a0 hw [] (0 : Int64) ((50000 : Int64) - (((50000 : Int64) >>> ((4 : Int32) &&& 0x3f).toInt64) + (100 : Int64)))  h0 n0 Z0) hZ (hw _ (List.mem_of_getElem? (i := 28) rfl)) (hw _ (List.mem_of_getElem? (i := 27) rfl)) (by decide) (by decide)) (g := (mkF m 28 #[.val (.ref o0), .val (.long q1), .second, .val (.long (((50000 : Int64) >>> ((4 : Int32) &&& 0x3f).toInt64) + (100 : Int64))), .second] [(.long ((50000 : Int64) - (((50000 : Int64) >>> ((4 : Int32) &&& 0x3f).toInt64) + (100 : Int64)))), (.long (0 : Int64)), (.ref o0)])) rfl (by rw [hml]; rfl) (argsL := [(.long (0 : Int64)), (.long ((50000 : Int64) - (((50000 : Int64) >>> ((4 : Int32) &&& 0x3f).toInt64) + (100 : Int64))))]) (rest := [(.ref o0)]) (lenOf pd_0 rfl) rfl (by show 2 * 0 + _ ≤ _; exact Nat.le_of_eq rfl) (hb hby d4_28) (fun _ _ => ⟨rfl, e4, (by decide : 0 + 0 ≤ _), (by decide : 0 + 0 ≤ _)⟩)
    dsimp only [Pt.U, Pt.locs, Pt.cells, Pt.slots] at X5 l5 y5 z5 st5 hQ5
    subst l5 y5 z5
    obtain ⟨rfl, N5q, eq5⟩ := hQ5
    have N5 := Fr.app N0 N5q
    refine own_step st5 ?_
    show own_Run p e below s _ _ _ T5 (mkF m 31 #[.val (.ref o0), .val (.long q1), .second, .val (.long (((50000 : Int64) >>> ((4 : Int32) &&& 0x3f).toInt64) + (100 : Int64))), .second] [(.long (own_max (0 : Int64) ((50000 : Int64) - (((50000 : Int64) >>> ((4 : Int32) &&& 0x3f).toInt64) + (100 : Int64))))), (.ref o0)])
    obtain ⟨T6, h6, X6, e6, W6, st6⟩ := putF X5 hx hZ hown (host := "") (Or.inl (hw _ (List.mem_of_getElem? (i := 10) rfl))) Via.refl eq5 F_nanos_o0 E_o0 (Or.inl (hw _ (List.mem_of_getElem? (i := 11) rfl))) (hw _ (List.mem_of_getElem? (i := 1) rfl)) (ty := .long) (by decide) rfl rfl (g := (mkF m 31 #[.val (.ref o0), .val (.long q1), .second, .val (.long (((50000 : Int64) >>> ((4 : Int32) &&& 0x3f).toInt64) + (100 : Int64))), .second] [(.long (own_max (0 : Int64) ((50000 : Int64) - (((50000 : Int64) >>> ((4 : Int32) &&& 0x3f).toInt64) + (100 : Int64))))), (.ref o0)])) rfl rfl (hb hby d4_31)
    have F7 := F_nanos_o0.same W6
    have A8 := E_o0.wr W6
    have Z9 := Nat.le_trans Z0 (Keep.of_wr W6).1
    have K6 := K0.wr W6 (Or.inl (List.mem_of_getElem? (i := 0) rfl))
    have N6 := Fr.snoc X6 N5 g_o0
    refine own_step st6 ?_
    show own_Run p e below s _ _ _ T6 (mkF m 34 #[.val (.ref o0), .val (.long q1), .second, .val (.long (((50000 : Int64) >>> ((4 : Int32) &&& 0x3f).toInt64) + (100 : Int64))), .second] [])
    refine own_step (T' := T6) (g' := (mkF m 57 #[.val (.ref o0), .val (.long q1), .second, .val (.long (((50000 : Int64) >>> ((4 : Int32) &&& 0x3f).toInt64) + (100 : Int64))), .second] [])) (fun t k => ?_) ?_
    · show Steps p.tables e below (T6.setTop (mkF m 34 #[.val (.ref o0), .val (.long q1), .second, .val (.long (((50000 : Int64) >>> ((4 : Int32) &&& 0x3f).toInt64) + (100 : Int64))), .second] [])) _
      refine XS.goto X6.here hx rfl (pc0 := 34) (pc' := 57) rfl (hb hby d4_34) (by decide) (by decide) ?_
      show Steps p.tables e below (T6.setTop (mkF m 57 #[.val (.ref o0), .val (.long q1), .second, .val (.long (((50000 : Int64) >>> ((4 : Int32) &&& 0x3f).toInt64) + (100 : Int64))), .second] [])) _
      exact k
    refine own_retV X6 hx Bd.returns (hb hby d4_57) (BodyLoose.notSynchronized Bd) (by decide) (by decide) ?_
    rw [show T6.heap = h6 from e6]
    have ev : (own_max (0 : Int64) ((50000 : Int64) - (((50000 : Int64) >>> ((4 : Int32) &&& 0x3f).toInt64) + (100 : Int64)))) = own_lead q1 := by rw [show own_lead q1 = 46775 from by simp [own_lead, hc3]]; decide +kernel
    rw [ev] at F7
    exact ⟨rfl, N6, K6, A8, F7⟩
  · skip
    refine own_step (T' := T2) (g' := (mkF m 42 #[.val (.ref o0), .val (.long q1), .second, .val (.long (((50000 : Int64) >>> ((4 : Int32) &&& 0x3f).toInt64) + (100 : Int64))), .second] [(.ref o0), (.long (1000000 : Int64)), (.ref o0)])) (fun t k => ?_) ?_
    · show Steps p.tables e below (T2.setTop (mkF m 17 #[.val (.ref o0), .val (.long q1), .second, .val (.long (((50000 : Int64) >>> ((4 : Int32) &&& 0x3f).toInt64) + (100 : Int64))), .second] [(.int (lcmpW q1 (50000 : Int64)))])) _
      refine XS.ifYes X2.here hx rfl (pc0 := 17) (pc' := 37) rfl (hb hby d4_17) rfl ((if0 _ _).trans (flt hc3).2.1) (by decide) (by decide) ?_
      show Steps p.tables e below (T2.setTop (mkF m 37 #[.val (.ref o0), .val (.long q1), .second, .val (.long (((50000 : Int64) >>> ((4 : Int32) &&& 0x3f).toInt64) + (100 : Int64))), .second] [])) _
      refine XS.aloadN X2.here hx rfl (hb hby d4_37) rfl rfl ?_
      show Steps p.tables e below (T2.setTop (mkF m 38 #[.val (.ref o0), .val (.long q1), .second, .val (.long (((50000 : Int64) >>> ((4 : Int32) &&& 0x3f).toInt64) + (100 : Int64))), .second] [(.ref o0)])) _
      refine X2.ldc2Long hx hown (mvT hZ (hw _ (List.mem_of_getElem? (i := 32) rfl))) (g := (mkF m 38 #[.val (.ref o0), .val (.long q1), .second, .val (.long (((50000 : Int64) >>> ((4 : Int32) &&& 0x3f).toInt64) + (100 : Int64))), .second] [(.ref o0)])) rfl (hb hby d4_38) _ ?_
      show Steps p.tables e below (T2.setTop (mkF m 41 #[.val (.ref o0), .val (.long q1), .second, .val (.long (((50000 : Int64) >>> ((4 : Int32) &&& 0x3f).toInt64) + (100 : Int64))), .second] [(.long (1000000 : Int64)), (.ref o0)])) _
      refine XS.aloadN X2.here hx rfl (hb hby d4_41) rfl rfl ?_
      show Steps p.tables e below (T2.setTop (mkF m 42 #[.val (.ref o0), .val (.long q1), .second, .val (.long (((50000 : Int64) >>> ((4 : Int32) &&& 0x3f).toInt64) + (100 : Int64))), .second] [(.ref o0), (.long (1000000 : Int64)), (.ref o0)])) _
      exact k
    obtain ⟨T10, X10, e10, st10⟩ := getF X2 hx hZ hown (host := "") (Or.inl (hw _ (List.mem_of_getElem? (i := 10) rfl))) Via.refl e2 F_nanos_o0 (g := (mkF m 42 #[.val (.ref o0), .val (.long q1), .second, .val (.long (((50000 : Int64) >>> ((4 : Int32) &&& 0x3f).toInt64) + (100 : Int64))), .second] [(.ref o0), (.long (1000000 : Int64)), (.ref o0)])) rfl rfl (hb hby d4_42)
    refine own_step st10 ?_
    show own_Run p e below s _ _ _ T10 (mkF m 45 #[.val (.ref o0), .val (.long q1), .second, .val (.long (((50000 : Int64) >>> ((4 : Int32) &&& 0x3f).toInt64) + (100 : Int64))), .second] [(.long (50000 : Int64)), (.long (1000000 : Int64)), (.ref o0)])
    refine own_step (T' := T10) (g' := (mkF m 51 #[.val (.ref o0), .val (.long q1), .second, .val (.long (((50000 : Int64) >>> ((4 : Int32) &&& 0x3f).toInt64) + (100 : Int64))), .second] [(.long ((50000 : Int64) + ((((50000 : Int64) >>> ((4 : Int32) &&& 0x3f).toInt64) + (100 : Int64)) / (9 : Int64)))), (.long (1000000 : Int64)), (.ref o0)])) (fun t k => ?_) ?_
    · show Steps p.tables e below (T10.setTop (mkF m 45 #[.val (.ref o0), .val (.long q1), .second, .val (.long (((50000 : Int64) >>> ((4 : Int32) &&& 0x3f).toInt64) + (100 : Int64))), .second] [(.long (50000 : Int64)), (.long (1000000 : Int64)), (.ref o0)])) _
      refine XS.lloadN X10.here hx rfl (hb hby d4_45) rfl ?_
      show Steps p.tables e below (T10.setTop (mkF m 46 #[.val (.ref o0), .val (.long q1), .second, .val (.long (((50000 : Int64) >>> ((4 : Int32) &&& 0x3f).toInt64) + (100 : Int64))), .second] [(.long (((50000 : Int64) >>> ((4 : Int32) &&& 0x3f).toInt64) + (100 : Int64))), (.long (50000 : Int64)), (.long (1000000 : Int64)), (.ref o0)])) _
      refine X10.ldc2Long hx hown (mvT hZ (hw _ (List.mem_of_getElem? (i := 33) rfl))) (g := (mkF m 46 #[.val (.ref o0), .val (.long q1), .second, .val (.long (((50000 : Int64) >>> ((4 : Int32) &&& 0x3f).toInt64) + (100 : Int64))), .second] [(.long (((50000 : Int64) >>> ((4 : Int32) &&& 0x3f).toInt64) + (100 : Int64))), (.long (50000 : Int64)), (.long (1000000 : Int64)), (.ref o0)])) rfl (hb hby d4_46) _ ?_
      show Steps p.tables e below (T10.setTop (mkF m 49 #[.val (.ref o0), .val (.long q1), .second, .val (.long (((50000 : Int64) >>> ((4 : Int32) &&& 0x3f).toInt64) + (100 : Int64))), .second] [(.long (9 : Int64)), (.long (((50000 : Int64) >>> ((4 : Int32) &&& 0x3f).toInt64) + (100 : Int64))), (.long (50000 : Int64)), (.long (1000000 : Int64)), (.ref o0)])) _
      refine XS.ldiv X10.here hx rfl (hb hby d4_49) rfl (by decide) ?_
      show Steps p.tables e below (T10.setTop (mkF m 50 #[.val (.ref o0), .val (.long q1), .second, .val (.long (((50000 : Int64) >>> ((4 : Int32) &&& 0x3f).toInt64) + (100 : Int64))), .second] [(.long ((((50000 : Int64) >>> ((4 : Int32) &&& 0x3f).toInt64) + (100 : Int64)) / (9 : Int64))), (.long (50000 : Int64)), (.long (1000000 : Int64)), (.ref o0)])) _
      refine XS.ladd X10.here hx rfl (hb hby d4_50) rfl ?_
      show Steps p.tables e below (T10.setTop (mkF m 51 #[.val (.ref o0), .val (.long q1), .second, .val (.long (((50000 : Int64) >>> ((4 : Int32) &&& 0x3f).toInt64) + (100 : Int64))), .second] [(.long ((50000 : Int64) + ((((50000 : Int64) >>> ((4 : Int32) &&& 0x3f).toInt64) + (100 : Int64)) / (9 : Int64)))), (.long (1000000 : Int64)), (.ref o0)])) _
      exact k
    obtain ⟨_, _, ⟨T11, L11, k11, n11⟩, -, X11, ⟨Lc11, hQ11, l11, y11, z11⟩, st11⟩ := Jvm.LawKit.callS X10 hx (y := (⟨"java/lang/Math", "min", "(JJ)J"⟩ : MethodName)) hown (mvT hZ (hw _ (List.mem_of_getElem? (i := 34) rfl))) (mvT hZ (hw _ (List.mem_of_getElem? (i := 35) rfl))) (mvT hZ (hw _ (List.mem_of_getElem? (i := 27) rfl))) (mvT hZ (hw _ (List.mem_of_getElem? (i := 36) rfl))) (by decide) (backOf (W := 1) (rm6 l Z a0 hw [] (1000000 : Int64) ((50000 : Int64) + ((((50000 : Int64) >>> ((4 : Int32) &&& 0x3f).toInt64) + (100 : Int64)) / (9 : Int64)))  h0 n0 Z0) hZ (hw _ (List.mem_of_getElem? (i := 36) rfl)) (hw _ (List.mem_of_getElem? (i := 27) rfl)) (by decide) (by decide)) (g := (mkF m 51 #[.val (.ref o0), .val (.long q1), .second, .val (.long (((50000 : Int64) >>> ((4 : Int32) &&& 0x3f).toInt64) + (100 : Int64))), .second] [(.long ((50000 : Int64) + ((((50000 : Int64) >>> ((4 : Int32) &&& 0x3f).toInt64) + (100 : Int64)) / (9 : Int64)))), (.long (1000000 : Int64)), (.ref o0)])) rfl (by rw [hml]; rfl) (argsL := [(.long (1000000 : Int64)), (.long ((50000 : Int64) + ((((50000 : Int64) >>> ((4 : Int32) &&& 0x3f).toInt64) + (100 : Int64)) / (9 : Int64))))]) (rest := [(.ref o0)]) (lenOf pd_0 rfl) rfl (by show 2 * 0 + _ ≤ _; exact Nat.le_of_eq rfl) (hb hby d4_51) (fun _ _ => ⟨rfl, e10, (by decide : 0 + 0 ≤ _), (by decide : 0 + 0 ≤ _)⟩)
    dsimp only [Pt.U, Pt.locs, Pt.cells, Pt.slots] at X11 l11 y11 z11 st11 hQ11
    subst l11 y11 z11
    obtain ⟨rfl, N11q, eq11⟩ := hQ11
    have N11 := Fr.app N0 N11q
    refine own_step st11 ?_
    show own_Run p e below s _ _ _ T11 (mkF m 54 #[.val (.ref o0), .val (.long q1), .second, .val (.long (((50000 : Int64) >>> ((4 : Int32) &&& 0x3f).toInt64) + (100 : Int64))), .second] [(.long (own_min (1000000 : Int64) ((50000 : Int64) + ((((50000 : Int64) >>> ((4 : Int32) &&& 0x3f).toInt64) + (100 : Int64)) / (9 : Int64))))), (.ref o0)])
    obtain ⟨T12, h12, X12, e12, W12, st12⟩ := putF X11 hx hZ hown (host := "") (Or.inl (hw _ (List.mem_of_getElem? (i := 10) rfl))) Via.refl eq11 F_nanos_o0 E_o0 (Or.inl (hw _ (List.mem_of_getElem? (i := 11) rfl))) (hw _ (List.mem_of_getElem? (i := 1) rfl)) (ty := .long) (by decide) rfl rfl (g := (mkF m 54 #[.val (.ref o0), .val (.long q1), .second, .val (.long (((50000 : Int64) >>> ((4 : Int32) &&& 0x3f).toInt64) + (100 : Int64))), .second] [(.long (own_min (1000000 : Int64) ((50000 : Int64) + ((((50000 : Int64) >>> ((4 : Int32) &&& 0x3f).toInt64) + (100 : Int64)) / (9 : Int64))))), (.ref o0)])) rfl rfl (hb hby d4_54)
    have F13 := F_nanos_o0.same W12
    have A14 := E_o0.wr W12
    have Z15 := Nat.le_trans Z0 (Keep.of_wr W12).1
    have K12 := K0.wr W12 (Or.inl (List.mem_of_getElem? (i := 0) rfl))
    have N12 := Fr.snoc X12 N11 g_o0
    refine own_step st12 ?_
    show own_Run p e below s _ _ _ T12 (mkF m 57 #[.val (.ref o0), .val (.long q1), .second, .val (.long (((50000 : Int64) >>> ((4 : Int32) &&& 0x3f).toInt64) + (100 : Int64))), .second] [])
    refine own_retV X12 hx Bd.returns (hb hby d4_57) (BodyLoose.notSynchronized Bd) (by decide) (by decide) ?_
    rw [show T12.heap = h12 from e12]
    have ev : (own_min (1000000 : Int64) ((50000 : Int64) + ((((50000 : Int64) >>> ((4 : Int32) &&& 0x3f).toInt64) + (100 : Int64)) / (9 : Int64)))) = own_lead q1 := by rw [show own_lead q1 = 50358 from by simp [own_lead, hc3]]; decide +kernel
    rw [ev] at F13
    exact ⟨rfl, N12, K12, A14, F13⟩
theorem own_fin1 {q w : Int64} {p : Int32} (h : 0 < lcmpW q w) : own_park q w p = q - w := by simp [own_park, h]
theorem own_fin2 {q w : Int64} {p : Int32} (h : ¬ 0 < lcmpW q w) (hp : p = 0) : own_park q w p = q := by simp [own_park, h, hp]
theorem own_fin3 {q w : Int64} {p : Int32} (h : ¬ 0 < lcmpW q w) (hp : ¬ p = 0) : own_park q w p = 0 := by simp [own_park, h, hp]
theorem pn_rm0 : plainName "com/example/windlass/windlass/ParkLeadParkNanosPinLaw" = true := by first | (simp [plainName, overriddenIn]; done) | decide +kernel
theorem ef_rm0 (m : MethodId) (q0 : Int64) (q1 : Int64) (p2 : Int32) : entryFrame m #[(.long q0), (.long q1), (.int p2)] maxLocals = mkF m 0 #[.val (.long q0), .second, .val (.long q1), .second, .val (.int p2), .unset, .unset, .unset, .unset, .unset, .unset, .unset, .unset, .unset, .unset, .unset, .unset] [] := by first | (simp [entryFrame, mkF, argsToLocals, Value.category, maxLocals]; done) | rfl
def rm0_Q (Z : State) (q0 : Int64) (q1 : Int64) (p2 : Int32)  (h0 : Heap) (n0 : Nat) (v : Option Value) (h : Heap) (L : List Loc) : Prop := v = some (.int (1 : Int32)) ∧ Fr n0 L
set_option maxRecDepth 65536 in
set_option maxHeartbeats 40000000 in
theorem rm0 (l : Launch) (Z : State) (a0 : Array Value) (hw : ∀ d ∈ tables_1, d.before a0 Z = true) (ws : List Jvm.Cond) (q0 : Int64) (q1 : Int64) (p2 : Int32)  (h0 : Heap) (n0 : Nat) (Z0 : n0 ≤ h0.size)  :
    MetFree l x (head1 (Jvm.Cond.code x code maxLocals ret :: ws) room_1) (fun a U => a = #[(.long q0), (.long q1), (.int p2)] ∧ Z.Warmed39 U.vm ∧ U.heap = h0) (fun _ _ _ _ _ => True) (fun _ U o U' => ∃ v L, o = .returned v ∧ rm0_Q Z q0 q1 p2 h0 n0 v U'.heap L ∧ FrameEnd U o U' L room_1.cells room_1.slots) := by
  refine MetFree.of_bodySF (plainFor_of_name pn_rm0) hisR ?_
  intro p e s m args below meth c s₁ Bd hml0 hP hK
  obtain ⟨rfl, hZ, hh⟩ := hP
  have hx := Bd.exec
  have hby := Bd.bytes
  have hml : c.maxLocals = 17 := hml0
  have hown : s.vm.findClass "com/example/windlass/windlass/ParkLeadParkNanosPinLaw" = some m.cls := findClass_of_methodNamed Bd.named
  have hnm := (name_of_methodNamed Bd.named Bd.method).1
  have X0 : Stand p l e room_1 s m #[(.long q0), (.long q1), (.int p2)] below meth c s₁ [] 0 0 := Stand.of_body Bd
  have e0 : s₁.heap = h0 := by rw [← hh, Bd.state]; rfl
  have N0 := Fr.nil n0
  refine own_enter (QQ := rm0_Q Z q0 q1 p2 h0 n0) (ef_rm0 m q0 q1 p2) ?_
  show own_Run p e below s _ _ _ s₁ (mkF m 0 #[.val (.long q0), .second, .val (.long q1), .second, .val (.int p2), .unset, .unset, .unset, .unset, .unset, .unset, .unset, .unset, .unset, .unset, .unset, .unset] [])
  refine own_step (T' := s₁) (g' := (mkF m 14 #[.val (.long q0), .second, .val (.long q1), .second, .val (.int p2), .val (.int (own_pick ((p2 &&& (1 : Int32)) = (0 : Int32)) (0 : Int32) (1 : Int32))), .unset, .unset, .unset, .unset, .unset, .unset, .unset, .unset, .unset, .unset, .unset] [])) (fun t k => ?_) ?_
  · show Steps p.tables e below (s₁.setTop (mkF m 0 #[.val (.long q0), .second, .val (.long q1), .second, .val (.int p2), .unset, .unset, .unset, .unset, .unset, .unset, .unset, .unset, .unset, .unset, .unset, .unset] [])) _
    refine XS.iload X0.here hx rfl (hb hby at_0) rfl ?_
    show Steps p.tables e below (s₁.setTop (mkF m 2 #[.val (.long q0), .second, .val (.long q1), .second, .val (.int p2), .unset, .unset, .unset, .unset, .unset, .unset, .unset, .unset, .unset, .unset, .unset, .unset] [(.int p2)])) _
    refine XS.iconst X0.here hx rfl (hb hby at_2) ?_
    show Steps p.tables e below (s₁.setTop (mkF m 3 #[.val (.long q0), .second, .val (.long q1), .second, .val (.int p2), .unset, .unset, .unset, .unset, .unset, .unset, .unset, .unset, .unset, .unset, .unset, .unset] [(.int (1 : Int32)), (.int p2)])) _
    refine XS.iand X0.here hx rfl (hb hby at_3) rfl ?_
    show Steps p.tables e below (s₁.setTop (mkF m 4 #[.val (.long q0), .second, .val (.long q1), .second, .val (.int p2), .unset, .unset, .unset, .unset, .unset, .unset, .unset, .unset, .unset, .unset, .unset, .unset] [(.int (p2 &&& (1 : Int32)))])) _
    refine own_mat_c_eq X0.here hx rfl (hb hby at_4) (hb hby at_7) (hb hby at_8) (hb hby at_11) ?_
    show Steps p.tables e below (s₁.setTop (mkF m 12 #[.val (.long q0), .second, .val (.long q1), .second, .val (.int p2), .unset, .unset, .unset, .unset, .unset, .unset, .unset, .unset, .unset, .unset, .unset, .unset] [(.int (own_pick ((p2 &&& (1 : Int32)) = (0 : Int32)) (0 : Int32) (1 : Int32)))])) _
    refine XS.istore X0.here hx rfl (hb hby at_12) rfl (l' := #[.val (.long q0), .second, .val (.long q1), .second, .val (.int p2), .val (.int (own_pick ((p2 &&& (1 : Int32)) = (0 : Int32)) (0 : Int32) (1 : Int32))), .unset, .unset, .unset, .unset, .unset, .unset, .unset, .unset, .unset, .unset, .unset]) rfl ?_
    show Steps p.tables e below (s₁.setTop (mkF m 14 #[.val (.long q0), .second, .val (.long q1), .second, .val (.int p2), .val (.int (own_pick ((p2 &&& (1 : Int32)) = (0 : Int32)) (0 : Int32) (1 : Int32))), .unset, .unset, .unset, .unset, .unset, .unset, .unset, .unset, .unset, .unset, .unset] [])) _
    exact k
  generalize e_f5 : (own_pick ((p2 &&& (1 : Int32)) = (0 : Int32)) (0 : Int32) (1 : Int32)) = f5
  show own_Run p e below s _ _ _ s₁ (mkF m 14 #[.val (.long q0), .second, .val (.long q1), .second, .val (.int p2), .val (.int f5), .unset, .unset, .unset, .unset, .unset, .unset, .unset, .unset, .unset, .unset, .unset] [])
  refine own_step (T' := s₁) (g' := (mkF m 28 #[.val (.long q0), .second, .val (.long q1), .second, .val (.int p2), .val (.int f5), .val (.int (own_pick ((p2 &&& (2 : Int32)) = (0 : Int32)) (0 : Int32) (1 : Int32))), .unset, .unset, .unset, .unset, .unset, .unset, .unset, .unset, .unset, .unset] [])) (fun t k => ?_) ?_
  · show Steps p.tables e below (s₁.setTop (mkF m 14 #[.val (.long q0), .second, .val (.long q1), .second, .val (.int p2), .val (.int f5), .unset, .unset, .unset, .unset, .unset, .unset, .unset, .unset, .unset, .unset, .unset] [])) _
    refine XS.iload X0.here hx rfl (hb hby at_14) rfl ?_
    show Steps p.tables e below (s₁.setTop (mkF m 16 #[.val (.long q0), .second, .val (.long q1), .second, .val (.int p2), .val (.int f5), .unset, .unset, .unset, .unset, .unset, .unset, .unset, .unset, .unset, .unset, .unset] [(.int p2)])) _
    refine XS.iconst X0.here hx rfl (hb hby at_16) ?_
    show Steps p.tables e below (s₁.setTop (mkF m 17 #[.val (.long q0), .second, .val (.long q1), .second, .val (.int p2), .val (.int f5), .unset, .unset, .unset, .unset, .unset, .unset, .unset, .unset, .unset, .unset, .unset] [(.int (2 : Int32)), (.int p2)])) _
    refine XS.iand X0.here hx rfl (hb hby at_17) rfl ?_
    show Steps p.tables e below (s₁.setTop (mkF m 18 #[.val (.long q0), .second, .val (.long q1), .second, .val (.int p2), .val (.int f5), .unset, .unset, .unset, .unset, .unset, .unset, .unset, .unset, .unset, .unset, .unset] [(.int (p2 &&& (2 : Int32)))])) _
    refine own_mat_c_eq X0.here hx rfl (hb hby at_18) (hb hby at_21) (hb hby at_22) (hb hby at_25) ?_
    show Steps p.tables e below (s₁.setTop (mkF m 26 #[.val (.long q0), .second, .val (.long q1), .second, .val (.int p2), .val (.int f5), .unset, .unset, .unset, .unset, .unset, .unset, .unset, .unset, .unset, .unset, .unset] [(.int (own_pick ((p2 &&& (2 : Int32)) = (0 : Int32)) (0 : Int32) (1 : Int32)))])) _
    refine XS.istore X0.here hx rfl (hb hby at_26) rfl (l' := #[.val (.long q0), .second, .val (.long q1), .second, .val (.int p2), .val (.int f5), .val (.int (own_pick ((p2 &&& (2 : Int32)) = (0 : Int32)) (0 : Int32) (1 : Int32))), .unset, .unset, .unset, .unset, .unset, .unset, .unset, .unset, .unset, .unset]) rfl ?_
    show Steps p.tables e below (s₁.setTop (mkF m 28 #[.val (.long q0), .second, .val (.long q1), .second, .val (.int p2), .val (.int f5), .val (.int (own_pick ((p2 &&& (2 : Int32)) = (0 : Int32)) (0 : Int32) (1 : Int32))), .unset, .unset, .unset, .unset, .unset, .unset, .unset, .unset, .unset, .unset] [])) _
    exact k
  generalize e_f6 : (own_pick ((p2 &&& (2 : Int32)) = (0 : Int32)) (0 : Int32) (1 : Int32)) = f6
  show own_Run p e below s _ _ _ s₁ (mkF m 28 #[.val (.long q0), .second, .val (.long q1), .second, .val (.int p2), .val (.int f5), .val (.int f6), .unset, .unset, .unset, .unset, .unset, .unset, .unset, .unset, .unset, .unset] [])
  refine own_step (T' := s₁) (g' := (mkF m 42 #[.val (.long q0), .second, .val (.long q1), .second, .val (.int p2), .val (.int f5), .val (.int f6), .val (.int (own_pick ((p2 &&& (4 : Int32)) = (0 : Int32)) (0 : Int32) (1 : Int32))), .unset, .unset, .unset, .unset, .unset, .unset, .unset, .unset, .unset] [])) (fun t k => ?_) ?_
  · show Steps p.tables e below (s₁.setTop (mkF m 28 #[.val (.long q0), .second, .val (.long q1), .second, .val (.int p2), .val (.int f5), .val (.int f6), .unset, .unset, .unset, .unset, .unset, .unset, .unset, .unset, .unset, .unset] [])) _
    refine XS.iload X0.here hx rfl (hb hby at_28) rfl ?_
    show Steps p.tables e below (s₁.setTop (mkF m 30 #[.val (.long q0), .second, .val (.long q1), .second, .val (.int p2), .val (.int f5), .val (.int f6), .unset, .unset, .unset, .unset, .unset, .unset, .unset, .unset, .unset, .unset] [(.int p2)])) _
    refine XS.iconst X0.here hx rfl (hb hby at_30) ?_
    show Steps p.tables e below (s₁.setTop (mkF m 31 #[.val (.long q0), .second, .val (.long q1), .second, .val (.int p2), .val (.int f5), .val (.int f6), .unset, .unset, .unset, .unset, .unset, .unset, .unset, .unset, .unset, .unset] [(.int (4 : Int32)), (.int p2)])) _
    refine XS.iand X0.here hx rfl (hb hby at_31) rfl ?_
    show Steps p.tables e below (s₁.setTop (mkF m 32 #[.val (.long q0), .second, .val (.long q1), .second, .val (.int p2), .val (.int f5), .val (.int f6), .unset, .unset, .unset, .unset, .unset, .unset, .unset, .unset, .unset, .unset] [(.int (p2 &&& (4 : Int32)))])) _
    refine own_mat_c_eq X0.here hx rfl (hb hby at_32) (hb hby at_35) (hb hby at_36) (hb hby at_39) ?_
    show Steps p.tables e below (s₁.setTop (mkF m 40 #[.val (.long q0), .second, .val (.long q1), .second, .val (.int p2), .val (.int f5), .val (.int f6), .unset, .unset, .unset, .unset, .unset, .unset, .unset, .unset, .unset, .unset] [(.int (own_pick ((p2 &&& (4 : Int32)) = (0 : Int32)) (0 : Int32) (1 : Int32)))])) _
    refine XS.istore X0.here hx rfl (hb hby at_40) rfl (l' := #[.val (.long q0), .second, .val (.long q1), .second, .val (.int p2), .val (.int f5), .val (.int f6), .val (.int (own_pick ((p2 &&& (4 : Int32)) = (0 : Int32)) (0 : Int32) (1 : Int32))), .unset, .unset, .unset, .unset, .unset, .unset, .unset, .unset, .unset]) rfl ?_
    show Steps p.tables e below (s₁.setTop (mkF m 42 #[.val (.long q0), .second, .val (.long q1), .second, .val (.int p2), .val (.int f5), .val (.int f6), .val (.int (own_pick ((p2 &&& (4 : Int32)) = (0 : Int32)) (0 : Int32) (1 : Int32))), .unset, .unset, .unset, .unset, .unset, .unset, .unset, .unset, .unset] [])) _
    exact k
  generalize e_f7 : (own_pick ((p2 &&& (4 : Int32)) = (0 : Int32)) (0 : Int32) (1 : Int32)) = f7
  show own_Run p e below s _ _ _ s₁ (mkF m 42 #[.val (.long q0), .second, .val (.long q1), .second, .val (.int p2), .val (.int f5), .val (.int f6), .val (.int f7), .unset, .unset, .unset, .unset, .unset, .unset, .unset, .unset, .unset] [])
  obtain ⟨T4, h4, X4, e4, E4, A4, D4, -, st4⟩ := newO X0 hx hZ hown (hw _ (List.mem_of_getElem? (i := 0) rfl)) (hw _ (List.mem_of_getElem? (i := 1) rfl)) (hw _ (List.mem_of_getElem? (i := 2) rfl)) e0 (g := (mkF m 42 #[.val (.long q0), .second, .val (.long q1), .second, .val (.int p2), .val (.int f5), .val (.int f6), .val (.int f7), .unset, .unset, .unset, .unset, .unset, .unset, .unset, .unset, .unset] [])) rfl (hb hby at_42) (by decide) (by decide)
  obtain ⟨b4, g4⟩ : ∃ z, z = h0.size := ⟨_, rfl⟩
  have g_b4 : n0 ≤ b4 := Nat.le_trans Z0 (Nat.le_of_eq g4.symm)
  rw [← g4] at A4 D4 st4
  have F5 : Fld Z h4 b4 "com/example/windlass/windlass/ParkLead" "nanos" "J" (.long (0 : Int64)) := D4 (Or.inl (hw _ (List.mem_of_getElem? (i := 11) rfl))) (ty := .long) (by decide)
  have Z6 := Nat.le_trans Z0 E4.1
  refine own_step st4 ?_
  show own_Run p e below s _ _ _ T4 (mkF m 45 #[.val (.long q0), .second, .val (.long q1), .second, .val (.int p2), .val (.int f5), .val (.int f6), .val (.int f7), .unset, .unset, .unset, .unset, .unset, .unset, .unset, .unset, .unset] [(.ref b4)])
  refine own_step (T' := T4) (g' := (mkF m 46 #[.val (.long q0), .second, .val (.long q1), .second, .val (.int p2), .val (.int f5), .val (.int f6), .val (.int f7), .unset, .unset, .unset, .unset, .unset, .unset, .unset, .unset, .unset] [(.ref b4), (.ref b4)])) (fun t k => ?_) ?_
  · show Steps p.tables e below (T4.setTop (mkF m 45 #[.val (.long q0), .second, .val (.long q1), .second, .val (.int p2), .val (.int f5), .val (.int f6), .val (.int f7), .unset, .unset, .unset, .unset, .unset, .unset, .unset, .unset, .unset] [(.ref b4)])) _
    refine XS.dup X4.here hx rfl (hb hby at_45) rfl rfl ?_
    show Steps p.tables e below (T4.setTop (mkF m 46 #[.val (.long q0), .second, .val (.long q1), .second, .val (.int p2), .val (.int f5), .val (.int f6), .val (.int f7), .unset, .unset, .unset, .unset, .unset, .unset, .unset, .unset, .unset] [(.ref b4), (.ref b4)])) _
    exact k
  obtain ⟨_, _, ⟨T7, L7, k7, n7⟩, -, X7, ⟨Lc7, hQ7, l7, y7, z7⟩, st7⟩ := X4.specialBack hx (y := (⟨"com/example/windlass/windlass/ParkLead", "<init>", "()V"⟩ : MethodName)) rfl hown (mvT hZ (hw _ (List.mem_of_getElem? (i := 3) rfl))) (mvT hZ (hw _ (List.mem_of_getElem? (i := 4) rfl))) (mvT hZ (hw _ (List.mem_of_getElem? (i := 5) rfl))) (by decide) (backOf (W := 1) (rm1 l Z a0 hw [] b4  h4 n0 Z6 A4 F5 g_b4) hZ (hw _ (List.mem_of_getElem? (i := 5) rfl)) (hw _ (List.mem_of_getElem? (i := 2) rfl)) (by decide) (by decide)) (g := (mkF m 46 #[.val (.long q0), .second, .val (.long q1), .second, .val (.int p2), .val (.int f5), .val (.int f6), .val (.int f7), .unset, .unset, .unset, .unset, .unset, .unset, .unset, .unset, .unset] [(.ref b4), (.ref b4)])) rfl (by rw [hml]; rfl) (Steps.refl _) (a := b4) (argsL := []) (rest := [(.ref b4)]) (lenOf pd_1 rfl) rfl (by show 2 * 0 + _ ≤ _; exact Nat.le_of_eq rfl) (hb hby at_46) (fun _ _ => ⟨rfl, e4, (by decide : 1 + 0 ≤ _), (by decide : 1 + 0 ≤ _)⟩)
  dsimp only [Pt.U, Pt.locs, Pt.cells, Pt.slots] at X7 l7 y7 z7 st7 hQ7
  subst l7 y7 z7
  obtain ⟨rfl, N7q, Kq7, Eq7, Fq7⟩ := hQ7
  have N7 := Fr.app N0 N7q
  refine own_step (fun t k => st7.trans k) ?_
  show own_Run p e below s _ _ _ T7 (mkF m 49 #[.val (.long q0), .second, .val (.long q1), .second, .val (.int p2), .val (.int f5), .val (.int f6), .val (.int f7), .unset, .unset, .unset, .unset, .unset, .unset, .unset, .unset, .unset] [(.ref b4)])
  have Z8 := Nat.le_trans Z6 Kq7.1
  refine own_step (T' := T7) (g' := (mkF m 58 #[.val (.long q0), .second, .val (.long q1), .second, .val (.int p2), .val (.int f5), .val (.int f6), .val (.int f7), .val (.ref b4), .val (.long (50000 : Int64)), .second, .unset, .unset, .unset, .unset, .unset, .unset] [(.int f7)])) (fun t k => ?_) ?_
  · show Steps p.tables e below (T7.setTop (mkF m 49 #[.val (.long q0), .second, .val (.long q1), .second, .val (.int p2), .val (.int f5), .val (.int f6), .val (.int f7), .unset, .unset, .unset, .unset, .unset, .unset, .unset, .unset, .unset] [(.ref b4)])) _
    refine XS.astore X7.here hx rfl (hb hby at_49) rfl rfl (l' := #[.val (.long q0), .second, .val (.long q1), .second, .val (.int p2), .val (.int f5), .val (.int f6), .val (.int f7), .val (.ref b4), .unset, .unset, .unset, .unset, .unset, .unset, .unset, .unset]) rfl ?_
    show Steps p.tables e below (T7.setTop (mkF m 51 #[.val (.long q0), .second, .val (.long q1), .second, .val (.int p2), .val (.int f5), .val (.int f6), .val (.int f7), .val (.ref b4), .unset, .unset, .unset, .unset, .unset, .unset, .unset, .unset] [])) _
    refine X7.ldc2Long hx hown (mvT hZ (hw _ (List.mem_of_getElem? (i := 12) rfl))) (g := (mkF m 51 #[.val (.long q0), .second, .val (.long q1), .second, .val (.int p2), .val (.int f5), .val (.int f6), .val (.int f7), .val (.ref b4), .unset, .unset, .unset, .unset, .unset, .unset, .unset, .unset] [])) rfl (hb hby at_51) _ ?_
    show Steps p.tables e below (T7.setTop (mkF m 54 #[.val (.long q0), .second, .val (.long q1), .second, .val (.int p2), .val (.int f5), .val (.int f6), .val (.int f7), .val (.ref b4), .unset, .unset, .unset, .unset, .unset, .unset, .unset, .unset] [(.long (50000 : Int64))])) _
    refine XS.lstore X7.here hx rfl (hb hby at_54) rfl (l' := #[.val (.long q0), .second, .val (.long q1), .second, .val (.int p2), .val (.int f5), .val (.int f6), .val (.int f7), .val (.ref b4), .val (.long (50000 : Int64)), .second, .unset, .unset, .unset, .unset, .unset, .unset]) rfl ?_
    show Steps p.tables e below (T7.setTop (mkF m 56 #[.val (.long q0), .second, .val (.long q1), .second, .val (.int p2), .val (.int f5), .val (.int f6), .val (.int f7), .val (.ref b4), .val (.long (50000 : Int64)), .second, .unset, .unset, .unset, .unset, .unset, .unset] [])) _
    refine XS.iload X7.here hx rfl (hb hby at_56) rfl ?_
    show Steps p.tables e below (T7.setTop (mkF m 58 #[.val (.long q0), .second, .val (.long q1), .second, .val (.int p2), .val (.int f5), .val (.int f6), .val (.int f7), .val (.ref b4), .val (.long (50000 : Int64)), .second, .unset, .unset, .unset, .unset, .unset, .unset] [(.int f7)])) _
    exact k
  by_cases hc9 : f7 = (0 : Int32)
  · skip
    refine own_step (T' := T7) (g' := (mkF m 99 #[.val (.long q0), .second, .val (.long q1), .second, .val (.int p2), .val (.int f5), .val (.int f6), .val (.int f7), .val (.ref b4), .val (.long (50000 : Int64)), .second, .unset, .unset, .unset, .unset, .unset, .unset] [(.int f6)])) (fun t k => ?_) ?_
    · show Steps p.tables e below (T7.setTop (mkF m 58 #[.val (.long q0), .second, .val (.long q1), .second, .val (.int p2), .val (.int f5), .val (.int f6), .val (.int f7), .val (.ref b4), .val (.long (50000 : Int64)), .second, .unset, .unset, .unset, .unset, .unset, .unset] [(.int f7)])) _
      refine XS.ifYes X7.here hx rfl (pc0 := 58) (pc' := 97) rfl (hb hby at_58) rfl ((if0 _ _).trans (teq hc9).1) (by decide) (by decide) ?_
      show Steps p.tables e below (T7.setTop (mkF m 97 #[.val (.long q0), .second, .val (.long q1), .second, .val (.int p2), .val (.int f5), .val (.int f6), .val (.int f7), .val (.ref b4), .val (.long (50000 : Int64)), .second, .unset, .unset, .unset, .unset, .unset, .unset] [])) _
      refine XS.iload X7.here hx rfl (hb hby at_97) rfl ?_
      show Steps p.tables e below (T7.setTop (mkF m 99 #[.val (.long q0), .second, .val (.long q1), .second, .val (.int p2), .val (.int f5), .val (.int f6), .val (.int f7), .val (.ref b4), .val (.long (50000 : Int64)), .second, .unset, .unset, .unset, .unset, .unset, .unset] [(.int f6)])) _
      exact k
    by_cases hc10 : f6 = (0 : Int32)
    · skip
      refine own_step (T' := T7) (g' := (mkF m 130 #[.val (.long q0), .second, .val (.long q1), .second, .val (.int p2), .val (.int f5), .val (.int f6), .val (.int f7), .val (.ref b4), .val (.long (50000 : Int64)), .second, .val (.long (q0 &&& (9223372036854775807 : Int64))), .second, .unset, .unset, .unset, .unset] [(.int (lcmpW (q0 &&& (9223372036854775807 : Int64)) (0 : Int64)))])) (fun t k => ?_) ?_
      · show Steps p.tables e below (T7.setTop (mkF m 99 #[.val (.long q0), .second, .val (.long q1), .second, .val (.int p2), .val (.int f5), .val (.int f6), .val (.int f7), .val (.ref b4), .val (.long (50000 : Int64)), .second, .unset, .unset, .unset, .unset, .unset, .unset] [(.int f6)])) _
        refine XS.ifYes X7.here hx rfl (pc0 := 99) (pc' := 119) rfl (hb hby at_99) rfl ((if0 _ _).trans (teq hc10).1) (by decide) (by decide) ?_
        show Steps p.tables e below (T7.setTop (mkF m 119 #[.val (.long q0), .second, .val (.long q1), .second, .val (.int p2), .val (.int f5), .val (.int f6), .val (.int f7), .val (.ref b4), .val (.long (50000 : Int64)), .second, .unset, .unset, .unset, .unset, .unset, .unset] [])) _
        refine XS.lloadN X7.here hx rfl (hb hby at_119) rfl ?_
        show Steps p.tables e below (T7.setTop (mkF m 120 #[.val (.long q0), .second, .val (.long q1), .second, .val (.int p2), .val (.int f5), .val (.int f6), .val (.int f7), .val (.ref b4), .val (.long (50000 : Int64)), .second, .unset, .unset, .unset, .unset, .unset, .unset] [(.long q0)])) _
        refine X7.ldc2Long hx hown (mvT hZ (hw _ (List.mem_of_getElem? (i := 13) rfl))) (g := (mkF m 120 #[.val (.long q0), .second, .val (.long q1), .second, .val (.int p2), .val (.int f5), .val (.int f6), .val (.int f7), .val (.ref b4), .val (.long (50000 : Int64)), .second, .unset, .unset, .unset, .unset, .unset, .unset] [(.long q0)])) rfl (hb hby at_120) _ ?_
        show Steps p.tables e below (T7.setTop (mkF m 123 #[.val (.long q0), .second, .val (.long q1), .second, .val (.int p2), .val (.int f5), .val (.int f6), .val (.int f7), .val (.ref b4), .val (.long (50000 : Int64)), .second, .unset, .unset, .unset, .unset, .unset, .unset] [(.long (9223372036854775807 : Int64)), (.long q0)])) _
        refine XS.land X7.here hx rfl (hb hby at_123) rfl ?_
        show Steps p.tables e below (T7.setTop (mkF m 124 #[.val (.long q0), .second, .val (.long q1), .second, .val (.int p2), .val (.int f5), .val (.int f6), .val (.int f7), .val (.ref b4), .val (.long (50000 : Int64)), .second, .unset, .unset, .unset, .unset, .unset, .unset] [(.long (q0 &&& (9223372036854775807 : Int64)))])) _
        refine XS.lstore X7.here hx rfl (hb hby at_124) rfl (l' := #[.val (.long q0), .second, .val (.long q1), .second, .val (.int p2), .val (.int f5), .val (.int f6), .val (.int f7), .val (.ref b4), .val (.long (50000 : Int64)), .second, .val (.long (q0 &&& (9223372036854775807 : Int64))), .second, .unset, .unset, .unset, .unset]) rfl ?_
        show Steps p.tables e below (T7.setTop (mkF m 126 #[.val (.long q0), .second, .val (.long q1), .second, .val (.int p2), .val (.int f5), .val (.int f6), .val (.int f7), .val (.ref b4), .val (.long (50000 : Int64)), .second, .val (.long (q0 &&& (9223372036854775807 : Int64))), .second, .unset, .unset, .unset, .unset] [])) _
        refine XS.lload X7.here hx rfl (hb hby at_126) rfl ?_
        show Steps p.tables e below (T7.setTop (mkF m 128 #[.val (.long q0), .second, .val (.long q1), .second, .val (.int p2), .val (.int f5), .val (.int f6), .val (.int f7), .val (.ref b4), .val (.long (50000 : Int64)), .second, .val (.long (q0 &&& (9223372036854775807 : Int64))), .second, .unset, .unset, .unset, .unset] [(.long (q0 &&& (9223372036854775807 : Int64)))])) _
        refine XS.lconst X7.here hx rfl (hb hby at_128) ?_
        show Steps p.tables e below (T7.setTop (mkF m 129 #[.val (.long q0), .second, .val (.long q1), .second, .val (.int p2), .val (.int f5), .val (.int f6), .val (.int f7), .val (.ref b4), .val (.long (50000 : Int64)), .second, .val (.long (q0 &&& (9223372036854775807 : Int64))), .second, .unset, .unset, .unset, .unset] [(.long (0 : Int64)), (.long (q0 &&& (9223372036854775807 : Int64)))])) _
        refine XS.lcmp X7.here hx rfl (hb hby at_129) rfl ?_
        show Steps p.tables e below (T7.setTop (mkF m 130 #[.val (.long q0), .second, .val (.long q1), .second, .val (.int p2), .val (.int f5), .val (.int f6), .val (.int f7), .val (.ref b4), .val (.long (50000 : Int64)), .second, .val (.long (q0 &&& (9223372036854775807 : Int64))), .second, .unset, .unset, .unset, .unset] [(.int (lcmpW (q0 &&& (9223372036854775807 : Int64)) (0 : Int64)))])) _
        exact k
      by_cases hc11 : (lcmpW (q0 &&& (9223372036854775807 : Int64)) (0 : Int64)) = (0 : Int32)
      · skip
        refine own_step (T' := T7) (g' := (mkF m 136 #[.val (.long q0), .second, .val (.long q1), .second, .val (.int p2), .val (.int f5), .val (.int f6), .val (.int f7), .val (.ref b4), .val (.long (50000 : Int64)), .second, .val (.long (1 : Int64)), .second, .unset, .unset, .unset, .unset] [])) (fun t k => ?_) ?_
        · show Steps p.tables e below (T7.setTop (mkF m 130 #[.val (.long q0), .second, .val (.long q1), .second, .val (.int p2), .val (.int f5), .val (.int f6), .val (.int f7), .val (.ref b4), .val (.long (50000 : Int64)), .second, .val (.long (q0 &&& (9223372036854775807 : Int64))), .second, .unset, .unset, .unset, .unset] [(.int (lcmpW (q0 &&& (9223372036854775807 : Int64)) (0 : Int64)))])) _
          refine XS.ifNo X7.here hx rfl (hb hby at_130) rfl ((if0 _ _).trans (teq hc11).2) ?_
          show Steps p.tables e below (T7.setTop (mkF m 133 #[.val (.long q0), .second, .val (.long q1), .second, .val (.int p2), .val (.int f5), .val (.int f6), .val (.int f7), .val (.ref b4), .val (.long (50000 : Int64)), .second, .val (.long (q0 &&& (9223372036854775807 : Int64))), .second, .unset, .unset, .unset, .unset] [])) _
          refine XS.lconst X7.here hx rfl (hb hby at_133) ?_
          show Steps p.tables e below (T7.setTop (mkF m 134 #[.val (.long q0), .second, .val (.long q1), .second, .val (.int p2), .val (.int f5), .val (.int f6), .val (.int f7), .val (.ref b4), .val (.long (50000 : Int64)), .second, .val (.long (q0 &&& (9223372036854775807 : Int64))), .second, .unset, .unset, .unset, .unset] [(.long (1 : Int64))])) _
          refine XS.lstore X7.here hx rfl (hb hby at_134) rfl (l' := #[.val (.long q0), .second, .val (.long q1), .second, .val (.int p2), .val (.int f5), .val (.int f6), .val (.int f7), .val (.ref b4), .val (.long (50000 : Int64)), .second, .val (.long (1 : Int64)), .second, .unset, .unset, .unset, .unset]) rfl ?_
          show Steps p.tables e below (T7.setTop (mkF m 136 #[.val (.long q0), .second, .val (.long q1), .second, .val (.int p2), .val (.int f5), .val (.int f6), .val (.int f7), .val (.ref b4), .val (.long (50000 : Int64)), .second, .val (.long (1 : Int64)), .second, .unset, .unset, .unset, .unset] [])) _
          exact k
        refine own_step (T' := T7) (g' := (mkF m 142 #[.val (.long q0), .second, .val (.long q1), .second, .val (.int p2), .val (.int f5), .val (.int f6), .val (.int f7), .val (.ref b4), .val (.long (50000 : Int64)), .second, .val (.long (1 : Int64)), .second, .unset, .unset, .unset, .unset] [(.int f5), (.long (1 : Int64)), (.ref b4)])) (fun t k => ?_) ?_
        · show Steps p.tables e below (T7.setTop (mkF m 136 #[.val (.long q0), .second, .val (.long q1), .second, .val (.int p2), .val (.int f5), .val (.int f6), .val (.int f7), .val (.ref b4), .val (.long (50000 : Int64)), .second, .val (.long (1 : Int64)), .second, .unset, .unset, .unset, .unset] [])) _
          refine XS.aload X7.here hx rfl (hb hby at_136) rfl rfl ?_
          show Steps p.tables e below (T7.setTop (mkF m 138 #[.val (.long q0), .second, .val (.long q1), .second, .val (.int p2), .val (.int f5), .val (.int f6), .val (.int f7), .val (.ref b4), .val (.long (50000 : Int64)), .second, .val (.long (1 : Int64)), .second, .unset, .unset, .unset, .unset] [(.ref b4)])) _
          refine XS.lload X7.here hx rfl (hb hby at_138) rfl ?_
          show Steps p.tables e below (T7.setTop (mkF m 140 #[.val (.long q0), .second, .val (.long q1), .second, .val (.int p2), .val (.int f5), .val (.int f6), .val (.int f7), .val (.ref b4), .val (.long (50000 : Int64)), .second, .val (.long (1 : Int64)), .second, .unset, .unset, .unset, .unset] [(.long (1 : Int64)), (.ref b4)])) _
          refine XS.iload X7.here hx rfl (hb hby at_140) rfl ?_
          show Steps p.tables e below (T7.setTop (mkF m 142 #[.val (.long q0), .second, .val (.long q1), .second, .val (.int p2), .val (.int f5), .val (.int f6), .val (.int f7), .val (.ref b4), .val (.long (50000 : Int64)), .second, .val (.long (1 : Int64)), .second, .unset, .unset, .unset, .unset] [(.int f5), (.long (1 : Int64)), (.ref b4)])) _
          exact k
        obtain ⟨cq12, kq12, q12a, q12b, q12c⟩ := isOf hZ rfl Eq7
        obtain ⟨_, _, ⟨T12, L12, k12, n12⟩, -, X12, ⟨Lc12, hQ12, l12, y12, z12⟩, st12⟩ := X7.virtualBack hx (y := (⟨"com/example/windlass/windlass/ParkLead", "parkNanos", "(JZ)J"⟩ : MethodName)) (z := (⟨"com/example/windlass/windlass/ParkLead", "parkNanos", "(JZ)J"⟩ : MethodName)) hown (mvT hZ (hw _ (List.mem_of_getElem? (i := 14) rfl))) (mvT hZ (hw _ (List.mem_of_getElem? (i := 15) rfl))) (notFace_of_selects (args := #[]) (mvT hZ (hw _ (List.mem_of_getElem? (i := 17) rfl)))) (mvT hZ (hw _ (List.mem_of_getElem? (i := 17) rfl))) (mvT hZ (hw _ (List.mem_of_getElem? (i := 16) rfl))) (by decide) (backOf (W := 0) (rm3 l Z a0 hw [] b4 (1 : Int64) f5 (50000 : Int64) T7.heap n0 Z8 Eq7 Fq7) hZ (hw _ (List.mem_of_getElem? (i := 18) rfl)) (hw _ (List.mem_of_getElem? (i := 2) rfl)) (by decide) (by decide)) q12a q12c (g := (mkF m 142 #[.val (.long q0), .second, .val (.long q1), .second, .val (.int p2), .val (.int f5), .val (.int f6), .val (.int f7), .val (.ref b4), .val (.long (50000 : Int64)), .second, .val (.long (1 : Int64)), .second, .unset, .unset, .unset, .unset] [(.int f5), (.long (1 : Int64)), (.ref b4)])) rfl (by rw [hml]; rfl) (Steps.refl _) (argsL := [(.long (1 : Int64)), (.int f5)]) (rest := []) (lenOf pd_2 rfl) rfl (by show 2 * 0 + _ ≤ _; exact Nat.le_of_eq rfl) (hb hby at_142) (fun _ _ => ⟨rfl, rfl, (by decide : 1 + 0 ≤ _), (by decide : 1 + 0 ≤ _)⟩)
        dsimp only [Pt.U, Pt.locs, Pt.cells, Pt.slots] at X12 l12 y12 z12 st12 hQ12
        subst l12 y12 z12
        obtain ⟨rfl, N12q, eq12⟩ := hQ12
        have N12 := Fr.app N7 N12q
        refine own_step (fun t k => st12.trans k) ?_
        show own_Run p e below s _ _ _ T12 (mkF m 145 #[.val (.long q0), .second, .val (.long q1), .second, .val (.int p2), .val (.int f5), .val (.int f6), .val (.int f7), .val (.ref b4), .val (.long (50000 : Int64)), .second, .val (.long (1 : Int64)), .second, .unset, .unset, .unset, .unset] [(.long (own_park (1 : Int64) (50000 : Int64) f5))])
        refine own_step (T' := T12) (g' := (mkF m 152 #[.val (.long q0), .second, .val (.long q1), .second, .val (.int p2), .val (.int f5), .val (.int f6), .val (.int f7), .val (.ref b4), .val (.long (50000 : Int64)), .second, .val (.long (1 : Int64)), .second, .val (.long (own_park (1 : Int64) (50000 : Int64) f5)), .second, .unset, .unset] [(.int (lcmpW (1 : Int64) (50000 : Int64)))])) (fun t k => ?_) ?_
        · show Steps p.tables e below (T12.setTop (mkF m 145 #[.val (.long q0), .second, .val (.long q1), .second, .val (.int p2), .val (.int f5), .val (.int f6), .val (.int f7), .val (.ref b4), .val (.long (50000 : Int64)), .second, .val (.long (1 : Int64)), .second, .unset, .unset, .unset, .unset] [(.long (own_park (1 : Int64) (50000 : Int64) f5))])) _
          refine XS.lstore X12.here hx rfl (hb hby at_145) rfl (l' := #[.val (.long q0), .second, .val (.long q1), .second, .val (.int p2), .val (.int f5), .val (.int f6), .val (.int f7), .val (.ref b4), .val (.long (50000 : Int64)), .second, .val (.long (1 : Int64)), .second, .val (.long (own_park (1 : Int64) (50000 : Int64) f5)), .second, .unset, .unset]) rfl ?_
          show Steps p.tables e below (T12.setTop (mkF m 147 #[.val (.long q0), .second, .val (.long q1), .second, .val (.int p2), .val (.int f5), .val (.int f6), .val (.int f7), .val (.ref b4), .val (.long (50000 : Int64)), .second, .val (.long (1 : Int64)), .second, .val (.long (own_park (1 : Int64) (50000 : Int64) f5)), .second, .unset, .unset] [])) _
          refine XS.lload X12.here hx rfl (hb hby at_147) rfl ?_
          show Steps p.tables e below (T12.setTop (mkF m 149 #[.val (.long q0), .second, .val (.long q1), .second, .val (.int p2), .val (.int f5), .val (.int f6), .val (.int f7), .val (.ref b4), .val (.long (50000 : Int64)), .second, .val (.long (1 : Int64)), .second, .val (.long (own_park (1 : Int64) (50000 : Int64) f5)), .second, .unset, .unset] [(.long (1 : Int64))])) _
          refine XS.lload X12.here hx rfl (hb hby at_149) rfl ?_
          show Steps p.tables e below (T12.setTop (mkF m 151 #[.val (.long q0), .second, .val (.long q1), .second, .val (.int p2), .val (.int f5), .val (.int f6), .val (.int f7), .val (.ref b4), .val (.long (50000 : Int64)), .second, .val (.long (1 : Int64)), .second, .val (.long (own_park (1 : Int64) (50000 : Int64) f5)), .second, .unset, .unset] [(.long (50000 : Int64)), (.long (1 : Int64))])) _
          refine XS.lcmp X12.here hx rfl (hb hby at_151) rfl ?_
          show Steps p.tables e below (T12.setTop (mkF m 152 #[.val (.long q0), .second, .val (.long q1), .second, .val (.int p2), .val (.int f5), .val (.int f6), .val (.int f7), .val (.ref b4), .val (.long (50000 : Int64)), .second, .val (.long (1 : Int64)), .second, .val (.long (own_park (1 : Int64) (50000 : Int64) f5)), .second, .unset, .unset] [(.int (lcmpW (1 : Int64) (50000 : Int64)))])) _
          exact k
        by_cases hc13 : (0 : Int32) < (lcmpW (1 : Int64) (50000 : Int64))
        · skip
          refine own_step (T' := T12) (g' := (mkF m 193 #[.val (.long q0), .second, .val (.long q1), .second, .val (.int p2), .val (.int f5), .val (.int f6), .val (.int f7), .val (.ref b4), .val (.long (50000 : Int64)), .second, .val (.long (1 : Int64)), .second, .val (.long (own_park (1 : Int64) (50000 : Int64) f5)), .second, .val (.long ((1 : Int64) - (50000 : Int64))), .second] [(.int (1 : Int32))])) (fun t k => ?_) ?_
          · show Steps p.tables e below (T12.setTop (mkF m 152 #[.val (.long q0), .second, .val (.long q1), .second, .val (.int p2), .val (.int f5), .val (.int f6), .val (.int f7), .val (.ref b4), .val (.long (50000 : Int64)), .second, .val (.long (1 : Int64)), .second, .val (.long (own_park (1 : Int64) (50000 : Int64) f5)), .second, .unset, .unset] [(.int (lcmpW (1 : Int64) (50000 : Int64)))])) _
            refine XS.ifYes X12.here hx rfl (pc0 := 152) (pc' := 173) rfl (hb hby at_152) rfl ((if0 _ _).trans (tlt hc13).2.2.1) (by decide) (by decide) ?_
            show Steps p.tables e below (T12.setTop (mkF m 173 #[.val (.long q0), .second, .val (.long q1), .second, .val (.int p2), .val (.int f5), .val (.int f6), .val (.int f7), .val (.ref b4), .val (.long (50000 : Int64)), .second, .val (.long (1 : Int64)), .second, .val (.long (own_park (1 : Int64) (50000 : Int64) f5)), .second, .unset, .unset] [])) _
            refine XS.lload X12.here hx rfl (hb hby at_173) rfl ?_
            show Steps p.tables e below (T12.setTop (mkF m 175 #[.val (.long q0), .second, .val (.long q1), .second, .val (.int p2), .val (.int f5), .val (.int f6), .val (.int f7), .val (.ref b4), .val (.long (50000 : Int64)), .second, .val (.long (1 : Int64)), .second, .val (.long (own_park (1 : Int64) (50000 : Int64) f5)), .second, .unset, .unset] [(.long (1 : Int64))])) _
            refine XS.lload X12.here hx rfl (hb hby at_175) rfl ?_
            show Steps p.tables e below (T12.setTop (mkF m 177 #[.val (.long q0), .second, .val (.long q1), .second, .val (.int p2), .val (.int f5), .val (.int f6), .val (.int f7), .val (.ref b4), .val (.long (50000 : Int64)), .second, .val (.long (1 : Int64)), .second, .val (.long (own_park (1 : Int64) (50000 : Int64) f5)), .second, .unset, .unset] [(.long (50000 : Int64)), (.long (1 : Int64))])) _
            refine XS.lsub X12.here hx rfl (hb hby at_177) rfl ?_
            show Steps p.tables e below (T12.setTop (mkF m 178 #[.val (.long q0), .second, .val (.long q1), .second, .val (.int p2), .val (.int f5), .val (.int f6), .val (.int f7), .val (.ref b4), .val (.long (50000 : Int64)), .second, .val (.long (1 : Int64)), .second, .val (.long (own_park (1 : Int64) (50000 : Int64) f5)), .second, .unset, .unset] [(.long ((1 : Int64) - (50000 : Int64)))])) _
            refine XS.lstore X12.here hx rfl (hb hby at_178) rfl (l' := #[.val (.long q0), .second, .val (.long q1), .second, .val (.int p2), .val (.int f5), .val (.int f6), .val (.int f7), .val (.ref b4), .val (.long (50000 : Int64)), .second, .val (.long (1 : Int64)), .second, .val (.long (own_park (1 : Int64) (50000 : Int64) f5)), .second, .val (.long ((1 : Int64) - (50000 : Int64))), .second]) rfl ?_
            show Steps p.tables e below (T12.setTop (mkF m 180 #[.val (.long q0), .second, .val (.long q1), .second, .val (.int p2), .val (.int f5), .val (.int f6), .val (.int f7), .val (.ref b4), .val (.long (50000 : Int64)), .second, .val (.long (1 : Int64)), .second, .val (.long (own_park (1 : Int64) (50000 : Int64) f5)), .second, .val (.long ((1 : Int64) - (50000 : Int64))), .second] [])) _
            refine XS.lload X12.here hx rfl (hb hby at_180) rfl ?_
            show Steps p.tables e below (T12.setTop (mkF m 182 #[.val (.long q0), .second, .val (.long q1), .second, .val (.int p2), .val (.int f5), .val (.int f6), .val (.int f7), .val (.ref b4), .val (.long (50000 : Int64)), .second, .val (.long (1 : Int64)), .second, .val (.long (own_park (1 : Int64) (50000 : Int64) f5)), .second, .val (.long ((1 : Int64) - (50000 : Int64))), .second] [(.long (own_park (1 : Int64) (50000 : Int64) f5))])) _
            refine XS.lload X12.here hx rfl (hb hby at_182) rfl ?_
            show Steps p.tables e below (T12.setTop (mkF m 184 #[.val (.long q0), .second, .val (.long q1), .second, .val (.int p2), .val (.int f5), .val (.int f6), .val (.int f7), .val (.ref b4), .val (.long (50000 : Int64)), .second, .val (.long (1 : Int64)), .second, .val (.long (own_park (1 : Int64) (50000 : Int64) f5)), .second, .val (.long ((1 : Int64) - (50000 : Int64))), .second] [(.long ((1 : Int64) - (50000 : Int64))), (.long (own_park (1 : Int64) (50000 : Int64) f5))])) _
            refine XS.lcmp X12.here hx rfl (hb hby at_184) rfl ?_
            show Steps p.tables e below (T12.setTop (mkF m 185 #[.val (.long q0), .second, .val (.long q1), .second, .val (.int p2), .val (.int f5), .val (.int f6), .val (.int f7), .val (.ref b4), .val (.long (50000 : Int64)), .second, .val (.long (1 : Int64)), .second, .val (.long (own_park (1 : Int64) (50000 : Int64) f5)), .second, .val (.long ((1 : Int64) - (50000 : Int64))), .second] [(.int (lcmpW (own_park (1 : Int64) (50000 : Int64) f5) ((1 : Int64) - (50000 : Int64))))])) _
            refine XS.ifNo X12.here hx rfl (hb hby at_185) rfl ((if0 _ _).trans (teq ((lw_eq _ _).mpr (own_fin1 hc13))).2) ?_
            show Steps p.tables e below (T12.setTop (mkF m 188 #[.val (.long q0), .second, .val (.long q1), .second, .val (.int p2), .val (.int f5), .val (.int f6), .val (.int f7), .val (.ref b4), .val (.long (50000 : Int64)), .second, .val (.long (1 : Int64)), .second, .val (.long (own_park (1 : Int64) (50000 : Int64) f5)), .second, .val (.long ((1 : Int64) - (50000 : Int64))), .second] [])) _
            refine XS.iconst X12.here hx rfl (hb hby at_188) ?_
            show Steps p.tables e below (T12.setTop (mkF m 189 #[.val (.long q0), .second, .val (.long q1), .second, .val (.int p2), .val (.int f5), .val (.int f6), .val (.int f7), .val (.ref b4), .val (.long (50000 : Int64)), .second, .val (.long (1 : Int64)), .second, .val (.long (own_park (1 : Int64) (50000 : Int64) f5)), .second, .val (.long ((1 : Int64) - (50000 : Int64))), .second] [(.int (1 : Int32))])) _
            refine XS.goto X12.here hx rfl (pc0 := 189) (pc' := 193) rfl (hb hby at_189) (by decide) (by decide) ?_
            show Steps p.tables e below (T12.setTop (mkF m 193 #[.val (.long q0), .second, .val (.long q1), .second, .val (.int p2), .val (.int f5), .val (.int f6), .val (.int f7), .val (.ref b4), .val (.long (50000 : Int64)), .second, .val (.long (1 : Int64)), .second, .val (.long (own_park (1 : Int64) (50000 : Int64) f5)), .second, .val (.long ((1 : Int64) - (50000 : Int64))), .second] [(.int (1 : Int32))])) _
            exact k
          refine own_retN X12 hx (t := .boolean) Bd.returns (by simp) (hb hby at_193) (BodyLoose.notSynchronized Bd) (by decide) (by decide) ?_
          rw [show T12.heap = T7.heap from eq12]
          exact ⟨rfl, N12⟩
        · skip
          refine own_step (T' := T12) (g' := (mkF m 157 #[.val (.long q0), .second, .val (.long q1), .second, .val (.int p2), .val (.int f5), .val (.int f6), .val (.int f7), .val (.ref b4), .val (.long (50000 : Int64)), .second, .val (.long (1 : Int64)), .second, .val (.long (own_park (1 : Int64) (50000 : Int64) f5)), .second, .unset, .unset] [(.int f5)])) (fun t k => ?_) ?_
          · show Steps p.tables e below (T12.setTop (mkF m 152 #[.val (.long q0), .second, .val (.long q1), .second, .val (.int p2), .val (.int f5), .val (.int f6), .val (.int f7), .val (.ref b4), .val (.long (50000 : Int64)), .second, .val (.long (1 : Int64)), .second, .val (.long (own_park (1 : Int64) (50000 : Int64) f5)), .second, .unset, .unset] [(.int (lcmpW (1 : Int64) (50000 : Int64)))])) _
            refine XS.ifNo X12.here hx rfl (hb hby at_152) rfl ((if0 _ _).trans (flt hc13).2.2.1) ?_
            show Steps p.tables e below (T12.setTop (mkF m 155 #[.val (.long q0), .second, .val (.long q1), .second, .val (.int p2), .val (.int f5), .val (.int f6), .val (.int f7), .val (.ref b4), .val (.long (50000 : Int64)), .second, .val (.long (1 : Int64)), .second, .val (.long (own_park (1 : Int64) (50000 : Int64) f5)), .second, .unset, .unset] [])) _
            refine XS.iload X12.here hx rfl (hb hby at_155) rfl ?_
            show Steps p.tables e below (T12.setTop (mkF m 157 #[.val (.long q0), .second, .val (.long q1), .second, .val (.int p2), .val (.int f5), .val (.int f6), .val (.int f7), .val (.ref b4), .val (.long (50000 : Int64)), .second, .val (.long (1 : Int64)), .second, .val (.long (own_park (1 : Int64) (50000 : Int64) f5)), .second, .unset, .unset] [(.int f5)])) _
            exact k
          by_cases hc15 : f5 = (0 : Int32)
          · skip
            refine own_step (T' := T12) (g' := (mkF m 193 #[.val (.long q0), .second, .val (.long q1), .second, .val (.int p2), .val (.int f5), .val (.int f6), .val (.int f7), .val (.ref b4), .val (.long (50000 : Int64)), .second, .val (.long (1 : Int64)), .second, .val (.long (own_park (1 : Int64) (50000 : Int64) f5)), .second, .val (.long (1 : Int64)), .second] [(.int (1 : Int32))])) (fun t k => ?_) ?_
            · show Steps p.tables e below (T12.setTop (mkF m 157 #[.val (.long q0), .second, .val (.long q1), .second, .val (.int p2), .val (.int f5), .val (.int f6), .val (.int f7), .val (.ref b4), .val (.long (50000 : Int64)), .second, .val (.long (1 : Int64)), .second, .val (.long (own_park (1 : Int64) (50000 : Int64) f5)), .second, .unset, .unset] [(.int f5)])) _
              refine XS.ifYes X12.here hx rfl (pc0 := 157) (pc' := 166) rfl (hb hby at_157) rfl ((if0 _ _).trans (teq hc15).1) (by decide) (by decide) ?_
              show Steps p.tables e below (T12.setTop (mkF m 166 #[.val (.long q0), .second, .val (.long q1), .second, .val (.int p2), .val (.int f5), .val (.int f6), .val (.int f7), .val (.ref b4), .val (.long (50000 : Int64)), .second, .val (.long (1 : Int64)), .second, .val (.long (own_park (1 : Int64) (50000 : Int64) f5)), .second, .unset, .unset] [])) _
              refine XS.lload X12.here hx rfl (hb hby at_166) rfl ?_
              show Steps p.tables e below (T12.setTop (mkF m 168 #[.val (.long q0), .second, .val (.long q1), .second, .val (.int p2), .val (.int f5), .val (.int f6), .val (.int f7), .val (.ref b4), .val (.long (50000 : Int64)), .second, .val (.long (1 : Int64)), .second, .val (.long (own_park (1 : Int64) (50000 : Int64) f5)), .second, .unset, .unset] [(.long (1 : Int64))])) _
              refine XS.lstore X12.here hx rfl (hb hby at_168) rfl (l' := #[.val (.long q0), .second, .val (.long q1), .second, .val (.int p2), .val (.int f5), .val (.int f6), .val (.int f7), .val (.ref b4), .val (.long (50000 : Int64)), .second, .val (.long (1 : Int64)), .second, .val (.long (own_park (1 : Int64) (50000 : Int64) f5)), .second, .val (.long (1 : Int64)), .second]) rfl ?_
              show Steps p.tables e below (T12.setTop (mkF m 170 #[.val (.long q0), .second, .val (.long q1), .second, .val (.int p2), .val (.int f5), .val (.int f6), .val (.int f7), .val (.ref b4), .val (.long (50000 : Int64)), .second, .val (.long (1 : Int64)), .second, .val (.long (own_park (1 : Int64) (50000 : Int64) f5)), .second, .val (.long (1 : Int64)), .second] [])) _
              refine XS.goto X12.here hx rfl (pc0 := 170) (pc' := 180) rfl (hb hby at_170) (by decide) (by decide) ?_
              show Steps p.tables e below (T12.setTop (mkF m 180 #[.val (.long q0), .second, .val (.long q1), .second, .val (.int p2), .val (.int f5), .val (.int f6), .val (.int f7), .val (.ref b4), .val (.long (50000 : Int64)), .second, .val (.long (1 : Int64)), .second, .val (.long (own_park (1 : Int64) (50000 : Int64) f5)), .second, .val (.long (1 : Int64)), .second] [])) _
              refine XS.lload X12.here hx rfl (hb hby at_180) rfl ?_
              show Steps p.tables e below (T12.setTop (mkF m 182 #[.val (.long q0), .second, .val (.long q1), .second, .val (.int p2), .val (.int f5), .val (.int f6), .val (.int f7), .val (.ref b4), .val (.long (50000 : Int64)), .second, .val (.long (1 : Int64)), .second, .val (.long (own_park (1 : Int64) (50000 : Int64) f5)), .second, .val (.long (1 : Int64)), .second] [(.long (own_park (1 : Int64) (50000 : Int64) f5))])) _
              refine XS.lload X12.here hx rfl (hb hby at_182) rfl ?_
              show Steps p.tables e below (T12.setTop (mkF m 184 #[.val (.long q0), .second, .val (.long q1), .second, .val (.int p2), .val (.int f5), .val (.int f6), .val (.int f7), .val (.ref b4), .val (.long (50000 : Int64)), .second, .val (.long (1 : Int64)), .second, .val (.long (own_park (1 : Int64) (50000 : Int64) f5)), .second, .val (.long (1 : Int64)), .second] [(.long (1 : Int64)), (.long (own_park (1 : Int64) (50000 : Int64) f5))])) _
              refine XS.lcmp X12.here hx rfl (hb hby at_184) rfl ?_
              show Steps p.tables e below (T12.setTop (mkF m 185 #[.val (.long q0), .second, .val (.long q1), .second, .val (.int p2), .val (.int f5), .val (.int f6), .val (.int f7), .val (.ref b4), .val (.long (50000 : Int64)), .second, .val (.long (1 : Int64)), .second, .val (.long (own_park (1 : Int64) (50000 : Int64) f5)), .second, .val (.long (1 : Int64)), .second] [(.int (lcmpW (own_park (1 : Int64) (50000 : Int64) f5) (1 : Int64)))])) _
              refine XS.ifNo X12.here hx rfl (hb hby at_185) rfl ((if0 _ _).trans (teq ((lw_eq _ _).mpr (own_fin2 hc13 hc15))).2) ?_
              show Steps p.tables e below (T12.setTop (mkF m 188 #[.val (.long q0), .second, .val (.long q1), .second, .val (.int p2), .val (.int f5), .val (.int f6), .val (.int f7), .val (.ref b4), .val (.long (50000 : Int64)), .second, .val (.long (1 : Int64)), .second, .val (.long (own_park (1 : Int64) (50000 : Int64) f5)), .second, .val (.long (1 : Int64)), .second] [])) _
              refine XS.iconst X12.here hx rfl (hb hby at_188) ?_
              show Steps p.tables e below (T12.setTop (mkF m 189 #[.val (.long q0), .second, .val (.long q1), .second, .val (.int p2), .val (.int f5), .val (.int f6), .val (.int f7), .val (.ref b4), .val (.long (50000 : Int64)), .second, .val (.long (1 : Int64)), .second, .val (.long (own_park (1 : Int64) (50000 : Int64) f5)), .second, .val (.long (1 : Int64)), .second] [(.int (1 : Int32))])) _
              refine XS.goto X12.here hx rfl (pc0 := 189) (pc' := 193) rfl (hb hby at_189) (by decide) (by decide) ?_
              show Steps p.tables e below (T12.setTop (mkF m 193 #[.val (.long q0), .second, .val (.long q1), .second, .val (.int p2), .val (.int f5), .val (.int f6), .val (.int f7), .val (.ref b4), .val (.long (50000 : Int64)), .second, .val (.long (1 : Int64)), .second, .val (.long (own_park (1 : Int64) (50000 : Int64) f5)), .second, .val (.long (1 : Int64)), .second] [(.int (1 : Int32))])) _
              exact k
            refine own_retN X12 hx (t := .boolean) Bd.returns (by simp) (hb hby at_193) (BodyLoose.notSynchronized Bd) (by decide) (by decide) ?_
            rw [show T12.heap = T7.heap from eq12]
            exact ⟨rfl, N12⟩
          · skip
            refine own_step (T' := T12) (g' := (mkF m 193 #[.val (.long q0), .second, .val (.long q1), .second, .val (.int p2), .val (.int f5), .val (.int f6), .val (.int f7), .val (.ref b4), .val (.long (50000 : Int64)), .second, .val (.long (1 : Int64)), .second, .val (.long (own_park (1 : Int64) (50000 : Int64) f5)), .second, .val (.long (0 : Int64)), .second] [(.int (1 : Int32))])) (fun t k => ?_) ?_
            · show Steps p.tables e below (T12.setTop (mkF m 157 #[.val (.long q0), .second, .val (.long q1), .second, .val (.int p2), .val (.int f5), .val (.int f6), .val (.int f7), .val (.ref b4), .val (.long (50000 : Int64)), .second, .val (.long (1 : Int64)), .second, .val (.long (own_park (1 : Int64) (50000 : Int64) f5)), .second, .unset, .unset] [(.int f5)])) _
              refine XS.ifNo X12.here hx rfl (hb hby at_157) rfl ((if0 _ _).trans (feq hc15).1) ?_
              show Steps p.tables e below (T12.setTop (mkF m 160 #[.val (.long q0), .second, .val (.long q1), .second, .val (.int p2), .val (.int f5), .val (.int f6), .val (.int f7), .val (.ref b4), .val (.long (50000 : Int64)), .second, .val (.long (1 : Int64)), .second, .val (.long (own_park (1 : Int64) (50000 : Int64) f5)), .second, .unset, .unset] [])) _
              refine XS.lconst X12.here hx rfl (hb hby at_160) ?_
              show Steps p.tables e below (T12.setTop (mkF m 161 #[.val (.long q0), .second, .val (.long q1), .second, .val (.int p2), .val (.int f5), .val (.int f6), .val (.int f7), .val (.ref b4), .val (.long (50000 : Int64)), .second, .val (.long (1 : Int64)), .second, .val (.long (own_park (1 : Int64) (50000 : Int64) f5)), .second, .unset, .unset] [(.long (0 : Int64))])) _
              refine XS.lstore X12.here hx rfl (hb hby at_161) rfl (l' := #[.val (.long q0), .second, .val (.long q1), .second, .val (.int p2), .val (.int f5), .val (.int f6), .val (.int f7), .val (.ref b4), .val (.long (50000 : Int64)), .second, .val (.long (1 : Int64)), .second, .val (.long (own_park (1 : Int64) (50000 : Int64) f5)), .second, .val (.long (0 : Int64)), .second]) rfl ?_
              show Steps p.tables e below (T12.setTop (mkF m 163 #[.val (.long q0), .second, .val (.long q1), .second, .val (.int p2), .val (.int f5), .val (.int f6), .val (.int f7), .val (.ref b4), .val (.long (50000 : Int64)), .second, .val (.long (1 : Int64)), .second, .val (.long (own_park (1 : Int64) (50000 : Int64) f5)), .second, .val (.long (0 : Int64)), .second] [])) _
              refine XS.goto X12.here hx rfl (pc0 := 163) (pc' := 180) rfl (hb hby at_163) (by decide) (by decide) ?_
              show Steps p.tables e below (T12.setTop (mkF m 180 #[.val (.long q0), .second, .val (.long q1), .second, .val (.int p2), .val (.int f5), .val (.int f6), .val (.int f7), .val (.ref b4), .val (.long (50000 : Int64)), .second, .val (.long (1 : Int64)), .second, .val (.long (own_park (1 : Int64) (50000 : Int64) f5)), .second, .val (.long (0 : Int64)), .second] [])) _
              refine XS.lload X12.here hx rfl (hb hby at_180) rfl ?_
              show Steps p.tables e below (T12.setTop (mkF m 182 #[.val (.long q0), .second, .val (.long q1), .second, .val (.int p2), .val (.int f5), .val (.int f6), .val (.int f7), .val (.ref b4), .val (.long (50000 : Int64)), .second, .val (.long (1 : Int64)), .second, .val (.long (own_park (1 : Int64) (50000 : Int64) f5)), .second, .val (.long (0 : Int64)), .second] [(.long (own_park (1 : Int64) (50000 : Int64) f5))])) _
              refine XS.lload X12.here hx rfl (hb hby at_182) rfl ?_
              show Steps p.tables e below (T12.setTop (mkF m 184 #[.val (.long q0), .second, .val (.long q1), .second, .val (.int p2), .val (.int f5), .val (.int f6), .val (.int f7), .val (.ref b4), .val (.long (50000 : Int64)), .second, .val (.long (1 : Int64)), .second, .val (.long (own_park (1 : Int64) (50000 : Int64) f5)), .second, .val (.long (0 : Int64)), .second] [(.long (0 : Int64)), (.long (own_park (1 : Int64) (50000 : Int64) f5))])) _
              refine XS.lcmp X12.here hx rfl (hb hby at_184) rfl ?_
              show Steps p.tables e below (T12.setTop (mkF m 185 #[.val (.long q0), .second, .val (.long q1), .second, .val (.int p2), .val (.int f5), .val (.int f6), .val (.int f7), .val (.ref b4), .val (.long (50000 : Int64)), .second, .val (.long (1 : Int64)), .second, .val (.long (own_park (1 : Int64) (50000 : Int64) f5)), .second, .val (.long (0 : Int64)), .second] [(.int (lcmpW (own_park (1 : Int64) (50000 : Int64) f5) (0 : Int64)))])) _
              refine XS.ifNo X12.here hx rfl (hb hby at_185) rfl ((if0 _ _).trans (teq ((lw_eq _ _).mpr (own_fin3 hc13 hc15))).2) ?_
              show Steps p.tables e below (T12.setTop (mkF m 188 #[.val (.long q0), .second, .val (.long q1), .second, .val (.int p2), .val (.int f5), .val (.int f6), .val (.int f7), .val (.ref b4), .val (.long (50000 : Int64)), .second, .val (.long (1 : Int64)), .second, .val (.long (own_park (1 : Int64) (50000 : Int64) f5)), .second, .val (.long (0 : Int64)), .second] [])) _
              refine XS.iconst X12.here hx rfl (hb hby at_188) ?_
              show Steps p.tables e below (T12.setTop (mkF m 189 #[.val (.long q0), .second, .val (.long q1), .second, .val (.int p2), .val (.int f5), .val (.int f6), .val (.int f7), .val (.ref b4), .val (.long (50000 : Int64)), .second, .val (.long (1 : Int64)), .second, .val (.long (own_park (1 : Int64) (50000 : Int64) f5)), .second, .val (.long (0 : Int64)), .second] [(.int (1 : Int32))])) _
              refine XS.goto X12.here hx rfl (pc0 := 189) (pc' := 193) rfl (hb hby at_189) (by decide) (by decide) ?_
              show Steps p.tables e below (T12.setTop (mkF m 193 #[.val (.long q0), .second, .val (.long q1), .second, .val (.int p2), .val (.int f5), .val (.int f6), .val (.int f7), .val (.ref b4), .val (.long (50000 : Int64)), .second, .val (.long (1 : Int64)), .second, .val (.long (own_park (1 : Int64) (50000 : Int64) f5)), .second, .val (.long (0 : Int64)), .second] [(.int (1 : Int32))])) _
              exact k
            refine own_retN X12 hx (t := .boolean) Bd.returns (by simp) (hb hby at_193) (BodyLoose.notSynchronized Bd) (by decide) (by decide) ?_
            rw [show T12.heap = T7.heap from eq12]
            exact ⟨rfl, N12⟩
      · skip
        refine own_step (T' := T7) (g' := (mkF m 136 #[.val (.long q0), .second, .val (.long q1), .second, .val (.int p2), .val (.int f5), .val (.int f6), .val (.int f7), .val (.ref b4), .val (.long (50000 : Int64)), .second, .val (.long (q0 &&& (9223372036854775807 : Int64))), .second, .unset, .unset, .unset, .unset] [])) (fun t k => ?_) ?_
        · show Steps p.tables e below (T7.setTop (mkF m 130 #[.val (.long q0), .second, .val (.long q1), .second, .val (.int p2), .val (.int f5), .val (.int f6), .val (.int f7), .val (.ref b4), .val (.long (50000 : Int64)), .second, .val (.long (q0 &&& (9223372036854775807 : Int64))), .second, .unset, .unset, .unset, .unset] [(.int (lcmpW (q0 &&& (9223372036854775807 : Int64)) (0 : Int64)))])) _
          refine XS.ifYes X7.here hx rfl (pc0 := 130) (pc' := 136) rfl (hb hby at_130) rfl ((if0 _ _).trans (feq hc11).2) (by decide) (by decide) ?_
          show Steps p.tables e below (T7.setTop (mkF m 136 #[.val (.long q0), .second, .val (.long q1), .second, .val (.int p2), .val (.int f5), .val (.int f6), .val (.int f7), .val (.ref b4), .val (.long (50000 : Int64)), .second, .val (.long (q0 &&& (9223372036854775807 : Int64))), .second, .unset, .unset, .unset, .unset] [])) _
          exact k
        generalize e_lf : (q0 &&& (9223372036854775807 : Int64)) = lf
        show own_Run p e below s _ _ _ T7 (mkF m 136 #[.val (.long q0), .second, .val (.long q1), .second, .val (.int p2), .val (.int f5), .val (.int f6), .val (.int f7), .val (.ref b4), .val (.long (50000 : Int64)), .second, .val (.long lf), .second, .unset, .unset, .unset, .unset] [])
        refine own_step (T' := T7) (g' := (mkF m 142 #[.val (.long q0), .second, .val (.long q1), .second, .val (.int p2), .val (.int f5), .val (.int f6), .val (.int f7), .val (.ref b4), .val (.long (50000 : Int64)), .second, .val (.long lf), .second, .unset, .unset, .unset, .unset] [(.int f5), (.long lf), (.ref b4)])) (fun t k => ?_) ?_
        · show Steps p.tables e below (T7.setTop (mkF m 136 #[.val (.long q0), .second, .val (.long q1), .second, .val (.int p2), .val (.int f5), .val (.int f6), .val (.int f7), .val (.ref b4), .val (.long (50000 : Int64)), .second, .val (.long lf), .second, .unset, .unset, .unset, .unset] [])) _
          refine XS.aload X7.here hx rfl (hb hby at_136) rfl rfl ?_
          show Steps p.tables e below (T7.setTop (mkF m 138 #[.val (.long q0), .second, .val (.long q1), .second, .val (.int p2), .val (.int f5), .val (.int f6), .val (.int f7), .val (.ref b4), .val (.long (50000 : Int64)), .second, .val (.long lf), .second, .unset, .unset, .unset, .unset] [(.ref b4)])) _
          refine XS.lload X7.here hx rfl (hb hby at_138) rfl ?_
          show Steps p.tables e below (T7.setTop (mkF m 140 #[.val (.long q0), .second, .val (.long q1), .second, .val (.int p2), .val (.int f5), .val (.int f6), .val (.int f7), .val (.ref b4), .val (.long (50000 : Int64)), .second, .val (.long lf), .second, .unset, .unset, .unset, .unset] [(.long lf), (.ref b4)])) _
          refine XS.iload X7.here hx rfl (hb hby at_140) rfl ?_
          show Steps p.tables e below (T7.setTop (mkF m 142 #[.val (.long q0), .second, .val (.long q1), .second, .val (.int p2), .val (.int f5), .val (.int f6), .val (.int f7), .val (.ref b4), .val (.long (50000 : Int64)), .second, .val (.long lf), .second, .unset, .unset, .unset, .unset] [(.int f5), (.long lf), (.ref b4)])) _
          exact k
        obtain ⟨cq18, kq18, q18a, q18b, q18c⟩ := isOf hZ rfl Eq7
        obtain ⟨_, _, ⟨T18, L18, k18, n18⟩, -, X18, ⟨Lc18, hQ18, l18, y18, z18⟩, st18⟩ := X7.virtualBack hx (y := (⟨"com/example/windlass/windlass/ParkLead", "parkNanos", "(JZ)J"⟩ : MethodName)) (z := (⟨"com/example/windlass/windlass/ParkLead", "parkNanos", "(JZ)J"⟩ : MethodName)) hown (mvT hZ (hw _ (List.mem_of_getElem? (i := 14) rfl))) (mvT hZ (hw _ (List.mem_of_getElem? (i := 15) rfl))) (notFace_of_selects (args := #[]) (mvT hZ (hw _ (List.mem_of_getElem? (i := 17) rfl)))) (mvT hZ (hw _ (List.mem_of_getElem? (i := 17) rfl))) (mvT hZ (hw _ (List.mem_of_getElem? (i := 16) rfl))) (by decide) (backOf (W := 0) (rm3 l Z a0 hw [] b4 lf f5 (50000 : Int64) T7.heap n0 Z8 Eq7 Fq7) hZ (hw _ (List.mem_of_getElem? (i := 18) rfl)) (hw _ (List.mem_of_getElem? (i := 2) rfl)) (by decide) (by decide)) q18a q18c (g := (mkF m 142 #[.val (.long q0), .second, .val (.long q1), .second, .val (.int p2), .val (.int f5), .val (.int f6), .val (.int f7), .val (.ref b4), .val (.long (50000 : Int64)), .second, .val (.long lf), .second, .unset, .unset, .unset, .unset] [(.int f5), (.long lf), (.ref b4)])) rfl (by rw [hml]; rfl) (Steps.refl _) (argsL := [(.long lf), (.int f5)]) (rest := []) (lenOf pd_2 rfl) rfl (by show 2 * 0 + _ ≤ _; exact Nat.le_of_eq rfl) (hb hby at_142) (fun _ _ => ⟨rfl, rfl, (by decide : 1 + 0 ≤ _), (by decide : 1 + 0 ≤ _)⟩)
        dsimp only [Pt.U, Pt.locs, Pt.cells, Pt.slots] at X18 l18 y18 z18 st18 hQ18
        subst l18 y18 z18
        obtain ⟨rfl, N18q, eq18⟩ := hQ18
        have N18 := Fr.app N7 N18q
        refine own_step (fun t k => st18.trans k) ?_
        show own_Run p e below s _ _ _ T18 (mkF m 145 #[.val (.long q0), .second, .val (.long q1), .second, .val (.int p2), .val (.int f5), .val (.int f6), .val (.int f7), .val (.ref b4), .val (.long (50000 : Int64)), .second, .val (.long lf), .second, .unset, .unset, .unset, .unset] [(.long (own_park lf (50000 : Int64) f5))])
        refine own_step (T' := T18) (g' := (mkF m 152 #[.val (.long q0), .second, .val (.long q1), .second, .val (.int p2), .val (.int f5), .val (.int f6), .val (.int f7), .val (.ref b4), .val (.long (50000 : Int64)), .second, .val (.long lf), .second, .val (.long (own_park lf (50000 : Int64) f5)), .second, .unset, .unset] [(.int (lcmpW lf (50000 : Int64)))])) (fun t k => ?_) ?_
        · show Steps p.tables e below (T18.setTop (mkF m 145 #[.val (.long q0), .second, .val (.long q1), .second, .val (.int p2), .val (.int f5), .val (.int f6), .val (.int f7), .val (.ref b4), .val (.long (50000 : Int64)), .second, .val (.long lf), .second, .unset, .unset, .unset, .unset] [(.long (own_park lf (50000 : Int64) f5))])) _
          refine XS.lstore X18.here hx rfl (hb hby at_145) rfl (l' := #[.val (.long q0), .second, .val (.long q1), .second, .val (.int p2), .val (.int f5), .val (.int f6), .val (.int f7), .val (.ref b4), .val (.long (50000 : Int64)), .second, .val (.long lf), .second, .val (.long (own_park lf (50000 : Int64) f5)), .second, .unset, .unset]) rfl ?_
          show Steps p.tables e below (T18.setTop (mkF m 147 #[.val (.long q0), .second, .val (.long q1), .second, .val (.int p2), .val (.int f5), .val (.int f6), .val (.int f7), .val (.ref b4), .val (.long (50000 : Int64)), .second, .val (.long lf), .second, .val (.long (own_park lf (50000 : Int64) f5)), .second, .unset, .unset] [])) _
          refine XS.lload X18.here hx rfl (hb hby at_147) rfl ?_
          show Steps p.tables e below (T18.setTop (mkF m 149 #[.val (.long q0), .second, .val (.long q1), .second, .val (.int p2), .val (.int f5), .val (.int f6), .val (.int f7), .val (.ref b4), .val (.long (50000 : Int64)), .second, .val (.long lf), .second, .val (.long (own_park lf (50000 : Int64) f5)), .second, .unset, .unset] [(.long lf)])) _
          refine XS.lload X18.here hx rfl (hb hby at_149) rfl ?_
          show Steps p.tables e below (T18.setTop (mkF m 151 #[.val (.long q0), .second, .val (.long q1), .second, .val (.int p2), .val (.int f5), .val (.int f6), .val (.int f7), .val (.ref b4), .val (.long (50000 : Int64)), .second, .val (.long lf), .second, .val (.long (own_park lf (50000 : Int64) f5)), .second, .unset, .unset] [(.long (50000 : Int64)), (.long lf)])) _
          refine XS.lcmp X18.here hx rfl (hb hby at_151) rfl ?_
          show Steps p.tables e below (T18.setTop (mkF m 152 #[.val (.long q0), .second, .val (.long q1), .second, .val (.int p2), .val (.int f5), .val (.int f6), .val (.int f7), .val (.ref b4), .val (.long (50000 : Int64)), .second, .val (.long lf), .second, .val (.long (own_park lf (50000 : Int64) f5)), .second, .unset, .unset] [(.int (lcmpW lf (50000 : Int64)))])) _
          exact k
        by_cases hc19 : (0 : Int32) < (lcmpW lf (50000 : Int64))
        · skip
          refine own_step (T' := T18) (g' := (mkF m 193 #[.val (.long q0), .second, .val (.long q1), .second, .val (.int p2), .val (.int f5), .val (.int f6), .val (.int f7), .val (.ref b4), .val (.long (50000 : Int64)), .second, .val (.long lf), .second, .val (.long (own_park lf (50000 : Int64) f5)), .second, .val (.long (lf - (50000 : Int64))), .second] [(.int (1 : Int32))])) (fun t k => ?_) ?_
          · show Steps p.tables e below (T18.setTop (mkF m 152 #[.val (.long q0), .second, .val (.long q1), .second, .val (.int p2), .val (.int f5), .val (.int f6), .val (.int f7), .val (.ref b4), .val (.long (50000 : Int64)), .second, .val (.long lf), .second, .val (.long (own_park lf (50000 : Int64) f5)), .second, .unset, .unset] [(.int (lcmpW lf (50000 : Int64)))])) _
            refine XS.ifYes X18.here hx rfl (pc0 := 152) (pc' := 173) rfl (hb hby at_152) rfl ((if0 _ _).trans (tlt hc19).2.2.1) (by decide) (by decide) ?_
            show Steps p.tables e below (T18.setTop (mkF m 173 #[.val (.long q0), .second, .val (.long q1), .second, .val (.int p2), .val (.int f5), .val (.int f6), .val (.int f7), .val (.ref b4), .val (.long (50000 : Int64)), .second, .val (.long lf), .second, .val (.long (own_park lf (50000 : Int64) f5)), .second, .unset, .unset] [])) _
            refine XS.lload X18.here hx rfl (hb hby at_173) rfl ?_
            show Steps p.tables e below (T18.setTop (mkF m 175 #[.val (.long q0), .second, .val (.long q1), .second, .val (.int p2), .val (.int f5), .val (.int f6), .val (.int f7), .val (.ref b4), .val (.long (50000 : Int64)), .second, .val (.long lf), .second, .val (.long (own_park lf (50000 : Int64) f5)), .second, .unset, .unset] [(.long lf)])) _
            refine XS.lload X18.here hx rfl (hb hby at_175) rfl ?_
            show Steps p.tables e below (T18.setTop (mkF m 177 #[.val (.long q0), .second, .val (.long q1), .second, .val (.int p2), .val (.int f5), .val (.int f6), .val (.int f7), .val (.ref b4), .val (.long (50000 : Int64)), .second, .val (.long lf), .second, .val (.long (own_park lf (50000 : Int64) f5)), .second, .unset, .unset] [(.long (50000 : Int64)), (.long lf)])) _
            refine XS.lsub X18.here hx rfl (hb hby at_177) rfl ?_
            show Steps p.tables e below (T18.setTop (mkF m 178 #[.val (.long q0), .second, .val (.long q1), .second, .val (.int p2), .val (.int f5), .val (.int f6), .val (.int f7), .val (.ref b4), .val (.long (50000 : Int64)), .second, .val (.long lf), .second, .val (.long (own_park lf (50000 : Int64) f5)), .second, .unset, .unset] [(.long (lf - (50000 : Int64)))])) _
            refine XS.lstore X18.here hx rfl (hb hby at_178) rfl (l' := #[.val (.long q0), .second, .val (.long q1), .second, .val (.int p2), .val (.int f5), .val (.int f6), .val (.int f7), .val (.ref b4), .val (.long (50000 : Int64)), .second, .val (.long lf), .second, .val (.long (own_park lf (50000 : Int64) f5)), .second, .val (.long (lf - (50000 : Int64))), .second]) rfl ?_
            show Steps p.tables e below (T18.setTop (mkF m 180 #[.val (.long q0), .second, .val (.long q1), .second, .val (.int p2), .val (.int f5), .val (.int f6), .val (.int f7), .val (.ref b4), .val (.long (50000 : Int64)), .second, .val (.long lf), .second, .val (.long (own_park lf (50000 : Int64) f5)), .second, .val (.long (lf - (50000 : Int64))), .second] [])) _
            refine XS.lload X18.here hx rfl (hb hby at_180) rfl ?_
            show Steps p.tables e below (T18.setTop (mkF m 182 #[.val (.long q0), .second, .val (.long q1), .second, .val (.int p2), .val (.int f5), .val (.int f6), .val (.int f7), .val (.ref b4), .val (.long (50000 : Int64)), .second, .val (.long lf), .second, .val (.long (own_park lf (50000 : Int64) f5)), .second, .val (.long (lf - (50000 : Int64))), .second] [(.long (own_park lf (50000 : Int64) f5))])) _
            refine XS.lload X18.here hx rfl (hb hby at_182) rfl ?_
            show Steps p.tables e below (T18.setTop (mkF m 184 #[.val (.long q0), .second, .val (.long q1), .second, .val (.int p2), .val (.int f5), .val (.int f6), .val (.int f7), .val (.ref b4), .val (.long (50000 : Int64)), .second, .val (.long lf), .second, .val (.long (own_park lf (50000 : Int64) f5)), .second, .val (.long (lf - (50000 : Int64))), .second] [(.long (lf - (50000 : Int64))), (.long (own_park lf (50000 : Int64) f5))])) _
            refine XS.lcmp X18.here hx rfl (hb hby at_184) rfl ?_
            show Steps p.tables e below (T18.setTop (mkF m 185 #[.val (.long q0), .second, .val (.long q1), .second, .val (.int p2), .val (.int f5), .val (.int f6), .val (.int f7), .val (.ref b4), .val (.long (50000 : Int64)), .second, .val (.long lf), .second, .val (.long (own_park lf (50000 : Int64) f5)), .second, .val (.long (lf - (50000 : Int64))), .second] [(.int (lcmpW (own_park lf (50000 : Int64) f5) (lf - (50000 : Int64))))])) _
            refine XS.ifNo X18.here hx rfl (hb hby at_185) rfl ((if0 _ _).trans (teq ((lw_eq _ _).mpr (own_fin1 hc19))).2) ?_
            show Steps p.tables e below (T18.setTop (mkF m 188 #[.val (.long q0), .second, .val (.long q1), .second, .val (.int p2), .val (.int f5), .val (.int f6), .val (.int f7), .val (.ref b4), .val (.long (50000 : Int64)), .second, .val (.long lf), .second, .val (.long (own_park lf (50000 : Int64) f5)), .second, .val (.long (lf - (50000 : Int64))), .second] [])) _
            refine XS.iconst X18.here hx rfl (hb hby at_188) ?_
            show Steps p.tables e below (T18.setTop (mkF m 189 #[.val (.long q0), .second, .val (.long q1), .second, .val (.int p2), .val (.int f5), .val (.int f6), .val (.int f7), .val (.ref b4), .val (.long (50000 : Int64)), .second, .val (.long lf), .second, .val (.long (own_park lf (50000 : Int64) f5)), .second, .val (.long (lf - (50000 : Int64))), .second] [(.int (1 : Int32))])) _
            refine XS.goto X18.here hx rfl (pc0 := 189) (pc' := 193) rfl (hb hby at_189) (by decide) (by decide) ?_
            show Steps p.tables e below (T18.setTop (mkF m 193 #[.val (.long q0), .second, .val (.long q1), .second, .val (.int p2), .val (.int f5), .val (.int f6), .val (.int f7), .val (.ref b4), .val (.long (50000 : Int64)), .second, .val (.long lf), .second, .val (.long (own_park lf (50000 : Int64) f5)), .second, .val (.long (lf - (50000 : Int64))), .second] [(.int (1 : Int32))])) _
            exact k
          refine own_retN X18 hx (t := .boolean) Bd.returns (by simp) (hb hby at_193) (BodyLoose.notSynchronized Bd) (by decide) (by decide) ?_
          rw [show T18.heap = T7.heap from eq18]
          exact ⟨rfl, N18⟩
        · skip
          refine own_step (T' := T18) (g' := (mkF m 157 #[.val (.long q0), .second, .val (.long q1), .second, .val (.int p2), .val (.int f5), .val (.int f6), .val (.int f7), .val (.ref b4), .val (.long (50000 : Int64)), .second, .val (.long lf), .second, .val (.long (own_park lf (50000 : Int64) f5)), .second, .unset, .unset] [(.int f5)])) (fun t k => ?_) ?_
          · show Steps p.tables e below (T18.setTop (mkF m 152 #[.val (.long q0), .second, .val (.long q1), .second, .val (.int p2), .val (.int f5), .val (.int f6), .val (.int f7), .val (.ref b4), .val (.long (50000 : Int64)), .second, .val (.long lf), .second, .val (.long (own_park lf (50000 : Int64) f5)), .second, .unset, .unset] [(.int (lcmpW lf (50000 : Int64)))])) _
            refine XS.ifNo X18.here hx rfl (hb hby at_152) rfl ((if0 _ _).trans (flt hc19).2.2.1) ?_
            show Steps p.tables e below (T18.setTop (mkF m 155 #[.val (.long q0), .second, .val (.long q1), .second, .val (.int p2), .val (.int f5), .val (.int f6), .val (.int f7), .val (.ref b4), .val (.long (50000 : Int64)), .second, .val (.long lf), .second, .val (.long (own_park lf (50000 : Int64) f5)), .second, .unset, .unset] [])) _
            refine XS.iload X18.here hx rfl (hb hby at_155) rfl ?_
            show Steps p.tables e below (T18.setTop (mkF m 157 #[.val (.long q0), .second, .val (.long q1), .second, .val (.int p2), .val (.int f5), .val (.int f6), .val (.int f7), .val (.ref b4), .val (.long (50000 : Int64)), .second, .val (.long lf), .second, .val (.long (own_park lf (50000 : Int64) f5)), .second, .unset, .unset] [(.int f5)])) _
            exact k
          by_cases hc21 : f5 = (0 : Int32)
          · skip
            refine own_step (T' := T18) (g' := (mkF m 193 #[.val (.long q0), .second, .val (.long q1), .second, .val (.int p2), .val (.int f5), .val (.int f6), .val (.int f7), .val (.ref b4), .val (.long (50000 : Int64)), .second, .val (.long lf), .second, .val (.long (own_park lf (50000 : Int64) f5)), .second, .val (.long lf), .second] [(.int (1 : Int32))])) (fun t k => ?_) ?_
            · show Steps p.tables e below (T18.setTop (mkF m 157 #[.val (.long q0), .second, .val (.long q1), .second, .val (.int p2), .val (.int f5), .val (.int f6), .val (.int f7), .val (.ref b4), .val (.long (50000 : Int64)), .second, .val (.long lf), .second, .val (.long (own_park lf (50000 : Int64) f5)), .second, .unset, .unset] [(.int f5)])) _
              refine XS.ifYes X18.here hx rfl (pc0 := 157) (pc' := 166) rfl (hb hby at_157) rfl ((if0 _ _).trans (teq hc21).1) (by decide) (by decide) ?_
              show Steps p.tables e below (T18.setTop (mkF m 166 #[.val (.long q0), .second, .val (.long q1), .second, .val (.int p2), .val (.int f5), .val (.int f6), .val (.int f7), .val (.ref b4), .val (.long (50000 : Int64)), .second, .val (.long lf), .second, .val (.long (own_park lf (50000 : Int64) f5)), .second, .unset, .unset] [])) _
              refine XS.lload X18.here hx rfl (hb hby at_166) rfl ?_
              show Steps p.tables e below (T18.setTop (mkF m 168 #[.val (.long q0), .second, .val (.long q1), .second, .val (.int p2), .val (.int f5), .val (.int f6), .val (.int f7), .val (.ref b4), .val (.long (50000 : Int64)), .second, .val (.long lf), .second, .val (.long (own_park lf (50000 : Int64) f5)), .second, .unset, .unset] [(.long lf)])) _
              refine XS.lstore X18.here hx rfl (hb hby at_168) rfl (l' := #[.val (.long q0), .second, .val (.long q1), .second, .val (.int p2), .val (.int f5), .val (.int f6), .val (.int f7), .val (.ref b4), .val (.long (50000 : Int64)), .second, .val (.long lf), .second, .val (.long (own_park lf (50000 : Int64) f5)), .second, .val (.long lf), .second]) rfl ?_
              show Steps p.tables e below (T18.setTop (mkF m 170 #[.val (.long q0), .second, .val (.long q1), .second, .val (.int p2), .val (.int f5), .val (.int f6), .val (.int f7), .val (.ref b4), .val (.long (50000 : Int64)), .second, .val (.long lf), .second, .val (.long (own_park lf (50000 : Int64) f5)), .second, .val (.long lf), .second] [])) _
              refine XS.goto X18.here hx rfl (pc0 := 170) (pc' := 180) rfl (hb hby at_170) (by decide) (by decide) ?_
              show Steps p.tables e below (T18.setTop (mkF m 180 #[.val (.long q0), .second, .val (.long q1), .second, .val (.int p2), .val (.int f5), .val (.int f6), .val (.int f7), .val (.ref b4), .val (.long (50000 : Int64)), .second, .val (.long lf), .second, .val (.long (own_park lf (50000 : Int64) f5)), .second, .val (.long lf), .second] [])) _
              refine XS.lload X18.here hx rfl (hb hby at_180) rfl ?_
              show Steps p.tables e below (T18.setTop (mkF m 182 #[.val (.long q0), .second, .val (.long q1), .second, .val (.int p2), .val (.int f5), .val (.int f6), .val (.int f7), .val (.ref b4), .val (.long (50000 : Int64)), .second, .val (.long lf), .second, .val (.long (own_park lf (50000 : Int64) f5)), .second, .val (.long lf), .second] [(.long (own_park lf (50000 : Int64) f5))])) _
              refine XS.lload X18.here hx rfl (hb hby at_182) rfl ?_
              show Steps p.tables e below (T18.setTop (mkF m 184 #[.val (.long q0), .second, .val (.long q1), .second, .val (.int p2), .val (.int f5), .val (.int f6), .val (.int f7), .val (.ref b4), .val (.long (50000 : Int64)), .second, .val (.long lf), .second, .val (.long (own_park lf (50000 : Int64) f5)), .second, .val (.long lf), .second] [(.long lf), (.long (own_park lf (50000 : Int64) f5))])) _
              refine XS.lcmp X18.here hx rfl (hb hby at_184) rfl ?_
              show Steps p.tables e below (T18.setTop (mkF m 185 #[.val (.long q0), .second, .val (.long q1), .second, .val (.int p2), .val (.int f5), .val (.int f6), .val (.int f7), .val (.ref b4), .val (.long (50000 : Int64)), .second, .val (.long lf), .second, .val (.long (own_park lf (50000 : Int64) f5)), .second, .val (.long lf), .second] [(.int (lcmpW (own_park lf (50000 : Int64) f5) lf))])) _
              refine XS.ifNo X18.here hx rfl (hb hby at_185) rfl ((if0 _ _).trans (teq ((lw_eq _ _).mpr (own_fin2 hc19 hc21))).2) ?_
              show Steps p.tables e below (T18.setTop (mkF m 188 #[.val (.long q0), .second, .val (.long q1), .second, .val (.int p2), .val (.int f5), .val (.int f6), .val (.int f7), .val (.ref b4), .val (.long (50000 : Int64)), .second, .val (.long lf), .second, .val (.long (own_park lf (50000 : Int64) f5)), .second, .val (.long lf), .second] [])) _
              refine XS.iconst X18.here hx rfl (hb hby at_188) ?_
              show Steps p.tables e below (T18.setTop (mkF m 189 #[.val (.long q0), .second, .val (.long q1), .second, .val (.int p2), .val (.int f5), .val (.int f6), .val (.int f7), .val (.ref b4), .val (.long (50000 : Int64)), .second, .val (.long lf), .second, .val (.long (own_park lf (50000 : Int64) f5)), .second, .val (.long lf), .second] [(.int (1 : Int32))])) _
              refine XS.goto X18.here hx rfl (pc0 := 189) (pc' := 193) rfl (hb hby at_189) (by decide) (by decide) ?_
              show Steps p.tables e below (T18.setTop (mkF m 193 #[.val (.long q0), .second, .val (.long q1), .second, .val (.int p2), .val (.int f5), .val (.int f6), .val (.int f7), .val (.ref b4), .val (.long (50000 : Int64)), .second, .val (.long lf), .second, .val (.long (own_park lf (50000 : Int64) f5)), .second, .val (.long lf), .second] [(.int (1 : Int32))])) _
              exact k
            refine own_retN X18 hx (t := .boolean) Bd.returns (by simp) (hb hby at_193) (BodyLoose.notSynchronized Bd) (by decide) (by decide) ?_
            rw [show T18.heap = T7.heap from eq18]
            exact ⟨rfl, N18⟩
          · skip
            refine own_step (T' := T18) (g' := (mkF m 193 #[.val (.long q0), .second, .val (.long q1), .second, .val (.int p2), .val (.int f5), .val (.int f6), .val (.int f7), .val (.ref b4), .val (.long (50000 : Int64)), .second, .val (.long lf), .second, .val (.long (own_park lf (50000 : Int64) f5)), .second, .val (.long (0 : Int64)), .second] [(.int (1 : Int32))])) (fun t k => ?_) ?_
            · show Steps p.tables e below (T18.setTop (mkF m 157 #[.val (.long q0), .second, .val (.long q1), .second, .val (.int p2), .val (.int f5), .val (.int f6), .val (.int f7), .val (.ref b4), .val (.long (50000 : Int64)), .second, .val (.long lf), .second, .val (.long (own_park lf (50000 : Int64) f5)), .second, .unset, .unset] [(.int f5)])) _
              refine XS.ifNo X18.here hx rfl (hb hby at_157) rfl ((if0 _ _).trans (feq hc21).1) ?_
              show Steps p.tables e below (T18.setTop (mkF m 160 #[.val (.long q0), .second, .val (.long q1), .second, .val (.int p2), .val (.int f5), .val (.int f6), .val (.int f7), .val (.ref b4), .val (.long (50000 : Int64)), .second, .val (.long lf), .second, .val (.long (own_park lf (50000 : Int64) f5)), .second, .unset, .unset] [])) _
              refine XS.lconst X18.here hx rfl (hb hby at_160) ?_
              show Steps p.tables e below (T18.setTop (mkF m 161 #[.val (.long q0), .second, .val (.long q1), .second, .val (.int p2), .val (.int f5), .val (.int f6), .val (.int f7), .val (.ref b4), .val (.long (50000 : Int64)), .second, .val (.long lf), .second, .val (.long (own_park lf (50000 : Int64) f5)), .second, .unset, .unset] [(.long (0 : Int64))])) _
              refine XS.lstore X18.here hx rfl (hb hby at_161) rfl (l' := #[.val (.long q0), .second, .val (.long q1), .second, .val (.int p2), .val (.int f5), .val (.int f6), .val (.int f7), .val (.ref b4), .val (.long (50000 : Int64)), .second, .val (.long lf), .second, .val (.long (own_park lf (50000 : Int64) f5)), .second, .val (.long (0 : Int64)), .second]) rfl ?_
              show Steps p.tables e below (T18.setTop (mkF m 163 #[.val (.long q0), .second, .val (.long q1), .second, .val (.int p2), .val (.int f5), .val (.int f6), .val (.int f7), .val (.ref b4), .val (.long (50000 : Int64)), .second, .val (.long lf), .second, .val (.long (own_park lf (50000 : Int64) f5)), .second, .val (.long (0 : Int64)), .second] [])) _
              refine XS.goto X18.here hx rfl (pc0 := 163) (pc' := 180) rfl (hb hby at_163) (by decide) (by decide) ?_
              show Steps p.tables e below (T18.setTop (mkF m 180 #[.val (.long q0), .second, .val (.long q1), .second, .val (.int p2), .val (.int f5), .val (.int f6), .val (.int f7), .val (.ref b4), .val (.long (50000 : Int64)), .second, .val (.long lf), .second, .val (.long (own_park lf (50000 : Int64) f5)), .second, .val (.long (0 : Int64)), .second] [])) _
              refine XS.lload X18.here hx rfl (hb hby at_180) rfl ?_
              show Steps p.tables e below (T18.setTop (mkF m 182 #[.val (.long q0), .second, .val (.long q1), .second, .val (.int p2), .val (.int f5), .val (.int f6), .val (.int f7), .val (.ref b4), .val (.long (50000 : Int64)), .second, .val (.long lf), .second, .val (.long (own_park lf (50000 : Int64) f5)), .second, .val (.long (0 : Int64)), .second] [(.long (own_park lf (50000 : Int64) f5))])) _
              refine XS.lload X18.here hx rfl (hb hby at_182) rfl ?_
              show Steps p.tables e below (T18.setTop (mkF m 184 #[.val (.long q0), .second, .val (.long q1), .second, .val (.int p2), .val (.int f5), .val (.int f6), .val (.int f7), .val (.ref b4), .val (.long (50000 : Int64)), .second, .val (.long lf), .second, .val (.long (own_park lf (50000 : Int64) f5)), .second, .val (.long (0 : Int64)), .second] [(.long (0 : Int64)), (.long (own_park lf (50000 : Int64) f5))])) _
              refine XS.lcmp X18.here hx rfl (hb hby at_184) rfl ?_
              show Steps p.tables e below (T18.setTop (mkF m 185 #[.val (.long q0), .second, .val (.long q1), .second, .val (.int p2), .val (.int f5), .val (.int f6), .val (.int f7), .val (.ref b4), .val (.long (50000 : Int64)), .second, .val (.long lf), .second, .val (.long (own_park lf (50000 : Int64) f5)), .second, .val (.long (0 : Int64)), .second] [(.int (lcmpW (own_park lf (50000 : Int64) f5) (0 : Int64)))])) _
              refine XS.ifNo X18.here hx rfl (hb hby at_185) rfl ((if0 _ _).trans (teq ((lw_eq _ _).mpr (own_fin3 hc19 hc21))).2) ?_
              show Steps p.tables e below (T18.setTop (mkF m 188 #[.val (.long q0), .second, .val (.long q1), .second, .val (.int p2), .val (.int f5), .val (.int f6), .val (.int f7), .val (.ref b4), .val (.long (50000 : Int64)), .second, .val (.long lf), .second, .val (.long (own_park lf (50000 : Int64) f5)), .second, .val (.long (0 : Int64)), .second] [])) _
              refine XS.iconst X18.here hx rfl (hb hby at_188) ?_
              show Steps p.tables e below (T18.setTop (mkF m 189 #[.val (.long q0), .second, .val (.long q1), .second, .val (.int p2), .val (.int f5), .val (.int f6), .val (.int f7), .val (.ref b4), .val (.long (50000 : Int64)), .second, .val (.long lf), .second, .val (.long (own_park lf (50000 : Int64) f5)), .second, .val (.long (0 : Int64)), .second] [(.int (1 : Int32))])) _
              refine XS.goto X18.here hx rfl (pc0 := 189) (pc' := 193) rfl (hb hby at_189) (by decide) (by decide) ?_
              show Steps p.tables e below (T18.setTop (mkF m 193 #[.val (.long q0), .second, .val (.long q1), .second, .val (.int p2), .val (.int f5), .val (.int f6), .val (.int f7), .val (.ref b4), .val (.long (50000 : Int64)), .second, .val (.long lf), .second, .val (.long (own_park lf (50000 : Int64) f5)), .second, .val (.long (0 : Int64)), .second] [(.int (1 : Int32))])) _
              exact k
            refine own_retN X18 hx (t := .boolean) Bd.returns (by simp) (hb hby at_193) (BodyLoose.notSynchronized Bd) (by decide) (by decide) ?_
            rw [show T18.heap = T7.heap from eq18]
            exact ⟨rfl, N18⟩
    · skip
      refine own_step (T' := T7) (g' := (mkF m 136 #[.val (.long q0), .second, .val (.long q1), .second, .val (.int p2), .val (.int f5), .val (.int f6), .val (.int f7), .val (.ref b4), .val (.long (50000 : Int64)), .second, .val (.long (((50000 : Int64) - (16 : Int64)) + (q0 &&& (31 : Int64)))), .second, .unset, .unset, .unset, .unset] [])) (fun t k => ?_) ?_
      · show Steps p.tables e below (T7.setTop (mkF m 99 #[.val (.long q0), .second, .val (.long q1), .second, .val (.int p2), .val (.int f5), .val (.int f6), .val (.int f7), .val (.ref b4), .val (.long (50000 : Int64)), .second, .unset, .unset, .unset, .unset, .unset, .unset] [(.int f6)])) _
        refine XS.ifNo X7.here hx rfl (hb hby at_99) rfl ((if0 _ _).trans (feq hc10).1) ?_
        show Steps p.tables e below (T7.setTop (mkF m 102 #[.val (.long q0), .second, .val (.long q1), .second, .val (.int p2), .val (.int f5), .val (.int f6), .val (.int f7), .val (.ref b4), .val (.long (50000 : Int64)), .second, .unset, .unset, .unset, .unset, .unset, .unset] [])) _
        refine XS.lload X7.here hx rfl (hb hby at_102) rfl ?_
        show Steps p.tables e below (T7.setTop (mkF m 104 #[.val (.long q0), .second, .val (.long q1), .second, .val (.int p2), .val (.int f5), .val (.int f6), .val (.int f7), .val (.ref b4), .val (.long (50000 : Int64)), .second, .unset, .unset, .unset, .unset, .unset, .unset] [(.long (50000 : Int64))])) _
        refine X7.ldc2Long hx hown (mvT hZ (hw _ (List.mem_of_getElem? (i := 30) rfl))) (g := (mkF m 104 #[.val (.long q0), .second, .val (.long q1), .second, .val (.int p2), .val (.int f5), .val (.int f6), .val (.int f7), .val (.ref b4), .val (.long (50000 : Int64)), .second, .unset, .unset, .unset, .unset, .unset, .unset] [(.long (50000 : Int64))])) rfl (hb hby at_104) _ ?_
        show Steps p.tables e below (T7.setTop (mkF m 107 #[.val (.long q0), .second, .val (.long q1), .second, .val (.int p2), .val (.int f5), .val (.int f6), .val (.int f7), .val (.ref b4), .val (.long (50000 : Int64)), .second, .unset, .unset, .unset, .unset, .unset, .unset] [(.long (16 : Int64)), (.long (50000 : Int64))])) _
        refine XS.lsub X7.here hx rfl (hb hby at_107) rfl ?_
        show Steps p.tables e below (T7.setTop (mkF m 108 #[.val (.long q0), .second, .val (.long q1), .second, .val (.int p2), .val (.int f5), .val (.int f6), .val (.int f7), .val (.ref b4), .val (.long (50000 : Int64)), .second, .unset, .unset, .unset, .unset, .unset, .unset] [(.long ((50000 : Int64) - (16 : Int64)))])) _
        refine XS.lloadN X7.here hx rfl (hb hby at_108) rfl ?_
        show Steps p.tables e below (T7.setTop (mkF m 109 #[.val (.long q0), .second, .val (.long q1), .second, .val (.int p2), .val (.int f5), .val (.int f6), .val (.int f7), .val (.ref b4), .val (.long (50000 : Int64)), .second, .unset, .unset, .unset, .unset, .unset, .unset] [(.long q0), (.long ((50000 : Int64) - (16 : Int64)))])) _
        refine X7.ldc2Long hx hown (mvT hZ (hw _ (List.mem_of_getElem? (i := 31) rfl))) (g := (mkF m 109 #[.val (.long q0), .second, .val (.long q1), .second, .val (.int p2), .val (.int f5), .val (.int f6), .val (.int f7), .val (.ref b4), .val (.long (50000 : Int64)), .second, .unset, .unset, .unset, .unset, .unset, .unset] [(.long q0), (.long ((50000 : Int64) - (16 : Int64)))])) rfl (hb hby at_109) _ ?_
        show Steps p.tables e below (T7.setTop (mkF m 112 #[.val (.long q0), .second, .val (.long q1), .second, .val (.int p2), .val (.int f5), .val (.int f6), .val (.int f7), .val (.ref b4), .val (.long (50000 : Int64)), .second, .unset, .unset, .unset, .unset, .unset, .unset] [(.long (31 : Int64)), (.long q0), (.long ((50000 : Int64) - (16 : Int64)))])) _
        refine XS.land X7.here hx rfl (hb hby at_112) rfl ?_
        show Steps p.tables e below (T7.setTop (mkF m 113 #[.val (.long q0), .second, .val (.long q1), .second, .val (.int p2), .val (.int f5), .val (.int f6), .val (.int f7), .val (.ref b4), .val (.long (50000 : Int64)), .second, .unset, .unset, .unset, .unset, .unset, .unset] [(.long (q0 &&& (31 : Int64))), (.long ((50000 : Int64) - (16 : Int64)))])) _
        refine XS.ladd X7.here hx rfl (hb hby at_113) rfl ?_
        show Steps p.tables e below (T7.setTop (mkF m 114 #[.val (.long q0), .second, .val (.long q1), .second, .val (.int p2), .val (.int f5), .val (.int f6), .val (.int f7), .val (.ref b4), .val (.long (50000 : Int64)), .second, .unset, .unset, .unset, .unset, .unset, .unset] [(.long (((50000 : Int64) - (16 : Int64)) + (q0 &&& (31 : Int64))))])) _
        refine XS.lstore X7.here hx rfl (hb hby at_114) rfl (l' := #[.val (.long q0), .second, .val (.long q1), .second, .val (.int p2), .val (.int f5), .val (.int f6), .val (.int f7), .val (.ref b4), .val (.long (50000 : Int64)), .second, .val (.long (((50000 : Int64) - (16 : Int64)) + (q0 &&& (31 : Int64)))), .second, .unset, .unset, .unset, .unset]) rfl ?_
        show Steps p.tables e below (T7.setTop (mkF m 116 #[.val (.long q0), .second, .val (.long q1), .second, .val (.int p2), .val (.int f5), .val (.int f6), .val (.int f7), .val (.ref b4), .val (.long (50000 : Int64)), .second, .val (.long (((50000 : Int64) - (16 : Int64)) + (q0 &&& (31 : Int64)))), .second, .unset, .unset, .unset, .unset] [])) _
        refine XS.goto X7.here hx rfl (pc0 := 116) (pc' := 136) rfl (hb hby at_116) (by decide) (by decide) ?_
        show Steps p.tables e below (T7.setTop (mkF m 136 #[.val (.long q0), .second, .val (.long q1), .second, .val (.int p2), .val (.int f5), .val (.int f6), .val (.int f7), .val (.ref b4), .val (.long (50000 : Int64)), .second, .val (.long (((50000 : Int64) - (16 : Int64)) + (q0 &&& (31 : Int64)))), .second, .unset, .unset, .unset, .unset] [])) _
        exact k
      generalize e_lf : (((50000 : Int64) - (16 : Int64)) + (q0 &&& (31 : Int64))) = lf
      show own_Run p e below s _ _ _ T7 (mkF m 136 #[.val (.long q0), .second, .val (.long q1), .second, .val (.int p2), .val (.int f5), .val (.int f6), .val (.int f7), .val (.ref b4), .val (.long (50000 : Int64)), .second, .val (.long lf), .second, .unset, .unset, .unset, .unset] [])
      refine own_step (T' := T7) (g' := (mkF m 142 #[.val (.long q0), .second, .val (.long q1), .second, .val (.int p2), .val (.int f5), .val (.int f6), .val (.int f7), .val (.ref b4), .val (.long (50000 : Int64)), .second, .val (.long lf), .second, .unset, .unset, .unset, .unset] [(.int f5), (.long lf), (.ref b4)])) (fun t k => ?_) ?_
      · show Steps p.tables e below (T7.setTop (mkF m 136 #[.val (.long q0), .second, .val (.long q1), .second, .val (.int p2), .val (.int f5), .val (.int f6), .val (.int f7), .val (.ref b4), .val (.long (50000 : Int64)), .second, .val (.long lf), .second, .unset, .unset, .unset, .unset] [])) _
        refine XS.aload X7.here hx rfl (hb hby at_136) rfl rfl ?_
        show Steps p.tables e below (T7.setTop (mkF m 138 #[.val (.long q0), .second, .val (.long q1), .second, .val (.int p2), .val (.int f5), .val (.int f6), .val (.int f7), .val (.ref b4), .val (.long (50000 : Int64)), .second, .val (.long lf), .second, .unset, .unset, .unset, .unset] [(.ref b4)])) _
        refine XS.lload X7.here hx rfl (hb hby at_138) rfl ?_
        show Steps p.tables e below (T7.setTop (mkF m 140 #[.val (.long q0), .second, .val (.long q1), .second, .val (.int p2), .val (.int f5), .val (.int f6), .val (.int f7), .val (.ref b4), .val (.long (50000 : Int64)), .second, .val (.long lf), .second, .unset, .unset, .unset, .unset] [(.long lf), (.ref b4)])) _
        refine XS.iload X7.here hx rfl (hb hby at_140) rfl ?_
        show Steps p.tables e below (T7.setTop (mkF m 142 #[.val (.long q0), .second, .val (.long q1), .second, .val (.int p2), .val (.int f5), .val (.int f6), .val (.int f7), .val (.ref b4), .val (.long (50000 : Int64)), .second, .val (.long lf), .second, .unset, .unset, .unset, .unset] [(.int f5), (.long lf), (.ref b4)])) _
        exact k
      obtain ⟨cq24, kq24, q24a, q24b, q24c⟩ := isOf hZ rfl Eq7
      obtain ⟨_, _, ⟨T24, L24, k24, n24⟩, -, X24, ⟨Lc24, hQ24, l24, y24, z24⟩, st24⟩ := X7.virtualBack hx (y := (⟨"com/example/windlass/windlass/ParkLead", "parkNanos", "(JZ)J"⟩ : MethodName)) (z := (⟨"com/example/windlass/windlass/ParkLead", "parkNanos", "(JZ)J"⟩ : MethodName)) hown (mvT hZ (hw _ (List.mem_of_getElem? (i := 14) rfl))) (mvT hZ (hw _ (List.mem_of_getElem? (i := 15) rfl))) (notFace_of_selects (args := #[]) (mvT hZ (hw _ (List.mem_of_getElem? (i := 17) rfl)))) (mvT hZ (hw _ (List.mem_of_getElem? (i := 17) rfl))) (mvT hZ (hw _ (List.mem_of_getElem? (i := 16) rfl))) (by decide) (backOf (W := 0) (rm3 l Z a0 hw [] b4 lf f5 (50000 : Int64) T7.heap n0 Z8 Eq7 Fq7) hZ (hw _ (List.mem_of_getElem? (i := 18) rfl)) (hw _ (List.mem_of_getElem? (i := 2) rfl)) (by decide) (by decide)) q24a q24c (g := (mkF m 142 #[.val (.long q0), .second, .val (.long q1), .second, .val (.int p2), .val (.int f5), .val (.int f6), .val (.int f7), .val (.ref b4), .val (.long (50000 : Int64)), .second, .val (.long lf), .second, .unset, .unset, .unset, .unset] [(.int f5), (.long lf), (.ref b4)])) rfl (by rw [hml]; rfl) (Steps.refl _) (argsL := [(.long lf), (.int f5)]) (rest := []) (lenOf pd_2 rfl) rfl (by show 2 * 0 + _ ≤ _; exact Nat.le_of_eq rfl) (hb hby at_142) (fun _ _ => ⟨rfl, rfl, (by decide : 1 + 0 ≤ _), (by decide : 1 + 0 ≤ _)⟩)
      dsimp only [Pt.U, Pt.locs, Pt.cells, Pt.slots] at X24 l24 y24 z24 st24 hQ24
      subst l24 y24 z24
      obtain ⟨rfl, N24q, eq24⟩ := hQ24
      have N24 := Fr.app N7 N24q
      refine own_step (fun t k => st24.trans k) ?_
      show own_Run p e below s _ _ _ T24 (mkF m 145 #[.val (.long q0), .second, .val (.long q1), .second, .val (.int p2), .val (.int f5), .val (.int f6), .val (.int f7), .val (.ref b4), .val (.long (50000 : Int64)), .second, .val (.long lf), .second, .unset, .unset, .unset, .unset] [(.long (own_park lf (50000 : Int64) f5))])
      refine own_step (T' := T24) (g' := (mkF m 152 #[.val (.long q0), .second, .val (.long q1), .second, .val (.int p2), .val (.int f5), .val (.int f6), .val (.int f7), .val (.ref b4), .val (.long (50000 : Int64)), .second, .val (.long lf), .second, .val (.long (own_park lf (50000 : Int64) f5)), .second, .unset, .unset] [(.int (lcmpW lf (50000 : Int64)))])) (fun t k => ?_) ?_
      · show Steps p.tables e below (T24.setTop (mkF m 145 #[.val (.long q0), .second, .val (.long q1), .second, .val (.int p2), .val (.int f5), .val (.int f6), .val (.int f7), .val (.ref b4), .val (.long (50000 : Int64)), .second, .val (.long lf), .second, .unset, .unset, .unset, .unset] [(.long (own_park lf (50000 : Int64) f5))])) _
        refine XS.lstore X24.here hx rfl (hb hby at_145) rfl (l' := #[.val (.long q0), .second, .val (.long q1), .second, .val (.int p2), .val (.int f5), .val (.int f6), .val (.int f7), .val (.ref b4), .val (.long (50000 : Int64)), .second, .val (.long lf), .second, .val (.long (own_park lf (50000 : Int64) f5)), .second, .unset, .unset]) rfl ?_
        show Steps p.tables e below (T24.setTop (mkF m 147 #[.val (.long q0), .second, .val (.long q1), .second, .val (.int p2), .val (.int f5), .val (.int f6), .val (.int f7), .val (.ref b4), .val (.long (50000 : Int64)), .second, .val (.long lf), .second, .val (.long (own_park lf (50000 : Int64) f5)), .second, .unset, .unset] [])) _
        refine XS.lload X24.here hx rfl (hb hby at_147) rfl ?_
        show Steps p.tables e below (T24.setTop (mkF m 149 #[.val (.long q0), .second, .val (.long q1), .second, .val (.int p2), .val (.int f5), .val (.int f6), .val (.int f7), .val (.ref b4), .val (.long (50000 : Int64)), .second, .val (.long lf), .second, .val (.long (own_park lf (50000 : Int64) f5)), .second, .unset, .unset] [(.long lf)])) _
        refine XS.lload X24.here hx rfl (hb hby at_149) rfl ?_
        show Steps p.tables e below (T24.setTop (mkF m 151 #[.val (.long q0), .second, .val (.long q1), .second, .val (.int p2), .val (.int f5), .val (.int f6), .val (.int f7), .val (.ref b4), .val (.long (50000 : Int64)), .second, .val (.long lf), .second, .val (.long (own_park lf (50000 : Int64) f5)), .second, .unset, .unset] [(.long (50000 : Int64)), (.long lf)])) _
        refine XS.lcmp X24.here hx rfl (hb hby at_151) rfl ?_
        show Steps p.tables e below (T24.setTop (mkF m 152 #[.val (.long q0), .second, .val (.long q1), .second, .val (.int p2), .val (.int f5), .val (.int f6), .val (.int f7), .val (.ref b4), .val (.long (50000 : Int64)), .second, .val (.long lf), .second, .val (.long (own_park lf (50000 : Int64) f5)), .second, .unset, .unset] [(.int (lcmpW lf (50000 : Int64)))])) _
        exact k
      by_cases hc25 : (0 : Int32) < (lcmpW lf (50000 : Int64))
      · skip
        refine own_step (T' := T24) (g' := (mkF m 193 #[.val (.long q0), .second, .val (.long q1), .second, .val (.int p2), .val (.int f5), .val (.int f6), .val (.int f7), .val (.ref b4), .val (.long (50000 : Int64)), .second, .val (.long lf), .second, .val (.long (own_park lf (50000 : Int64) f5)), .second, .val (.long (lf - (50000 : Int64))), .second] [(.int (1 : Int32))])) (fun t k => ?_) ?_
        · show Steps p.tables e below (T24.setTop (mkF m 152 #[.val (.long q0), .second, .val (.long q1), .second, .val (.int p2), .val (.int f5), .val (.int f6), .val (.int f7), .val (.ref b4), .val (.long (50000 : Int64)), .second, .val (.long lf), .second, .val (.long (own_park lf (50000 : Int64) f5)), .second, .unset, .unset] [(.int (lcmpW lf (50000 : Int64)))])) _
          refine XS.ifYes X24.here hx rfl (pc0 := 152) (pc' := 173) rfl (hb hby at_152) rfl ((if0 _ _).trans (tlt hc25).2.2.1) (by decide) (by decide) ?_
          show Steps p.tables e below (T24.setTop (mkF m 173 #[.val (.long q0), .second, .val (.long q1), .second, .val (.int p2), .val (.int f5), .val (.int f6), .val (.int f7), .val (.ref b4), .val (.long (50000 : Int64)), .second, .val (.long lf), .second, .val (.long (own_park lf (50000 : Int64) f5)), .second, .unset, .unset] [])) _
          refine XS.lload X24.here hx rfl (hb hby at_173) rfl ?_
          show Steps p.tables e below (T24.setTop (mkF m 175 #[.val (.long q0), .second, .val (.long q1), .second, .val (.int p2), .val (.int f5), .val (.int f6), .val (.int f7), .val (.ref b4), .val (.long (50000 : Int64)), .second, .val (.long lf), .second, .val (.long (own_park lf (50000 : Int64) f5)), .second, .unset, .unset] [(.long lf)])) _
          refine XS.lload X24.here hx rfl (hb hby at_175) rfl ?_
          show Steps p.tables e below (T24.setTop (mkF m 177 #[.val (.long q0), .second, .val (.long q1), .second, .val (.int p2), .val (.int f5), .val (.int f6), .val (.int f7), .val (.ref b4), .val (.long (50000 : Int64)), .second, .val (.long lf), .second, .val (.long (own_park lf (50000 : Int64) f5)), .second, .unset, .unset] [(.long (50000 : Int64)), (.long lf)])) _
          refine XS.lsub X24.here hx rfl (hb hby at_177) rfl ?_
          show Steps p.tables e below (T24.setTop (mkF m 178 #[.val (.long q0), .second, .val (.long q1), .second, .val (.int p2), .val (.int f5), .val (.int f6), .val (.int f7), .val (.ref b4), .val (.long (50000 : Int64)), .second, .val (.long lf), .second, .val (.long (own_park lf (50000 : Int64) f5)), .second, .unset, .unset] [(.long (lf - (50000 : Int64)))])) _
          refine XS.lstore X24.here hx rfl (hb hby at_178) rfl (l' := #[.val (.long q0), .second, .val (.long q1), .second, .val (.int p2), .val (.int f5), .val (.int f6), .val (.int f7), .val (.ref b4), .val (.long (50000 : Int64)), .second, .val (.long lf), .second, .val (.long (own_park lf (50000 : Int64) f5)), .second, .val (.long (lf - (50000 : Int64))), .second]) rfl ?_
          show Steps p.tables e below (T24.setTop (mkF m 180 #[.val (.long q0), .second, .val (.long q1), .second, .val (.int p2), .val (.int f5), .val (.int f6), .val (.int f7), .val (.ref b4), .val (.long (50000 : Int64)), .second, .val (.long lf), .second, .val (.long (own_park lf (50000 : Int64) f5)), .second, .val (.long (lf - (50000 : Int64))), .second] [])) _
          refine XS.lload X24.here hx rfl (hb hby at_180) rfl ?_
          show Steps p.tables e below (T24.setTop (mkF m 182 #[.val (.long q0), .second, .val (.long q1), .second, .val (.int p2), .val (.int f5), .val (.int f6), .val (.int f7), .val (.ref b4), .val (.long (50000 : Int64)), .second, .val (.long lf), .second, .val (.long (own_park lf (50000 : Int64) f5)), .second, .val (.long (lf - (50000 : Int64))), .second] [(.long (own_park lf (50000 : Int64) f5))])) _
          refine XS.lload X24.here hx rfl (hb hby at_182) rfl ?_
          show Steps p.tables e below (T24.setTop (mkF m 184 #[.val (.long q0), .second, .val (.long q1), .second, .val (.int p2), .val (.int f5), .val (.int f6), .val (.int f7), .val (.ref b4), .val (.long (50000 : Int64)), .second, .val (.long lf), .second, .val (.long (own_park lf (50000 : Int64) f5)), .second, .val (.long (lf - (50000 : Int64))), .second] [(.long (lf - (50000 : Int64))), (.long (own_park lf (50000 : Int64) f5))])) _
          refine XS.lcmp X24.here hx rfl (hb hby at_184) rfl ?_
          show Steps p.tables e below (T24.setTop (mkF m 185 #[.val (.long q0), .second, .val (.long q1), .second, .val (.int p2), .val (.int f5), .val (.int f6), .val (.int f7), .val (.ref b4), .val (.long (50000 : Int64)), .second, .val (.long lf), .second, .val (.long (own_park lf (50000 : Int64) f5)), .second, .val (.long (lf - (50000 : Int64))), .second] [(.int (lcmpW (own_park lf (50000 : Int64) f5) (lf - (50000 : Int64))))])) _
          refine XS.ifNo X24.here hx rfl (hb hby at_185) rfl ((if0 _ _).trans (teq ((lw_eq _ _).mpr (own_fin1 hc25))).2) ?_
          show Steps p.tables e below (T24.setTop (mkF m 188 #[.val (.long q0), .second, .val (.long q1), .second, .val (.int p2), .val (.int f5), .val (.int f6), .val (.int f7), .val (.ref b4), .val (.long (50000 : Int64)), .second, .val (.long lf), .second, .val (.long (own_park lf (50000 : Int64) f5)), .second, .val (.long (lf - (50000 : Int64))), .second] [])) _
          refine XS.iconst X24.here hx rfl (hb hby at_188) ?_
          show Steps p.tables e below (T24.setTop (mkF m 189 #[.val (.long q0), .second, .val (.long q1), .second, .val (.int p2), .val (.int f5), .val (.int f6), .val (.int f7), .val (.ref b4), .val (.long (50000 : Int64)), .second, .val (.long lf), .second, .val (.long (own_park lf (50000 : Int64) f5)), .second, .val (.long (lf - (50000 : Int64))), .second] [(.int (1 : Int32))])) _
          refine XS.goto X24.here hx rfl (pc0 := 189) (pc' := 193) rfl (hb hby at_189) (by decide) (by decide) ?_
          show Steps p.tables e below (T24.setTop (mkF m 193 #[.val (.long q0), .second, .val (.long q1), .second, .val (.int p2), .val (.int f5), .val (.int f6), .val (.int f7), .val (.ref b4), .val (.long (50000 : Int64)), .second, .val (.long lf), .second, .val (.long (own_park lf (50000 : Int64) f5)), .second, .val (.long (lf - (50000 : Int64))), .second] [(.int (1 : Int32))])) _
          exact k
        refine own_retN X24 hx (t := .boolean) Bd.returns (by simp) (hb hby at_193) (BodyLoose.notSynchronized Bd) (by decide) (by decide) ?_
        rw [show T24.heap = T7.heap from eq24]
        exact ⟨rfl, N24⟩
      · skip
        refine own_step (T' := T24) (g' := (mkF m 157 #[.val (.long q0), .second, .val (.long q1), .second, .val (.int p2), .val (.int f5), .val (.int f6), .val (.int f7), .val (.ref b4), .val (.long (50000 : Int64)), .second, .val (.long lf), .second, .val (.long (own_park lf (50000 : Int64) f5)), .second, .unset, .unset] [(.int f5)])) (fun t k => ?_) ?_
        · show Steps p.tables e below (T24.setTop (mkF m 152 #[.val (.long q0), .second, .val (.long q1), .second, .val (.int p2), .val (.int f5), .val (.int f6), .val (.int f7), .val (.ref b4), .val (.long (50000 : Int64)), .second, .val (.long lf), .second, .val (.long (own_park lf (50000 : Int64) f5)), .second, .unset, .unset] [(.int (lcmpW lf (50000 : Int64)))])) _
          refine XS.ifNo X24.here hx rfl (hb hby at_152) rfl ((if0 _ _).trans (flt hc25).2.2.1) ?_
          show Steps p.tables e below (T24.setTop (mkF m 155 #[.val (.long q0), .second, .val (.long q1), .second, .val (.int p2), .val (.int f5), .val (.int f6), .val (.int f7), .val (.ref b4), .val (.long (50000 : Int64)), .second, .val (.long lf), .second, .val (.long (own_park lf (50000 : Int64) f5)), .second, .unset, .unset] [])) _
          refine XS.iload X24.here hx rfl (hb hby at_155) rfl ?_
          show Steps p.tables e below (T24.setTop (mkF m 157 #[.val (.long q0), .second, .val (.long q1), .second, .val (.int p2), .val (.int f5), .val (.int f6), .val (.int f7), .val (.ref b4), .val (.long (50000 : Int64)), .second, .val (.long lf), .second, .val (.long (own_park lf (50000 : Int64) f5)), .second, .unset, .unset] [(.int f5)])) _
          exact k
        by_cases hc27 : f5 = (0 : Int32)
        · skip
          refine own_step (T' := T24) (g' := (mkF m 193 #[.val (.long q0), .second, .val (.long q1), .second, .val (.int p2), .val (.int f5), .val (.int f6), .val (.int f7), .val (.ref b4), .val (.long (50000 : Int64)), .second, .val (.long lf), .second, .val (.long (own_park lf (50000 : Int64) f5)), .second, .val (.long lf), .second] [(.int (1 : Int32))])) (fun t k => ?_) ?_
          · show Steps p.tables e below (T24.setTop (mkF m 157 #[.val (.long q0), .second, .val (.long q1), .second, .val (.int p2), .val (.int f5), .val (.int f6), .val (.int f7), .val (.ref b4), .val (.long (50000 : Int64)), .second, .val (.long lf), .second, .val (.long (own_park lf (50000 : Int64) f5)), .second, .unset, .unset] [(.int f5)])) _
            refine XS.ifYes X24.here hx rfl (pc0 := 157) (pc' := 166) rfl (hb hby at_157) rfl ((if0 _ _).trans (teq hc27).1) (by decide) (by decide) ?_
            show Steps p.tables e below (T24.setTop (mkF m 166 #[.val (.long q0), .second, .val (.long q1), .second, .val (.int p2), .val (.int f5), .val (.int f6), .val (.int f7), .val (.ref b4), .val (.long (50000 : Int64)), .second, .val (.long lf), .second, .val (.long (own_park lf (50000 : Int64) f5)), .second, .unset, .unset] [])) _
            refine XS.lload X24.here hx rfl (hb hby at_166) rfl ?_
            show Steps p.tables e below (T24.setTop (mkF m 168 #[.val (.long q0), .second, .val (.long q1), .second, .val (.int p2), .val (.int f5), .val (.int f6), .val (.int f7), .val (.ref b4), .val (.long (50000 : Int64)), .second, .val (.long lf), .second, .val (.long (own_park lf (50000 : Int64) f5)), .second, .unset, .unset] [(.long lf)])) _
            refine XS.lstore X24.here hx rfl (hb hby at_168) rfl (l' := #[.val (.long q0), .second, .val (.long q1), .second, .val (.int p2), .val (.int f5), .val (.int f6), .val (.int f7), .val (.ref b4), .val (.long (50000 : Int64)), .second, .val (.long lf), .second, .val (.long (own_park lf (50000 : Int64) f5)), .second, .val (.long lf), .second]) rfl ?_
            show Steps p.tables e below (T24.setTop (mkF m 170 #[.val (.long q0), .second, .val (.long q1), .second, .val (.int p2), .val (.int f5), .val (.int f6), .val (.int f7), .val (.ref b4), .val (.long (50000 : Int64)), .second, .val (.long lf), .second, .val (.long (own_park lf (50000 : Int64) f5)), .second, .val (.long lf), .second] [])) _
            refine XS.goto X24.here hx rfl (pc0 := 170) (pc' := 180) rfl (hb hby at_170) (by decide) (by decide) ?_
            show Steps p.tables e below (T24.setTop (mkF m 180 #[.val (.long q0), .second, .val (.long q1), .second, .val (.int p2), .val (.int f5), .val (.int f6), .val (.int f7), .val (.ref b4), .val (.long (50000 : Int64)), .second, .val (.long lf), .second, .val (.long (own_park lf (50000 : Int64) f5)), .second, .val (.long lf), .second] [])) _
            refine XS.lload X24.here hx rfl (hb hby at_180) rfl ?_
            show Steps p.tables e below (T24.setTop (mkF m 182 #[.val (.long q0), .second, .val (.long q1), .second, .val (.int p2), .val (.int f5), .val (.int f6), .val (.int f7), .val (.ref b4), .val (.long (50000 : Int64)), .second, .val (.long lf), .second, .val (.long (own_park lf (50000 : Int64) f5)), .second, .val (.long lf), .second] [(.long (own_park lf (50000 : Int64) f5))])) _
            refine XS.lload X24.here hx rfl (hb hby at_182) rfl ?_
            show Steps p.tables e below (T24.setTop (mkF m 184 #[.val (.long q0), .second, .val (.long q1), .second, .val (.int p2), .val (.int f5), .val (.int f6), .val (.int f7), .val (.ref b4), .val (.long (50000 : Int64)), .second, .val (.long lf), .second, .val (.long (own_park lf (50000 : Int64) f5)), .second, .val (.long lf), .second] [(.long lf), (.long (own_park lf (50000 : Int64) f5))])) _
            refine XS.lcmp X24.here hx rfl (hb hby at_184) rfl ?_
            show Steps p.tables e below (T24.setTop (mkF m 185 #[.val (.long q0), .second, .val (.long q1), .second, .val (.int p2), .val (.int f5), .val (.int f6), .val (.int f7), .val (.ref b4), .val (.long (50000 : Int64)), .second, .val (.long lf), .second, .val (.long (own_park lf (50000 : Int64) f5)), .second, .val (.long lf), .second] [(.int (lcmpW (own_park lf (50000 : Int64) f5) lf))])) _
            refine XS.ifNo X24.here hx rfl (hb hby at_185) rfl ((if0 _ _).trans (teq ((lw_eq _ _).mpr (own_fin2 hc25 hc27))).2) ?_
            show Steps p.tables e below (T24.setTop (mkF m 188 #[.val (.long q0), .second, .val (.long q1), .second, .val (.int p2), .val (.int f5), .val (.int f6), .val (.int f7), .val (.ref b4), .val (.long (50000 : Int64)), .second, .val (.long lf), .second, .val (.long (own_park lf (50000 : Int64) f5)), .second, .val (.long lf), .second] [])) _
            refine XS.iconst X24.here hx rfl (hb hby at_188) ?_
            show Steps p.tables e below (T24.setTop (mkF m 189 #[.val (.long q0), .second, .val (.long q1), .second, .val (.int p2), .val (.int f5), .val (.int f6), .val (.int f7), .val (.ref b4), .val (.long (50000 : Int64)), .second, .val (.long lf), .second, .val (.long (own_park lf (50000 : Int64) f5)), .second, .val (.long lf), .second] [(.int (1 : Int32))])) _
            refine XS.goto X24.here hx rfl (pc0 := 189) (pc' := 193) rfl (hb hby at_189) (by decide) (by decide) ?_
            show Steps p.tables e below (T24.setTop (mkF m 193 #[.val (.long q0), .second, .val (.long q1), .second, .val (.int p2), .val (.int f5), .val (.int f6), .val (.int f7), .val (.ref b4), .val (.long (50000 : Int64)), .second, .val (.long lf), .second, .val (.long (own_park lf (50000 : Int64) f5)), .second, .val (.long lf), .second] [(.int (1 : Int32))])) _
            exact k
          refine own_retN X24 hx (t := .boolean) Bd.returns (by simp) (hb hby at_193) (BodyLoose.notSynchronized Bd) (by decide) (by decide) ?_
          rw [show T24.heap = T7.heap from eq24]
          exact ⟨rfl, N24⟩
        · skip
          refine own_step (T' := T24) (g' := (mkF m 193 #[.val (.long q0), .second, .val (.long q1), .second, .val (.int p2), .val (.int f5), .val (.int f6), .val (.int f7), .val (.ref b4), .val (.long (50000 : Int64)), .second, .val (.long lf), .second, .val (.long (own_park lf (50000 : Int64) f5)), .second, .val (.long (0 : Int64)), .second] [(.int (1 : Int32))])) (fun t k => ?_) ?_
          · show Steps p.tables e below (T24.setTop (mkF m 157 #[.val (.long q0), .second, .val (.long q1), .second, .val (.int p2), .val (.int f5), .val (.int f6), .val (.int f7), .val (.ref b4), .val (.long (50000 : Int64)), .second, .val (.long lf), .second, .val (.long (own_park lf (50000 : Int64) f5)), .second, .unset, .unset] [(.int f5)])) _
            refine XS.ifNo X24.here hx rfl (hb hby at_157) rfl ((if0 _ _).trans (feq hc27).1) ?_
            show Steps p.tables e below (T24.setTop (mkF m 160 #[.val (.long q0), .second, .val (.long q1), .second, .val (.int p2), .val (.int f5), .val (.int f6), .val (.int f7), .val (.ref b4), .val (.long (50000 : Int64)), .second, .val (.long lf), .second, .val (.long (own_park lf (50000 : Int64) f5)), .second, .unset, .unset] [])) _
            refine XS.lconst X24.here hx rfl (hb hby at_160) ?_
            show Steps p.tables e below (T24.setTop (mkF m 161 #[.val (.long q0), .second, .val (.long q1), .second, .val (.int p2), .val (.int f5), .val (.int f6), .val (.int f7), .val (.ref b4), .val (.long (50000 : Int64)), .second, .val (.long lf), .second, .val (.long (own_park lf (50000 : Int64) f5)), .second, .unset, .unset] [(.long (0 : Int64))])) _
            refine XS.lstore X24.here hx rfl (hb hby at_161) rfl (l' := #[.val (.long q0), .second, .val (.long q1), .second, .val (.int p2), .val (.int f5), .val (.int f6), .val (.int f7), .val (.ref b4), .val (.long (50000 : Int64)), .second, .val (.long lf), .second, .val (.long (own_park lf (50000 : Int64) f5)), .second, .val (.long (0 : Int64)), .second]) rfl ?_
            show Steps p.tables e below (T24.setTop (mkF m 163 #[.val (.long q0), .second, .val (.long q1), .second, .val (.int p2), .val (.int f5), .val (.int f6), .val (.int f7), .val (.ref b4), .val (.long (50000 : Int64)), .second, .val (.long lf), .second, .val (.long (own_park lf (50000 : Int64) f5)), .second, .val (.long (0 : Int64)), .second] [])) _
            refine XS.goto X24.here hx rfl (pc0 := 163) (pc' := 180) rfl (hb hby at_163) (by decide) (by decide) ?_
            show Steps p.tables e below (T24.setTop (mkF m 180 #[.val (.long q0), .second, .val (.long q1), .second, .val (.int p2), .val (.int f5), .val (.int f6), .val (.int f7), .val (.ref b4), .val (.long (50000 : Int64)), .second, .val (.long lf), .second, .val (.long (own_park lf (50000 : Int64) f5)), .second, .val (.long (0 : Int64)), .second] [])) _
            refine XS.lload X24.here hx rfl (hb hby at_180) rfl ?_
            show Steps p.tables e below (T24.setTop (mkF m 182 #[.val (.long q0), .second, .val (.long q1), .second, .val (.int p2), .val (.int f5), .val (.int f6), .val (.int f7), .val (.ref b4), .val (.long (50000 : Int64)), .second, .val (.long lf), .second, .val (.long (own_park lf (50000 : Int64) f5)), .second, .val (.long (0 : Int64)), .second] [(.long (own_park lf (50000 : Int64) f5))])) _
            refine XS.lload X24.here hx rfl (hb hby at_182) rfl ?_
            show Steps p.tables e below (T24.setTop (mkF m 184 #[.val (.long q0), .second, .val (.long q1), .second, .val (.int p2), .val (.int f5), .val (.int f6), .val (.int f7), .val (.ref b4), .val (.long (50000 : Int64)), .second, .val (.long lf), .second, .val (.long (own_park lf (50000 : Int64) f5)), .second, .val (.long (0 : Int64)), .second] [(.long (0 : Int64)), (.long (own_park lf (50000 : Int64) f5))])) _
            refine XS.lcmp X24.here hx rfl (hb hby at_184) rfl ?_
            show Steps p.tables e below (T24.setTop (mkF m 185 #[.val (.long q0), .second, .val (.long q1), .second, .val (.int p2), .val (.int f5), .val (.int f6), .val (.int f7), .val (.ref b4), .val (.long (50000 : Int64)), .second, .val (.long lf), .second, .val (.long (own_park lf (50000 : Int64) f5)), .second, .val (.long (0 : Int64)), .second] [(.int (lcmpW (own_park lf (50000 : Int64) f5) (0 : Int64)))])) _
            refine XS.ifNo X24.here hx rfl (hb hby at_185) rfl ((if0 _ _).trans (teq ((lw_eq _ _).mpr (own_fin3 hc25 hc27))).2) ?_
            show Steps p.tables e below (T24.setTop (mkF m 188 #[.val (.long q0), .second, .val (.long q1), .second, .val (.int p2), .val (.int f5), .val (.int f6), .val (.int f7), .val (.ref b4), .val (.long (50000 : Int64)), .second, .val (.long lf), .second, .val (.long (own_park lf (50000 : Int64) f5)), .second, .val (.long (0 : Int64)), .second] [])) _
            refine XS.iconst X24.here hx rfl (hb hby at_188) ?_
            show Steps p.tables e below (T24.setTop (mkF m 189 #[.val (.long q0), .second, .val (.long q1), .second, .val (.int p2), .val (.int f5), .val (.int f6), .val (.int f7), .val (.ref b4), .val (.long (50000 : Int64)), .second, .val (.long lf), .second, .val (.long (own_park lf (50000 : Int64) f5)), .second, .val (.long (0 : Int64)), .second] [(.int (1 : Int32))])) _
            refine XS.goto X24.here hx rfl (pc0 := 189) (pc' := 193) rfl (hb hby at_189) (by decide) (by decide) ?_
            show Steps p.tables e below (T24.setTop (mkF m 193 #[.val (.long q0), .second, .val (.long q1), .second, .val (.int p2), .val (.int f5), .val (.int f6), .val (.int f7), .val (.ref b4), .val (.long (50000 : Int64)), .second, .val (.long lf), .second, .val (.long (own_park lf (50000 : Int64) f5)), .second, .val (.long (0 : Int64)), .second] [(.int (1 : Int32))])) _
            exact k
          refine own_retN X24 hx (t := .boolean) Bd.returns (by simp) (hb hby at_193) (BodyLoose.notSynchronized Bd) (by decide) (by decide) ?_
          rw [show T24.heap = T7.heap from eq24]
          exact ⟨rfl, N24⟩
  · skip
    refine own_step (T' := T7) (g' := (mkF m 68 #[.val (.long q0), .second, .val (.long q1), .second, .val (.int p2), .val (.int f5), .val (.int f6), .val (.int f7), .val (.ref b4), .val (.long (50000 : Int64)), .second, .val (.long (q1 &&& (9223372036854775807 : Int64))), .second, .unset, .unset, .unset, .unset] [])) (fun t k => ?_) ?_
    · show Steps p.tables e below (T7.setTop (mkF m 58 #[.val (.long q0), .second, .val (.long q1), .second, .val (.int p2), .val (.int f5), .val (.int f6), .val (.int f7), .val (.ref b4), .val (.long (50000 : Int64)), .second, .unset, .unset, .unset, .unset, .unset, .unset] [(.int f7)])) _
      refine XS.ifNo X7.here hx rfl (hb hby at_58) rfl ((if0 _ _).trans (feq hc9).1) ?_
      show Steps p.tables e below (T7.setTop (mkF m 61 #[.val (.long q0), .second, .val (.long q1), .second, .val (.int p2), .val (.int f5), .val (.int f6), .val (.int f7), .val (.ref b4), .val (.long (50000 : Int64)), .second, .unset, .unset, .unset, .unset, .unset, .unset] [])) _
      refine XS.lloadN X7.here hx rfl (hb hby at_61) rfl ?_
      show Steps p.tables e below (T7.setTop (mkF m 62 #[.val (.long q0), .second, .val (.long q1), .second, .val (.int p2), .val (.int f5), .val (.int f6), .val (.int f7), .val (.ref b4), .val (.long (50000 : Int64)), .second, .unset, .unset, .unset, .unset, .unset, .unset] [(.long q1)])) _
      refine X7.ldc2Long hx hown (mvT hZ (hw _ (List.mem_of_getElem? (i := 13) rfl))) (g := (mkF m 62 #[.val (.long q0), .second, .val (.long q1), .second, .val (.int p2), .val (.int f5), .val (.int f6), .val (.int f7), .val (.ref b4), .val (.long (50000 : Int64)), .second, .unset, .unset, .unset, .unset, .unset, .unset] [(.long q1)])) rfl (hb hby at_62) _ ?_
      show Steps p.tables e below (T7.setTop (mkF m 65 #[.val (.long q0), .second, .val (.long q1), .second, .val (.int p2), .val (.int f5), .val (.int f6), .val (.int f7), .val (.ref b4), .val (.long (50000 : Int64)), .second, .unset, .unset, .unset, .unset, .unset, .unset] [(.long (9223372036854775807 : Int64)), (.long q1)])) _
      refine XS.land X7.here hx rfl (hb hby at_65) rfl ?_
      show Steps p.tables e below (T7.setTop (mkF m 66 #[.val (.long q0), .second, .val (.long q1), .second, .val (.int p2), .val (.int f5), .val (.int f6), .val (.int f7), .val (.ref b4), .val (.long (50000 : Int64)), .second, .unset, .unset, .unset, .unset, .unset, .unset] [(.long (q1 &&& (9223372036854775807 : Int64)))])) _
      refine XS.lstore X7.here hx rfl (hb hby at_66) rfl (l' := #[.val (.long q0), .second, .val (.long q1), .second, .val (.int p2), .val (.int f5), .val (.int f6), .val (.int f7), .val (.ref b4), .val (.long (50000 : Int64)), .second, .val (.long (q1 &&& (9223372036854775807 : Int64))), .second, .unset, .unset, .unset, .unset]) rfl ?_
      show Steps p.tables e below (T7.setTop (mkF m 68 #[.val (.long q0), .second, .val (.long q1), .second, .val (.int p2), .val (.int f5), .val (.int f6), .val (.int f7), .val (.ref b4), .val (.long (50000 : Int64)), .second, .val (.long (q1 &&& (9223372036854775807 : Int64))), .second, .unset, .unset, .unset, .unset] [])) _
      exact k
    generalize e_ov : (q1 &&& (9223372036854775807 : Int64)) = ov
    show own_Run p e below s _ _ _ T7 (mkF m 68 #[.val (.long q0), .second, .val (.long q1), .second, .val (.int p2), .val (.int f5), .val (.int f6), .val (.int f7), .val (.ref b4), .val (.long (50000 : Int64)), .second, .val (.long ov), .second, .unset, .unset, .unset, .unset] [])
    refine own_step (T' := T7) (g' := (mkF m 72 #[.val (.long q0), .second, .val (.long q1), .second, .val (.int p2), .val (.int f5), .val (.int f6), .val (.int f7), .val (.ref b4), .val (.long (50000 : Int64)), .second, .val (.long ov), .second, .unset, .unset, .unset, .unset] [(.long ov), (.ref b4)])) (fun t k => ?_) ?_
    · show Steps p.tables e below (T7.setTop (mkF m 68 #[.val (.long q0), .second, .val (.long q1), .second, .val (.int p2), .val (.int f5), .val (.int f6), .val (.int f7), .val (.ref b4), .val (.long (50000 : Int64)), .second, .val (.long ov), .second, .unset, .unset, .unset, .unset] [])) _
      refine XS.aload X7.here hx rfl (hb hby at_68) rfl rfl ?_
      show Steps p.tables e below (T7.setTop (mkF m 70 #[.val (.long q0), .second, .val (.long q1), .second, .val (.int p2), .val (.int f5), .val (.int f6), .val (.int f7), .val (.ref b4), .val (.long (50000 : Int64)), .second, .val (.long ov), .second, .unset, .unset, .unset, .unset] [(.ref b4)])) _
      refine XS.lload X7.here hx rfl (hb hby at_70) rfl ?_
      show Steps p.tables e below (T7.setTop (mkF m 72 #[.val (.long q0), .second, .val (.long q1), .second, .val (.int p2), .val (.int f5), .val (.int f6), .val (.int f7), .val (.ref b4), .val (.long (50000 : Int64)), .second, .val (.long ov), .second, .unset, .unset, .unset, .unset] [(.long ov), (.ref b4)])) _
      exact k
    obtain ⟨cq30, kq30, q30a, q30b, q30c⟩ := isOf hZ rfl Eq7
    obtain ⟨_, _, ⟨T30, L30, k30, n30⟩, -, X30, ⟨Lc30, hQ30, l30, y30, z30⟩, st30⟩ := X7.virtualBack hx (y := (⟨"com/example/windlass/windlass/ParkLead", "learn", "(J)V"⟩ : MethodName)) (z := (⟨"com/example/windlass/windlass/ParkLead", "learn", "(J)V"⟩ : MethodName)) hown (mvT hZ (hw _ (List.mem_of_getElem? (i := 19) rfl))) (mvT hZ (hw _ (List.mem_of_getElem? (i := 20) rfl))) (notFace_of_selects (args := #[]) (mvT hZ (hw _ (List.mem_of_getElem? (i := 22) rfl)))) (mvT hZ (hw _ (List.mem_of_getElem? (i := 22) rfl))) (mvT hZ (hw _ (List.mem_of_getElem? (i := 21) rfl))) (by decide) (backOf (W := 0) (rm4 l Z a0 hw [] b4 ov  T7.heap n0 Z8 Eq7 Fq7 g_b4) hZ (hw _ (List.mem_of_getElem? (i := 23) rfl)) (hw _ (List.mem_of_getElem? (i := 2) rfl)) (by decide) (by decide)) q30a q30c (g := (mkF m 72 #[.val (.long q0), .second, .val (.long q1), .second, .val (.int p2), .val (.int f5), .val (.int f6), .val (.int f7), .val (.ref b4), .val (.long (50000 : Int64)), .second, .val (.long ov), .second, .unset, .unset, .unset, .unset] [(.long ov), (.ref b4)])) rfl (by rw [hml]; rfl) (Steps.refl _) (argsL := [(.long ov)]) (rest := []) (lenOf pd_3 rfl) rfl (by show 2 * 0 + _ ≤ _; exact Nat.le_of_eq rfl) (hb hby at_72) (fun _ _ => ⟨rfl, rfl, (by decide : 1 + 0 ≤ _), (by decide : 1 + 0 ≤ _)⟩)
    dsimp only [Pt.U, Pt.locs, Pt.cells, Pt.slots] at X30 l30 y30 z30 st30 hQ30
    subst l30 y30 z30
    obtain ⟨rfl, N30q, Kq30, Eq30, Fq30⟩ := hQ30
    have N30 := Fr.app N7 N30q
    refine own_step (fun t k => st30.trans k) ?_
    show own_Run p e below s _ _ _ T30 (mkF m 75 #[.val (.long q0), .second, .val (.long q1), .second, .val (.int p2), .val (.int f5), .val (.int f6), .val (.int f7), .val (.ref b4), .val (.long (50000 : Int64)), .second, .val (.long ov), .second, .unset, .unset, .unset, .unset] [])
    have Z31 := Nat.le_trans Z8 Kq30.1
    refine own_step (T' := T30) (g' := (mkF m 81 #[.val (.long q0), .second, .val (.long q1), .second, .val (.int p2), .val (.int f5), .val (.int f6), .val (.int f7), .val (.ref b4), .val (.long (50000 : Int64)), .second, .val (.long ov), .second, .unset, .unset, .unset, .unset] [(.int (lcmpW ov (50000 : Int64)))])) (fun t k => ?_) ?_
    · show Steps p.tables e below (T30.setTop (mkF m 75 #[.val (.long q0), .second, .val (.long q1), .second, .val (.int p2), .val (.int f5), .val (.int f6), .val (.int f7), .val (.ref b4), .val (.long (50000 : Int64)), .second, .val (.long ov), .second, .unset, .unset, .unset, .unset] [])) _
      refine XS.lload X30.here hx rfl (hb hby at_75) rfl ?_
      show Steps p.tables e below (T30.setTop (mkF m 77 #[.val (.long q0), .second, .val (.long q1), .second, .val (.int p2), .val (.int f5), .val (.int f6), .val (.int f7), .val (.ref b4), .val (.long (50000 : Int64)), .second, .val (.long ov), .second, .unset, .unset, .unset, .unset] [(.long ov)])) _
      refine X30.ldc2Long hx hown (mvT hZ (hw _ (List.mem_of_getElem? (i := 12) rfl))) (g := (mkF m 77 #[.val (.long q0), .second, .val (.long q1), .second, .val (.int p2), .val (.int f5), .val (.int f6), .val (.int f7), .val (.ref b4), .val (.long (50000 : Int64)), .second, .val (.long ov), .second, .unset, .unset, .unset, .unset] [(.long ov)])) rfl (hb hby at_77) _ ?_
      show Steps p.tables e below (T30.setTop (mkF m 80 #[.val (.long q0), .second, .val (.long q1), .second, .val (.int p2), .val (.int f5), .val (.int f6), .val (.int f7), .val (.ref b4), .val (.long (50000 : Int64)), .second, .val (.long ov), .second, .unset, .unset, .unset, .unset] [(.long (50000 : Int64)), (.long ov)])) _
      refine XS.lcmp X30.here hx rfl (hb hby at_80) rfl ?_
      show Steps p.tables e below (T30.setTop (mkF m 81 #[.val (.long q0), .second, .val (.long q1), .second, .val (.int p2), .val (.int f5), .val (.int f6), .val (.int f7), .val (.ref b4), .val (.long (50000 : Int64)), .second, .val (.long ov), .second, .unset, .unset, .unset, .unset] [(.int (lcmpW ov (50000 : Int64)))])) _
      exact k
    by_cases hc32 : (lcmpW ov (50000 : Int64)) < (0 : Int32)
    · skip
      refine own_step (T' := T30) (g' := (mkF m 84 #[.val (.long q0), .second, .val (.long q1), .second, .val (.int p2), .val (.int f5), .val (.int f6), .val (.int f7), .val (.ref b4), .val (.long (50000 : Int64)), .second, .val (.long ov), .second, .unset, .unset, .unset, .unset] [])) (fun t k => ?_) ?_
      · show Steps p.tables e below (T30.setTop (mkF m 81 #[.val (.long q0), .second, .val (.long q1), .second, .val (.int p2), .val (.int f5), .val (.int f6), .val (.int f7), .val (.ref b4), .val (.long (50000 : Int64)), .second, .val (.long ov), .second, .unset, .unset, .unset, .unset] [(.int (lcmpW ov (50000 : Int64)))])) _
        refine XS.ifNo X30.here hx rfl (hb hby at_81) rfl ((if0 _ _).trans (tlt hc32).2.1) ?_
        show Steps p.tables e below (T30.setTop (mkF m 84 #[.val (.long q0), .second, .val (.long q1), .second, .val (.int p2), .val (.int f5), .val (.int f6), .val (.int f7), .val (.ref b4), .val (.long (50000 : Int64)), .second, .val (.long ov), .second, .unset, .unset, .unset, .unset] [])) _
        exact k
      rw [show (own_lead ov) = (46775 : Int64) from by simp [own_lead, hc32]] at Fq30
      refine own_step (T' := T30) (g' := (mkF m 99 #[.val (.long q0), .second, .val (.long q1), .second, .val (.int p2), .val (.int f5), .val (.int f6), .val (.int f7), .val (.ref b4), .val (.long (46775 : Int64)), .second, .val (.long ov), .second, .unset, .unset, .unset, .unset] [(.int f6)])) (fun t k => ?_) ?_
      · show Steps p.tables e below (T30.setTop (mkF m 84 #[.val (.long q0), .second, .val (.long q1), .second, .val (.int p2), .val (.int f5), .val (.int f6), .val (.int f7), .val (.ref b4), .val (.long (50000 : Int64)), .second, .val (.long ov), .second, .unset, .unset, .unset, .unset] [])) _
        refine X30.ldc2Long hx hown (mvT hZ (hw _ (List.mem_of_getElem? (i := 29) rfl))) (g := (mkF m 84 #[.val (.long q0), .second, .val (.long q1), .second, .val (.int p2), .val (.int f5), .val (.int f6), .val (.int f7), .val (.ref b4), .val (.long (50000 : Int64)), .second, .val (.long ov), .second, .unset, .unset, .unset, .unset] [])) rfl (hb hby at_84) _ ?_
        show Steps p.tables e below (T30.setTop (mkF m 87 #[.val (.long q0), .second, .val (.long q1), .second, .val (.int p2), .val (.int f5), .val (.int f6), .val (.int f7), .val (.ref b4), .val (.long (50000 : Int64)), .second, .val (.long ov), .second, .unset, .unset, .unset, .unset] [(.long (46775 : Int64))])) _
        refine XS.lstore X30.here hx rfl (hb hby at_87) rfl (l' := #[.val (.long q0), .second, .val (.long q1), .second, .val (.int p2), .val (.int f5), .val (.int f6), .val (.int f7), .val (.ref b4), .val (.long (46775 : Int64)), .second, .val (.long ov), .second, .unset, .unset, .unset, .unset]) rfl ?_
        show Steps p.tables e below (T30.setTop (mkF m 89 #[.val (.long q0), .second, .val (.long q1), .second, .val (.int p2), .val (.int f5), .val (.int f6), .val (.int f7), .val (.ref b4), .val (.long (46775 : Int64)), .second, .val (.long ov), .second, .unset, .unset, .unset, .unset] [])) _
        refine XS.goto X30.here hx rfl (pc0 := 89) (pc' := 97) rfl (hb hby at_89) (by decide) (by decide) ?_
        show Steps p.tables e below (T30.setTop (mkF m 97 #[.val (.long q0), .second, .val (.long q1), .second, .val (.int p2), .val (.int f5), .val (.int f6), .val (.int f7), .val (.ref b4), .val (.long (46775 : Int64)), .second, .val (.long ov), .second, .unset, .unset, .unset, .unset] [])) _
        refine XS.iload X30.here hx rfl (hb hby at_97) rfl ?_
        show Steps p.tables e below (T30.setTop (mkF m 99 #[.val (.long q0), .second, .val (.long q1), .second, .val (.int p2), .val (.int f5), .val (.int f6), .val (.int f7), .val (.ref b4), .val (.long (46775 : Int64)), .second, .val (.long ov), .second, .unset, .unset, .unset, .unset] [(.int f6)])) _
        exact k
      by_cases hc33 : f6 = (0 : Int32)
      · skip
        refine own_step (T' := T30) (g' := (mkF m 130 #[.val (.long q0), .second, .val (.long q1), .second, .val (.int p2), .val (.int f5), .val (.int f6), .val (.int f7), .val (.ref b4), .val (.long (46775 : Int64)), .second, .val (.long (q0 &&& (9223372036854775807 : Int64))), .second, .unset, .unset, .unset, .unset] [(.int (lcmpW (q0 &&& (9223372036854775807 : Int64)) (0 : Int64)))])) (fun t k => ?_) ?_
        · show Steps p.tables e below (T30.setTop (mkF m 99 #[.val (.long q0), .second, .val (.long q1), .second, .val (.int p2), .val (.int f5), .val (.int f6), .val (.int f7), .val (.ref b4), .val (.long (46775 : Int64)), .second, .val (.long ov), .second, .unset, .unset, .unset, .unset] [(.int f6)])) _
          refine XS.ifYes X30.here hx rfl (pc0 := 99) (pc' := 119) rfl (hb hby at_99) rfl ((if0 _ _).trans (teq hc33).1) (by decide) (by decide) ?_
          show Steps p.tables e below (T30.setTop (mkF m 119 #[.val (.long q0), .second, .val (.long q1), .second, .val (.int p2), .val (.int f5), .val (.int f6), .val (.int f7), .val (.ref b4), .val (.long (46775 : Int64)), .second, .val (.long ov), .second, .unset, .unset, .unset, .unset] [])) _
          refine XS.lloadN X30.here hx rfl (hb hby at_119) rfl ?_
          show Steps p.tables e below (T30.setTop (mkF m 120 #[.val (.long q0), .second, .val (.long q1), .second, .val (.int p2), .val (.int f5), .val (.int f6), .val (.int f7), .val (.ref b4), .val (.long (46775 : Int64)), .second, .val (.long ov), .second, .unset, .unset, .unset, .unset] [(.long q0)])) _
          refine X30.ldc2Long hx hown (mvT hZ (hw _ (List.mem_of_getElem? (i := 13) rfl))) (g := (mkF m 120 #[.val (.long q0), .second, .val (.long q1), .second, .val (.int p2), .val (.int f5), .val (.int f6), .val (.int f7), .val (.ref b4), .val (.long (46775 : Int64)), .second, .val (.long ov), .second, .unset, .unset, .unset, .unset] [(.long q0)])) rfl (hb hby at_120) _ ?_
          show Steps p.tables e below (T30.setTop (mkF m 123 #[.val (.long q0), .second, .val (.long q1), .second, .val (.int p2), .val (.int f5), .val (.int f6), .val (.int f7), .val (.ref b4), .val (.long (46775 : Int64)), .second, .val (.long ov), .second, .unset, .unset, .unset, .unset] [(.long (9223372036854775807 : Int64)), (.long q0)])) _
          refine XS.land X30.here hx rfl (hb hby at_123) rfl ?_
          show Steps p.tables e below (T30.setTop (mkF m 124 #[.val (.long q0), .second, .val (.long q1), .second, .val (.int p2), .val (.int f5), .val (.int f6), .val (.int f7), .val (.ref b4), .val (.long (46775 : Int64)), .second, .val (.long ov), .second, .unset, .unset, .unset, .unset] [(.long (q0 &&& (9223372036854775807 : Int64)))])) _
          refine XS.lstore X30.here hx rfl (hb hby at_124) rfl (l' := #[.val (.long q0), .second, .val (.long q1), .second, .val (.int p2), .val (.int f5), .val (.int f6), .val (.int f7), .val (.ref b4), .val (.long (46775 : Int64)), .second, .val (.long (q0 &&& (9223372036854775807 : Int64))), .second, .unset, .unset, .unset, .unset]) rfl ?_
          show Steps p.tables e below (T30.setTop (mkF m 126 #[.val (.long q0), .second, .val (.long q1), .second, .val (.int p2), .val (.int f5), .val (.int f6), .val (.int f7), .val (.ref b4), .val (.long (46775 : Int64)), .second, .val (.long (q0 &&& (9223372036854775807 : Int64))), .second, .unset, .unset, .unset, .unset] [])) _
          refine XS.lload X30.here hx rfl (hb hby at_126) rfl ?_
          show Steps p.tables e below (T30.setTop (mkF m 128 #[.val (.long q0), .second, .val (.long q1), .second, .val (.int p2), .val (.int f5), .val (.int f6), .val (.int f7), .val (.ref b4), .val (.long (46775 : Int64)), .second, .val (.long (q0 &&& (9223372036854775807 : Int64))), .second, .unset, .unset, .unset, .unset] [(.long (q0 &&& (9223372036854775807 : Int64)))])) _
          refine XS.lconst X30.here hx rfl (hb hby at_128) ?_
          show Steps p.tables e below (T30.setTop (mkF m 129 #[.val (.long q0), .second, .val (.long q1), .second, .val (.int p2), .val (.int f5), .val (.int f6), .val (.int f7), .val (.ref b4), .val (.long (46775 : Int64)), .second, .val (.long (q0 &&& (9223372036854775807 : Int64))), .second, .unset, .unset, .unset, .unset] [(.long (0 : Int64)), (.long (q0 &&& (9223372036854775807 : Int64)))])) _
          refine XS.lcmp X30.here hx rfl (hb hby at_129) rfl ?_
          show Steps p.tables e below (T30.setTop (mkF m 130 #[.val (.long q0), .second, .val (.long q1), .second, .val (.int p2), .val (.int f5), .val (.int f6), .val (.int f7), .val (.ref b4), .val (.long (46775 : Int64)), .second, .val (.long (q0 &&& (9223372036854775807 : Int64))), .second, .unset, .unset, .unset, .unset] [(.int (lcmpW (q0 &&& (9223372036854775807 : Int64)) (0 : Int64)))])) _
          exact k
        by_cases hc34 : (lcmpW (q0 &&& (9223372036854775807 : Int64)) (0 : Int64)) = (0 : Int32)
        · skip
          refine own_step (T' := T30) (g' := (mkF m 136 #[.val (.long q0), .second, .val (.long q1), .second, .val (.int p2), .val (.int f5), .val (.int f6), .val (.int f7), .val (.ref b4), .val (.long (46775 : Int64)), .second, .val (.long (1 : Int64)), .second, .unset, .unset, .unset, .unset] [])) (fun t k => ?_) ?_
          · show Steps p.tables e below (T30.setTop (mkF m 130 #[.val (.long q0), .second, .val (.long q1), .second, .val (.int p2), .val (.int f5), .val (.int f6), .val (.int f7), .val (.ref b4), .val (.long (46775 : Int64)), .second, .val (.long (q0 &&& (9223372036854775807 : Int64))), .second, .unset, .unset, .unset, .unset] [(.int (lcmpW (q0 &&& (9223372036854775807 : Int64)) (0 : Int64)))])) _
            refine XS.ifNo X30.here hx rfl (hb hby at_130) rfl ((if0 _ _).trans (teq hc34).2) ?_
            show Steps p.tables e below (T30.setTop (mkF m 133 #[.val (.long q0), .second, .val (.long q1), .second, .val (.int p2), .val (.int f5), .val (.int f6), .val (.int f7), .val (.ref b4), .val (.long (46775 : Int64)), .second, .val (.long (q0 &&& (9223372036854775807 : Int64))), .second, .unset, .unset, .unset, .unset] [])) _
            refine XS.lconst X30.here hx rfl (hb hby at_133) ?_
            show Steps p.tables e below (T30.setTop (mkF m 134 #[.val (.long q0), .second, .val (.long q1), .second, .val (.int p2), .val (.int f5), .val (.int f6), .val (.int f7), .val (.ref b4), .val (.long (46775 : Int64)), .second, .val (.long (q0 &&& (9223372036854775807 : Int64))), .second, .unset, .unset, .unset, .unset] [(.long (1 : Int64))])) _
            refine XS.lstore X30.here hx rfl (hb hby at_134) rfl (l' := #[.val (.long q0), .second, .val (.long q1), .second, .val (.int p2), .val (.int f5), .val (.int f6), .val (.int f7), .val (.ref b4), .val (.long (46775 : Int64)), .second, .val (.long (1 : Int64)), .second, .unset, .unset, .unset, .unset]) rfl ?_
            show Steps p.tables e below (T30.setTop (mkF m 136 #[.val (.long q0), .second, .val (.long q1), .second, .val (.int p2), .val (.int f5), .val (.int f6), .val (.int f7), .val (.ref b4), .val (.long (46775 : Int64)), .second, .val (.long (1 : Int64)), .second, .unset, .unset, .unset, .unset] [])) _
            exact k
          refine own_step (T' := T30) (g' := (mkF m 142 #[.val (.long q0), .second, .val (.long q1), .second, .val (.int p2), .val (.int f5), .val (.int f6), .val (.int f7), .val (.ref b4), .val (.long (46775 : Int64)), .second, .val (.long (1 : Int64)), .second, .unset, .unset, .unset, .unset] [(.int f5), (.long (1 : Int64)), (.ref b4)])) (fun t k => ?_) ?_
          · show Steps p.tables e below (T30.setTop (mkF m 136 #[.val (.long q0), .second, .val (.long q1), .second, .val (.int p2), .val (.int f5), .val (.int f6), .val (.int f7), .val (.ref b4), .val (.long (46775 : Int64)), .second, .val (.long (1 : Int64)), .second, .unset, .unset, .unset, .unset] [])) _
            refine XS.aload X30.here hx rfl (hb hby at_136) rfl rfl ?_
            show Steps p.tables e below (T30.setTop (mkF m 138 #[.val (.long q0), .second, .val (.long q1), .second, .val (.int p2), .val (.int f5), .val (.int f6), .val (.int f7), .val (.ref b4), .val (.long (46775 : Int64)), .second, .val (.long (1 : Int64)), .second, .unset, .unset, .unset, .unset] [(.ref b4)])) _
            refine XS.lload X30.here hx rfl (hb hby at_138) rfl ?_
            show Steps p.tables e below (T30.setTop (mkF m 140 #[.val (.long q0), .second, .val (.long q1), .second, .val (.int p2), .val (.int f5), .val (.int f6), .val (.int f7), .val (.ref b4), .val (.long (46775 : Int64)), .second, .val (.long (1 : Int64)), .second, .unset, .unset, .unset, .unset] [(.long (1 : Int64)), (.ref b4)])) _
            refine XS.iload X30.here hx rfl (hb hby at_140) rfl ?_
            show Steps p.tables e below (T30.setTop (mkF m 142 #[.val (.long q0), .second, .val (.long q1), .second, .val (.int p2), .val (.int f5), .val (.int f6), .val (.int f7), .val (.ref b4), .val (.long (46775 : Int64)), .second, .val (.long (1 : Int64)), .second, .unset, .unset, .unset, .unset] [(.int f5), (.long (1 : Int64)), (.ref b4)])) _
            exact k
          obtain ⟨cq35, kq35, q35a, q35b, q35c⟩ := isOf hZ rfl Eq30
          obtain ⟨_, _, ⟨T35, L35, k35, n35⟩, -, X35, ⟨Lc35, hQ35, l35, y35, z35⟩, st35⟩ := X30.virtualBack hx (y := (⟨"com/example/windlass/windlass/ParkLead", "parkNanos", "(JZ)J"⟩ : MethodName)) (z := (⟨"com/example/windlass/windlass/ParkLead", "parkNanos", "(JZ)J"⟩ : MethodName)) hown (mvT hZ (hw _ (List.mem_of_getElem? (i := 14) rfl))) (mvT hZ (hw _ (List.mem_of_getElem? (i := 15) rfl))) (notFace_of_selects (args := #[]) (mvT hZ (hw _ (List.mem_of_getElem? (i := 17) rfl)))) (mvT hZ (hw _ (List.mem_of_getElem? (i := 17) rfl))) (mvT hZ (hw _ (List.mem_of_getElem? (i := 16) rfl))) (by decide) (backOf (W := 0) (rm3 l Z a0 hw [] b4 (1 : Int64) f5 (46775 : Int64) T30.heap n0 Z31 Eq30 Fq30) hZ (hw _ (List.mem_of_getElem? (i := 18) rfl)) (hw _ (List.mem_of_getElem? (i := 2) rfl)) (by decide) (by decide)) q35a q35c (g := (mkF m 142 #[.val (.long q0), .second, .val (.long q1), .second, .val (.int p2), .val (.int f5), .val (.int f6), .val (.int f7), .val (.ref b4), .val (.long (46775 : Int64)), .second, .val (.long (1 : Int64)), .second, .unset, .unset, .unset, .unset] [(.int f5), (.long (1 : Int64)), (.ref b4)])) rfl (by rw [hml]; rfl) (Steps.refl _) (argsL := [(.long (1 : Int64)), (.int f5)]) (rest := []) (lenOf pd_2 rfl) rfl (by show 2 * 0 + _ ≤ _; exact Nat.le_of_eq rfl) (hb hby at_142) (fun _ _ => ⟨rfl, rfl, (by decide : 1 + 0 ≤ _), (by decide : 1 + 0 ≤ _)⟩)
          dsimp only [Pt.U, Pt.locs, Pt.cells, Pt.slots] at X35 l35 y35 z35 st35 hQ35
          subst l35 y35 z35
          obtain ⟨rfl, N35q, eq35⟩ := hQ35
          have N35 := Fr.app N30 N35q
          refine own_step (fun t k => st35.trans k) ?_
          show own_Run p e below s _ _ _ T35 (mkF m 145 #[.val (.long q0), .second, .val (.long q1), .second, .val (.int p2), .val (.int f5), .val (.int f6), .val (.int f7), .val (.ref b4), .val (.long (46775 : Int64)), .second, .val (.long (1 : Int64)), .second, .unset, .unset, .unset, .unset] [(.long (own_park (1 : Int64) (46775 : Int64) f5))])
          refine own_step (T' := T35) (g' := (mkF m 152 #[.val (.long q0), .second, .val (.long q1), .second, .val (.int p2), .val (.int f5), .val (.int f6), .val (.int f7), .val (.ref b4), .val (.long (46775 : Int64)), .second, .val (.long (1 : Int64)), .second, .val (.long (own_park (1 : Int64) (46775 : Int64) f5)), .second, .unset, .unset] [(.int (lcmpW (1 : Int64) (46775 : Int64)))])) (fun t k => ?_) ?_
          · show Steps p.tables e below (T35.setTop (mkF m 145 #[.val (.long q0), .second, .val (.long q1), .second, .val (.int p2), .val (.int f5), .val (.int f6), .val (.int f7), .val (.ref b4), .val (.long (46775 : Int64)), .second, .val (.long (1 : Int64)), .second, .unset, .unset, .unset, .unset] [(.long (own_park (1 : Int64) (46775 : Int64) f5))])) _
            refine XS.lstore X35.here hx rfl (hb hby at_145) rfl (l' := #[.val (.long q0), .second, .val (.long q1), .second, .val (.int p2), .val (.int f5), .val (.int f6), .val (.int f7), .val (.ref b4), .val (.long (46775 : Int64)), .second, .val (.long (1 : Int64)), .second, .val (.long (own_park (1 : Int64) (46775 : Int64) f5)), .second, .unset, .unset]) rfl ?_
            show Steps p.tables e below (T35.setTop (mkF m 147 #[.val (.long q0), .second, .val (.long q1), .second, .val (.int p2), .val (.int f5), .val (.int f6), .val (.int f7), .val (.ref b4), .val (.long (46775 : Int64)), .second, .val (.long (1 : Int64)), .second, .val (.long (own_park (1 : Int64) (46775 : Int64) f5)), .second, .unset, .unset] [])) _
            refine XS.lload X35.here hx rfl (hb hby at_147) rfl ?_
            show Steps p.tables e below (T35.setTop (mkF m 149 #[.val (.long q0), .second, .val (.long q1), .second, .val (.int p2), .val (.int f5), .val (.int f6), .val (.int f7), .val (.ref b4), .val (.long (46775 : Int64)), .second, .val (.long (1 : Int64)), .second, .val (.long (own_park (1 : Int64) (46775 : Int64) f5)), .second, .unset, .unset] [(.long (1 : Int64))])) _
            refine XS.lload X35.here hx rfl (hb hby at_149) rfl ?_
            show Steps p.tables e below (T35.setTop (mkF m 151 #[.val (.long q0), .second, .val (.long q1), .second, .val (.int p2), .val (.int f5), .val (.int f6), .val (.int f7), .val (.ref b4), .val (.long (46775 : Int64)), .second, .val (.long (1 : Int64)), .second, .val (.long (own_park (1 : Int64) (46775 : Int64) f5)), .second, .unset, .unset] [(.long (46775 : Int64)), (.long (1 : Int64))])) _
            refine XS.lcmp X35.here hx rfl (hb hby at_151) rfl ?_
            show Steps p.tables e below (T35.setTop (mkF m 152 #[.val (.long q0), .second, .val (.long q1), .second, .val (.int p2), .val (.int f5), .val (.int f6), .val (.int f7), .val (.ref b4), .val (.long (46775 : Int64)), .second, .val (.long (1 : Int64)), .second, .val (.long (own_park (1 : Int64) (46775 : Int64) f5)), .second, .unset, .unset] [(.int (lcmpW (1 : Int64) (46775 : Int64)))])) _
            exact k
          by_cases hc36 : (0 : Int32) < (lcmpW (1 : Int64) (46775 : Int64))
          · skip
            refine own_step (T' := T35) (g' := (mkF m 193 #[.val (.long q0), .second, .val (.long q1), .second, .val (.int p2), .val (.int f5), .val (.int f6), .val (.int f7), .val (.ref b4), .val (.long (46775 : Int64)), .second, .val (.long (1 : Int64)), .second, .val (.long (own_park (1 : Int64) (46775 : Int64) f5)), .second, .val (.long ((1 : Int64) - (46775 : Int64))), .second] [(.int (1 : Int32))])) (fun t k => ?_) ?_
            · show Steps p.tables e below (T35.setTop (mkF m 152 #[.val (.long q0), .second, .val (.long q1), .second, .val (.int p2), .val (.int f5), .val (.int f6), .val (.int f7), .val (.ref b4), .val (.long (46775 : Int64)), .second, .val (.long (1 : Int64)), .second, .val (.long (own_park (1 : Int64) (46775 : Int64) f5)), .second, .unset, .unset] [(.int (lcmpW (1 : Int64) (46775 : Int64)))])) _
              refine XS.ifYes X35.here hx rfl (pc0 := 152) (pc' := 173) rfl (hb hby at_152) rfl ((if0 _ _).trans (tlt hc36).2.2.1) (by decide) (by decide) ?_
              show Steps p.tables e below (T35.setTop (mkF m 173 #[.val (.long q0), .second, .val (.long q1), .second, .val (.int p2), .val (.int f5), .val (.int f6), .val (.int f7), .val (.ref b4), .val (.long (46775 : Int64)), .second, .val (.long (1 : Int64)), .second, .val (.long (own_park (1 : Int64) (46775 : Int64) f5)), .second, .unset, .unset] [])) _
              refine XS.lload X35.here hx rfl (hb hby at_173) rfl ?_
              show Steps p.tables e below (T35.setTop (mkF m 175 #[.val (.long q0), .second, .val (.long q1), .second, .val (.int p2), .val (.int f5), .val (.int f6), .val (.int f7), .val (.ref b4), .val (.long (46775 : Int64)), .second, .val (.long (1 : Int64)), .second, .val (.long (own_park (1 : Int64) (46775 : Int64) f5)), .second, .unset, .unset] [(.long (1 : Int64))])) _
              refine XS.lload X35.here hx rfl (hb hby at_175) rfl ?_
              show Steps p.tables e below (T35.setTop (mkF m 177 #[.val (.long q0), .second, .val (.long q1), .second, .val (.int p2), .val (.int f5), .val (.int f6), .val (.int f7), .val (.ref b4), .val (.long (46775 : Int64)), .second, .val (.long (1 : Int64)), .second, .val (.long (own_park (1 : Int64) (46775 : Int64) f5)), .second, .unset, .unset] [(.long (46775 : Int64)), (.long (1 : Int64))])) _
              refine XS.lsub X35.here hx rfl (hb hby at_177) rfl ?_
              show Steps p.tables e below (T35.setTop (mkF m 178 #[.val (.long q0), .second, .val (.long q1), .second, .val (.int p2), .val (.int f5), .val (.int f6), .val (.int f7), .val (.ref b4), .val (.long (46775 : Int64)), .second, .val (.long (1 : Int64)), .second, .val (.long (own_park (1 : Int64) (46775 : Int64) f5)), .second, .unset, .unset] [(.long ((1 : Int64) - (46775 : Int64)))])) _
              refine XS.lstore X35.here hx rfl (hb hby at_178) rfl (l' := #[.val (.long q0), .second, .val (.long q1), .second, .val (.int p2), .val (.int f5), .val (.int f6), .val (.int f7), .val (.ref b4), .val (.long (46775 : Int64)), .second, .val (.long (1 : Int64)), .second, .val (.long (own_park (1 : Int64) (46775 : Int64) f5)), .second, .val (.long ((1 : Int64) - (46775 : Int64))), .second]) rfl ?_
              show Steps p.tables e below (T35.setTop (mkF m 180 #[.val (.long q0), .second, .val (.long q1), .second, .val (.int p2), .val (.int f5), .val (.int f6), .val (.int f7), .val (.ref b4), .val (.long (46775 : Int64)), .second, .val (.long (1 : Int64)), .second, .val (.long (own_park (1 : Int64) (46775 : Int64) f5)), .second, .val (.long ((1 : Int64) - (46775 : Int64))), .second] [])) _
              refine XS.lload X35.here hx rfl (hb hby at_180) rfl ?_
              show Steps p.tables e below (T35.setTop (mkF m 182 #[.val (.long q0), .second, .val (.long q1), .second, .val (.int p2), .val (.int f5), .val (.int f6), .val (.int f7), .val (.ref b4), .val (.long (46775 : Int64)), .second, .val (.long (1 : Int64)), .second, .val (.long (own_park (1 : Int64) (46775 : Int64) f5)), .second, .val (.long ((1 : Int64) - (46775 : Int64))), .second] [(.long (own_park (1 : Int64) (46775 : Int64) f5))])) _
              refine XS.lload X35.here hx rfl (hb hby at_182) rfl ?_
              show Steps p.tables e below (T35.setTop (mkF m 184 #[.val (.long q0), .second, .val (.long q1), .second, .val (.int p2), .val (.int f5), .val (.int f6), .val (.int f7), .val (.ref b4), .val (.long (46775 : Int64)), .second, .val (.long (1 : Int64)), .second, .val (.long (own_park (1 : Int64) (46775 : Int64) f5)), .second, .val (.long ((1 : Int64) - (46775 : Int64))), .second] [(.long ((1 : Int64) - (46775 : Int64))), (.long (own_park (1 : Int64) (46775 : Int64) f5))])) _
              refine XS.lcmp X35.here hx rfl (hb hby at_184) rfl ?_
              show Steps p.tables e below (T35.setTop (mkF m 185 #[.val (.long q0), .second, .val (.long q1), .second, .val (.int p2), .val (.int f5), .val (.int f6), .val (.int f7), .val (.ref b4), .val (.long (46775 : Int64)), .second, .val (.long (1 : Int64)), .second, .val (.long (own_park (1 : Int64) (46775 : Int64) f5)), .second, .val (.long ((1 : Int64) - (46775 : Int64))), .second] [(.int (lcmpW (own_park (1 : Int64) (46775 : Int64) f5) ((1 : Int64) - (46775 : Int64))))])) _
              refine XS.ifNo X35.here hx rfl (hb hby at_185) rfl ((if0 _ _).trans (teq ((lw_eq _ _).mpr (own_fin1 hc36))).2) ?_
              show Steps p.tables e below (T35.setTop (mkF m 188 #[.val (.long q0), .second, .val (.long q1), .second, .val (.int p2), .val (.int f5), .val (.int f6), .val (.int f7), .val (.ref b4), .val (.long (46775 : Int64)), .second, .val (.long (1 : Int64)), .second, .val (.long (own_park (1 : Int64) (46775 : Int64) f5)), .second, .val (.long ((1 : Int64) - (46775 : Int64))), .second] [])) _
              refine XS.iconst X35.here hx rfl (hb hby at_188) ?_
              show Steps p.tables e below (T35.setTop (mkF m 189 #[.val (.long q0), .second, .val (.long q1), .second, .val (.int p2), .val (.int f5), .val (.int f6), .val (.int f7), .val (.ref b4), .val (.long (46775 : Int64)), .second, .val (.long (1 : Int64)), .second, .val (.long (own_park (1 : Int64) (46775 : Int64) f5)), .second, .val (.long ((1 : Int64) - (46775 : Int64))), .second] [(.int (1 : Int32))])) _
              refine XS.goto X35.here hx rfl (pc0 := 189) (pc' := 193) rfl (hb hby at_189) (by decide) (by decide) ?_
              show Steps p.tables e below (T35.setTop (mkF m 193 #[.val (.long q0), .second, .val (.long q1), .second, .val (.int p2), .val (.int f5), .val (.int f6), .val (.int f7), .val (.ref b4), .val (.long (46775 : Int64)), .second, .val (.long (1 : Int64)), .second, .val (.long (own_park (1 : Int64) (46775 : Int64) f5)), .second, .val (.long ((1 : Int64) - (46775 : Int64))), .second] [(.int (1 : Int32))])) _
              exact k
            refine own_retN X35 hx (t := .boolean) Bd.returns (by simp) (hb hby at_193) (BodyLoose.notSynchronized Bd) (by decide) (by decide) ?_
            rw [show T35.heap = T30.heap from eq35]
            exact ⟨rfl, N35⟩
          · skip
            refine own_step (T' := T35) (g' := (mkF m 157 #[.val (.long q0), .second, .val (.long q1), .second, .val (.int p2), .val (.int f5), .val (.int f6), .val (.int f7), .val (.ref b4), .val (.long (46775 : Int64)), .second, .val (.long (1 : Int64)), .second, .val (.long (own_park (1 : Int64) (46775 : Int64) f5)), .second, .unset, .unset] [(.int f5)])) (fun t k => ?_) ?_
            · show Steps p.tables e below (T35.setTop (mkF m 152 #[.val (.long q0), .second, .val (.long q1), .second, .val (.int p2), .val (.int f5), .val (.int f6), .val (.int f7), .val (.ref b4), .val (.long (46775 : Int64)), .second, .val (.long (1 : Int64)), .second, .val (.long (own_park (1 : Int64) (46775 : Int64) f5)), .second, .unset, .unset] [(.int (lcmpW (1 : Int64) (46775 : Int64)))])) _
              refine XS.ifNo X35.here hx rfl (hb hby at_152) rfl ((if0 _ _).trans (flt hc36).2.2.1) ?_
              show Steps p.tables e below (T35.setTop (mkF m 155 #[.val (.long q0), .second, .val (.long q1), .second, .val (.int p2), .val (.int f5), .val (.int f6), .val (.int f7), .val (.ref b4), .val (.long (46775 : Int64)), .second, .val (.long (1 : Int64)), .second, .val (.long (own_park (1 : Int64) (46775 : Int64) f5)), .second, .unset, .unset] [])) _
              refine XS.iload X35.here hx rfl (hb hby at_155) rfl ?_
              show Steps p.tables e below (T35.setTop (mkF m 157 #[.val (.long q0), .second, .val (.long q1), .second, .val (.int p2), .val (.int f5), .val (.int f6), .val (.int f7), .val (.ref b4), .val (.long (46775 : Int64)), .second, .val (.long (1 : Int64)), .second, .val (.long (own_park (1 : Int64) (46775 : Int64) f5)), .second, .unset, .unset] [(.int f5)])) _
              exact k
            by_cases hc38 : f5 = (0 : Int32)
            · skip
              refine own_step (T' := T35) (g' := (mkF m 193 #[.val (.long q0), .second, .val (.long q1), .second, .val (.int p2), .val (.int f5), .val (.int f6), .val (.int f7), .val (.ref b4), .val (.long (46775 : Int64)), .second, .val (.long (1 : Int64)), .second, .val (.long (own_park (1 : Int64) (46775 : Int64) f5)), .second, .val (.long (1 : Int64)), .second] [(.int (1 : Int32))])) (fun t k => ?_) ?_
              · show Steps p.tables e below (T35.setTop (mkF m 157 #[.val (.long q0), .second, .val (.long q1), .second, .val (.int p2), .val (.int f5), .val (.int f6), .val (.int f7), .val (.ref b4), .val (.long (46775 : Int64)), .second, .val (.long (1 : Int64)), .second, .val (.long (own_park (1 : Int64) (46775 : Int64) f5)), .second, .unset, .unset] [(.int f5)])) _
                refine XS.ifYes X35.here hx rfl (pc0 := 157) (pc' := 166) rfl (hb hby at_157) rfl ((if0 _ _).trans (teq hc38).1) (by decide) (by decide) ?_
                show Steps p.tables e below (T35.setTop (mkF m 166 #[.val (.long q0), .second, .val (.long q1), .second, .val (.int p2), .val (.int f5), .val (.int f6), .val (.int f7), .val (.ref b4), .val (.long (46775 : Int64)), .second, .val (.long (1 : Int64)), .second, .val (.long (own_park (1 : Int64) (46775 : Int64) f5)), .second, .unset, .unset] [])) _
                refine XS.lload X35.here hx rfl (hb hby at_166) rfl ?_
                show Steps p.tables e below (T35.setTop (mkF m 168 #[.val (.long q0), .second, .val (.long q1), .second, .val (.int p2), .val (.int f5), .val (.int f6), .val (.int f7), .val (.ref b4), .val (.long (46775 : Int64)), .second, .val (.long (1 : Int64)), .second, .val (.long (own_park (1 : Int64) (46775 : Int64) f5)), .second, .unset, .unset] [(.long (1 : Int64))])) _
                refine XS.lstore X35.here hx rfl (hb hby at_168) rfl (l' := #[.val (.long q0), .second, .val (.long q1), .second, .val (.int p2), .val (.int f5), .val (.int f6), .val (.int f7), .val (.ref b4), .val (.long (46775 : Int64)), .second, .val (.long (1 : Int64)), .second, .val (.long (own_park (1 : Int64) (46775 : Int64) f5)), .second, .val (.long (1 : Int64)), .second]) rfl ?_
                show Steps p.tables e below (T35.setTop (mkF m 170 #[.val (.long q0), .second, .val (.long q1), .second, .val (.int p2), .val (.int f5), .val (.int f6), .val (.int f7), .val (.ref b4), .val (.long (46775 : Int64)), .second, .val (.long (1 : Int64)), .second, .val (.long (own_park (1 : Int64) (46775 : Int64) f5)), .second, .val (.long (1 : Int64)), .second] [])) _
                refine XS.goto X35.here hx rfl (pc0 := 170) (pc' := 180) rfl (hb hby at_170) (by decide) (by decide) ?_
                show Steps p.tables e below (T35.setTop (mkF m 180 #[.val (.long q0), .second, .val (.long q1), .second, .val (.int p2), .val (.int f5), .val (.int f6), .val (.int f7), .val (.ref b4), .val (.long (46775 : Int64)), .second, .val (.long (1 : Int64)), .second, .val (.long (own_park (1 : Int64) (46775 : Int64) f5)), .second, .val (.long (1 : Int64)), .second] [])) _
                refine XS.lload X35.here hx rfl (hb hby at_180) rfl ?_
                show Steps p.tables e below (T35.setTop (mkF m 182 #[.val (.long q0), .second, .val (.long q1), .second, .val (.int p2), .val (.int f5), .val (.int f6), .val (.int f7), .val (.ref b4), .val (.long (46775 : Int64)), .second, .val (.long (1 : Int64)), .second, .val (.long (own_park (1 : Int64) (46775 : Int64) f5)), .second, .val (.long (1 : Int64)), .second] [(.long (own_park (1 : Int64) (46775 : Int64) f5))])) _
                refine XS.lload X35.here hx rfl (hb hby at_182) rfl ?_
                show Steps p.tables e below (T35.setTop (mkF m 184 #[.val (.long q0), .second, .val (.long q1), .second, .val (.int p2), .val (.int f5), .val (.int f6), .val (.int f7), .val (.ref b4), .val (.long (46775 : Int64)), .second, .val (.long (1 : Int64)), .second, .val (.long (own_park (1 : Int64) (46775 : Int64) f5)), .second, .val (.long (1 : Int64)), .second] [(.long (1 : Int64)), (.long (own_park (1 : Int64) (46775 : Int64) f5))])) _
                refine XS.lcmp X35.here hx rfl (hb hby at_184) rfl ?_
                show Steps p.tables e below (T35.setTop (mkF m 185 #[.val (.long q0), .second, .val (.long q1), .second, .val (.int p2), .val (.int f5), .val (.int f6), .val (.int f7), .val (.ref b4), .val (.long (46775 : Int64)), .second, .val (.long (1 : Int64)), .second, .val (.long (own_park (1 : Int64) (46775 : Int64) f5)), .second, .val (.long (1 : Int64)), .second] [(.int (lcmpW (own_park (1 : Int64) (46775 : Int64) f5) (1 : Int64)))])) _
                refine XS.ifNo X35.here hx rfl (hb hby at_185) rfl ((if0 _ _).trans (teq ((lw_eq _ _).mpr (own_fin2 hc36 hc38))).2) ?_
                show Steps p.tables e below (T35.setTop (mkF m 188 #[.val (.long q0), .second, .val (.long q1), .second, .val (.int p2), .val (.int f5), .val (.int f6), .val (.int f7), .val (.ref b4), .val (.long (46775 : Int64)), .second, .val (.long (1 : Int64)), .second, .val (.long (own_park (1 : Int64) (46775 : Int64) f5)), .second, .val (.long (1 : Int64)), .second] [])) _
                refine XS.iconst X35.here hx rfl (hb hby at_188) ?_
                show Steps p.tables e below (T35.setTop (mkF m 189 #[.val (.long q0), .second, .val (.long q1), .second, .val (.int p2), .val (.int f5), .val (.int f6), .val (.int f7), .val (.ref b4), .val (.long (46775 : Int64)), .second, .val (.long (1 : Int64)), .second, .val (.long (own_park (1 : Int64) (46775 : Int64) f5)), .second, .val (.long (1 : Int64)), .second] [(.int (1 : Int32))])) _
                refine XS.goto X35.here hx rfl (pc0 := 189) (pc' := 193) rfl (hb hby at_189) (by decide) (by decide) ?_
                show Steps p.tables e below (T35.setTop (mkF m 193 #[.val (.long q0), .second, .val (.long q1), .second, .val (.int p2), .val (.int f5), .val (.int f6), .val (.int f7), .val (.ref b4), .val (.long (46775 : Int64)), .second, .val (.long (1 : Int64)), .second, .val (.long (own_park (1 : Int64) (46775 : Int64) f5)), .second, .val (.long (1 : Int64)), .second] [(.int (1 : Int32))])) _
                exact k
              refine own_retN X35 hx (t := .boolean) Bd.returns (by simp) (hb hby at_193) (BodyLoose.notSynchronized Bd) (by decide) (by decide) ?_
              rw [show T35.heap = T30.heap from eq35]
              exact ⟨rfl, N35⟩
            · skip
              refine own_step (T' := T35) (g' := (mkF m 193 #[.val (.long q0), .second, .val (.long q1), .second, .val (.int p2), .val (.int f5), .val (.int f6), .val (.int f7), .val (.ref b4), .val (.long (46775 : Int64)), .second, .val (.long (1 : Int64)), .second, .val (.long (own_park (1 : Int64) (46775 : Int64) f5)), .second, .val (.long (0 : Int64)), .second] [(.int (1 : Int32))])) (fun t k => ?_) ?_
              · show Steps p.tables e below (T35.setTop (mkF m 157 #[.val (.long q0), .second, .val (.long q1), .second, .val (.int p2), .val (.int f5), .val (.int f6), .val (.int f7), .val (.ref b4), .val (.long (46775 : Int64)), .second, .val (.long (1 : Int64)), .second, .val (.long (own_park (1 : Int64) (46775 : Int64) f5)), .second, .unset, .unset] [(.int f5)])) _
                refine XS.ifNo X35.here hx rfl (hb hby at_157) rfl ((if0 _ _).trans (feq hc38).1) ?_
                show Steps p.tables e below (T35.setTop (mkF m 160 #[.val (.long q0), .second, .val (.long q1), .second, .val (.int p2), .val (.int f5), .val (.int f6), .val (.int f7), .val (.ref b4), .val (.long (46775 : Int64)), .second, .val (.long (1 : Int64)), .second, .val (.long (own_park (1 : Int64) (46775 : Int64) f5)), .second, .unset, .unset] [])) _
                refine XS.lconst X35.here hx rfl (hb hby at_160) ?_
                show Steps p.tables e below (T35.setTop (mkF m 161 #[.val (.long q0), .second, .val (.long q1), .second, .val (.int p2), .val (.int f5), .val (.int f6), .val (.int f7), .val (.ref b4), .val (.long (46775 : Int64)), .second, .val (.long (1 : Int64)), .second, .val (.long (own_park (1 : Int64) (46775 : Int64) f5)), .second, .unset, .unset] [(.long (0 : Int64))])) _
                refine XS.lstore X35.here hx rfl (hb hby at_161) rfl (l' := #[.val (.long q0), .second, .val (.long q1), .second, .val (.int p2), .val (.int f5), .val (.int f6), .val (.int f7), .val (.ref b4), .val (.long (46775 : Int64)), .second, .val (.long (1 : Int64)), .second, .val (.long (own_park (1 : Int64) (46775 : Int64) f5)), .second, .val (.long (0 : Int64)), .second]) rfl ?_
                show Steps p.tables e below (T35.setTop (mkF m 163 #[.val (.long q0), .second, .val (.long q1), .second, .val (.int p2), .val (.int f5), .val (.int f6), .val (.int f7), .val (.ref b4), .val (.long (46775 : Int64)), .second, .val (.long (1 : Int64)), .second, .val (.long (own_park (1 : Int64) (46775 : Int64) f5)), .second, .val (.long (0 : Int64)), .second] [])) _
                refine XS.goto X35.here hx rfl (pc0 := 163) (pc' := 180) rfl (hb hby at_163) (by decide) (by decide) ?_
                show Steps p.tables e below (T35.setTop (mkF m 180 #[.val (.long q0), .second, .val (.long q1), .second, .val (.int p2), .val (.int f5), .val (.int f6), .val (.int f7), .val (.ref b4), .val (.long (46775 : Int64)), .second, .val (.long (1 : Int64)), .second, .val (.long (own_park (1 : Int64) (46775 : Int64) f5)), .second, .val (.long (0 : Int64)), .second] [])) _
                refine XS.lload X35.here hx rfl (hb hby at_180) rfl ?_
                show Steps p.tables e below (T35.setTop (mkF m 182 #[.val (.long q0), .second, .val (.long q1), .second, .val (.int p2), .val (.int f5), .val (.int f6), .val (.int f7), .val (.ref b4), .val (.long (46775 : Int64)), .second, .val (.long (1 : Int64)), .second, .val (.long (own_park (1 : Int64) (46775 : Int64) f5)), .second, .val (.long (0 : Int64)), .second] [(.long (own_park (1 : Int64) (46775 : Int64) f5))])) _
                refine XS.lload X35.here hx rfl (hb hby at_182) rfl ?_
                show Steps p.tables e below (T35.setTop (mkF m 184 #[.val (.long q0), .second, .val (.long q1), .second, .val (.int p2), .val (.int f5), .val (.int f6), .val (.int f7), .val (.ref b4), .val (.long (46775 : Int64)), .second, .val (.long (1 : Int64)), .second, .val (.long (own_park (1 : Int64) (46775 : Int64) f5)), .second, .val (.long (0 : Int64)), .second] [(.long (0 : Int64)), (.long (own_park (1 : Int64) (46775 : Int64) f5))])) _
                refine XS.lcmp X35.here hx rfl (hb hby at_184) rfl ?_
                show Steps p.tables e below (T35.setTop (mkF m 185 #[.val (.long q0), .second, .val (.long q1), .second, .val (.int p2), .val (.int f5), .val (.int f6), .val (.int f7), .val (.ref b4), .val (.long (46775 : Int64)), .second, .val (.long (1 : Int64)), .second, .val (.long (own_park (1 : Int64) (46775 : Int64) f5)), .second, .val (.long (0 : Int64)), .second] [(.int (lcmpW (own_park (1 : Int64) (46775 : Int64) f5) (0 : Int64)))])) _
                refine XS.ifNo X35.here hx rfl (hb hby at_185) rfl ((if0 _ _).trans (teq ((lw_eq _ _).mpr (own_fin3 hc36 hc38))).2) ?_
                show Steps p.tables e below (T35.setTop (mkF m 188 #[.val (.long q0), .second, .val (.long q1), .second, .val (.int p2), .val (.int f5), .val (.int f6), .val (.int f7), .val (.ref b4), .val (.long (46775 : Int64)), .second, .val (.long (1 : Int64)), .second, .val (.long (own_park (1 : Int64) (46775 : Int64) f5)), .second, .val (.long (0 : Int64)), .second] [])) _
                refine XS.iconst X35.here hx rfl (hb hby at_188) ?_
                show Steps p.tables e below (T35.setTop (mkF m 189 #[.val (.long q0), .second, .val (.long q1), .second, .val (.int p2), .val (.int f5), .val (.int f6), .val (.int f7), .val (.ref b4), .val (.long (46775 : Int64)), .second, .val (.long (1 : Int64)), .second, .val (.long (own_park (1 : Int64) (46775 : Int64) f5)), .second, .val (.long (0 : Int64)), .second] [(.int (1 : Int32))])) _
                refine XS.goto X35.here hx rfl (pc0 := 189) (pc' := 193) rfl (hb hby at_189) (by decide) (by decide) ?_
                show Steps p.tables e below (T35.setTop (mkF m 193 #[.val (.long q0), .second, .val (.long q1), .second, .val (.int p2), .val (.int f5), .val (.int f6), .val (.int f7), .val (.ref b4), .val (.long (46775 : Int64)), .second, .val (.long (1 : Int64)), .second, .val (.long (own_park (1 : Int64) (46775 : Int64) f5)), .second, .val (.long (0 : Int64)), .second] [(.int (1 : Int32))])) _
                exact k
              refine own_retN X35 hx (t := .boolean) Bd.returns (by simp) (hb hby at_193) (BodyLoose.notSynchronized Bd) (by decide) (by decide) ?_
              rw [show T35.heap = T30.heap from eq35]
              exact ⟨rfl, N35⟩
        · skip
          refine own_step (T' := T30) (g' := (mkF m 136 #[.val (.long q0), .second, .val (.long q1), .second, .val (.int p2), .val (.int f5), .val (.int f6), .val (.int f7), .val (.ref b4), .val (.long (46775 : Int64)), .second, .val (.long (q0 &&& (9223372036854775807 : Int64))), .second, .unset, .unset, .unset, .unset] [])) (fun t k => ?_) ?_
          · show Steps p.tables e below (T30.setTop (mkF m 130 #[.val (.long q0), .second, .val (.long q1), .second, .val (.int p2), .val (.int f5), .val (.int f6), .val (.int f7), .val (.ref b4), .val (.long (46775 : Int64)), .second, .val (.long (q0 &&& (9223372036854775807 : Int64))), .second, .unset, .unset, .unset, .unset] [(.int (lcmpW (q0 &&& (9223372036854775807 : Int64)) (0 : Int64)))])) _
            refine XS.ifYes X30.here hx rfl (pc0 := 130) (pc' := 136) rfl (hb hby at_130) rfl ((if0 _ _).trans (feq hc34).2) (by decide) (by decide) ?_
            show Steps p.tables e below (T30.setTop (mkF m 136 #[.val (.long q0), .second, .val (.long q1), .second, .val (.int p2), .val (.int f5), .val (.int f6), .val (.int f7), .val (.ref b4), .val (.long (46775 : Int64)), .second, .val (.long (q0 &&& (9223372036854775807 : Int64))), .second, .unset, .unset, .unset, .unset] [])) _
            exact k
          generalize e_lf : (q0 &&& (9223372036854775807 : Int64)) = lf
          show own_Run p e below s _ _ _ T30 (mkF m 136 #[.val (.long q0), .second, .val (.long q1), .second, .val (.int p2), .val (.int f5), .val (.int f6), .val (.int f7), .val (.ref b4), .val (.long (46775 : Int64)), .second, .val (.long lf), .second, .unset, .unset, .unset, .unset] [])
          refine own_step (T' := T30) (g' := (mkF m 142 #[.val (.long q0), .second, .val (.long q1), .second, .val (.int p2), .val (.int f5), .val (.int f6), .val (.int f7), .val (.ref b4), .val (.long (46775 : Int64)), .second, .val (.long lf), .second, .unset, .unset, .unset, .unset] [(.int f5), (.long lf), (.ref b4)])) (fun t k => ?_) ?_
          · show Steps p.tables e below (T30.setTop (mkF m 136 #[.val (.long q0), .second, .val (.long q1), .second, .val (.int p2), .val (.int f5), .val (.int f6), .val (.int f7), .val (.ref b4), .val (.long (46775 : Int64)), .second, .val (.long lf), .second, .unset, .unset, .unset, .unset] [])) _
            refine XS.aload X30.here hx rfl (hb hby at_136) rfl rfl ?_
            show Steps p.tables e below (T30.setTop (mkF m 138 #[.val (.long q0), .second, .val (.long q1), .second, .val (.int p2), .val (.int f5), .val (.int f6), .val (.int f7), .val (.ref b4), .val (.long (46775 : Int64)), .second, .val (.long lf), .second, .unset, .unset, .unset, .unset] [(.ref b4)])) _
            refine XS.lload X30.here hx rfl (hb hby at_138) rfl ?_
            show Steps p.tables e below (T30.setTop (mkF m 140 #[.val (.long q0), .second, .val (.long q1), .second, .val (.int p2), .val (.int f5), .val (.int f6), .val (.int f7), .val (.ref b4), .val (.long (46775 : Int64)), .second, .val (.long lf), .second, .unset, .unset, .unset, .unset] [(.long lf), (.ref b4)])) _
            refine XS.iload X30.here hx rfl (hb hby at_140) rfl ?_
            show Steps p.tables e below (T30.setTop (mkF m 142 #[.val (.long q0), .second, .val (.long q1), .second, .val (.int p2), .val (.int f5), .val (.int f6), .val (.int f7), .val (.ref b4), .val (.long (46775 : Int64)), .second, .val (.long lf), .second, .unset, .unset, .unset, .unset] [(.int f5), (.long lf), (.ref b4)])) _
            exact k
          obtain ⟨cq41, kq41, q41a, q41b, q41c⟩ := isOf hZ rfl Eq30
          obtain ⟨_, _, ⟨T41, L41, k41, n41⟩, -, X41, ⟨Lc41, hQ41, l41, y41, z41⟩, st41⟩ := X30.virtualBack hx (y := (⟨"com/example/windlass/windlass/ParkLead", "parkNanos", "(JZ)J"⟩ : MethodName)) (z := (⟨"com/example/windlass/windlass/ParkLead", "parkNanos", "(JZ)J"⟩ : MethodName)) hown (mvT hZ (hw _ (List.mem_of_getElem? (i := 14) rfl))) (mvT hZ (hw _ (List.mem_of_getElem? (i := 15) rfl))) (notFace_of_selects (args := #[]) (mvT hZ (hw _ (List.mem_of_getElem? (i := 17) rfl)))) (mvT hZ (hw _ (List.mem_of_getElem? (i := 17) rfl))) (mvT hZ (hw _ (List.mem_of_getElem? (i := 16) rfl))) (by decide) (backOf (W := 0) (rm3 l Z a0 hw [] b4 lf f5 (46775 : Int64) T30.heap n0 Z31 Eq30 Fq30) hZ (hw _ (List.mem_of_getElem? (i := 18) rfl)) (hw _ (List.mem_of_getElem? (i := 2) rfl)) (by decide) (by decide)) q41a q41c (g := (mkF m 142 #[.val (.long q0), .second, .val (.long q1), .second, .val (.int p2), .val (.int f5), .val (.int f6), .val (.int f7), .val (.ref b4), .val (.long (46775 : Int64)), .second, .val (.long lf), .second, .unset, .unset, .unset, .unset] [(.int f5), (.long lf), (.ref b4)])) rfl (by rw [hml]; rfl) (Steps.refl _) (argsL := [(.long lf), (.int f5)]) (rest := []) (lenOf pd_2 rfl) rfl (by show 2 * 0 + _ ≤ _; exact Nat.le_of_eq rfl) (hb hby at_142) (fun _ _ => ⟨rfl, rfl, (by decide : 1 + 0 ≤ _), (by decide : 1 + 0 ≤ _)⟩)
          dsimp only [Pt.U, Pt.locs, Pt.cells, Pt.slots] at X41 l41 y41 z41 st41 hQ41
          subst l41 y41 z41
          obtain ⟨rfl, N41q, eq41⟩ := hQ41
          have N41 := Fr.app N30 N41q
          refine own_step (fun t k => st41.trans k) ?_
          show own_Run p e below s _ _ _ T41 (mkF m 145 #[.val (.long q0), .second, .val (.long q1), .second, .val (.int p2), .val (.int f5), .val (.int f6), .val (.int f7), .val (.ref b4), .val (.long (46775 : Int64)), .second, .val (.long lf), .second, .unset, .unset, .unset, .unset] [(.long (own_park lf (46775 : Int64) f5))])
          refine own_step (T' := T41) (g' := (mkF m 152 #[.val (.long q0), .second, .val (.long q1), .second, .val (.int p2), .val (.int f5), .val (.int f6), .val (.int f7), .val (.ref b4), .val (.long (46775 : Int64)), .second, .val (.long lf), .second, .val (.long (own_park lf (46775 : Int64) f5)), .second, .unset, .unset] [(.int (lcmpW lf (46775 : Int64)))])) (fun t k => ?_) ?_
          · show Steps p.tables e below (T41.setTop (mkF m 145 #[.val (.long q0), .second, .val (.long q1), .second, .val (.int p2), .val (.int f5), .val (.int f6), .val (.int f7), .val (.ref b4), .val (.long (46775 : Int64)), .second, .val (.long lf), .second, .unset, .unset, .unset, .unset] [(.long (own_park lf (46775 : Int64) f5))])) _
            refine XS.lstore X41.here hx rfl (hb hby at_145) rfl (l' := #[.val (.long q0), .second, .val (.long q1), .second, .val (.int p2), .val (.int f5), .val (.int f6), .val (.int f7), .val (.ref b4), .val (.long (46775 : Int64)), .second, .val (.long lf), .second, .val (.long (own_park lf (46775 : Int64) f5)), .second, .unset, .unset]) rfl ?_
            show Steps p.tables e below (T41.setTop (mkF m 147 #[.val (.long q0), .second, .val (.long q1), .second, .val (.int p2), .val (.int f5), .val (.int f6), .val (.int f7), .val (.ref b4), .val (.long (46775 : Int64)), .second, .val (.long lf), .second, .val (.long (own_park lf (46775 : Int64) f5)), .second, .unset, .unset] [])) _
            refine XS.lload X41.here hx rfl (hb hby at_147) rfl ?_
            show Steps p.tables e below (T41.setTop (mkF m 149 #[.val (.long q0), .second, .val (.long q1), .second, .val (.int p2), .val (.int f5), .val (.int f6), .val (.int f7), .val (.ref b4), .val (.long (46775 : Int64)), .second, .val (.long lf), .second, .val (.long (own_park lf (46775 : Int64) f5)), .second, .unset, .unset] [(.long lf)])) _
            refine XS.lload X41.here hx rfl (hb hby at_149) rfl ?_
            show Steps p.tables e below (T41.setTop (mkF m 151 #[.val (.long q0), .second, .val (.long q1), .second, .val (.int p2), .val (.int f5), .val (.int f6), .val (.int f7), .val (.ref b4), .val (.long (46775 : Int64)), .second, .val (.long lf), .second, .val (.long (own_park lf (46775 : Int64) f5)), .second, .unset, .unset] [(.long (46775 : Int64)), (.long lf)])) _
            refine XS.lcmp X41.here hx rfl (hb hby at_151) rfl ?_
            show Steps p.tables e below (T41.setTop (mkF m 152 #[.val (.long q0), .second, .val (.long q1), .second, .val (.int p2), .val (.int f5), .val (.int f6), .val (.int f7), .val (.ref b4), .val (.long (46775 : Int64)), .second, .val (.long lf), .second, .val (.long (own_park lf (46775 : Int64) f5)), .second, .unset, .unset] [(.int (lcmpW lf (46775 : Int64)))])) _
            exact k
          by_cases hc42 : (0 : Int32) < (lcmpW lf (46775 : Int64))
          · skip
            refine own_step (T' := T41) (g' := (mkF m 193 #[.val (.long q0), .second, .val (.long q1), .second, .val (.int p2), .val (.int f5), .val (.int f6), .val (.int f7), .val (.ref b4), .val (.long (46775 : Int64)), .second, .val (.long lf), .second, .val (.long (own_park lf (46775 : Int64) f5)), .second, .val (.long (lf - (46775 : Int64))), .second] [(.int (1 : Int32))])) (fun t k => ?_) ?_
            · show Steps p.tables e below (T41.setTop (mkF m 152 #[.val (.long q0), .second, .val (.long q1), .second, .val (.int p2), .val (.int f5), .val (.int f6), .val (.int f7), .val (.ref b4), .val (.long (46775 : Int64)), .second, .val (.long lf), .second, .val (.long (own_park lf (46775 : Int64) f5)), .second, .unset, .unset] [(.int (lcmpW lf (46775 : Int64)))])) _
              refine XS.ifYes X41.here hx rfl (pc0 := 152) (pc' := 173) rfl (hb hby at_152) rfl ((if0 _ _).trans (tlt hc42).2.2.1) (by decide) (by decide) ?_
              show Steps p.tables e below (T41.setTop (mkF m 173 #[.val (.long q0), .second, .val (.long q1), .second, .val (.int p2), .val (.int f5), .val (.int f6), .val (.int f7), .val (.ref b4), .val (.long (46775 : Int64)), .second, .val (.long lf), .second, .val (.long (own_park lf (46775 : Int64) f5)), .second, .unset, .unset] [])) _
              refine XS.lload X41.here hx rfl (hb hby at_173) rfl ?_
              show Steps p.tables e below (T41.setTop (mkF m 175 #[.val (.long q0), .second, .val (.long q1), .second, .val (.int p2), .val (.int f5), .val (.int f6), .val (.int f7), .val (.ref b4), .val (.long (46775 : Int64)), .second, .val (.long lf), .second, .val (.long (own_park lf (46775 : Int64) f5)), .second, .unset, .unset] [(.long lf)])) _
              refine XS.lload X41.here hx rfl (hb hby at_175) rfl ?_
              show Steps p.tables e below (T41.setTop (mkF m 177 #[.val (.long q0), .second, .val (.long q1), .second, .val (.int p2), .val (.int f5), .val (.int f6), .val (.int f7), .val (.ref b4), .val (.long (46775 : Int64)), .second, .val (.long lf), .second, .val (.long (own_park lf (46775 : Int64) f5)), .second, .unset, .unset] [(.long (46775 : Int64)), (.long lf)])) _
              refine XS.lsub X41.here hx rfl (hb hby at_177) rfl ?_
              show Steps p.tables e below (T41.setTop (mkF m 178 #[.val (.long q0), .second, .val (.long q1), .second, .val (.int p2), .val (.int f5), .val (.int f6), .val (.int f7), .val (.ref b4), .val (.long (46775 : Int64)), .second, .val (.long lf), .second, .val (.long (own_park lf (46775 : Int64) f5)), .second, .unset, .unset] [(.long (lf - (46775 : Int64)))])) _
              refine XS.lstore X41.here hx rfl (hb hby at_178) rfl (l' := #[.val (.long q0), .second, .val (.long q1), .second, .val (.int p2), .val (.int f5), .val (.int f6), .val (.int f7), .val (.ref b4), .val (.long (46775 : Int64)), .second, .val (.long lf), .second, .val (.long (own_park lf (46775 : Int64) f5)), .second, .val (.long (lf - (46775 : Int64))), .second]) rfl ?_
              show Steps p.tables e below (T41.setTop (mkF m 180 #[.val (.long q0), .second, .val (.long q1), .second, .val (.int p2), .val (.int f5), .val (.int f6), .val (.int f7), .val (.ref b4), .val (.long (46775 : Int64)), .second, .val (.long lf), .second, .val (.long (own_park lf (46775 : Int64) f5)), .second, .val (.long (lf - (46775 : Int64))), .second] [])) _
              refine XS.lload X41.here hx rfl (hb hby at_180) rfl ?_
              show Steps p.tables e below (T41.setTop (mkF m 182 #[.val (.long q0), .second, .val (.long q1), .second, .val (.int p2), .val (.int f5), .val (.int f6), .val (.int f7), .val (.ref b4), .val (.long (46775 : Int64)), .second, .val (.long lf), .second, .val (.long (own_park lf (46775 : Int64) f5)), .second, .val (.long (lf - (46775 : Int64))), .second] [(.long (own_park lf (46775 : Int64) f5))])) _
              refine XS.lload X41.here hx rfl (hb hby at_182) rfl ?_
              show Steps p.tables e below (T41.setTop (mkF m 184 #[.val (.long q0), .second, .val (.long q1), .second, .val (.int p2), .val (.int f5), .val (.int f6), .val (.int f7), .val (.ref b4), .val (.long (46775 : Int64)), .second, .val (.long lf), .second, .val (.long (own_park lf (46775 : Int64) f5)), .second, .val (.long (lf - (46775 : Int64))), .second] [(.long (lf - (46775 : Int64))), (.long (own_park lf (46775 : Int64) f5))])) _
              refine XS.lcmp X41.here hx rfl (hb hby at_184) rfl ?_
              show Steps p.tables e below (T41.setTop (mkF m 185 #[.val (.long q0), .second, .val (.long q1), .second, .val (.int p2), .val (.int f5), .val (.int f6), .val (.int f7), .val (.ref b4), .val (.long (46775 : Int64)), .second, .val (.long lf), .second, .val (.long (own_park lf (46775 : Int64) f5)), .second, .val (.long (lf - (46775 : Int64))), .second] [(.int (lcmpW (own_park lf (46775 : Int64) f5) (lf - (46775 : Int64))))])) _
              refine XS.ifNo X41.here hx rfl (hb hby at_185) rfl ((if0 _ _).trans (teq ((lw_eq _ _).mpr (own_fin1 hc42))).2) ?_
              show Steps p.tables e below (T41.setTop (mkF m 188 #[.val (.long q0), .second, .val (.long q1), .second, .val (.int p2), .val (.int f5), .val (.int f6), .val (.int f7), .val (.ref b4), .val (.long (46775 : Int64)), .second, .val (.long lf), .second, .val (.long (own_park lf (46775 : Int64) f5)), .second, .val (.long (lf - (46775 : Int64))), .second] [])) _
              refine XS.iconst X41.here hx rfl (hb hby at_188) ?_
              show Steps p.tables e below (T41.setTop (mkF m 189 #[.val (.long q0), .second, .val (.long q1), .second, .val (.int p2), .val (.int f5), .val (.int f6), .val (.int f7), .val (.ref b4), .val (.long (46775 : Int64)), .second, .val (.long lf), .second, .val (.long (own_park lf (46775 : Int64) f5)), .second, .val (.long (lf - (46775 : Int64))), .second] [(.int (1 : Int32))])) _
              refine XS.goto X41.here hx rfl (pc0 := 189) (pc' := 193) rfl (hb hby at_189) (by decide) (by decide) ?_
              show Steps p.tables e below (T41.setTop (mkF m 193 #[.val (.long q0), .second, .val (.long q1), .second, .val (.int p2), .val (.int f5), .val (.int f6), .val (.int f7), .val (.ref b4), .val (.long (46775 : Int64)), .second, .val (.long lf), .second, .val (.long (own_park lf (46775 : Int64) f5)), .second, .val (.long (lf - (46775 : Int64))), .second] [(.int (1 : Int32))])) _
              exact k
            refine own_retN X41 hx (t := .boolean) Bd.returns (by simp) (hb hby at_193) (BodyLoose.notSynchronized Bd) (by decide) (by decide) ?_
            rw [show T41.heap = T30.heap from eq41]
            exact ⟨rfl, N41⟩
          · skip
            refine own_step (T' := T41) (g' := (mkF m 157 #[.val (.long q0), .second, .val (.long q1), .second, .val (.int p2), .val (.int f5), .val (.int f6), .val (.int f7), .val (.ref b4), .val (.long (46775 : Int64)), .second, .val (.long lf), .second, .val (.long (own_park lf (46775 : Int64) f5)), .second, .unset, .unset] [(.int f5)])) (fun t k => ?_) ?_
            · show Steps p.tables e below (T41.setTop (mkF m 152 #[.val (.long q0), .second, .val (.long q1), .second, .val (.int p2), .val (.int f5), .val (.int f6), .val (.int f7), .val (.ref b4), .val (.long (46775 : Int64)), .second, .val (.long lf), .second, .val (.long (own_park lf (46775 : Int64) f5)), .second, .unset, .unset] [(.int (lcmpW lf (46775 : Int64)))])) _
              refine XS.ifNo X41.here hx rfl (hb hby at_152) rfl ((if0 _ _).trans (flt hc42).2.2.1) ?_
              show Steps p.tables e below (T41.setTop (mkF m 155 #[.val (.long q0), .second, .val (.long q1), .second, .val (.int p2), .val (.int f5), .val (.int f6), .val (.int f7), .val (.ref b4), .val (.long (46775 : Int64)), .second, .val (.long lf), .second, .val (.long (own_park lf (46775 : Int64) f5)), .second, .unset, .unset] [])) _
              refine XS.iload X41.here hx rfl (hb hby at_155) rfl ?_
              show Steps p.tables e below (T41.setTop (mkF m 157 #[.val (.long q0), .second, .val (.long q1), .second, .val (.int p2), .val (.int f5), .val (.int f6), .val (.int f7), .val (.ref b4), .val (.long (46775 : Int64)), .second, .val (.long lf), .second, .val (.long (own_park lf (46775 : Int64) f5)), .second, .unset, .unset] [(.int f5)])) _
              exact k
            by_cases hc44 : f5 = (0 : Int32)
            · skip
              refine own_step (T' := T41) (g' := (mkF m 193 #[.val (.long q0), .second, .val (.long q1), .second, .val (.int p2), .val (.int f5), .val (.int f6), .val (.int f7), .val (.ref b4), .val (.long (46775 : Int64)), .second, .val (.long lf), .second, .val (.long (own_park lf (46775 : Int64) f5)), .second, .val (.long lf), .second] [(.int (1 : Int32))])) (fun t k => ?_) ?_
              · show Steps p.tables e below (T41.setTop (mkF m 157 #[.val (.long q0), .second, .val (.long q1), .second, .val (.int p2), .val (.int f5), .val (.int f6), .val (.int f7), .val (.ref b4), .val (.long (46775 : Int64)), .second, .val (.long lf), .second, .val (.long (own_park lf (46775 : Int64) f5)), .second, .unset, .unset] [(.int f5)])) _
                refine XS.ifYes X41.here hx rfl (pc0 := 157) (pc' := 166) rfl (hb hby at_157) rfl ((if0 _ _).trans (teq hc44).1) (by decide) (by decide) ?_
                show Steps p.tables e below (T41.setTop (mkF m 166 #[.val (.long q0), .second, .val (.long q1), .second, .val (.int p2), .val (.int f5), .val (.int f6), .val (.int f7), .val (.ref b4), .val (.long (46775 : Int64)), .second, .val (.long lf), .second, .val (.long (own_park lf (46775 : Int64) f5)), .second, .unset, .unset] [])) _
                refine XS.lload X41.here hx rfl (hb hby at_166) rfl ?_
                show Steps p.tables e below (T41.setTop (mkF m 168 #[.val (.long q0), .second, .val (.long q1), .second, .val (.int p2), .val (.int f5), .val (.int f6), .val (.int f7), .val (.ref b4), .val (.long (46775 : Int64)), .second, .val (.long lf), .second, .val (.long (own_park lf (46775 : Int64) f5)), .second, .unset, .unset] [(.long lf)])) _
                refine XS.lstore X41.here hx rfl (hb hby at_168) rfl (l' := #[.val (.long q0), .second, .val (.long q1), .second, .val (.int p2), .val (.int f5), .val (.int f6), .val (.int f7), .val (.ref b4), .val (.long (46775 : Int64)), .second, .val (.long lf), .second, .val (.long (own_park lf (46775 : Int64) f5)), .second, .val (.long lf), .second]) rfl ?_
                show Steps p.tables e below (T41.setTop (mkF m 170 #[.val (.long q0), .second, .val (.long q1), .second, .val (.int p2), .val (.int f5), .val (.int f6), .val (.int f7), .val (.ref b4), .val (.long (46775 : Int64)), .second, .val (.long lf), .second, .val (.long (own_park lf (46775 : Int64) f5)), .second, .val (.long lf), .second] [])) _
                refine XS.goto X41.here hx rfl (pc0 := 170) (pc' := 180) rfl (hb hby at_170) (by decide) (by decide) ?_
                show Steps p.tables e below (T41.setTop (mkF m 180 #[.val (.long q0), .second, .val (.long q1), .second, .val (.int p2), .val (.int f5), .val (.int f6), .val (.int f7), .val (.ref b4), .val (.long (46775 : Int64)), .second, .val (.long lf), .second, .val (.long (own_park lf (46775 : Int64) f5)), .second, .val (.long lf), .second] [])) _
                refine XS.lload X41.here hx rfl (hb hby at_180) rfl ?_
                show Steps p.tables e below (T41.setTop (mkF m 182 #[.val (.long q0), .second, .val (.long q1), .second, .val (.int p2), .val (.int f5), .val (.int f6), .val (.int f7), .val (.ref b4), .val (.long (46775 : Int64)), .second, .val (.long lf), .second, .val (.long (own_park lf (46775 : Int64) f5)), .second, .val (.long lf), .second] [(.long (own_park lf (46775 : Int64) f5))])) _
                refine XS.lload X41.here hx rfl (hb hby at_182) rfl ?_
                show Steps p.tables e below (T41.setTop (mkF m 184 #[.val (.long q0), .second, .val (.long q1), .second, .val (.int p2), .val (.int f5), .val (.int f6), .val (.int f7), .val (.ref b4), .val (.long (46775 : Int64)), .second, .val (.long lf), .second, .val (.long (own_park lf (46775 : Int64) f5)), .second, .val (.long lf), .second] [(.long lf), (.long (own_park lf (46775 : Int64) f5))])) _
                refine XS.lcmp X41.here hx rfl (hb hby at_184) rfl ?_
                show Steps p.tables e below (T41.setTop (mkF m 185 #[.val (.long q0), .second, .val (.long q1), .second, .val (.int p2), .val (.int f5), .val (.int f6), .val (.int f7), .val (.ref b4), .val (.long (46775 : Int64)), .second, .val (.long lf), .second, .val (.long (own_park lf (46775 : Int64) f5)), .second, .val (.long lf), .second] [(.int (lcmpW (own_park lf (46775 : Int64) f5) lf))])) _
                refine XS.ifNo X41.here hx rfl (hb hby at_185) rfl ((if0 _ _).trans (teq ((lw_eq _ _).mpr (own_fin2 hc42 hc44))).2) ?_
                show Steps p.tables e below (T41.setTop (mkF m 188 #[.val (.long q0), .second, .val (.long q1), .second, .val (.int p2), .val (.int f5), .val (.int f6), .val (.int f7), .val (.ref b4), .val (.long (46775 : Int64)), .second, .val (.long lf), .second, .val (.long (own_park lf (46775 : Int64) f5)), .second, .val (.long lf), .second] [])) _
                refine XS.iconst X41.here hx rfl (hb hby at_188) ?_
                show Steps p.tables e below (T41.setTop (mkF m 189 #[.val (.long q0), .second, .val (.long q1), .second, .val (.int p2), .val (.int f5), .val (.int f6), .val (.int f7), .val (.ref b4), .val (.long (46775 : Int64)), .second, .val (.long lf), .second, .val (.long (own_park lf (46775 : Int64) f5)), .second, .val (.long lf), .second] [(.int (1 : Int32))])) _
                refine XS.goto X41.here hx rfl (pc0 := 189) (pc' := 193) rfl (hb hby at_189) (by decide) (by decide) ?_
                show Steps p.tables e below (T41.setTop (mkF m 193 #[.val (.long q0), .second, .val (.long q1), .second, .val (.int p2), .val (.int f5), .val (.int f6), .val (.int f7), .val (.ref b4), .val (.long (46775 : Int64)), .second, .val (.long lf), .second, .val (.long (own_park lf (46775 : Int64) f5)), .second, .val (.long lf), .second] [(.int (1 : Int32))])) _
                exact k
              refine own_retN X41 hx (t := .boolean) Bd.returns (by simp) (hb hby at_193) (BodyLoose.notSynchronized Bd) (by decide) (by decide) ?_
              rw [show T41.heap = T30.heap from eq41]
              exact ⟨rfl, N41⟩
            · skip
              refine own_step (T' := T41) (g' := (mkF m 193 #[.val (.long q0), .second, .val (.long q1), .second, .val (.int p2), .val (.int f5), .val (.int f6), .val (.int f7), .val (.ref b4), .val (.long (46775 : Int64)), .second, .val (.long lf), .second, .val (.long (own_park lf (46775 : Int64) f5)), .second, .val (.long (0 : Int64)), .second] [(.int (1 : Int32))])) (fun t k => ?_) ?_
              · show Steps p.tables e below (T41.setTop (mkF m 157 #[.val (.long q0), .second, .val (.long q1), .second, .val (.int p2), .val (.int f5), .val (.int f6), .val (.int f7), .val (.ref b4), .val (.long (46775 : Int64)), .second, .val (.long lf), .second, .val (.long (own_park lf (46775 : Int64) f5)), .second, .unset, .unset] [(.int f5)])) _
                refine XS.ifNo X41.here hx rfl (hb hby at_157) rfl ((if0 _ _).trans (feq hc44).1) ?_
                show Steps p.tables e below (T41.setTop (mkF m 160 #[.val (.long q0), .second, .val (.long q1), .second, .val (.int p2), .val (.int f5), .val (.int f6), .val (.int f7), .val (.ref b4), .val (.long (46775 : Int64)), .second, .val (.long lf), .second, .val (.long (own_park lf (46775 : Int64) f5)), .second, .unset, .unset] [])) _
                refine XS.lconst X41.here hx rfl (hb hby at_160) ?_
                show Steps p.tables e below (T41.setTop (mkF m 161 #[.val (.long q0), .second, .val (.long q1), .second, .val (.int p2), .val (.int f5), .val (.int f6), .val (.int f7), .val (.ref b4), .val (.long (46775 : Int64)), .second, .val (.long lf), .second, .val (.long (own_park lf (46775 : Int64) f5)), .second, .unset, .unset] [(.long (0 : Int64))])) _
                refine XS.lstore X41.here hx rfl (hb hby at_161) rfl (l' := #[.val (.long q0), .second, .val (.long q1), .second, .val (.int p2), .val (.int f5), .val (.int f6), .val (.int f7), .val (.ref b4), .val (.long (46775 : Int64)), .second, .val (.long lf), .second, .val (.long (own_park lf (46775 : Int64) f5)), .second, .val (.long (0 : Int64)), .second]) rfl ?_
                show Steps p.tables e below (T41.setTop (mkF m 163 #[.val (.long q0), .second, .val (.long q1), .second, .val (.int p2), .val (.int f5), .val (.int f6), .val (.int f7), .val (.ref b4), .val (.long (46775 : Int64)), .second, .val (.long lf), .second, .val (.long (own_park lf (46775 : Int64) f5)), .second, .val (.long (0 : Int64)), .second] [])) _
                refine XS.goto X41.here hx rfl (pc0 := 163) (pc' := 180) rfl (hb hby at_163) (by decide) (by decide) ?_
                show Steps p.tables e below (T41.setTop (mkF m 180 #[.val (.long q0), .second, .val (.long q1), .second, .val (.int p2), .val (.int f5), .val (.int f6), .val (.int f7), .val (.ref b4), .val (.long (46775 : Int64)), .second, .val (.long lf), .second, .val (.long (own_park lf (46775 : Int64) f5)), .second, .val (.long (0 : Int64)), .second] [])) _
                refine XS.lload X41.here hx rfl (hb hby at_180) rfl ?_
                show Steps p.tables e below (T41.setTop (mkF m 182 #[.val (.long q0), .second, .val (.long q1), .second, .val (.int p2), .val (.int f5), .val (.int f6), .val (.int f7), .val (.ref b4), .val (.long (46775 : Int64)), .second, .val (.long lf), .second, .val (.long (own_park lf (46775 : Int64) f5)), .second, .val (.long (0 : Int64)), .second] [(.long (own_park lf (46775 : Int64) f5))])) _
                refine XS.lload X41.here hx rfl (hb hby at_182) rfl ?_
                show Steps p.tables e below (T41.setTop (mkF m 184 #[.val (.long q0), .second, .val (.long q1), .second, .val (.int p2), .val (.int f5), .val (.int f6), .val (.int f7), .val (.ref b4), .val (.long (46775 : Int64)), .second, .val (.long lf), .second, .val (.long (own_park lf (46775 : Int64) f5)), .second, .val (.long (0 : Int64)), .second] [(.long (0 : Int64)), (.long (own_park lf (46775 : Int64) f5))])) _
                refine XS.lcmp X41.here hx rfl (hb hby at_184) rfl ?_
                show Steps p.tables e below (T41.setTop (mkF m 185 #[.val (.long q0), .second, .val (.long q1), .second, .val (.int p2), .val (.int f5), .val (.int f6), .val (.int f7), .val (.ref b4), .val (.long (46775 : Int64)), .second, .val (.long lf), .second, .val (.long (own_park lf (46775 : Int64) f5)), .second, .val (.long (0 : Int64)), .second] [(.int (lcmpW (own_park lf (46775 : Int64) f5) (0 : Int64)))])) _
                refine XS.ifNo X41.here hx rfl (hb hby at_185) rfl ((if0 _ _).trans (teq ((lw_eq _ _).mpr (own_fin3 hc42 hc44))).2) ?_
                show Steps p.tables e below (T41.setTop (mkF m 188 #[.val (.long q0), .second, .val (.long q1), .second, .val (.int p2), .val (.int f5), .val (.int f6), .val (.int f7), .val (.ref b4), .val (.long (46775 : Int64)), .second, .val (.long lf), .second, .val (.long (own_park lf (46775 : Int64) f5)), .second, .val (.long (0 : Int64)), .second] [])) _
                refine XS.iconst X41.here hx rfl (hb hby at_188) ?_
                show Steps p.tables e below (T41.setTop (mkF m 189 #[.val (.long q0), .second, .val (.long q1), .second, .val (.int p2), .val (.int f5), .val (.int f6), .val (.int f7), .val (.ref b4), .val (.long (46775 : Int64)), .second, .val (.long lf), .second, .val (.long (own_park lf (46775 : Int64) f5)), .second, .val (.long (0 : Int64)), .second] [(.int (1 : Int32))])) _
                refine XS.goto X41.here hx rfl (pc0 := 189) (pc' := 193) rfl (hb hby at_189) (by decide) (by decide) ?_
                show Steps p.tables e below (T41.setTop (mkF m 193 #[.val (.long q0), .second, .val (.long q1), .second, .val (.int p2), .val (.int f5), .val (.int f6), .val (.int f7), .val (.ref b4), .val (.long (46775 : Int64)), .second, .val (.long lf), .second, .val (.long (own_park lf (46775 : Int64) f5)), .second, .val (.long (0 : Int64)), .second] [(.int (1 : Int32))])) _
                exact k
              refine own_retN X41 hx (t := .boolean) Bd.returns (by simp) (hb hby at_193) (BodyLoose.notSynchronized Bd) (by decide) (by decide) ?_
              rw [show T41.heap = T30.heap from eq41]
              exact ⟨rfl, N41⟩
      · skip
        refine own_step (T' := T30) (g' := (mkF m 136 #[.val (.long q0), .second, .val (.long q1), .second, .val (.int p2), .val (.int f5), .val (.int f6), .val (.int f7), .val (.ref b4), .val (.long (46775 : Int64)), .second, .val (.long (((46775 : Int64) - (16 : Int64)) + (q0 &&& (31 : Int64)))), .second, .unset, .unset, .unset, .unset] [])) (fun t k => ?_) ?_
        · show Steps p.tables e below (T30.setTop (mkF m 99 #[.val (.long q0), .second, .val (.long q1), .second, .val (.int p2), .val (.int f5), .val (.int f6), .val (.int f7), .val (.ref b4), .val (.long (46775 : Int64)), .second, .val (.long ov), .second, .unset, .unset, .unset, .unset] [(.int f6)])) _
          refine XS.ifNo X30.here hx rfl (hb hby at_99) rfl ((if0 _ _).trans (feq hc33).1) ?_
          show Steps p.tables e below (T30.setTop (mkF m 102 #[.val (.long q0), .second, .val (.long q1), .second, .val (.int p2), .val (.int f5), .val (.int f6), .val (.int f7), .val (.ref b4), .val (.long (46775 : Int64)), .second, .val (.long ov), .second, .unset, .unset, .unset, .unset] [])) _
          refine XS.lload X30.here hx rfl (hb hby at_102) rfl ?_
          show Steps p.tables e below (T30.setTop (mkF m 104 #[.val (.long q0), .second, .val (.long q1), .second, .val (.int p2), .val (.int f5), .val (.int f6), .val (.int f7), .val (.ref b4), .val (.long (46775 : Int64)), .second, .val (.long ov), .second, .unset, .unset, .unset, .unset] [(.long (46775 : Int64))])) _
          refine X30.ldc2Long hx hown (mvT hZ (hw _ (List.mem_of_getElem? (i := 30) rfl))) (g := (mkF m 104 #[.val (.long q0), .second, .val (.long q1), .second, .val (.int p2), .val (.int f5), .val (.int f6), .val (.int f7), .val (.ref b4), .val (.long (46775 : Int64)), .second, .val (.long ov), .second, .unset, .unset, .unset, .unset] [(.long (46775 : Int64))])) rfl (hb hby at_104) _ ?_
          show Steps p.tables e below (T30.setTop (mkF m 107 #[.val (.long q0), .second, .val (.long q1), .second, .val (.int p2), .val (.int f5), .val (.int f6), .val (.int f7), .val (.ref b4), .val (.long (46775 : Int64)), .second, .val (.long ov), .second, .unset, .unset, .unset, .unset] [(.long (16 : Int64)), (.long (46775 : Int64))])) _
          refine XS.lsub X30.here hx rfl (hb hby at_107) rfl ?_
          show Steps p.tables e below (T30.setTop (mkF m 108 #[.val (.long q0), .second, .val (.long q1), .second, .val (.int p2), .val (.int f5), .val (.int f6), .val (.int f7), .val (.ref b4), .val (.long (46775 : Int64)), .second, .val (.long ov), .second, .unset, .unset, .unset, .unset] [(.long ((46775 : Int64) - (16 : Int64)))])) _
          refine XS.lloadN X30.here hx rfl (hb hby at_108) rfl ?_
          show Steps p.tables e below (T30.setTop (mkF m 109 #[.val (.long q0), .second, .val (.long q1), .second, .val (.int p2), .val (.int f5), .val (.int f6), .val (.int f7), .val (.ref b4), .val (.long (46775 : Int64)), .second, .val (.long ov), .second, .unset, .unset, .unset, .unset] [(.long q0), (.long ((46775 : Int64) - (16 : Int64)))])) _
          refine X30.ldc2Long hx hown (mvT hZ (hw _ (List.mem_of_getElem? (i := 31) rfl))) (g := (mkF m 109 #[.val (.long q0), .second, .val (.long q1), .second, .val (.int p2), .val (.int f5), .val (.int f6), .val (.int f7), .val (.ref b4), .val (.long (46775 : Int64)), .second, .val (.long ov), .second, .unset, .unset, .unset, .unset] [(.long q0), (.long ((46775 : Int64) - (16 : Int64)))])) rfl (hb hby at_109) _ ?_
          show Steps p.tables e below (T30.setTop (mkF m 112 #[.val (.long q0), .second, .val (.long q1), .second, .val (.int p2), .val (.int f5), .val (.int f6), .val (.int f7), .val (.ref b4), .val (.long (46775 : Int64)), .second, .val (.long ov), .second, .unset, .unset, .unset, .unset] [(.long (31 : Int64)), (.long q0), (.long ((46775 : Int64) - (16 : Int64)))])) _
          refine XS.land X30.here hx rfl (hb hby at_112) rfl ?_
          show Steps p.tables e below (T30.setTop (mkF m 113 #[.val (.long q0), .second, .val (.long q1), .second, .val (.int p2), .val (.int f5), .val (.int f6), .val (.int f7), .val (.ref b4), .val (.long (46775 : Int64)), .second, .val (.long ov), .second, .unset, .unset, .unset, .unset] [(.long (q0 &&& (31 : Int64))), (.long ((46775 : Int64) - (16 : Int64)))])) _
          refine XS.ladd X30.here hx rfl (hb hby at_113) rfl ?_
          show Steps p.tables e below (T30.setTop (mkF m 114 #[.val (.long q0), .second, .val (.long q1), .second, .val (.int p2), .val (.int f5), .val (.int f6), .val (.int f7), .val (.ref b4), .val (.long (46775 : Int64)), .second, .val (.long ov), .second, .unset, .unset, .unset, .unset] [(.long (((46775 : Int64) - (16 : Int64)) + (q0 &&& (31 : Int64))))])) _
          refine XS.lstore X30.here hx rfl (hb hby at_114) rfl (l' := #[.val (.long q0), .second, .val (.long q1), .second, .val (.int p2), .val (.int f5), .val (.int f6), .val (.int f7), .val (.ref b4), .val (.long (46775 : Int64)), .second, .val (.long (((46775 : Int64) - (16 : Int64)) + (q0 &&& (31 : Int64)))), .second, .unset, .unset, .unset, .unset]) rfl ?_
          show Steps p.tables e below (T30.setTop (mkF m 116 #[.val (.long q0), .second, .val (.long q1), .second, .val (.int p2), .val (.int f5), .val (.int f6), .val (.int f7), .val (.ref b4), .val (.long (46775 : Int64)), .second, .val (.long (((46775 : Int64) - (16 : Int64)) + (q0 &&& (31 : Int64)))), .second, .unset, .unset, .unset, .unset] [])) _
          refine XS.goto X30.here hx rfl (pc0 := 116) (pc' := 136) rfl (hb hby at_116) (by decide) (by decide) ?_
          show Steps p.tables e below (T30.setTop (mkF m 136 #[.val (.long q0), .second, .val (.long q1), .second, .val (.int p2), .val (.int f5), .val (.int f6), .val (.int f7), .val (.ref b4), .val (.long (46775 : Int64)), .second, .val (.long (((46775 : Int64) - (16 : Int64)) + (q0 &&& (31 : Int64)))), .second, .unset, .unset, .unset, .unset] [])) _
          exact k
        generalize e_lf : (((46775 : Int64) - (16 : Int64)) + (q0 &&& (31 : Int64))) = lf
        show own_Run p e below s _ _ _ T30 (mkF m 136 #[.val (.long q0), .second, .val (.long q1), .second, .val (.int p2), .val (.int f5), .val (.int f6), .val (.int f7), .val (.ref b4), .val (.long (46775 : Int64)), .second, .val (.long lf), .second, .unset, .unset, .unset, .unset] [])
        refine own_step (T' := T30) (g' := (mkF m 142 #[.val (.long q0), .second, .val (.long q1), .second, .val (.int p2), .val (.int f5), .val (.int f6), .val (.int f7), .val (.ref b4), .val (.long (46775 : Int64)), .second, .val (.long lf), .second, .unset, .unset, .unset, .unset] [(.int f5), (.long lf), (.ref b4)])) (fun t k => ?_) ?_
        · show Steps p.tables e below (T30.setTop (mkF m 136 #[.val (.long q0), .second, .val (.long q1), .second, .val (.int p2), .val (.int f5), .val (.int f6), .val (.int f7), .val (.ref b4), .val (.long (46775 : Int64)), .second, .val (.long lf), .second, .unset, .unset, .unset, .unset] [])) _
          refine XS.aload X30.here hx rfl (hb hby at_136) rfl rfl ?_
          show Steps p.tables e below (T30.setTop (mkF m 138 #[.val (.long q0), .second, .val (.long q1), .second, .val (.int p2), .val (.int f5), .val (.int f6), .val (.int f7), .val (.ref b4), .val (.long (46775 : Int64)), .second, .val (.long lf), .second, .unset, .unset, .unset, .unset] [(.ref b4)])) _
          refine XS.lload X30.here hx rfl (hb hby at_138) rfl ?_
          show Steps p.tables e below (T30.setTop (mkF m 140 #[.val (.long q0), .second, .val (.long q1), .second, .val (.int p2), .val (.int f5), .val (.int f6), .val (.int f7), .val (.ref b4), .val (.long (46775 : Int64)), .second, .val (.long lf), .second, .unset, .unset, .unset, .unset] [(.long lf), (.ref b4)])) _
          refine XS.iload X30.here hx rfl (hb hby at_140) rfl ?_
          show Steps p.tables e below (T30.setTop (mkF m 142 #[.val (.long q0), .second, .val (.long q1), .second, .val (.int p2), .val (.int f5), .val (.int f6), .val (.int f7), .val (.ref b4), .val (.long (46775 : Int64)), .second, .val (.long lf), .second, .unset, .unset, .unset, .unset] [(.int f5), (.long lf), (.ref b4)])) _
          exact k
        obtain ⟨cq47, kq47, q47a, q47b, q47c⟩ := isOf hZ rfl Eq30
        obtain ⟨_, _, ⟨T47, L47, k47, n47⟩, -, X47, ⟨Lc47, hQ47, l47, y47, z47⟩, st47⟩ := X30.virtualBack hx (y := (⟨"com/example/windlass/windlass/ParkLead", "parkNanos", "(JZ)J"⟩ : MethodName)) (z := (⟨"com/example/windlass/windlass/ParkLead", "parkNanos", "(JZ)J"⟩ : MethodName)) hown (mvT hZ (hw _ (List.mem_of_getElem? (i := 14) rfl))) (mvT hZ (hw _ (List.mem_of_getElem? (i := 15) rfl))) (notFace_of_selects (args := #[]) (mvT hZ (hw _ (List.mem_of_getElem? (i := 17) rfl)))) (mvT hZ (hw _ (List.mem_of_getElem? (i := 17) rfl))) (mvT hZ (hw _ (List.mem_of_getElem? (i := 16) rfl))) (by decide) (backOf (W := 0) (rm3 l Z a0 hw [] b4 lf f5 (46775 : Int64) T30.heap n0 Z31 Eq30 Fq30) hZ (hw _ (List.mem_of_getElem? (i := 18) rfl)) (hw _ (List.mem_of_getElem? (i := 2) rfl)) (by decide) (by decide)) q47a q47c (g := (mkF m 142 #[.val (.long q0), .second, .val (.long q1), .second, .val (.int p2), .val (.int f5), .val (.int f6), .val (.int f7), .val (.ref b4), .val (.long (46775 : Int64)), .second, .val (.long lf), .second, .unset, .unset, .unset, .unset] [(.int f5), (.long lf), (.ref b4)])) rfl (by rw [hml]; rfl) (Steps.refl _) (argsL := [(.long lf), (.int f5)]) (rest := []) (lenOf pd_2 rfl) rfl (by show 2 * 0 + _ ≤ _; exact Nat.le_of_eq rfl) (hb hby at_142) (fun _ _ => ⟨rfl, rfl, (by decide : 1 + 0 ≤ _), (by decide : 1 + 0 ≤ _)⟩)
        dsimp only [Pt.U, Pt.locs, Pt.cells, Pt.slots] at X47 l47 y47 z47 st47 hQ47
        subst l47 y47 z47
        obtain ⟨rfl, N47q, eq47⟩ := hQ47
        have N47 := Fr.app N30 N47q
        refine own_step (fun t k => st47.trans k) ?_
        show own_Run p e below s _ _ _ T47 (mkF m 145 #[.val (.long q0), .second, .val (.long q1), .second, .val (.int p2), .val (.int f5), .val (.int f6), .val (.int f7), .val (.ref b4), .val (.long (46775 : Int64)), .second, .val (.long lf), .second, .unset, .unset, .unset, .unset] [(.long (own_park lf (46775 : Int64) f5))])
        refine own_step (T' := T47) (g' := (mkF m 152 #[.val (.long q0), .second, .val (.long q1), .second, .val (.int p2), .val (.int f5), .val (.int f6), .val (.int f7), .val (.ref b4), .val (.long (46775 : Int64)), .second, .val (.long lf), .second, .val (.long (own_park lf (46775 : Int64) f5)), .second, .unset, .unset] [(.int (lcmpW lf (46775 : Int64)))])) (fun t k => ?_) ?_
        · show Steps p.tables e below (T47.setTop (mkF m 145 #[.val (.long q0), .second, .val (.long q1), .second, .val (.int p2), .val (.int f5), .val (.int f6), .val (.int f7), .val (.ref b4), .val (.long (46775 : Int64)), .second, .val (.long lf), .second, .unset, .unset, .unset, .unset] [(.long (own_park lf (46775 : Int64) f5))])) _
          refine XS.lstore X47.here hx rfl (hb hby at_145) rfl (l' := #[.val (.long q0), .second, .val (.long q1), .second, .val (.int p2), .val (.int f5), .val (.int f6), .val (.int f7), .val (.ref b4), .val (.long (46775 : Int64)), .second, .val (.long lf), .second, .val (.long (own_park lf (46775 : Int64) f5)), .second, .unset, .unset]) rfl ?_
          show Steps p.tables e below (T47.setTop (mkF m 147 #[.val (.long q0), .second, .val (.long q1), .second, .val (.int p2), .val (.int f5), .val (.int f6), .val (.int f7), .val (.ref b4), .val (.long (46775 : Int64)), .second, .val (.long lf), .second, .val (.long (own_park lf (46775 : Int64) f5)), .second, .unset, .unset] [])) _
          refine XS.lload X47.here hx rfl (hb hby at_147) rfl ?_
          show Steps p.tables e below (T47.setTop (mkF m 149 #[.val (.long q0), .second, .val (.long q1), .second, .val (.int p2), .val (.int f5), .val (.int f6), .val (.int f7), .val (.ref b4), .val (.long (46775 : Int64)), .second, .val (.long lf), .second, .val (.long (own_park lf (46775 : Int64) f5)), .second, .unset, .unset] [(.long lf)])) _
          refine XS.lload X47.here hx rfl (hb hby at_149) rfl ?_
          show Steps p.tables e below (T47.setTop (mkF m 151 #[.val (.long q0), .second, .val (.long q1), .second, .val (.int p2), .val (.int f5), .val (.int f6), .val (.int f7), .val (.ref b4), .val (.long (46775 : Int64)), .second, .val (.long lf), .second, .val (.long (own_park lf (46775 : Int64) f5)), .second, .unset, .unset] [(.long (46775 : Int64)), (.long lf)])) _
          refine XS.lcmp X47.here hx rfl (hb hby at_151) rfl ?_
          show Steps p.tables e below (T47.setTop (mkF m 152 #[.val (.long q0), .second, .val (.long q1), .second, .val (.int p2), .val (.int f5), .val (.int f6), .val (.int f7), .val (.ref b4), .val (.long (46775 : Int64)), .second, .val (.long lf), .second, .val (.long (own_park lf (46775 : Int64) f5)), .second, .unset, .unset] [(.int (lcmpW lf (46775 : Int64)))])) _
          exact k
        by_cases hc48 : (0 : Int32) < (lcmpW lf (46775 : Int64))
        · skip
          refine own_step (T' := T47) (g' := (mkF m 193 #[.val (.long q0), .second, .val (.long q1), .second, .val (.int p2), .val (.int f5), .val (.int f6), .val (.int f7), .val (.ref b4), .val (.long (46775 : Int64)), .second, .val (.long lf), .second, .val (.long (own_park lf (46775 : Int64) f5)), .second, .val (.long (lf - (46775 : Int64))), .second] [(.int (1 : Int32))])) (fun t k => ?_) ?_
          · show Steps p.tables e below (T47.setTop (mkF m 152 #[.val (.long q0), .second, .val (.long q1), .second, .val (.int p2), .val (.int f5), .val (.int f6), .val (.int f7), .val (.ref b4), .val (.long (46775 : Int64)), .second, .val (.long lf), .second, .val (.long (own_park lf (46775 : Int64) f5)), .second, .unset, .unset] [(.int (lcmpW lf (46775 : Int64)))])) _
            refine XS.ifYes X47.here hx rfl (pc0 := 152) (pc' := 173) rfl (hb hby at_152) rfl ((if0 _ _).trans (tlt hc48).2.2.1) (by decide) (by decide) ?_
            show Steps p.tables e below (T47.setTop (mkF m 173 #[.val (.long q0), .second, .val (.long q1), .second, .val (.int p2), .val (.int f5), .val (.int f6), .val (.int f7), .val (.ref b4), .val (.long (46775 : Int64)), .second, .val (.long lf), .second, .val (.long (own_park lf (46775 : Int64) f5)), .second, .unset, .unset] [])) _
            refine XS.lload X47.here hx rfl (hb hby at_173) rfl ?_
            show Steps p.tables e below (T47.setTop (mkF m 175 #[.val (.long q0), .second, .val (.long q1), .second, .val (.int p2), .val (.int f5), .val (.int f6), .val (.int f7), .val (.ref b4), .val (.long (46775 : Int64)), .second, .val (.long lf), .second, .val (.long (own_park lf (46775 : Int64) f5)), .second, .unset, .unset] [(.long lf)])) _
            refine XS.lload X47.here hx rfl (hb hby at_175) rfl ?_
            show Steps p.tables e below (T47.setTop (mkF m 177 #[.val (.long q0), .second, .val (.long q1), .second, .val (.int p2), .val (.int f5), .val (.int f6), .val (.int f7), .val (.ref b4), .val (.long (46775 : Int64)), .second, .val (.long lf), .second, .val (.long (own_park lf (46775 : Int64) f5)), .second, .unset, .unset] [(.long (46775 : Int64)), (.long lf)])) _
            refine XS.lsub X47.here hx rfl (hb hby at_177) rfl ?_
            show Steps p.tables e below (T47.setTop (mkF m 178 #[.val (.long q0), .second, .val (.long q1), .second, .val (.int p2), .val (.int f5), .val (.int f6), .val (.int f7), .val (.ref b4), .val (.long (46775 : Int64)), .second, .val (.long lf), .second, .val (.long (own_park lf (46775 : Int64) f5)), .second, .unset, .unset] [(.long (lf - (46775 : Int64)))])) _
            refine XS.lstore X47.here hx rfl (hb hby at_178) rfl (l' := #[.val (.long q0), .second, .val (.long q1), .second, .val (.int p2), .val (.int f5), .val (.int f6), .val (.int f7), .val (.ref b4), .val (.long (46775 : Int64)), .second, .val (.long lf), .second, .val (.long (own_park lf (46775 : Int64) f5)), .second, .val (.long (lf - (46775 : Int64))), .second]) rfl ?_
            show Steps p.tables e below (T47.setTop (mkF m 180 #[.val (.long q0), .second, .val (.long q1), .second, .val (.int p2), .val (.int f5), .val (.int f6), .val (.int f7), .val (.ref b4), .val (.long (46775 : Int64)), .second, .val (.long lf), .second, .val (.long (own_park lf (46775 : Int64) f5)), .second, .val (.long (lf - (46775 : Int64))), .second] [])) _
            refine XS.lload X47.here hx rfl (hb hby at_180) rfl ?_
            show Steps p.tables e below (T47.setTop (mkF m 182 #[.val (.long q0), .second, .val (.long q1), .second, .val (.int p2), .val (.int f5), .val (.int f6), .val (.int f7), .val (.ref b4), .val (.long (46775 : Int64)), .second, .val (.long lf), .second, .val (.long (own_park lf (46775 : Int64) f5)), .second, .val (.long (lf - (46775 : Int64))), .second] [(.long (own_park lf (46775 : Int64) f5))])) _
            refine XS.lload X47.here hx rfl (hb hby at_182) rfl ?_
            show Steps p.tables e below (T47.setTop (mkF m 184 #[.val (.long q0), .second, .val (.long q1), .second, .val (.int p2), .val (.int f5), .val (.int f6), .val (.int f7), .val (.ref b4), .val (.long (46775 : Int64)), .second, .val (.long lf), .second, .val (.long (own_park lf (46775 : Int64) f5)), .second, .val (.long (lf - (46775 : Int64))), .second] [(.long (lf - (46775 : Int64))), (.long (own_park lf (46775 : Int64) f5))])) _
            refine XS.lcmp X47.here hx rfl (hb hby at_184) rfl ?_
            show Steps p.tables e below (T47.setTop (mkF m 185 #[.val (.long q0), .second, .val (.long q1), .second, .val (.int p2), .val (.int f5), .val (.int f6), .val (.int f7), .val (.ref b4), .val (.long (46775 : Int64)), .second, .val (.long lf), .second, .val (.long (own_park lf (46775 : Int64) f5)), .second, .val (.long (lf - (46775 : Int64))), .second] [(.int (lcmpW (own_park lf (46775 : Int64) f5) (lf - (46775 : Int64))))])) _
            refine XS.ifNo X47.here hx rfl (hb hby at_185) rfl ((if0 _ _).trans (teq ((lw_eq _ _).mpr (own_fin1 hc48))).2) ?_
            show Steps p.tables e below (T47.setTop (mkF m 188 #[.val (.long q0), .second, .val (.long q1), .second, .val (.int p2), .val (.int f5), .val (.int f6), .val (.int f7), .val (.ref b4), .val (.long (46775 : Int64)), .second, .val (.long lf), .second, .val (.long (own_park lf (46775 : Int64) f5)), .second, .val (.long (lf - (46775 : Int64))), .second] [])) _
            refine XS.iconst X47.here hx rfl (hb hby at_188) ?_
            show Steps p.tables e below (T47.setTop (mkF m 189 #[.val (.long q0), .second, .val (.long q1), .second, .val (.int p2), .val (.int f5), .val (.int f6), .val (.int f7), .val (.ref b4), .val (.long (46775 : Int64)), .second, .val (.long lf), .second, .val (.long (own_park lf (46775 : Int64) f5)), .second, .val (.long (lf - (46775 : Int64))), .second] [(.int (1 : Int32))])) _
            refine XS.goto X47.here hx rfl (pc0 := 189) (pc' := 193) rfl (hb hby at_189) (by decide) (by decide) ?_
            show Steps p.tables e below (T47.setTop (mkF m 193 #[.val (.long q0), .second, .val (.long q1), .second, .val (.int p2), .val (.int f5), .val (.int f6), .val (.int f7), .val (.ref b4), .val (.long (46775 : Int64)), .second, .val (.long lf), .second, .val (.long (own_park lf (46775 : Int64) f5)), .second, .val (.long (lf - (46775 : Int64))), .second] [(.int (1 : Int32))])) _
            exact k
          refine own_retN X47 hx (t := .boolean) Bd.returns (by simp) (hb hby at_193) (BodyLoose.notSynchronized Bd) (by decide) (by decide) ?_
          rw [show T47.heap = T30.heap from eq47]
          exact ⟨rfl, N47⟩
        · skip
          refine own_step (T' := T47) (g' := (mkF m 157 #[.val (.long q0), .second, .val (.long q1), .second, .val (.int p2), .val (.int f5), .val (.int f6), .val (.int f7), .val (.ref b4), .val (.long (46775 : Int64)), .second, .val (.long lf), .second, .val (.long (own_park lf (46775 : Int64) f5)), .second, .unset, .unset] [(.int f5)])) (fun t k => ?_) ?_
          · show Steps p.tables e below (T47.setTop (mkF m 152 #[.val (.long q0), .second, .val (.long q1), .second, .val (.int p2), .val (.int f5), .val (.int f6), .val (.int f7), .val (.ref b4), .val (.long (46775 : Int64)), .second, .val (.long lf), .second, .val (.long (own_park lf (46775 : Int64) f5)), .second, .unset, .unset] [(.int (lcmpW lf (46775 : Int64)))])) _
            refine XS.ifNo X47.here hx rfl (hb hby at_152) rfl ((if0 _ _).trans (flt hc48).2.2.1) ?_
            show Steps p.tables e below (T47.setTop (mkF m 155 #[.val (.long q0), .second, .val (.long q1), .second, .val (.int p2), .val (.int f5), .val (.int f6), .val (.int f7), .val (.ref b4), .val (.long (46775 : Int64)), .second, .val (.long lf), .second, .val (.long (own_park lf (46775 : Int64) f5)), .second, .unset, .unset] [])) _
            refine XS.iload X47.here hx rfl (hb hby at_155) rfl ?_
            show Steps p.tables e below (T47.setTop (mkF m 157 #[.val (.long q0), .second, .val (.long q1), .second, .val (.int p2), .val (.int f5), .val (.int f6), .val (.int f7), .val (.ref b4), .val (.long (46775 : Int64)), .second, .val (.long lf), .second, .val (.long (own_park lf (46775 : Int64) f5)), .second, .unset, .unset] [(.int f5)])) _
            exact k
          by_cases hc50 : f5 = (0 : Int32)
          · skip
            refine own_step (T' := T47) (g' := (mkF m 193 #[.val (.long q0), .second, .val (.long q1), .second, .val (.int p2), .val (.int f5), .val (.int f6), .val (.int f7), .val (.ref b4), .val (.long (46775 : Int64)), .second, .val (.long lf), .second, .val (.long (own_park lf (46775 : Int64) f5)), .second, .val (.long lf), .second] [(.int (1 : Int32))])) (fun t k => ?_) ?_
            · show Steps p.tables e below (T47.setTop (mkF m 157 #[.val (.long q0), .second, .val (.long q1), .second, .val (.int p2), .val (.int f5), .val (.int f6), .val (.int f7), .val (.ref b4), .val (.long (46775 : Int64)), .second, .val (.long lf), .second, .val (.long (own_park lf (46775 : Int64) f5)), .second, .unset, .unset] [(.int f5)])) _
              refine XS.ifYes X47.here hx rfl (pc0 := 157) (pc' := 166) rfl (hb hby at_157) rfl ((if0 _ _).trans (teq hc50).1) (by decide) (by decide) ?_
              show Steps p.tables e below (T47.setTop (mkF m 166 #[.val (.long q0), .second, .val (.long q1), .second, .val (.int p2), .val (.int f5), .val (.int f6), .val (.int f7), .val (.ref b4), .val (.long (46775 : Int64)), .second, .val (.long lf), .second, .val (.long (own_park lf (46775 : Int64) f5)), .second, .unset, .unset] [])) _
              refine XS.lload X47.here hx rfl (hb hby at_166) rfl ?_
              show Steps p.tables e below (T47.setTop (mkF m 168 #[.val (.long q0), .second, .val (.long q1), .second, .val (.int p2), .val (.int f5), .val (.int f6), .val (.int f7), .val (.ref b4), .val (.long (46775 : Int64)), .second, .val (.long lf), .second, .val (.long (own_park lf (46775 : Int64) f5)), .second, .unset, .unset] [(.long lf)])) _
              refine XS.lstore X47.here hx rfl (hb hby at_168) rfl (l' := #[.val (.long q0), .second, .val (.long q1), .second, .val (.int p2), .val (.int f5), .val (.int f6), .val (.int f7), .val (.ref b4), .val (.long (46775 : Int64)), .second, .val (.long lf), .second, .val (.long (own_park lf (46775 : Int64) f5)), .second, .val (.long lf), .second]) rfl ?_
              show Steps p.tables e below (T47.setTop (mkF m 170 #[.val (.long q0), .second, .val (.long q1), .second, .val (.int p2), .val (.int f5), .val (.int f6), .val (.int f7), .val (.ref b4), .val (.long (46775 : Int64)), .second, .val (.long lf), .second, .val (.long (own_park lf (46775 : Int64) f5)), .second, .val (.long lf), .second] [])) _
              refine XS.goto X47.here hx rfl (pc0 := 170) (pc' := 180) rfl (hb hby at_170) (by decide) (by decide) ?_
              show Steps p.tables e below (T47.setTop (mkF m 180 #[.val (.long q0), .second, .val (.long q1), .second, .val (.int p2), .val (.int f5), .val (.int f6), .val (.int f7), .val (.ref b4), .val (.long (46775 : Int64)), .second, .val (.long lf), .second, .val (.long (own_park lf (46775 : Int64) f5)), .second, .val (.long lf), .second] [])) _
              refine XS.lload X47.here hx rfl (hb hby at_180) rfl ?_
              show Steps p.tables e below (T47.setTop (mkF m 182 #[.val (.long q0), .second, .val (.long q1), .second, .val (.int p2), .val (.int f5), .val (.int f6), .val (.int f7), .val (.ref b4), .val (.long (46775 : Int64)), .second, .val (.long lf), .second, .val (.long (own_park lf (46775 : Int64) f5)), .second, .val (.long lf), .second] [(.long (own_park lf (46775 : Int64) f5))])) _
              refine XS.lload X47.here hx rfl (hb hby at_182) rfl ?_
              show Steps p.tables e below (T47.setTop (mkF m 184 #[.val (.long q0), .second, .val (.long q1), .second, .val (.int p2), .val (.int f5), .val (.int f6), .val (.int f7), .val (.ref b4), .val (.long (46775 : Int64)), .second, .val (.long lf), .second, .val (.long (own_park lf (46775 : Int64) f5)), .second, .val (.long lf), .second] [(.long lf), (.long (own_park lf (46775 : Int64) f5))])) _
              refine XS.lcmp X47.here hx rfl (hb hby at_184) rfl ?_
              show Steps p.tables e below (T47.setTop (mkF m 185 #[.val (.long q0), .second, .val (.long q1), .second, .val (.int p2), .val (.int f5), .val (.int f6), .val (.int f7), .val (.ref b4), .val (.long (46775 : Int64)), .second, .val (.long lf), .second, .val (.long (own_park lf (46775 : Int64) f5)), .second, .val (.long lf), .second] [(.int (lcmpW (own_park lf (46775 : Int64) f5) lf))])) _
              refine XS.ifNo X47.here hx rfl (hb hby at_185) rfl ((if0 _ _).trans (teq ((lw_eq _ _).mpr (own_fin2 hc48 hc50))).2) ?_
              show Steps p.tables e below (T47.setTop (mkF m 188 #[.val (.long q0), .second, .val (.long q1), .second, .val (.int p2), .val (.int f5), .val (.int f6), .val (.int f7), .val (.ref b4), .val (.long (46775 : Int64)), .second, .val (.long lf), .second, .val (.long (own_park lf (46775 : Int64) f5)), .second, .val (.long lf), .second] [])) _
              refine XS.iconst X47.here hx rfl (hb hby at_188) ?_
              show Steps p.tables e below (T47.setTop (mkF m 189 #[.val (.long q0), .second, .val (.long q1), .second, .val (.int p2), .val (.int f5), .val (.int f6), .val (.int f7), .val (.ref b4), .val (.long (46775 : Int64)), .second, .val (.long lf), .second, .val (.long (own_park lf (46775 : Int64) f5)), .second, .val (.long lf), .second] [(.int (1 : Int32))])) _
              refine XS.goto X47.here hx rfl (pc0 := 189) (pc' := 193) rfl (hb hby at_189) (by decide) (by decide) ?_
              show Steps p.tables e below (T47.setTop (mkF m 193 #[.val (.long q0), .second, .val (.long q1), .second, .val (.int p2), .val (.int f5), .val (.int f6), .val (.int f7), .val (.ref b4), .val (.long (46775 : Int64)), .second, .val (.long lf), .second, .val (.long (own_park lf (46775 : Int64) f5)), .second, .val (.long lf), .second] [(.int (1 : Int32))])) _
              exact k
            refine own_retN X47 hx (t := .boolean) Bd.returns (by simp) (hb hby at_193) (BodyLoose.notSynchronized Bd) (by decide) (by decide) ?_
            rw [show T47.heap = T30.heap from eq47]
            exact ⟨rfl, N47⟩
          · skip
            refine own_step (T' := T47) (g' := (mkF m 193 #[.val (.long q0), .second, .val (.long q1), .second, .val (.int p2), .val (.int f5), .val (.int f6), .val (.int f7), .val (.ref b4), .val (.long (46775 : Int64)), .second, .val (.long lf), .second, .val (.long (own_park lf (46775 : Int64) f5)), .second, .val (.long (0 : Int64)), .second] [(.int (1 : Int32))])) (fun t k => ?_) ?_
            · show Steps p.tables e below (T47.setTop (mkF m 157 #[.val (.long q0), .second, .val (.long q1), .second, .val (.int p2), .val (.int f5), .val (.int f6), .val (.int f7), .val (.ref b4), .val (.long (46775 : Int64)), .second, .val (.long lf), .second, .val (.long (own_park lf (46775 : Int64) f5)), .second, .unset, .unset] [(.int f5)])) _
              refine XS.ifNo X47.here hx rfl (hb hby at_157) rfl ((if0 _ _).trans (feq hc50).1) ?_
              show Steps p.tables e below (T47.setTop (mkF m 160 #[.val (.long q0), .second, .val (.long q1), .second, .val (.int p2), .val (.int f5), .val (.int f6), .val (.int f7), .val (.ref b4), .val (.long (46775 : Int64)), .second, .val (.long lf), .second, .val (.long (own_park lf (46775 : Int64) f5)), .second, .unset, .unset] [])) _
              refine XS.lconst X47.here hx rfl (hb hby at_160) ?_
              show Steps p.tables e below (T47.setTop (mkF m 161 #[.val (.long q0), .second, .val (.long q1), .second, .val (.int p2), .val (.int f5), .val (.int f6), .val (.int f7), .val (.ref b4), .val (.long (46775 : Int64)), .second, .val (.long lf), .second, .val (.long (own_park lf (46775 : Int64) f5)), .second, .unset, .unset] [(.long (0 : Int64))])) _
              refine XS.lstore X47.here hx rfl (hb hby at_161) rfl (l' := #[.val (.long q0), .second, .val (.long q1), .second, .val (.int p2), .val (.int f5), .val (.int f6), .val (.int f7), .val (.ref b4), .val (.long (46775 : Int64)), .second, .val (.long lf), .second, .val (.long (own_park lf (46775 : Int64) f5)), .second, .val (.long (0 : Int64)), .second]) rfl ?_
              show Steps p.tables e below (T47.setTop (mkF m 163 #[.val (.long q0), .second, .val (.long q1), .second, .val (.int p2), .val (.int f5), .val (.int f6), .val (.int f7), .val (.ref b4), .val (.long (46775 : Int64)), .second, .val (.long lf), .second, .val (.long (own_park lf (46775 : Int64) f5)), .second, .val (.long (0 : Int64)), .second] [])) _
              refine XS.goto X47.here hx rfl (pc0 := 163) (pc' := 180) rfl (hb hby at_163) (by decide) (by decide) ?_
              show Steps p.tables e below (T47.setTop (mkF m 180 #[.val (.long q0), .second, .val (.long q1), .second, .val (.int p2), .val (.int f5), .val (.int f6), .val (.int f7), .val (.ref b4), .val (.long (46775 : Int64)), .second, .val (.long lf), .second, .val (.long (own_park lf (46775 : Int64) f5)), .second, .val (.long (0 : Int64)), .second] [])) _
              refine XS.lload X47.here hx rfl (hb hby at_180) rfl ?_
              show Steps p.tables e below (T47.setTop (mkF m 182 #[.val (.long q0), .second, .val (.long q1), .second, .val (.int p2), .val (.int f5), .val (.int f6), .val (.int f7), .val (.ref b4), .val (.long (46775 : Int64)), .second, .val (.long lf), .second, .val (.long (own_park lf (46775 : Int64) f5)), .second, .val (.long (0 : Int64)), .second] [(.long (own_park lf (46775 : Int64) f5))])) _
              refine XS.lload X47.here hx rfl (hb hby at_182) rfl ?_
              show Steps p.tables e below (T47.setTop (mkF m 184 #[.val (.long q0), .second, .val (.long q1), .second, .val (.int p2), .val (.int f5), .val (.int f6), .val (.int f7), .val (.ref b4), .val (.long (46775 : Int64)), .second, .val (.long lf), .second, .val (.long (own_park lf (46775 : Int64) f5)), .second, .val (.long (0 : Int64)), .second] [(.long (0 : Int64)), (.long (own_park lf (46775 : Int64) f5))])) _
              refine XS.lcmp X47.here hx rfl (hb hby at_184) rfl ?_
              show Steps p.tables e below (T47.setTop (mkF m 185 #[.val (.long q0), .second, .val (.long q1), .second, .val (.int p2), .val (.int f5), .val (.int f6), .val (.int f7), .val (.ref b4), .val (.long (46775 : Int64)), .second, .val (.long lf), .second, .val (.long (own_park lf (46775 : Int64) f5)), .second, .val (.long (0 : Int64)), .second] [(.int (lcmpW (own_park lf (46775 : Int64) f5) (0 : Int64)))])) _
              refine XS.ifNo X47.here hx rfl (hb hby at_185) rfl ((if0 _ _).trans (teq ((lw_eq _ _).mpr (own_fin3 hc48 hc50))).2) ?_
              show Steps p.tables e below (T47.setTop (mkF m 188 #[.val (.long q0), .second, .val (.long q1), .second, .val (.int p2), .val (.int f5), .val (.int f6), .val (.int f7), .val (.ref b4), .val (.long (46775 : Int64)), .second, .val (.long lf), .second, .val (.long (own_park lf (46775 : Int64) f5)), .second, .val (.long (0 : Int64)), .second] [])) _
              refine XS.iconst X47.here hx rfl (hb hby at_188) ?_
              show Steps p.tables e below (T47.setTop (mkF m 189 #[.val (.long q0), .second, .val (.long q1), .second, .val (.int p2), .val (.int f5), .val (.int f6), .val (.int f7), .val (.ref b4), .val (.long (46775 : Int64)), .second, .val (.long lf), .second, .val (.long (own_park lf (46775 : Int64) f5)), .second, .val (.long (0 : Int64)), .second] [(.int (1 : Int32))])) _
              refine XS.goto X47.here hx rfl (pc0 := 189) (pc' := 193) rfl (hb hby at_189) (by decide) (by decide) ?_
              show Steps p.tables e below (T47.setTop (mkF m 193 #[.val (.long q0), .second, .val (.long q1), .second, .val (.int p2), .val (.int f5), .val (.int f6), .val (.int f7), .val (.ref b4), .val (.long (46775 : Int64)), .second, .val (.long lf), .second, .val (.long (own_park lf (46775 : Int64) f5)), .second, .val (.long (0 : Int64)), .second] [(.int (1 : Int32))])) _
              exact k
            refine own_retN X47 hx (t := .boolean) Bd.returns (by simp) (hb hby at_193) (BodyLoose.notSynchronized Bd) (by decide) (by decide) ?_
            rw [show T47.heap = T30.heap from eq47]
            exact ⟨rfl, N47⟩
    · skip
      refine own_step (T' := T30) (g' := (mkF m 92 #[.val (.long q0), .second, .val (.long q1), .second, .val (.int p2), .val (.int f5), .val (.int f6), .val (.int f7), .val (.ref b4), .val (.long (50000 : Int64)), .second, .val (.long ov), .second, .unset, .unset, .unset, .unset] [])) (fun t k => ?_) ?_
      · show Steps p.tables e below (T30.setTop (mkF m 81 #[.val (.long q0), .second, .val (.long q1), .second, .val (.int p2), .val (.int f5), .val (.int f6), .val (.int f7), .val (.ref b4), .val (.long (50000 : Int64)), .second, .val (.long ov), .second, .unset, .unset, .unset, .unset] [(.int (lcmpW ov (50000 : Int64)))])) _
        refine XS.ifYes X30.here hx rfl (pc0 := 81) (pc' := 92) rfl (hb hby at_81) rfl ((if0 _ _).trans (flt hc32).2.1) (by decide) (by decide) ?_
        show Steps p.tables e below (T30.setTop (mkF m 92 #[.val (.long q0), .second, .val (.long q1), .second, .val (.int p2), .val (.int f5), .val (.int f6), .val (.int f7), .val (.ref b4), .val (.long (50000 : Int64)), .second, .val (.long ov), .second, .unset, .unset, .unset, .unset] [])) _
        exact k
      rw [show (own_lead ov) = (50358 : Int64) from by simp [own_lead, hc32]] at Fq30
      refine own_step (T' := T30) (g' := (mkF m 99 #[.val (.long q0), .second, .val (.long q1), .second, .val (.int p2), .val (.int f5), .val (.int f6), .val (.int f7), .val (.ref b4), .val (.long (50358 : Int64)), .second, .val (.long ov), .second, .unset, .unset, .unset, .unset] [(.int f6)])) (fun t k => ?_) ?_
      · show Steps p.tables e below (T30.setTop (mkF m 92 #[.val (.long q0), .second, .val (.long q1), .second, .val (.int p2), .val (.int f5), .val (.int f6), .val (.int f7), .val (.ref b4), .val (.long (50000 : Int64)), .second, .val (.long ov), .second, .unset, .unset, .unset, .unset] [])) _
        refine X30.ldc2Long hx hown (mvT hZ (hw _ (List.mem_of_getElem? (i := 37) rfl))) (g := (mkF m 92 #[.val (.long q0), .second, .val (.long q1), .second, .val (.int p2), .val (.int f5), .val (.int f6), .val (.int f7), .val (.ref b4), .val (.long (50000 : Int64)), .second, .val (.long ov), .second, .unset, .unset, .unset, .unset] [])) rfl (hb hby at_92) _ ?_
        show Steps p.tables e below (T30.setTop (mkF m 95 #[.val (.long q0), .second, .val (.long q1), .second, .val (.int p2), .val (.int f5), .val (.int f6), .val (.int f7), .val (.ref b4), .val (.long (50000 : Int64)), .second, .val (.long ov), .second, .unset, .unset, .unset, .unset] [(.long (50358 : Int64))])) _
        refine XS.lstore X30.here hx rfl (hb hby at_95) rfl (l' := #[.val (.long q0), .second, .val (.long q1), .second, .val (.int p2), .val (.int f5), .val (.int f6), .val (.int f7), .val (.ref b4), .val (.long (50358 : Int64)), .second, .val (.long ov), .second, .unset, .unset, .unset, .unset]) rfl ?_
        show Steps p.tables e below (T30.setTop (mkF m 97 #[.val (.long q0), .second, .val (.long q1), .second, .val (.int p2), .val (.int f5), .val (.int f6), .val (.int f7), .val (.ref b4), .val (.long (50358 : Int64)), .second, .val (.long ov), .second, .unset, .unset, .unset, .unset] [])) _
        refine XS.iload X30.here hx rfl (hb hby at_97) rfl ?_
        show Steps p.tables e below (T30.setTop (mkF m 99 #[.val (.long q0), .second, .val (.long q1), .second, .val (.int p2), .val (.int f5), .val (.int f6), .val (.int f7), .val (.ref b4), .val (.long (50358 : Int64)), .second, .val (.long ov), .second, .unset, .unset, .unset, .unset] [(.int f6)])) _
        exact k
      by_cases hc53 : f6 = (0 : Int32)
      · skip
        refine own_step (T' := T30) (g' := (mkF m 130 #[.val (.long q0), .second, .val (.long q1), .second, .val (.int p2), .val (.int f5), .val (.int f6), .val (.int f7), .val (.ref b4), .val (.long (50358 : Int64)), .second, .val (.long (q0 &&& (9223372036854775807 : Int64))), .second, .unset, .unset, .unset, .unset] [(.int (lcmpW (q0 &&& (9223372036854775807 : Int64)) (0 : Int64)))])) (fun t k => ?_) ?_
        · show Steps p.tables e below (T30.setTop (mkF m 99 #[.val (.long q0), .second, .val (.long q1), .second, .val (.int p2), .val (.int f5), .val (.int f6), .val (.int f7), .val (.ref b4), .val (.long (50358 : Int64)), .second, .val (.long ov), .second, .unset, .unset, .unset, .unset] [(.int f6)])) _
          refine XS.ifYes X30.here hx rfl (pc0 := 99) (pc' := 119) rfl (hb hby at_99) rfl ((if0 _ _).trans (teq hc53).1) (by decide) (by decide) ?_
          show Steps p.tables e below (T30.setTop (mkF m 119 #[.val (.long q0), .second, .val (.long q1), .second, .val (.int p2), .val (.int f5), .val (.int f6), .val (.int f7), .val (.ref b4), .val (.long (50358 : Int64)), .second, .val (.long ov), .second, .unset, .unset, .unset, .unset] [])) _
          refine XS.lloadN X30.here hx rfl (hb hby at_119) rfl ?_
          show Steps p.tables e below (T30.setTop (mkF m 120 #[.val (.long q0), .second, .val (.long q1), .second, .val (.int p2), .val (.int f5), .val (.int f6), .val (.int f7), .val (.ref b4), .val (.long (50358 : Int64)), .second, .val (.long ov), .second, .unset, .unset, .unset, .unset] [(.long q0)])) _
          refine X30.ldc2Long hx hown (mvT hZ (hw _ (List.mem_of_getElem? (i := 13) rfl))) (g := (mkF m 120 #[.val (.long q0), .second, .val (.long q1), .second, .val (.int p2), .val (.int f5), .val (.int f6), .val (.int f7), .val (.ref b4), .val (.long (50358 : Int64)), .second, .val (.long ov), .second, .unset, .unset, .unset, .unset] [(.long q0)])) rfl (hb hby at_120) _ ?_
          show Steps p.tables e below (T30.setTop (mkF m 123 #[.val (.long q0), .second, .val (.long q1), .second, .val (.int p2), .val (.int f5), .val (.int f6), .val (.int f7), .val (.ref b4), .val (.long (50358 : Int64)), .second, .val (.long ov), .second, .unset, .unset, .unset, .unset] [(.long (9223372036854775807 : Int64)), (.long q0)])) _
          refine XS.land X30.here hx rfl (hb hby at_123) rfl ?_
          show Steps p.tables e below (T30.setTop (mkF m 124 #[.val (.long q0), .second, .val (.long q1), .second, .val (.int p2), .val (.int f5), .val (.int f6), .val (.int f7), .val (.ref b4), .val (.long (50358 : Int64)), .second, .val (.long ov), .second, .unset, .unset, .unset, .unset] [(.long (q0 &&& (9223372036854775807 : Int64)))])) _
          refine XS.lstore X30.here hx rfl (hb hby at_124) rfl (l' := #[.val (.long q0), .second, .val (.long q1), .second, .val (.int p2), .val (.int f5), .val (.int f6), .val (.int f7), .val (.ref b4), .val (.long (50358 : Int64)), .second, .val (.long (q0 &&& (9223372036854775807 : Int64))), .second, .unset, .unset, .unset, .unset]) rfl ?_
          show Steps p.tables e below (T30.setTop (mkF m 126 #[.val (.long q0), .second, .val (.long q1), .second, .val (.int p2), .val (.int f5), .val (.int f6), .val (.int f7), .val (.ref b4), .val (.long (50358 : Int64)), .second, .val (.long (q0 &&& (9223372036854775807 : Int64))), .second, .unset, .unset, .unset, .unset] [])) _
          refine XS.lload X30.here hx rfl (hb hby at_126) rfl ?_
          show Steps p.tables e below (T30.setTop (mkF m 128 #[.val (.long q0), .second, .val (.long q1), .second, .val (.int p2), .val (.int f5), .val (.int f6), .val (.int f7), .val (.ref b4), .val (.long (50358 : Int64)), .second, .val (.long (q0 &&& (9223372036854775807 : Int64))), .second, .unset, .unset, .unset, .unset] [(.long (q0 &&& (9223372036854775807 : Int64)))])) _
          refine XS.lconst X30.here hx rfl (hb hby at_128) ?_
          show Steps p.tables e below (T30.setTop (mkF m 129 #[.val (.long q0), .second, .val (.long q1), .second, .val (.int p2), .val (.int f5), .val (.int f6), .val (.int f7), .val (.ref b4), .val (.long (50358 : Int64)), .second, .val (.long (q0 &&& (9223372036854775807 : Int64))), .second, .unset, .unset, .unset, .unset] [(.long (0 : Int64)), (.long (q0 &&& (9223372036854775807 : Int64)))])) _
          refine XS.lcmp X30.here hx rfl (hb hby at_129) rfl ?_
          show Steps p.tables e below (T30.setTop (mkF m 130 #[.val (.long q0), .second, .val (.long q1), .second, .val (.int p2), .val (.int f5), .val (.int f6), .val (.int f7), .val (.ref b4), .val (.long (50358 : Int64)), .second, .val (.long (q0 &&& (9223372036854775807 : Int64))), .second, .unset, .unset, .unset, .unset] [(.int (lcmpW (q0 &&& (9223372036854775807 : Int64)) (0 : Int64)))])) _
          exact k
        by_cases hc54 : (lcmpW (q0 &&& (9223372036854775807 : Int64)) (0 : Int64)) = (0 : Int32)
        · skip
          refine own_step (T' := T30) (g' := (mkF m 136 #[.val (.long q0), .second, .val (.long q1), .second, .val (.int p2), .val (.int f5), .val (.int f6), .val (.int f7), .val (.ref b4), .val (.long (50358 : Int64)), .second, .val (.long (1 : Int64)), .second, .unset, .unset, .unset, .unset] [])) (fun t k => ?_) ?_
          · show Steps p.tables e below (T30.setTop (mkF m 130 #[.val (.long q0), .second, .val (.long q1), .second, .val (.int p2), .val (.int f5), .val (.int f6), .val (.int f7), .val (.ref b4), .val (.long (50358 : Int64)), .second, .val (.long (q0 &&& (9223372036854775807 : Int64))), .second, .unset, .unset, .unset, .unset] [(.int (lcmpW (q0 &&& (9223372036854775807 : Int64)) (0 : Int64)))])) _
            refine XS.ifNo X30.here hx rfl (hb hby at_130) rfl ((if0 _ _).trans (teq hc54).2) ?_
            show Steps p.tables e below (T30.setTop (mkF m 133 #[.val (.long q0), .second, .val (.long q1), .second, .val (.int p2), .val (.int f5), .val (.int f6), .val (.int f7), .val (.ref b4), .val (.long (50358 : Int64)), .second, .val (.long (q0 &&& (9223372036854775807 : Int64))), .second, .unset, .unset, .unset, .unset] [])) _
            refine XS.lconst X30.here hx rfl (hb hby at_133) ?_
            show Steps p.tables e below (T30.setTop (mkF m 134 #[.val (.long q0), .second, .val (.long q1), .second, .val (.int p2), .val (.int f5), .val (.int f6), .val (.int f7), .val (.ref b4), .val (.long (50358 : Int64)), .second, .val (.long (q0 &&& (9223372036854775807 : Int64))), .second, .unset, .unset, .unset, .unset] [(.long (1 : Int64))])) _
            refine XS.lstore X30.here hx rfl (hb hby at_134) rfl (l' := #[.val (.long q0), .second, .val (.long q1), .second, .val (.int p2), .val (.int f5), .val (.int f6), .val (.int f7), .val (.ref b4), .val (.long (50358 : Int64)), .second, .val (.long (1 : Int64)), .second, .unset, .unset, .unset, .unset]) rfl ?_
            show Steps p.tables e below (T30.setTop (mkF m 136 #[.val (.long q0), .second, .val (.long q1), .second, .val (.int p2), .val (.int f5), .val (.int f6), .val (.int f7), .val (.ref b4), .val (.long (50358 : Int64)), .second, .val (.long (1 : Int64)), .second, .unset, .unset, .unset, .unset] [])) _
            exact k
          refine own_step (T' := T30) (g' := (mkF m 142 #[.val (.long q0), .second, .val (.long q1), .second, .val (.int p2), .val (.int f5), .val (.int f6), .val (.int f7), .val (.ref b4), .val (.long (50358 : Int64)), .second, .val (.long (1 : Int64)), .second, .unset, .unset, .unset, .unset] [(.int f5), (.long (1 : Int64)), (.ref b4)])) (fun t k => ?_) ?_
          · show Steps p.tables e below (T30.setTop (mkF m 136 #[.val (.long q0), .second, .val (.long q1), .second, .val (.int p2), .val (.int f5), .val (.int f6), .val (.int f7), .val (.ref b4), .val (.long (50358 : Int64)), .second, .val (.long (1 : Int64)), .second, .unset, .unset, .unset, .unset] [])) _
            refine XS.aload X30.here hx rfl (hb hby at_136) rfl rfl ?_
            show Steps p.tables e below (T30.setTop (mkF m 138 #[.val (.long q0), .second, .val (.long q1), .second, .val (.int p2), .val (.int f5), .val (.int f6), .val (.int f7), .val (.ref b4), .val (.long (50358 : Int64)), .second, .val (.long (1 : Int64)), .second, .unset, .unset, .unset, .unset] [(.ref b4)])) _
            refine XS.lload X30.here hx rfl (hb hby at_138) rfl ?_
            show Steps p.tables e below (T30.setTop (mkF m 140 #[.val (.long q0), .second, .val (.long q1), .second, .val (.int p2), .val (.int f5), .val (.int f6), .val (.int f7), .val (.ref b4), .val (.long (50358 : Int64)), .second, .val (.long (1 : Int64)), .second, .unset, .unset, .unset, .unset] [(.long (1 : Int64)), (.ref b4)])) _
            refine XS.iload X30.here hx rfl (hb hby at_140) rfl ?_
            show Steps p.tables e below (T30.setTop (mkF m 142 #[.val (.long q0), .second, .val (.long q1), .second, .val (.int p2), .val (.int f5), .val (.int f6), .val (.int f7), .val (.ref b4), .val (.long (50358 : Int64)), .second, .val (.long (1 : Int64)), .second, .unset, .unset, .unset, .unset] [(.int f5), (.long (1 : Int64)), (.ref b4)])) _
            exact k
          obtain ⟨cq55, kq55, q55a, q55b, q55c⟩ := isOf hZ rfl Eq30
          obtain ⟨_, _, ⟨T55, L55, k55, n55⟩, -, X55, ⟨Lc55, hQ55, l55, y55, z55⟩, st55⟩ := X30.virtualBack hx (y := (⟨"com/example/windlass/windlass/ParkLead", "parkNanos", "(JZ)J"⟩ : MethodName)) (z := (⟨"com/example/windlass/windlass/ParkLead", "parkNanos", "(JZ)J"⟩ : MethodName)) hown (mvT hZ (hw _ (List.mem_of_getElem? (i := 14) rfl))) (mvT hZ (hw _ (List.mem_of_getElem? (i := 15) rfl))) (notFace_of_selects (args := #[]) (mvT hZ (hw _ (List.mem_of_getElem? (i := 17) rfl)))) (mvT hZ (hw _ (List.mem_of_getElem? (i := 17) rfl))) (mvT hZ (hw _ (List.mem_of_getElem? (i := 16) rfl))) (by decide) (backOf (W := 0) (rm3 l Z a0 hw [] b4 (1 : Int64) f5 (50358 : Int64) T30.heap n0 Z31 Eq30 Fq30) hZ (hw _ (List.mem_of_getElem? (i := 18) rfl)) (hw _ (List.mem_of_getElem? (i := 2) rfl)) (by decide) (by decide)) q55a q55c (g := (mkF m 142 #[.val (.long q0), .second, .val (.long q1), .second, .val (.int p2), .val (.int f5), .val (.int f6), .val (.int f7), .val (.ref b4), .val (.long (50358 : Int64)), .second, .val (.long (1 : Int64)), .second, .unset, .unset, .unset, .unset] [(.int f5), (.long (1 : Int64)), (.ref b4)])) rfl (by rw [hml]; rfl) (Steps.refl _) (argsL := [(.long (1 : Int64)), (.int f5)]) (rest := []) (lenOf pd_2 rfl) rfl (by show 2 * 0 + _ ≤ _; exact Nat.le_of_eq rfl) (hb hby at_142) (fun _ _ => ⟨rfl, rfl, (by decide : 1 + 0 ≤ _), (by decide : 1 + 0 ≤ _)⟩)
          dsimp only [Pt.U, Pt.locs, Pt.cells, Pt.slots] at X55 l55 y55 z55 st55 hQ55
          subst l55 y55 z55
          obtain ⟨rfl, N55q, eq55⟩ := hQ55
          have N55 := Fr.app N30 N55q
          refine own_step (fun t k => st55.trans k) ?_
          show own_Run p e below s _ _ _ T55 (mkF m 145 #[.val (.long q0), .second, .val (.long q1), .second, .val (.int p2), .val (.int f5), .val (.int f6), .val (.int f7), .val (.ref b4), .val (.long (50358 : Int64)), .second, .val (.long (1 : Int64)), .second, .unset, .unset, .unset, .unset] [(.long (own_park (1 : Int64) (50358 : Int64) f5))])
          refine own_step (T' := T55) (g' := (mkF m 152 #[.val (.long q0), .second, .val (.long q1), .second, .val (.int p2), .val (.int f5), .val (.int f6), .val (.int f7), .val (.ref b4), .val (.long (50358 : Int64)), .second, .val (.long (1 : Int64)), .second, .val (.long (own_park (1 : Int64) (50358 : Int64) f5)), .second, .unset, .unset] [(.int (lcmpW (1 : Int64) (50358 : Int64)))])) (fun t k => ?_) ?_
          · show Steps p.tables e below (T55.setTop (mkF m 145 #[.val (.long q0), .second, .val (.long q1), .second, .val (.int p2), .val (.int f5), .val (.int f6), .val (.int f7), .val (.ref b4), .val (.long (50358 : Int64)), .second, .val (.long (1 : Int64)), .second, .unset, .unset, .unset, .unset] [(.long (own_park (1 : Int64) (50358 : Int64) f5))])) _
            refine XS.lstore X55.here hx rfl (hb hby at_145) rfl (l' := #[.val (.long q0), .second, .val (.long q1), .second, .val (.int p2), .val (.int f5), .val (.int f6), .val (.int f7), .val (.ref b4), .val (.long (50358 : Int64)), .second, .val (.long (1 : Int64)), .second, .val (.long (own_park (1 : Int64) (50358 : Int64) f5)), .second, .unset, .unset]) rfl ?_
            show Steps p.tables e below (T55.setTop (mkF m 147 #[.val (.long q0), .second, .val (.long q1), .second, .val (.int p2), .val (.int f5), .val (.int f6), .val (.int f7), .val (.ref b4), .val (.long (50358 : Int64)), .second, .val (.long (1 : Int64)), .second, .val (.long (own_park (1 : Int64) (50358 : Int64) f5)), .second, .unset, .unset] [])) _
            refine XS.lload X55.here hx rfl (hb hby at_147) rfl ?_
            show Steps p.tables e below (T55.setTop (mkF m 149 #[.val (.long q0), .second, .val (.long q1), .second, .val (.int p2), .val (.int f5), .val (.int f6), .val (.int f7), .val (.ref b4), .val (.long (50358 : Int64)), .second, .val (.long (1 : Int64)), .second, .val (.long (own_park (1 : Int64) (50358 : Int64) f5)), .second, .unset, .unset] [(.long (1 : Int64))])) _
            refine XS.lload X55.here hx rfl (hb hby at_149) rfl ?_
            show Steps p.tables e below (T55.setTop (mkF m 151 #[.val (.long q0), .second, .val (.long q1), .second, .val (.int p2), .val (.int f5), .val (.int f6), .val (.int f7), .val (.ref b4), .val (.long (50358 : Int64)), .second, .val (.long (1 : Int64)), .second, .val (.long (own_park (1 : Int64) (50358 : Int64) f5)), .second, .unset, .unset] [(.long (50358 : Int64)), (.long (1 : Int64))])) _
            refine XS.lcmp X55.here hx rfl (hb hby at_151) rfl ?_
            show Steps p.tables e below (T55.setTop (mkF m 152 #[.val (.long q0), .second, .val (.long q1), .second, .val (.int p2), .val (.int f5), .val (.int f6), .val (.int f7), .val (.ref b4), .val (.long (50358 : Int64)), .second, .val (.long (1 : Int64)), .second, .val (.long (own_park (1 : Int64) (50358 : Int64) f5)), .second, .unset, .unset] [(.int (lcmpW (1 : Int64) (50358 : Int64)))])) _
            exact k
          by_cases hc56 : (0 : Int32) < (lcmpW (1 : Int64) (50358 : Int64))
          · skip
            refine own_step (T' := T55) (g' := (mkF m 193 #[.val (.long q0), .second, .val (.long q1), .second, .val (.int p2), .val (.int f5), .val (.int f6), .val (.int f7), .val (.ref b4), .val (.long (50358 : Int64)), .second, .val (.long (1 : Int64)), .second, .val (.long (own_park (1 : Int64) (50358 : Int64) f5)), .second, .val (.long ((1 : Int64) - (50358 : Int64))), .second] [(.int (1 : Int32))])) (fun t k => ?_) ?_
            · show Steps p.tables e below (T55.setTop (mkF m 152 #[.val (.long q0), .second, .val (.long q1), .second, .val (.int p2), .val (.int f5), .val (.int f6), .val (.int f7), .val (.ref b4), .val (.long (50358 : Int64)), .second, .val (.long (1 : Int64)), .second, .val (.long (own_park (1 : Int64) (50358 : Int64) f5)), .second, .unset, .unset] [(.int (lcmpW (1 : Int64) (50358 : Int64)))])) _
              refine XS.ifYes X55.here hx rfl (pc0 := 152) (pc' := 173) rfl (hb hby at_152) rfl ((if0 _ _).trans (tlt hc56).2.2.1) (by decide) (by decide) ?_
              show Steps p.tables e below (T55.setTop (mkF m 173 #[.val (.long q0), .second, .val (.long q1), .second, .val (.int p2), .val (.int f5), .val (.int f6), .val (.int f7), .val (.ref b4), .val (.long (50358 : Int64)), .second, .val (.long (1 : Int64)), .second, .val (.long (own_park (1 : Int64) (50358 : Int64) f5)), .second, .unset, .unset] [])) _
              refine XS.lload X55.here hx rfl (hb hby at_173) rfl ?_
              show Steps p.tables e below (T55.setTop (mkF m 175 #[.val (.long q0), .second, .val (.long q1), .second, .val (.int p2), .val (.int f5), .val (.int f6), .val (.int f7), .val (.ref b4), .val (.long (50358 : Int64)), .second, .val (.long (1 : Int64)), .second, .val (.long (own_park (1 : Int64) (50358 : Int64) f5)), .second, .unset, .unset] [(.long (1 : Int64))])) _
              refine XS.lload X55.here hx rfl (hb hby at_175) rfl ?_
              show Steps p.tables e below (T55.setTop (mkF m 177 #[.val (.long q0), .second, .val (.long q1), .second, .val (.int p2), .val (.int f5), .val (.int f6), .val (.int f7), .val (.ref b4), .val (.long (50358 : Int64)), .second, .val (.long (1 : Int64)), .second, .val (.long (own_park (1 : Int64) (50358 : Int64) f5)), .second, .unset, .unset] [(.long (50358 : Int64)), (.long (1 : Int64))])) _
              refine XS.lsub X55.here hx rfl (hb hby at_177) rfl ?_
              show Steps p.tables e below (T55.setTop (mkF m 178 #[.val (.long q0), .second, .val (.long q1), .second, .val (.int p2), .val (.int f5), .val (.int f6), .val (.int f7), .val (.ref b4), .val (.long (50358 : Int64)), .second, .val (.long (1 : Int64)), .second, .val (.long (own_park (1 : Int64) (50358 : Int64) f5)), .second, .unset, .unset] [(.long ((1 : Int64) - (50358 : Int64)))])) _
              refine XS.lstore X55.here hx rfl (hb hby at_178) rfl (l' := #[.val (.long q0), .second, .val (.long q1), .second, .val (.int p2), .val (.int f5), .val (.int f6), .val (.int f7), .val (.ref b4), .val (.long (50358 : Int64)), .second, .val (.long (1 : Int64)), .second, .val (.long (own_park (1 : Int64) (50358 : Int64) f5)), .second, .val (.long ((1 : Int64) - (50358 : Int64))), .second]) rfl ?_
              show Steps p.tables e below (T55.setTop (mkF m 180 #[.val (.long q0), .second, .val (.long q1), .second, .val (.int p2), .val (.int f5), .val (.int f6), .val (.int f7), .val (.ref b4), .val (.long (50358 : Int64)), .second, .val (.long (1 : Int64)), .second, .val (.long (own_park (1 : Int64) (50358 : Int64) f5)), .second, .val (.long ((1 : Int64) - (50358 : Int64))), .second] [])) _
              refine XS.lload X55.here hx rfl (hb hby at_180) rfl ?_
              show Steps p.tables e below (T55.setTop (mkF m 182 #[.val (.long q0), .second, .val (.long q1), .second, .val (.int p2), .val (.int f5), .val (.int f6), .val (.int f7), .val (.ref b4), .val (.long (50358 : Int64)), .second, .val (.long (1 : Int64)), .second, .val (.long (own_park (1 : Int64) (50358 : Int64) f5)), .second, .val (.long ((1 : Int64) - (50358 : Int64))), .second] [(.long (own_park (1 : Int64) (50358 : Int64) f5))])) _
              refine XS.lload X55.here hx rfl (hb hby at_182) rfl ?_
              show Steps p.tables e below (T55.setTop (mkF m 184 #[.val (.long q0), .second, .val (.long q1), .second, .val (.int p2), .val (.int f5), .val (.int f6), .val (.int f7), .val (.ref b4), .val (.long (50358 : Int64)), .second, .val (.long (1 : Int64)), .second, .val (.long (own_park (1 : Int64) (50358 : Int64) f5)), .second, .val (.long ((1 : Int64) - (50358 : Int64))), .second] [(.long ((1 : Int64) - (50358 : Int64))), (.long (own_park (1 : Int64) (50358 : Int64) f5))])) _
              refine XS.lcmp X55.here hx rfl (hb hby at_184) rfl ?_
              show Steps p.tables e below (T55.setTop (mkF m 185 #[.val (.long q0), .second, .val (.long q1), .second, .val (.int p2), .val (.int f5), .val (.int f6), .val (.int f7), .val (.ref b4), .val (.long (50358 : Int64)), .second, .val (.long (1 : Int64)), .second, .val (.long (own_park (1 : Int64) (50358 : Int64) f5)), .second, .val (.long ((1 : Int64) - (50358 : Int64))), .second] [(.int (lcmpW (own_park (1 : Int64) (50358 : Int64) f5) ((1 : Int64) - (50358 : Int64))))])) _
              refine XS.ifNo X55.here hx rfl (hb hby at_185) rfl ((if0 _ _).trans (teq ((lw_eq _ _).mpr (own_fin1 hc56))).2) ?_
              show Steps p.tables e below (T55.setTop (mkF m 188 #[.val (.long q0), .second, .val (.long q1), .second, .val (.int p2), .val (.int f5), .val (.int f6), .val (.int f7), .val (.ref b4), .val (.long (50358 : Int64)), .second, .val (.long (1 : Int64)), .second, .val (.long (own_park (1 : Int64) (50358 : Int64) f5)), .second, .val (.long ((1 : Int64) - (50358 : Int64))), .second] [])) _
              refine XS.iconst X55.here hx rfl (hb hby at_188) ?_
              show Steps p.tables e below (T55.setTop (mkF m 189 #[.val (.long q0), .second, .val (.long q1), .second, .val (.int p2), .val (.int f5), .val (.int f6), .val (.int f7), .val (.ref b4), .val (.long (50358 : Int64)), .second, .val (.long (1 : Int64)), .second, .val (.long (own_park (1 : Int64) (50358 : Int64) f5)), .second, .val (.long ((1 : Int64) - (50358 : Int64))), .second] [(.int (1 : Int32))])) _
              refine XS.goto X55.here hx rfl (pc0 := 189) (pc' := 193) rfl (hb hby at_189) (by decide) (by decide) ?_
              show Steps p.tables e below (T55.setTop (mkF m 193 #[.val (.long q0), .second, .val (.long q1), .second, .val (.int p2), .val (.int f5), .val (.int f6), .val (.int f7), .val (.ref b4), .val (.long (50358 : Int64)), .second, .val (.long (1 : Int64)), .second, .val (.long (own_park (1 : Int64) (50358 : Int64) f5)), .second, .val (.long ((1 : Int64) - (50358 : Int64))), .second] [(.int (1 : Int32))])) _
              exact k
            refine own_retN X55 hx (t := .boolean) Bd.returns (by simp) (hb hby at_193) (BodyLoose.notSynchronized Bd) (by decide) (by decide) ?_
            rw [show T55.heap = T30.heap from eq55]
            exact ⟨rfl, N55⟩
          · skip
            refine own_step (T' := T55) (g' := (mkF m 157 #[.val (.long q0), .second, .val (.long q1), .second, .val (.int p2), .val (.int f5), .val (.int f6), .val (.int f7), .val (.ref b4), .val (.long (50358 : Int64)), .second, .val (.long (1 : Int64)), .second, .val (.long (own_park (1 : Int64) (50358 : Int64) f5)), .second, .unset, .unset] [(.int f5)])) (fun t k => ?_) ?_
            · show Steps p.tables e below (T55.setTop (mkF m 152 #[.val (.long q0), .second, .val (.long q1), .second, .val (.int p2), .val (.int f5), .val (.int f6), .val (.int f7), .val (.ref b4), .val (.long (50358 : Int64)), .second, .val (.long (1 : Int64)), .second, .val (.long (own_park (1 : Int64) (50358 : Int64) f5)), .second, .unset, .unset] [(.int (lcmpW (1 : Int64) (50358 : Int64)))])) _
              refine XS.ifNo X55.here hx rfl (hb hby at_152) rfl ((if0 _ _).trans (flt hc56).2.2.1) ?_
              show Steps p.tables e below (T55.setTop (mkF m 155 #[.val (.long q0), .second, .val (.long q1), .second, .val (.int p2), .val (.int f5), .val (.int f6), .val (.int f7), .val (.ref b4), .val (.long (50358 : Int64)), .second, .val (.long (1 : Int64)), .second, .val (.long (own_park (1 : Int64) (50358 : Int64) f5)), .second, .unset, .unset] [])) _
              refine XS.iload X55.here hx rfl (hb hby at_155) rfl ?_
              show Steps p.tables e below (T55.setTop (mkF m 157 #[.val (.long q0), .second, .val (.long q1), .second, .val (.int p2), .val (.int f5), .val (.int f6), .val (.int f7), .val (.ref b4), .val (.long (50358 : Int64)), .second, .val (.long (1 : Int64)), .second, .val (.long (own_park (1 : Int64) (50358 : Int64) f5)), .second, .unset, .unset] [(.int f5)])) _
              exact k
            by_cases hc58 : f5 = (0 : Int32)
            · skip
              refine own_step (T' := T55) (g' := (mkF m 193 #[.val (.long q0), .second, .val (.long q1), .second, .val (.int p2), .val (.int f5), .val (.int f6), .val (.int f7), .val (.ref b4), .val (.long (50358 : Int64)), .second, .val (.long (1 : Int64)), .second, .val (.long (own_park (1 : Int64) (50358 : Int64) f5)), .second, .val (.long (1 : Int64)), .second] [(.int (1 : Int32))])) (fun t k => ?_) ?_
              · show Steps p.tables e below (T55.setTop (mkF m 157 #[.val (.long q0), .second, .val (.long q1), .second, .val (.int p2), .val (.int f5), .val (.int f6), .val (.int f7), .val (.ref b4), .val (.long (50358 : Int64)), .second, .val (.long (1 : Int64)), .second, .val (.long (own_park (1 : Int64) (50358 : Int64) f5)), .second, .unset, .unset] [(.int f5)])) _
                refine XS.ifYes X55.here hx rfl (pc0 := 157) (pc' := 166) rfl (hb hby at_157) rfl ((if0 _ _).trans (teq hc58).1) (by decide) (by decide) ?_
                show Steps p.tables e below (T55.setTop (mkF m 166 #[.val (.long q0), .second, .val (.long q1), .second, .val (.int p2), .val (.int f5), .val (.int f6), .val (.int f7), .val (.ref b4), .val (.long (50358 : Int64)), .second, .val (.long (1 : Int64)), .second, .val (.long (own_park (1 : Int64) (50358 : Int64) f5)), .second, .unset, .unset] [])) _
                refine XS.lload X55.here hx rfl (hb hby at_166) rfl ?_
                show Steps p.tables e below (T55.setTop (mkF m 168 #[.val (.long q0), .second, .val (.long q1), .second, .val (.int p2), .val (.int f5), .val (.int f6), .val (.int f7), .val (.ref b4), .val (.long (50358 : Int64)), .second, .val (.long (1 : Int64)), .second, .val (.long (own_park (1 : Int64) (50358 : Int64) f5)), .second, .unset, .unset] [(.long (1 : Int64))])) _
                refine XS.lstore X55.here hx rfl (hb hby at_168) rfl (l' := #[.val (.long q0), .second, .val (.long q1), .second, .val (.int p2), .val (.int f5), .val (.int f6), .val (.int f7), .val (.ref b4), .val (.long (50358 : Int64)), .second, .val (.long (1 : Int64)), .second, .val (.long (own_park (1 : Int64) (50358 : Int64) f5)), .second, .val (.long (1 : Int64)), .second]) rfl ?_
                show Steps p.tables e below (T55.setTop (mkF m 170 #[.val (.long q0), .second, .val (.long q1), .second, .val (.int p2), .val (.int f5), .val (.int f6), .val (.int f7), .val (.ref b4), .val (.long (50358 : Int64)), .second, .val (.long (1 : Int64)), .second, .val (.long (own_park (1 : Int64) (50358 : Int64) f5)), .second, .val (.long (1 : Int64)), .second] [])) _
                refine XS.goto X55.here hx rfl (pc0 := 170) (pc' := 180) rfl (hb hby at_170) (by decide) (by decide) ?_
                show Steps p.tables e below (T55.setTop (mkF m 180 #[.val (.long q0), .second, .val (.long q1), .second, .val (.int p2), .val (.int f5), .val (.int f6), .val (.int f7), .val (.ref b4), .val (.long (50358 : Int64)), .second, .val (.long (1 : Int64)), .second, .val (.long (own_park (1 : Int64) (50358 : Int64) f5)), .second, .val (.long (1 : Int64)), .second] [])) _
                refine XS.lload X55.here hx rfl (hb hby at_180) rfl ?_
                show Steps p.tables e below (T55.setTop (mkF m 182 #[.val (.long q0), .second, .val (.long q1), .second, .val (.int p2), .val (.int f5), .val (.int f6), .val (.int f7), .val (.ref b4), .val (.long (50358 : Int64)), .second, .val (.long (1 : Int64)), .second, .val (.long (own_park (1 : Int64) (50358 : Int64) f5)), .second, .val (.long (1 : Int64)), .second] [(.long (own_park (1 : Int64) (50358 : Int64) f5))])) _
                refine XS.lload X55.here hx rfl (hb hby at_182) rfl ?_
                show Steps p.tables e below (T55.setTop (mkF m 184 #[.val (.long q0), .second, .val (.long q1), .second, .val (.int p2), .val (.int f5), .val (.int f6), .val (.int f7), .val (.ref b4), .val (.long (50358 : Int64)), .second, .val (.long (1 : Int64)), .second, .val (.long (own_park (1 : Int64) (50358 : Int64) f5)), .second, .val (.long (1 : Int64)), .second] [(.long (1 : Int64)), (.long (own_park (1 : Int64) (50358 : Int64) f5))])) _
                refine XS.lcmp X55.here hx rfl (hb hby at_184) rfl ?_
                show Steps p.tables e below (T55.setTop (mkF m 185 #[.val (.long q0), .second, .val (.long q1), .second, .val (.int p2), .val (.int f5), .val (.int f6), .val (.int f7), .val (.ref b4), .val (.long (50358 : Int64)), .second, .val (.long (1 : Int64)), .second, .val (.long (own_park (1 : Int64) (50358 : Int64) f5)), .second, .val (.long (1 : Int64)), .second] [(.int (lcmpW (own_park (1 : Int64) (50358 : Int64) f5) (1 : Int64)))])) _
                refine XS.ifNo X55.here hx rfl (hb hby at_185) rfl ((if0 _ _).trans (teq ((lw_eq _ _).mpr (own_fin2 hc56 hc58))).2) ?_
                show Steps p.tables e below (T55.setTop (mkF m 188 #[.val (.long q0), .second, .val (.long q1), .second, .val (.int p2), .val (.int f5), .val (.int f6), .val (.int f7), .val (.ref b4), .val (.long (50358 : Int64)), .second, .val (.long (1 : Int64)), .second, .val (.long (own_park (1 : Int64) (50358 : Int64) f5)), .second, .val (.long (1 : Int64)), .second] [])) _
                refine XS.iconst X55.here hx rfl (hb hby at_188) ?_
                show Steps p.tables e below (T55.setTop (mkF m 189 #[.val (.long q0), .second, .val (.long q1), .second, .val (.int p2), .val (.int f5), .val (.int f6), .val (.int f7), .val (.ref b4), .val (.long (50358 : Int64)), .second, .val (.long (1 : Int64)), .second, .val (.long (own_park (1 : Int64) (50358 : Int64) f5)), .second, .val (.long (1 : Int64)), .second] [(.int (1 : Int32))])) _
                refine XS.goto X55.here hx rfl (pc0 := 189) (pc' := 193) rfl (hb hby at_189) (by decide) (by decide) ?_
                show Steps p.tables e below (T55.setTop (mkF m 193 #[.val (.long q0), .second, .val (.long q1), .second, .val (.int p2), .val (.int f5), .val (.int f6), .val (.int f7), .val (.ref b4), .val (.long (50358 : Int64)), .second, .val (.long (1 : Int64)), .second, .val (.long (own_park (1 : Int64) (50358 : Int64) f5)), .second, .val (.long (1 : Int64)), .second] [(.int (1 : Int32))])) _
                exact k
              refine own_retN X55 hx (t := .boolean) Bd.returns (by simp) (hb hby at_193) (BodyLoose.notSynchronized Bd) (by decide) (by decide) ?_
              rw [show T55.heap = T30.heap from eq55]
              exact ⟨rfl, N55⟩
            · skip
              refine own_step (T' := T55) (g' := (mkF m 193 #[.val (.long q0), .second, .val (.long q1), .second, .val (.int p2), .val (.int f5), .val (.int f6), .val (.int f7), .val (.ref b4), .val (.long (50358 : Int64)), .second, .val (.long (1 : Int64)), .second, .val (.long (own_park (1 : Int64) (50358 : Int64) f5)), .second, .val (.long (0 : Int64)), .second] [(.int (1 : Int32))])) (fun t k => ?_) ?_
              · show Steps p.tables e below (T55.setTop (mkF m 157 #[.val (.long q0), .second, .val (.long q1), .second, .val (.int p2), .val (.int f5), .val (.int f6), .val (.int f7), .val (.ref b4), .val (.long (50358 : Int64)), .second, .val (.long (1 : Int64)), .second, .val (.long (own_park (1 : Int64) (50358 : Int64) f5)), .second, .unset, .unset] [(.int f5)])) _
                refine XS.ifNo X55.here hx rfl (hb hby at_157) rfl ((if0 _ _).trans (feq hc58).1) ?_
                show Steps p.tables e below (T55.setTop (mkF m 160 #[.val (.long q0), .second, .val (.long q1), .second, .val (.int p2), .val (.int f5), .val (.int f6), .val (.int f7), .val (.ref b4), .val (.long (50358 : Int64)), .second, .val (.long (1 : Int64)), .second, .val (.long (own_park (1 : Int64) (50358 : Int64) f5)), .second, .unset, .unset] [])) _
                refine XS.lconst X55.here hx rfl (hb hby at_160) ?_
                show Steps p.tables e below (T55.setTop (mkF m 161 #[.val (.long q0), .second, .val (.long q1), .second, .val (.int p2), .val (.int f5), .val (.int f6), .val (.int f7), .val (.ref b4), .val (.long (50358 : Int64)), .second, .val (.long (1 : Int64)), .second, .val (.long (own_park (1 : Int64) (50358 : Int64) f5)), .second, .unset, .unset] [(.long (0 : Int64))])) _
                refine XS.lstore X55.here hx rfl (hb hby at_161) rfl (l' := #[.val (.long q0), .second, .val (.long q1), .second, .val (.int p2), .val (.int f5), .val (.int f6), .val (.int f7), .val (.ref b4), .val (.long (50358 : Int64)), .second, .val (.long (1 : Int64)), .second, .val (.long (own_park (1 : Int64) (50358 : Int64) f5)), .second, .val (.long (0 : Int64)), .second]) rfl ?_
                show Steps p.tables e below (T55.setTop (mkF m 163 #[.val (.long q0), .second, .val (.long q1), .second, .val (.int p2), .val (.int f5), .val (.int f6), .val (.int f7), .val (.ref b4), .val (.long (50358 : Int64)), .second, .val (.long (1 : Int64)), .second, .val (.long (own_park (1 : Int64) (50358 : Int64) f5)), .second, .val (.long (0 : Int64)), .second] [])) _
                refine XS.goto X55.here hx rfl (pc0 := 163) (pc' := 180) rfl (hb hby at_163) (by decide) (by decide) ?_
                show Steps p.tables e below (T55.setTop (mkF m 180 #[.val (.long q0), .second, .val (.long q1), .second, .val (.int p2), .val (.int f5), .val (.int f6), .val (.int f7), .val (.ref b4), .val (.long (50358 : Int64)), .second, .val (.long (1 : Int64)), .second, .val (.long (own_park (1 : Int64) (50358 : Int64) f5)), .second, .val (.long (0 : Int64)), .second] [])) _
                refine XS.lload X55.here hx rfl (hb hby at_180) rfl ?_
                show Steps p.tables e below (T55.setTop (mkF m 182 #[.val (.long q0), .second, .val (.long q1), .second, .val (.int p2), .val (.int f5), .val (.int f6), .val (.int f7), .val (.ref b4), .val (.long (50358 : Int64)), .second, .val (.long (1 : Int64)), .second, .val (.long (own_park (1 : Int64) (50358 : Int64) f5)), .second, .val (.long (0 : Int64)), .second] [(.long (own_park (1 : Int64) (50358 : Int64) f5))])) _
                refine XS.lload X55.here hx rfl (hb hby at_182) rfl ?_
                show Steps p.tables e below (T55.setTop (mkF m 184 #[.val (.long q0), .second, .val (.long q1), .second, .val (.int p2), .val (.int f5), .val (.int f6), .val (.int f7), .val (.ref b4), .val (.long (50358 : Int64)), .second, .val (.long (1 : Int64)), .second, .val (.long (own_park (1 : Int64) (50358 : Int64) f5)), .second, .val (.long (0 : Int64)), .second] [(.long (0 : Int64)), (.long (own_park (1 : Int64) (50358 : Int64) f5))])) _
                refine XS.lcmp X55.here hx rfl (hb hby at_184) rfl ?_
                show Steps p.tables e below (T55.setTop (mkF m 185 #[.val (.long q0), .second, .val (.long q1), .second, .val (.int p2), .val (.int f5), .val (.int f6), .val (.int f7), .val (.ref b4), .val (.long (50358 : Int64)), .second, .val (.long (1 : Int64)), .second, .val (.long (own_park (1 : Int64) (50358 : Int64) f5)), .second, .val (.long (0 : Int64)), .second] [(.int (lcmpW (own_park (1 : Int64) (50358 : Int64) f5) (0 : Int64)))])) _
                refine XS.ifNo X55.here hx rfl (hb hby at_185) rfl ((if0 _ _).trans (teq ((lw_eq _ _).mpr (own_fin3 hc56 hc58))).2) ?_
                show Steps p.tables e below (T55.setTop (mkF m 188 #[.val (.long q0), .second, .val (.long q1), .second, .val (.int p2), .val (.int f5), .val (.int f6), .val (.int f7), .val (.ref b4), .val (.long (50358 : Int64)), .second, .val (.long (1 : Int64)), .second, .val (.long (own_park (1 : Int64) (50358 : Int64) f5)), .second, .val (.long (0 : Int64)), .second] [])) _
                refine XS.iconst X55.here hx rfl (hb hby at_188) ?_
                show Steps p.tables e below (T55.setTop (mkF m 189 #[.val (.long q0), .second, .val (.long q1), .second, .val (.int p2), .val (.int f5), .val (.int f6), .val (.int f7), .val (.ref b4), .val (.long (50358 : Int64)), .second, .val (.long (1 : Int64)), .second, .val (.long (own_park (1 : Int64) (50358 : Int64) f5)), .second, .val (.long (0 : Int64)), .second] [(.int (1 : Int32))])) _
                refine XS.goto X55.here hx rfl (pc0 := 189) (pc' := 193) rfl (hb hby at_189) (by decide) (by decide) ?_
                show Steps p.tables e below (T55.setTop (mkF m 193 #[.val (.long q0), .second, .val (.long q1), .second, .val (.int p2), .val (.int f5), .val (.int f6), .val (.int f7), .val (.ref b4), .val (.long (50358 : Int64)), .second, .val (.long (1 : Int64)), .second, .val (.long (own_park (1 : Int64) (50358 : Int64) f5)), .second, .val (.long (0 : Int64)), .second] [(.int (1 : Int32))])) _
                exact k
              refine own_retN X55 hx (t := .boolean) Bd.returns (by simp) (hb hby at_193) (BodyLoose.notSynchronized Bd) (by decide) (by decide) ?_
              rw [show T55.heap = T30.heap from eq55]
              exact ⟨rfl, N55⟩
        · skip
          refine own_step (T' := T30) (g' := (mkF m 136 #[.val (.long q0), .second, .val (.long q1), .second, .val (.int p2), .val (.int f5), .val (.int f6), .val (.int f7), .val (.ref b4), .val (.long (50358 : Int64)), .second, .val (.long (q0 &&& (9223372036854775807 : Int64))), .second, .unset, .unset, .unset, .unset] [])) (fun t k => ?_) ?_
          · show Steps p.tables e below (T30.setTop (mkF m 130 #[.val (.long q0), .second, .val (.long q1), .second, .val (.int p2), .val (.int f5), .val (.int f6), .val (.int f7), .val (.ref b4), .val (.long (50358 : Int64)), .second, .val (.long (q0 &&& (9223372036854775807 : Int64))), .second, .unset, .unset, .unset, .unset] [(.int (lcmpW (q0 &&& (9223372036854775807 : Int64)) (0 : Int64)))])) _
            refine XS.ifYes X30.here hx rfl (pc0 := 130) (pc' := 136) rfl (hb hby at_130) rfl ((if0 _ _).trans (feq hc54).2) (by decide) (by decide) ?_
            show Steps p.tables e below (T30.setTop (mkF m 136 #[.val (.long q0), .second, .val (.long q1), .second, .val (.int p2), .val (.int f5), .val (.int f6), .val (.int f7), .val (.ref b4), .val (.long (50358 : Int64)), .second, .val (.long (q0 &&& (9223372036854775807 : Int64))), .second, .unset, .unset, .unset, .unset] [])) _
            exact k
          generalize e_lf : (q0 &&& (9223372036854775807 : Int64)) = lf
          show own_Run p e below s _ _ _ T30 (mkF m 136 #[.val (.long q0), .second, .val (.long q1), .second, .val (.int p2), .val (.int f5), .val (.int f6), .val (.int f7), .val (.ref b4), .val (.long (50358 : Int64)), .second, .val (.long lf), .second, .unset, .unset, .unset, .unset] [])
          refine own_step (T' := T30) (g' := (mkF m 142 #[.val (.long q0), .second, .val (.long q1), .second, .val (.int p2), .val (.int f5), .val (.int f6), .val (.int f7), .val (.ref b4), .val (.long (50358 : Int64)), .second, .val (.long lf), .second, .unset, .unset, .unset, .unset] [(.int f5), (.long lf), (.ref b4)])) (fun t k => ?_) ?_
          · show Steps p.tables e below (T30.setTop (mkF m 136 #[.val (.long q0), .second, .val (.long q1), .second, .val (.int p2), .val (.int f5), .val (.int f6), .val (.int f7), .val (.ref b4), .val (.long (50358 : Int64)), .second, .val (.long lf), .second, .unset, .unset, .unset, .unset] [])) _
            refine XS.aload X30.here hx rfl (hb hby at_136) rfl rfl ?_
            show Steps p.tables e below (T30.setTop (mkF m 138 #[.val (.long q0), .second, .val (.long q1), .second, .val (.int p2), .val (.int f5), .val (.int f6), .val (.int f7), .val (.ref b4), .val (.long (50358 : Int64)), .second, .val (.long lf), .second, .unset, .unset, .unset, .unset] [(.ref b4)])) _
            refine XS.lload X30.here hx rfl (hb hby at_138) rfl ?_
            show Steps p.tables e below (T30.setTop (mkF m 140 #[.val (.long q0), .second, .val (.long q1), .second, .val (.int p2), .val (.int f5), .val (.int f6), .val (.int f7), .val (.ref b4), .val (.long (50358 : Int64)), .second, .val (.long lf), .second, .unset, .unset, .unset, .unset] [(.long lf), (.ref b4)])) _
            refine XS.iload X30.here hx rfl (hb hby at_140) rfl ?_
            show Steps p.tables e below (T30.setTop (mkF m 142 #[.val (.long q0), .second, .val (.long q1), .second, .val (.int p2), .val (.int f5), .val (.int f6), .val (.int f7), .val (.ref b4), .val (.long (50358 : Int64)), .second, .val (.long lf), .second, .unset, .unset, .unset, .unset] [(.int f5), (.long lf), (.ref b4)])) _
            exact k
          obtain ⟨cq61, kq61, q61a, q61b, q61c⟩ := isOf hZ rfl Eq30
          obtain ⟨_, _, ⟨T61, L61, k61, n61⟩, -, X61, ⟨Lc61, hQ61, l61, y61, z61⟩, st61⟩ := X30.virtualBack hx (y := (⟨"com/example/windlass/windlass/ParkLead", "parkNanos", "(JZ)J"⟩ : MethodName)) (z := (⟨"com/example/windlass/windlass/ParkLead", "parkNanos", "(JZ)J"⟩ : MethodName)) hown (mvT hZ (hw _ (List.mem_of_getElem? (i := 14) rfl))) (mvT hZ (hw _ (List.mem_of_getElem? (i := 15) rfl))) (notFace_of_selects (args := #[]) (mvT hZ (hw _ (List.mem_of_getElem? (i := 17) rfl)))) (mvT hZ (hw _ (List.mem_of_getElem? (i := 17) rfl))) (mvT hZ (hw _ (List.mem_of_getElem? (i := 16) rfl))) (by decide) (backOf (W := 0) (rm3 l Z a0 hw [] b4 lf f5 (50358 : Int64) T30.heap n0 Z31 Eq30 Fq30) hZ (hw _ (List.mem_of_getElem? (i := 18) rfl)) (hw _ (List.mem_of_getElem? (i := 2) rfl)) (by decide) (by decide)) q61a q61c (g := (mkF m 142 #[.val (.long q0), .second, .val (.long q1), .second, .val (.int p2), .val (.int f5), .val (.int f6), .val (.int f7), .val (.ref b4), .val (.long (50358 : Int64)), .second, .val (.long lf), .second, .unset, .unset, .unset, .unset] [(.int f5), (.long lf), (.ref b4)])) rfl (by rw [hml]; rfl) (Steps.refl _) (argsL := [(.long lf), (.int f5)]) (rest := []) (lenOf pd_2 rfl) rfl (by show 2 * 0 + _ ≤ _; exact Nat.le_of_eq rfl) (hb hby at_142) (fun _ _ => ⟨rfl, rfl, (by decide : 1 + 0 ≤ _), (by decide : 1 + 0 ≤ _)⟩)
          dsimp only [Pt.U, Pt.locs, Pt.cells, Pt.slots] at X61 l61 y61 z61 st61 hQ61
          subst l61 y61 z61
          obtain ⟨rfl, N61q, eq61⟩ := hQ61
          have N61 := Fr.app N30 N61q
          refine own_step (fun t k => st61.trans k) ?_
          show own_Run p e below s _ _ _ T61 (mkF m 145 #[.val (.long q0), .second, .val (.long q1), .second, .val (.int p2), .val (.int f5), .val (.int f6), .val (.int f7), .val (.ref b4), .val (.long (50358 : Int64)), .second, .val (.long lf), .second, .unset, .unset, .unset, .unset] [(.long (own_park lf (50358 : Int64) f5))])
          refine own_step (T' := T61) (g' := (mkF m 152 #[.val (.long q0), .second, .val (.long q1), .second, .val (.int p2), .val (.int f5), .val (.int f6), .val (.int f7), .val (.ref b4), .val (.long (50358 : Int64)), .second, .val (.long lf), .second, .val (.long (own_park lf (50358 : Int64) f5)), .second, .unset, .unset] [(.int (lcmpW lf (50358 : Int64)))])) (fun t k => ?_) ?_
          · show Steps p.tables e below (T61.setTop (mkF m 145 #[.val (.long q0), .second, .val (.long q1), .second, .val (.int p2), .val (.int f5), .val (.int f6), .val (.int f7), .val (.ref b4), .val (.long (50358 : Int64)), .second, .val (.long lf), .second, .unset, .unset, .unset, .unset] [(.long (own_park lf (50358 : Int64) f5))])) _
            refine XS.lstore X61.here hx rfl (hb hby at_145) rfl (l' := #[.val (.long q0), .second, .val (.long q1), .second, .val (.int p2), .val (.int f5), .val (.int f6), .val (.int f7), .val (.ref b4), .val (.long (50358 : Int64)), .second, .val (.long lf), .second, .val (.long (own_park lf (50358 : Int64) f5)), .second, .unset, .unset]) rfl ?_
            show Steps p.tables e below (T61.setTop (mkF m 147 #[.val (.long q0), .second, .val (.long q1), .second, .val (.int p2), .val (.int f5), .val (.int f6), .val (.int f7), .val (.ref b4), .val (.long (50358 : Int64)), .second, .val (.long lf), .second, .val (.long (own_park lf (50358 : Int64) f5)), .second, .unset, .unset] [])) _
            refine XS.lload X61.here hx rfl (hb hby at_147) rfl ?_
            show Steps p.tables e below (T61.setTop (mkF m 149 #[.val (.long q0), .second, .val (.long q1), .second, .val (.int p2), .val (.int f5), .val (.int f6), .val (.int f7), .val (.ref b4), .val (.long (50358 : Int64)), .second, .val (.long lf), .second, .val (.long (own_park lf (50358 : Int64) f5)), .second, .unset, .unset] [(.long lf)])) _
            refine XS.lload X61.here hx rfl (hb hby at_149) rfl ?_
            show Steps p.tables e below (T61.setTop (mkF m 151 #[.val (.long q0), .second, .val (.long q1), .second, .val (.int p2), .val (.int f5), .val (.int f6), .val (.int f7), .val (.ref b4), .val (.long (50358 : Int64)), .second, .val (.long lf), .second, .val (.long (own_park lf (50358 : Int64) f5)), .second, .unset, .unset] [(.long (50358 : Int64)), (.long lf)])) _
            refine XS.lcmp X61.here hx rfl (hb hby at_151) rfl ?_
            show Steps p.tables e below (T61.setTop (mkF m 152 #[.val (.long q0), .second, .val (.long q1), .second, .val (.int p2), .val (.int f5), .val (.int f6), .val (.int f7), .val (.ref b4), .val (.long (50358 : Int64)), .second, .val (.long lf), .second, .val (.long (own_park lf (50358 : Int64) f5)), .second, .unset, .unset] [(.int (lcmpW lf (50358 : Int64)))])) _
            exact k
          by_cases hc62 : (0 : Int32) < (lcmpW lf (50358 : Int64))
          · skip
            refine own_step (T' := T61) (g' := (mkF m 193 #[.val (.long q0), .second, .val (.long q1), .second, .val (.int p2), .val (.int f5), .val (.int f6), .val (.int f7), .val (.ref b4), .val (.long (50358 : Int64)), .second, .val (.long lf), .second, .val (.long (own_park lf (50358 : Int64) f5)), .second, .val (.long (lf - (50358 : Int64))), .second] [(.int (1 : Int32))])) (fun t k => ?_) ?_
            · show Steps p.tables e below (T61.setTop (mkF m 152 #[.val (.long q0), .second, .val (.long q1), .second, .val (.int p2), .val (.int f5), .val (.int f6), .val (.int f7), .val (.ref b4), .val (.long (50358 : Int64)), .second, .val (.long lf), .second, .val (.long (own_park lf (50358 : Int64) f5)), .second, .unset, .unset] [(.int (lcmpW lf (50358 : Int64)))])) _
              refine XS.ifYes X61.here hx rfl (pc0 := 152) (pc' := 173) rfl (hb hby at_152) rfl ((if0 _ _).trans (tlt hc62).2.2.1) (by decide) (by decide) ?_
              show Steps p.tables e below (T61.setTop (mkF m 173 #[.val (.long q0), .second, .val (.long q1), .second, .val (.int p2), .val (.int f5), .val (.int f6), .val (.int f7), .val (.ref b4), .val (.long (50358 : Int64)), .second, .val (.long lf), .second, .val (.long (own_park lf (50358 : Int64) f5)), .second, .unset, .unset] [])) _
              refine XS.lload X61.here hx rfl (hb hby at_173) rfl ?_
              show Steps p.tables e below (T61.setTop (mkF m 175 #[.val (.long q0), .second, .val (.long q1), .second, .val (.int p2), .val (.int f5), .val (.int f6), .val (.int f7), .val (.ref b4), .val (.long (50358 : Int64)), .second, .val (.long lf), .second, .val (.long (own_park lf (50358 : Int64) f5)), .second, .unset, .unset] [(.long lf)])) _
              refine XS.lload X61.here hx rfl (hb hby at_175) rfl ?_
              show Steps p.tables e below (T61.setTop (mkF m 177 #[.val (.long q0), .second, .val (.long q1), .second, .val (.int p2), .val (.int f5), .val (.int f6), .val (.int f7), .val (.ref b4), .val (.long (50358 : Int64)), .second, .val (.long lf), .second, .val (.long (own_park lf (50358 : Int64) f5)), .second, .unset, .unset] [(.long (50358 : Int64)), (.long lf)])) _
              refine XS.lsub X61.here hx rfl (hb hby at_177) rfl ?_
              show Steps p.tables e below (T61.setTop (mkF m 178 #[.val (.long q0), .second, .val (.long q1), .second, .val (.int p2), .val (.int f5), .val (.int f6), .val (.int f7), .val (.ref b4), .val (.long (50358 : Int64)), .second, .val (.long lf), .second, .val (.long (own_park lf (50358 : Int64) f5)), .second, .unset, .unset] [(.long (lf - (50358 : Int64)))])) _
              refine XS.lstore X61.here hx rfl (hb hby at_178) rfl (l' := #[.val (.long q0), .second, .val (.long q1), .second, .val (.int p2), .val (.int f5), .val (.int f6), .val (.int f7), .val (.ref b4), .val (.long (50358 : Int64)), .second, .val (.long lf), .second, .val (.long (own_park lf (50358 : Int64) f5)), .second, .val (.long (lf - (50358 : Int64))), .second]) rfl ?_
              show Steps p.tables e below (T61.setTop (mkF m 180 #[.val (.long q0), .second, .val (.long q1), .second, .val (.int p2), .val (.int f5), .val (.int f6), .val (.int f7), .val (.ref b4), .val (.long (50358 : Int64)), .second, .val (.long lf), .second, .val (.long (own_park lf (50358 : Int64) f5)), .second, .val (.long (lf - (50358 : Int64))), .second] [])) _
              refine XS.lload X61.here hx rfl (hb hby at_180) rfl ?_
              show Steps p.tables e below (T61.setTop (mkF m 182 #[.val (.long q0), .second, .val (.long q1), .second, .val (.int p2), .val (.int f5), .val (.int f6), .val (.int f7), .val (.ref b4), .val (.long (50358 : Int64)), .second, .val (.long lf), .second, .val (.long (own_park lf (50358 : Int64) f5)), .second, .val (.long (lf - (50358 : Int64))), .second] [(.long (own_park lf (50358 : Int64) f5))])) _
              refine XS.lload X61.here hx rfl (hb hby at_182) rfl ?_
              show Steps p.tables e below (T61.setTop (mkF m 184 #[.val (.long q0), .second, .val (.long q1), .second, .val (.int p2), .val (.int f5), .val (.int f6), .val (.int f7), .val (.ref b4), .val (.long (50358 : Int64)), .second, .val (.long lf), .second, .val (.long (own_park lf (50358 : Int64) f5)), .second, .val (.long (lf - (50358 : Int64))), .second] [(.long (lf - (50358 : Int64))), (.long (own_park lf (50358 : Int64) f5))])) _
              refine XS.lcmp X61.here hx rfl (hb hby at_184) rfl ?_
              show Steps p.tables e below (T61.setTop (mkF m 185 #[.val (.long q0), .second, .val (.long q1), .second, .val (.int p2), .val (.int f5), .val (.int f6), .val (.int f7), .val (.ref b4), .val (.long (50358 : Int64)), .second, .val (.long lf), .second, .val (.long (own_park lf (50358 : Int64) f5)), .second, .val (.long (lf - (50358 : Int64))), .second] [(.int (lcmpW (own_park lf (50358 : Int64) f5) (lf - (50358 : Int64))))])) _
              refine XS.ifNo X61.here hx rfl (hb hby at_185) rfl ((if0 _ _).trans (teq ((lw_eq _ _).mpr (own_fin1 hc62))).2) ?_
              show Steps p.tables e below (T61.setTop (mkF m 188 #[.val (.long q0), .second, .val (.long q1), .second, .val (.int p2), .val (.int f5), .val (.int f6), .val (.int f7), .val (.ref b4), .val (.long (50358 : Int64)), .second, .val (.long lf), .second, .val (.long (own_park lf (50358 : Int64) f5)), .second, .val (.long (lf - (50358 : Int64))), .second] [])) _
              refine XS.iconst X61.here hx rfl (hb hby at_188) ?_
              show Steps p.tables e below (T61.setTop (mkF m 189 #[.val (.long q0), .second, .val (.long q1), .second, .val (.int p2), .val (.int f5), .val (.int f6), .val (.int f7), .val (.ref b4), .val (.long (50358 : Int64)), .second, .val (.long lf), .second, .val (.long (own_park lf (50358 : Int64) f5)), .second, .val (.long (lf - (50358 : Int64))), .second] [(.int (1 : Int32))])) _
              refine XS.goto X61.here hx rfl (pc0 := 189) (pc' := 193) rfl (hb hby at_189) (by decide) (by decide) ?_
              show Steps p.tables e below (T61.setTop (mkF m 193 #[.val (.long q0), .second, .val (.long q1), .second, .val (.int p2), .val (.int f5), .val (.int f6), .val (.int f7), .val (.ref b4), .val (.long (50358 : Int64)), .second, .val (.long lf), .second, .val (.long (own_park lf (50358 : Int64) f5)), .second, .val (.long (lf - (50358 : Int64))), .second] [(.int (1 : Int32))])) _
              exact k
            refine own_retN X61 hx (t := .boolean) Bd.returns (by simp) (hb hby at_193) (BodyLoose.notSynchronized Bd) (by decide) (by decide) ?_
            rw [show T61.heap = T30.heap from eq61]
            exact ⟨rfl, N61⟩
          · skip
            refine own_step (T' := T61) (g' := (mkF m 157 #[.val (.long q0), .second, .val (.long q1), .second, .val (.int p2), .val (.int f5), .val (.int f6), .val (.int f7), .val (.ref b4), .val (.long (50358 : Int64)), .second, .val (.long lf), .second, .val (.long (own_park lf (50358 : Int64) f5)), .second, .unset, .unset] [(.int f5)])) (fun t k => ?_) ?_
            · show Steps p.tables e below (T61.setTop (mkF m 152 #[.val (.long q0), .second, .val (.long q1), .second, .val (.int p2), .val (.int f5), .val (.int f6), .val (.int f7), .val (.ref b4), .val (.long (50358 : Int64)), .second, .val (.long lf), .second, .val (.long (own_park lf (50358 : Int64) f5)), .second, .unset, .unset] [(.int (lcmpW lf (50358 : Int64)))])) _
              refine XS.ifNo X61.here hx rfl (hb hby at_152) rfl ((if0 _ _).trans (flt hc62).2.2.1) ?_
              show Steps p.tables e below (T61.setTop (mkF m 155 #[.val (.long q0), .second, .val (.long q1), .second, .val (.int p2), .val (.int f5), .val (.int f6), .val (.int f7), .val (.ref b4), .val (.long (50358 : Int64)), .second, .val (.long lf), .second, .val (.long (own_park lf (50358 : Int64) f5)), .second, .unset, .unset] [])) _
              refine XS.iload X61.here hx rfl (hb hby at_155) rfl ?_
              show Steps p.tables e below (T61.setTop (mkF m 157 #[.val (.long q0), .second, .val (.long q1), .second, .val (.int p2), .val (.int f5), .val (.int f6), .val (.int f7), .val (.ref b4), .val (.long (50358 : Int64)), .second, .val (.long lf), .second, .val (.long (own_park lf (50358 : Int64) f5)), .second, .unset, .unset] [(.int f5)])) _
              exact k
            by_cases hc64 : f5 = (0 : Int32)
            · skip
              refine own_step (T' := T61) (g' := (mkF m 193 #[.val (.long q0), .second, .val (.long q1), .second, .val (.int p2), .val (.int f5), .val (.int f6), .val (.int f7), .val (.ref b4), .val (.long (50358 : Int64)), .second, .val (.long lf), .second, .val (.long (own_park lf (50358 : Int64) f5)), .second, .val (.long lf), .second] [(.int (1 : Int32))])) (fun t k => ?_) ?_
              · show Steps p.tables e below (T61.setTop (mkF m 157 #[.val (.long q0), .second, .val (.long q1), .second, .val (.int p2), .val (.int f5), .val (.int f6), .val (.int f7), .val (.ref b4), .val (.long (50358 : Int64)), .second, .val (.long lf), .second, .val (.long (own_park lf (50358 : Int64) f5)), .second, .unset, .unset] [(.int f5)])) _
                refine XS.ifYes X61.here hx rfl (pc0 := 157) (pc' := 166) rfl (hb hby at_157) rfl ((if0 _ _).trans (teq hc64).1) (by decide) (by decide) ?_
                show Steps p.tables e below (T61.setTop (mkF m 166 #[.val (.long q0), .second, .val (.long q1), .second, .val (.int p2), .val (.int f5), .val (.int f6), .val (.int f7), .val (.ref b4), .val (.long (50358 : Int64)), .second, .val (.long lf), .second, .val (.long (own_park lf (50358 : Int64) f5)), .second, .unset, .unset] [])) _
                refine XS.lload X61.here hx rfl (hb hby at_166) rfl ?_
                show Steps p.tables e below (T61.setTop (mkF m 168 #[.val (.long q0), .second, .val (.long q1), .second, .val (.int p2), .val (.int f5), .val (.int f6), .val (.int f7), .val (.ref b4), .val (.long (50358 : Int64)), .second, .val (.long lf), .second, .val (.long (own_park lf (50358 : Int64) f5)), .second, .unset, .unset] [(.long lf)])) _
                refine XS.lstore X61.here hx rfl (hb hby at_168) rfl (l' := #[.val (.long q0), .second, .val (.long q1), .second, .val (.int p2), .val (.int f5), .val (.int f6), .val (.int f7), .val (.ref b4), .val (.long (50358 : Int64)), .second, .val (.long lf), .second, .val (.long (own_park lf (50358 : Int64) f5)), .second, .val (.long lf), .second]) rfl ?_
                show Steps p.tables e below (T61.setTop (mkF m 170 #[.val (.long q0), .second, .val (.long q1), .second, .val (.int p2), .val (.int f5), .val (.int f6), .val (.int f7), .val (.ref b4), .val (.long (50358 : Int64)), .second, .val (.long lf), .second, .val (.long (own_park lf (50358 : Int64) f5)), .second, .val (.long lf), .second] [])) _
                refine XS.goto X61.here hx rfl (pc0 := 170) (pc' := 180) rfl (hb hby at_170) (by decide) (by decide) ?_
                show Steps p.tables e below (T61.setTop (mkF m 180 #[.val (.long q0), .second, .val (.long q1), .second, .val (.int p2), .val (.int f5), .val (.int f6), .val (.int f7), .val (.ref b4), .val (.long (50358 : Int64)), .second, .val (.long lf), .second, .val (.long (own_park lf (50358 : Int64) f5)), .second, .val (.long lf), .second] [])) _
                refine XS.lload X61.here hx rfl (hb hby at_180) rfl ?_
                show Steps p.tables e below (T61.setTop (mkF m 182 #[.val (.long q0), .second, .val (.long q1), .second, .val (.int p2), .val (.int f5), .val (.int f6), .val (.int f7), .val (.ref b4), .val (.long (50358 : Int64)), .second, .val (.long lf), .second, .val (.long (own_park lf (50358 : Int64) f5)), .second, .val (.long lf), .second] [(.long (own_park lf (50358 : Int64) f5))])) _
                refine XS.lload X61.here hx rfl (hb hby at_182) rfl ?_
                show Steps p.tables e below (T61.setTop (mkF m 184 #[.val (.long q0), .second, .val (.long q1), .second, .val (.int p2), .val (.int f5), .val (.int f6), .val (.int f7), .val (.ref b4), .val (.long (50358 : Int64)), .second, .val (.long lf), .second, .val (.long (own_park lf (50358 : Int64) f5)), .second, .val (.long lf), .second] [(.long lf), (.long (own_park lf (50358 : Int64) f5))])) _
                refine XS.lcmp X61.here hx rfl (hb hby at_184) rfl ?_
                show Steps p.tables e below (T61.setTop (mkF m 185 #[.val (.long q0), .second, .val (.long q1), .second, .val (.int p2), .val (.int f5), .val (.int f6), .val (.int f7), .val (.ref b4), .val (.long (50358 : Int64)), .second, .val (.long lf), .second, .val (.long (own_park lf (50358 : Int64) f5)), .second, .val (.long lf), .second] [(.int (lcmpW (own_park lf (50358 : Int64) f5) lf))])) _
                refine XS.ifNo X61.here hx rfl (hb hby at_185) rfl ((if0 _ _).trans (teq ((lw_eq _ _).mpr (own_fin2 hc62 hc64))).2) ?_
                show Steps p.tables e below (T61.setTop (mkF m 188 #[.val (.long q0), .second, .val (.long q1), .second, .val (.int p2), .val (.int f5), .val (.int f6), .val (.int f7), .val (.ref b4), .val (.long (50358 : Int64)), .second, .val (.long lf), .second, .val (.long (own_park lf (50358 : Int64) f5)), .second, .val (.long lf), .second] [])) _
                refine XS.iconst X61.here hx rfl (hb hby at_188) ?_
                show Steps p.tables e below (T61.setTop (mkF m 189 #[.val (.long q0), .second, .val (.long q1), .second, .val (.int p2), .val (.int f5), .val (.int f6), .val (.int f7), .val (.ref b4), .val (.long (50358 : Int64)), .second, .val (.long lf), .second, .val (.long (own_park lf (50358 : Int64) f5)), .second, .val (.long lf), .second] [(.int (1 : Int32))])) _
                refine XS.goto X61.here hx rfl (pc0 := 189) (pc' := 193) rfl (hb hby at_189) (by decide) (by decide) ?_
                show Steps p.tables e below (T61.setTop (mkF m 193 #[.val (.long q0), .second, .val (.long q1), .second, .val (.int p2), .val (.int f5), .val (.int f6), .val (.int f7), .val (.ref b4), .val (.long (50358 : Int64)), .second, .val (.long lf), .second, .val (.long (own_park lf (50358 : Int64) f5)), .second, .val (.long lf), .second] [(.int (1 : Int32))])) _
                exact k
              refine own_retN X61 hx (t := .boolean) Bd.returns (by simp) (hb hby at_193) (BodyLoose.notSynchronized Bd) (by decide) (by decide) ?_
              rw [show T61.heap = T30.heap from eq61]
              exact ⟨rfl, N61⟩
            · skip
              refine own_step (T' := T61) (g' := (mkF m 193 #[.val (.long q0), .second, .val (.long q1), .second, .val (.int p2), .val (.int f5), .val (.int f6), .val (.int f7), .val (.ref b4), .val (.long (50358 : Int64)), .second, .val (.long lf), .second, .val (.long (own_park lf (50358 : Int64) f5)), .second, .val (.long (0 : Int64)), .second] [(.int (1 : Int32))])) (fun t k => ?_) ?_
              · show Steps p.tables e below (T61.setTop (mkF m 157 #[.val (.long q0), .second, .val (.long q1), .second, .val (.int p2), .val (.int f5), .val (.int f6), .val (.int f7), .val (.ref b4), .val (.long (50358 : Int64)), .second, .val (.long lf), .second, .val (.long (own_park lf (50358 : Int64) f5)), .second, .unset, .unset] [(.int f5)])) _
                refine XS.ifNo X61.here hx rfl (hb hby at_157) rfl ((if0 _ _).trans (feq hc64).1) ?_
                show Steps p.tables e below (T61.setTop (mkF m 160 #[.val (.long q0), .second, .val (.long q1), .second, .val (.int p2), .val (.int f5), .val (.int f6), .val (.int f7), .val (.ref b4), .val (.long (50358 : Int64)), .second, .val (.long lf), .second, .val (.long (own_park lf (50358 : Int64) f5)), .second, .unset, .unset] [])) _
                refine XS.lconst X61.here hx rfl (hb hby at_160) ?_
                show Steps p.tables e below (T61.setTop (mkF m 161 #[.val (.long q0), .second, .val (.long q1), .second, .val (.int p2), .val (.int f5), .val (.int f6), .val (.int f7), .val (.ref b4), .val (.long (50358 : Int64)), .second, .val (.long lf), .second, .val (.long (own_park lf (50358 : Int64) f5)), .second, .unset, .unset] [(.long (0 : Int64))])) _
                refine XS.lstore X61.here hx rfl (hb hby at_161) rfl (l' := #[.val (.long q0), .second, .val (.long q1), .second, .val (.int p2), .val (.int f5), .val (.int f6), .val (.int f7), .val (.ref b4), .val (.long (50358 : Int64)), .second, .val (.long lf), .second, .val (.long (own_park lf (50358 : Int64) f5)), .second, .val (.long (0 : Int64)), .second]) rfl ?_
                show Steps p.tables e below (T61.setTop (mkF m 163 #[.val (.long q0), .second, .val (.long q1), .second, .val (.int p2), .val (.int f5), .val (.int f6), .val (.int f7), .val (.ref b4), .val (.long (50358 : Int64)), .second, .val (.long lf), .second, .val (.long (own_park lf (50358 : Int64) f5)), .second, .val (.long (0 : Int64)), .second] [])) _
                refine XS.goto X61.here hx rfl (pc0 := 163) (pc' := 180) rfl (hb hby at_163) (by decide) (by decide) ?_
                show Steps p.tables e below (T61.setTop (mkF m 180 #[.val (.long q0), .second, .val (.long q1), .second, .val (.int p2), .val (.int f5), .val (.int f6), .val (.int f7), .val (.ref b4), .val (.long (50358 : Int64)), .second, .val (.long lf), .second, .val (.long (own_park lf (50358 : Int64) f5)), .second, .val (.long (0 : Int64)), .second] [])) _
                refine XS.lload X61.here hx rfl (hb hby at_180) rfl ?_
                show Steps p.tables e below (T61.setTop (mkF m 182 #[.val (.long q0), .second, .val (.long q1), .second, .val (.int p2), .val (.int f5), .val (.int f6), .val (.int f7), .val (.ref b4), .val (.long (50358 : Int64)), .second, .val (.long lf), .second, .val (.long (own_park lf (50358 : Int64) f5)), .second, .val (.long (0 : Int64)), .second] [(.long (own_park lf (50358 : Int64) f5))])) _
                refine XS.lload X61.here hx rfl (hb hby at_182) rfl ?_
                show Steps p.tables e below (T61.setTop (mkF m 184 #[.val (.long q0), .second, .val (.long q1), .second, .val (.int p2), .val (.int f5), .val (.int f6), .val (.int f7), .val (.ref b4), .val (.long (50358 : Int64)), .second, .val (.long lf), .second, .val (.long (own_park lf (50358 : Int64) f5)), .second, .val (.long (0 : Int64)), .second] [(.long (0 : Int64)), (.long (own_park lf (50358 : Int64) f5))])) _
                refine XS.lcmp X61.here hx rfl (hb hby at_184) rfl ?_
                show Steps p.tables e below (T61.setTop (mkF m 185 #[.val (.long q0), .second, .val (.long q1), .second, .val (.int p2), .val (.int f5), .val (.int f6), .val (.int f7), .val (.ref b4), .val (.long (50358 : Int64)), .second, .val (.long lf), .second, .val (.long (own_park lf (50358 : Int64) f5)), .second, .val (.long (0 : Int64)), .second] [(.int (lcmpW (own_park lf (50358 : Int64) f5) (0 : Int64)))])) _
                refine XS.ifNo X61.here hx rfl (hb hby at_185) rfl ((if0 _ _).trans (teq ((lw_eq _ _).mpr (own_fin3 hc62 hc64))).2) ?_
                show Steps p.tables e below (T61.setTop (mkF m 188 #[.val (.long q0), .second, .val (.long q1), .second, .val (.int p2), .val (.int f5), .val (.int f6), .val (.int f7), .val (.ref b4), .val (.long (50358 : Int64)), .second, .val (.long lf), .second, .val (.long (own_park lf (50358 : Int64) f5)), .second, .val (.long (0 : Int64)), .second] [])) _
                refine XS.iconst X61.here hx rfl (hb hby at_188) ?_
                show Steps p.tables e below (T61.setTop (mkF m 189 #[.val (.long q0), .second, .val (.long q1), .second, .val (.int p2), .val (.int f5), .val (.int f6), .val (.int f7), .val (.ref b4), .val (.long (50358 : Int64)), .second, .val (.long lf), .second, .val (.long (own_park lf (50358 : Int64) f5)), .second, .val (.long (0 : Int64)), .second] [(.int (1 : Int32))])) _
                refine XS.goto X61.here hx rfl (pc0 := 189) (pc' := 193) rfl (hb hby at_189) (by decide) (by decide) ?_
                show Steps p.tables e below (T61.setTop (mkF m 193 #[.val (.long q0), .second, .val (.long q1), .second, .val (.int p2), .val (.int f5), .val (.int f6), .val (.int f7), .val (.ref b4), .val (.long (50358 : Int64)), .second, .val (.long lf), .second, .val (.long (own_park lf (50358 : Int64) f5)), .second, .val (.long (0 : Int64)), .second] [(.int (1 : Int32))])) _
                exact k
              refine own_retN X61 hx (t := .boolean) Bd.returns (by simp) (hb hby at_193) (BodyLoose.notSynchronized Bd) (by decide) (by decide) ?_
              rw [show T61.heap = T30.heap from eq61]
              exact ⟨rfl, N61⟩
      · skip
        refine own_step (T' := T30) (g' := (mkF m 136 #[.val (.long q0), .second, .val (.long q1), .second, .val (.int p2), .val (.int f5), .val (.int f6), .val (.int f7), .val (.ref b4), .val (.long (50358 : Int64)), .second, .val (.long (((50358 : Int64) - (16 : Int64)) + (q0 &&& (31 : Int64)))), .second, .unset, .unset, .unset, .unset] [])) (fun t k => ?_) ?_
        · show Steps p.tables e below (T30.setTop (mkF m 99 #[.val (.long q0), .second, .val (.long q1), .second, .val (.int p2), .val (.int f5), .val (.int f6), .val (.int f7), .val (.ref b4), .val (.long (50358 : Int64)), .second, .val (.long ov), .second, .unset, .unset, .unset, .unset] [(.int f6)])) _
          refine XS.ifNo X30.here hx rfl (hb hby at_99) rfl ((if0 _ _).trans (feq hc53).1) ?_
          show Steps p.tables e below (T30.setTop (mkF m 102 #[.val (.long q0), .second, .val (.long q1), .second, .val (.int p2), .val (.int f5), .val (.int f6), .val (.int f7), .val (.ref b4), .val (.long (50358 : Int64)), .second, .val (.long ov), .second, .unset, .unset, .unset, .unset] [])) _
          refine XS.lload X30.here hx rfl (hb hby at_102) rfl ?_
          show Steps p.tables e below (T30.setTop (mkF m 104 #[.val (.long q0), .second, .val (.long q1), .second, .val (.int p2), .val (.int f5), .val (.int f6), .val (.int f7), .val (.ref b4), .val (.long (50358 : Int64)), .second, .val (.long ov), .second, .unset, .unset, .unset, .unset] [(.long (50358 : Int64))])) _
          refine X30.ldc2Long hx hown (mvT hZ (hw _ (List.mem_of_getElem? (i := 30) rfl))) (g := (mkF m 104 #[.val (.long q0), .second, .val (.long q1), .second, .val (.int p2), .val (.int f5), .val (.int f6), .val (.int f7), .val (.ref b4), .val (.long (50358 : Int64)), .second, .val (.long ov), .second, .unset, .unset, .unset, .unset] [(.long (50358 : Int64))])) rfl (hb hby at_104) _ ?_
          show Steps p.tables e below (T30.setTop (mkF m 107 #[.val (.long q0), .second, .val (.long q1), .second, .val (.int p2), .val (.int f5), .val (.int f6), .val (.int f7), .val (.ref b4), .val (.long (50358 : Int64)), .second, .val (.long ov), .second, .unset, .unset, .unset, .unset] [(.long (16 : Int64)), (.long (50358 : Int64))])) _
          refine XS.lsub X30.here hx rfl (hb hby at_107) rfl ?_
          show Steps p.tables e below (T30.setTop (mkF m 108 #[.val (.long q0), .second, .val (.long q1), .second, .val (.int p2), .val (.int f5), .val (.int f6), .val (.int f7), .val (.ref b4), .val (.long (50358 : Int64)), .second, .val (.long ov), .second, .unset, .unset, .unset, .unset] [(.long ((50358 : Int64) - (16 : Int64)))])) _
          refine XS.lloadN X30.here hx rfl (hb hby at_108) rfl ?_
          show Steps p.tables e below (T30.setTop (mkF m 109 #[.val (.long q0), .second, .val (.long q1), .second, .val (.int p2), .val (.int f5), .val (.int f6), .val (.int f7), .val (.ref b4), .val (.long (50358 : Int64)), .second, .val (.long ov), .second, .unset, .unset, .unset, .unset] [(.long q0), (.long ((50358 : Int64) - (16 : Int64)))])) _
          refine X30.ldc2Long hx hown (mvT hZ (hw _ (List.mem_of_getElem? (i := 31) rfl))) (g := (mkF m 109 #[.val (.long q0), .second, .val (.long q1), .second, .val (.int p2), .val (.int f5), .val (.int f6), .val (.int f7), .val (.ref b4), .val (.long (50358 : Int64)), .second, .val (.long ov), .second, .unset, .unset, .unset, .unset] [(.long q0), (.long ((50358 : Int64) - (16 : Int64)))])) rfl (hb hby at_109) _ ?_
          show Steps p.tables e below (T30.setTop (mkF m 112 #[.val (.long q0), .second, .val (.long q1), .second, .val (.int p2), .val (.int f5), .val (.int f6), .val (.int f7), .val (.ref b4), .val (.long (50358 : Int64)), .second, .val (.long ov), .second, .unset, .unset, .unset, .unset] [(.long (31 : Int64)), (.long q0), (.long ((50358 : Int64) - (16 : Int64)))])) _
          refine XS.land X30.here hx rfl (hb hby at_112) rfl ?_
          show Steps p.tables e below (T30.setTop (mkF m 113 #[.val (.long q0), .second, .val (.long q1), .second, .val (.int p2), .val (.int f5), .val (.int f6), .val (.int f7), .val (.ref b4), .val (.long (50358 : Int64)), .second, .val (.long ov), .second, .unset, .unset, .unset, .unset] [(.long (q0 &&& (31 : Int64))), (.long ((50358 : Int64) - (16 : Int64)))])) _
          refine XS.ladd X30.here hx rfl (hb hby at_113) rfl ?_
          show Steps p.tables e below (T30.setTop (mkF m 114 #[.val (.long q0), .second, .val (.long q1), .second, .val (.int p2), .val (.int f5), .val (.int f6), .val (.int f7), .val (.ref b4), .val (.long (50358 : Int64)), .second, .val (.long ov), .second, .unset, .unset, .unset, .unset] [(.long (((50358 : Int64) - (16 : Int64)) + (q0 &&& (31 : Int64))))])) _
          refine XS.lstore X30.here hx rfl (hb hby at_114) rfl (l' := #[.val (.long q0), .second, .val (.long q1), .second, .val (.int p2), .val (.int f5), .val (.int f6), .val (.int f7), .val (.ref b4), .val (.long (50358 : Int64)), .second, .val (.long (((50358 : Int64) - (16 : Int64)) + (q0 &&& (31 : Int64)))), .second, .unset, .unset, .unset, .unset]) rfl ?_
          show Steps p.tables e below (T30.setTop (mkF m 116 #[.val (.long q0), .second, .val (.long q1), .second, .val (.int p2), .val (.int f5), .val (.int f6), .val (.int f7), .val (.ref b4), .val (.long (50358 : Int64)), .second, .val (.long (((50358 : Int64) - (16 : Int64)) + (q0 &&& (31 : Int64)))), .second, .unset, .unset, .unset, .unset] [])) _
          refine XS.goto X30.here hx rfl (pc0 := 116) (pc' := 136) rfl (hb hby at_116) (by decide) (by decide) ?_
          show Steps p.tables e below (T30.setTop (mkF m 136 #[.val (.long q0), .second, .val (.long q1), .second, .val (.int p2), .val (.int f5), .val (.int f6), .val (.int f7), .val (.ref b4), .val (.long (50358 : Int64)), .second, .val (.long (((50358 : Int64) - (16 : Int64)) + (q0 &&& (31 : Int64)))), .second, .unset, .unset, .unset, .unset] [])) _
          exact k
        generalize e_lf : (((50358 : Int64) - (16 : Int64)) + (q0 &&& (31 : Int64))) = lf
        show own_Run p e below s _ _ _ T30 (mkF m 136 #[.val (.long q0), .second, .val (.long q1), .second, .val (.int p2), .val (.int f5), .val (.int f6), .val (.int f7), .val (.ref b4), .val (.long (50358 : Int64)), .second, .val (.long lf), .second, .unset, .unset, .unset, .unset] [])
        refine own_step (T' := T30) (g' := (mkF m 142 #[.val (.long q0), .second, .val (.long q1), .second, .val (.int p2), .val (.int f5), .val (.int f6), .val (.int f7), .val (.ref b4), .val (.long (50358 : Int64)), .second, .val (.long lf), .second, .unset, .unset, .unset, .unset] [(.int f5), (.long lf), (.ref b4)])) (fun t k => ?_) ?_
        · show Steps p.tables e below (T30.setTop (mkF m 136 #[.val (.long q0), .second, .val (.long q1), .second, .val (.int p2), .val (.int f5), .val (.int f6), .val (.int f7), .val (.ref b4), .val (.long (50358 : Int64)), .second, .val (.long lf), .second, .unset, .unset, .unset, .unset] [])) _
          refine XS.aload X30.here hx rfl (hb hby at_136) rfl rfl ?_
          show Steps p.tables e below (T30.setTop (mkF m 138 #[.val (.long q0), .second, .val (.long q1), .second, .val (.int p2), .val (.int f5), .val (.int f6), .val (.int f7), .val (.ref b4), .val (.long (50358 : Int64)), .second, .val (.long lf), .second, .unset, .unset, .unset, .unset] [(.ref b4)])) _
          refine XS.lload X30.here hx rfl (hb hby at_138) rfl ?_
          show Steps p.tables e below (T30.setTop (mkF m 140 #[.val (.long q0), .second, .val (.long q1), .second, .val (.int p2), .val (.int f5), .val (.int f6), .val (.int f7), .val (.ref b4), .val (.long (50358 : Int64)), .second, .val (.long lf), .second, .unset, .unset, .unset, .unset] [(.long lf), (.ref b4)])) _
          refine XS.iload X30.here hx rfl (hb hby at_140) rfl ?_
          show Steps p.tables e below (T30.setTop (mkF m 142 #[.val (.long q0), .second, .val (.long q1), .second, .val (.int p2), .val (.int f5), .val (.int f6), .val (.int f7), .val (.ref b4), .val (.long (50358 : Int64)), .second, .val (.long lf), .second, .unset, .unset, .unset, .unset] [(.int f5), (.long lf), (.ref b4)])) _
          exact k
        obtain ⟨cq67, kq67, q67a, q67b, q67c⟩ := isOf hZ rfl Eq30
        obtain ⟨_, _, ⟨T67, L67, k67, n67⟩, -, X67, ⟨Lc67, hQ67, l67, y67, z67⟩, st67⟩ := X30.virtualBack hx (y := (⟨"com/example/windlass/windlass/ParkLead", "parkNanos", "(JZ)J"⟩ : MethodName)) (z := (⟨"com/example/windlass/windlass/ParkLead", "parkNanos", "(JZ)J"⟩ : MethodName)) hown (mvT hZ (hw _ (List.mem_of_getElem? (i := 14) rfl))) (mvT hZ (hw _ (List.mem_of_getElem? (i := 15) rfl))) (notFace_of_selects (args := #[]) (mvT hZ (hw _ (List.mem_of_getElem? (i := 17) rfl)))) (mvT hZ (hw _ (List.mem_of_getElem? (i := 17) rfl))) (mvT hZ (hw _ (List.mem_of_getElem? (i := 16) rfl))) (by decide) (backOf (W := 0) (rm3 l Z a0 hw [] b4 lf f5 (50358 : Int64) T30.heap n0 Z31 Eq30 Fq30) hZ (hw _ (List.mem_of_getElem? (i := 18) rfl)) (hw _ (List.mem_of_getElem? (i := 2) rfl)) (by decide) (by decide)) q67a q67c (g := (mkF m 142 #[.val (.long q0), .second, .val (.long q1), .second, .val (.int p2), .val (.int f5), .val (.int f6), .val (.int f7), .val (.ref b4), .val (.long (50358 : Int64)), .second, .val (.long lf), .second, .unset, .unset, .unset, .unset] [(.int f5), (.long lf), (.ref b4)])) rfl (by rw [hml]; rfl) (Steps.refl _) (argsL := [(.long lf), (.int f5)]) (rest := []) (lenOf pd_2 rfl) rfl (by show 2 * 0 + _ ≤ _; exact Nat.le_of_eq rfl) (hb hby at_142) (fun _ _ => ⟨rfl, rfl, (by decide : 1 + 0 ≤ _), (by decide : 1 + 0 ≤ _)⟩)
        dsimp only [Pt.U, Pt.locs, Pt.cells, Pt.slots] at X67 l67 y67 z67 st67 hQ67
        subst l67 y67 z67
        obtain ⟨rfl, N67q, eq67⟩ := hQ67
        have N67 := Fr.app N30 N67q
        refine own_step (fun t k => st67.trans k) ?_
        show own_Run p e below s _ _ _ T67 (mkF m 145 #[.val (.long q0), .second, .val (.long q1), .second, .val (.int p2), .val (.int f5), .val (.int f6), .val (.int f7), .val (.ref b4), .val (.long (50358 : Int64)), .second, .val (.long lf), .second, .unset, .unset, .unset, .unset] [(.long (own_park lf (50358 : Int64) f5))])
        refine own_step (T' := T67) (g' := (mkF m 152 #[.val (.long q0), .second, .val (.long q1), .second, .val (.int p2), .val (.int f5), .val (.int f6), .val (.int f7), .val (.ref b4), .val (.long (50358 : Int64)), .second, .val (.long lf), .second, .val (.long (own_park lf (50358 : Int64) f5)), .second, .unset, .unset] [(.int (lcmpW lf (50358 : Int64)))])) (fun t k => ?_) ?_
        · show Steps p.tables e below (T67.setTop (mkF m 145 #[.val (.long q0), .second, .val (.long q1), .second, .val (.int p2), .val (.int f5), .val (.int f6), .val (.int f7), .val (.ref b4), .val (.long (50358 : Int64)), .second, .val (.long lf), .second, .unset, .unset, .unset, .unset] [(.long (own_park lf (50358 : Int64) f5))])) _
          refine XS.lstore X67.here hx rfl (hb hby at_145) rfl (l' := #[.val (.long q0), .second, .val (.long q1), .second, .val (.int p2), .val (.int f5), .val (.int f6), .val (.int f7), .val (.ref b4), .val (.long (50358 : Int64)), .second, .val (.long lf), .second, .val (.long (own_park lf (50358 : Int64) f5)), .second, .unset, .unset]) rfl ?_
          show Steps p.tables e below (T67.setTop (mkF m 147 #[.val (.long q0), .second, .val (.long q1), .second, .val (.int p2), .val (.int f5), .val (.int f6), .val (.int f7), .val (.ref b4), .val (.long (50358 : Int64)), .second, .val (.long lf), .second, .val (.long (own_park lf (50358 : Int64) f5)), .second, .unset, .unset] [])) _
          refine XS.lload X67.here hx rfl (hb hby at_147) rfl ?_
          show Steps p.tables e below (T67.setTop (mkF m 149 #[.val (.long q0), .second, .val (.long q1), .second, .val (.int p2), .val (.int f5), .val (.int f6), .val (.int f7), .val (.ref b4), .val (.long (50358 : Int64)), .second, .val (.long lf), .second, .val (.long (own_park lf (50358 : Int64) f5)), .second, .unset, .unset] [(.long lf)])) _
          refine XS.lload X67.here hx rfl (hb hby at_149) rfl ?_
          show Steps p.tables e below (T67.setTop (mkF m 151 #[.val (.long q0), .second, .val (.long q1), .second, .val (.int p2), .val (.int f5), .val (.int f6), .val (.int f7), .val (.ref b4), .val (.long (50358 : Int64)), .second, .val (.long lf), .second, .val (.long (own_park lf (50358 : Int64) f5)), .second, .unset, .unset] [(.long (50358 : Int64)), (.long lf)])) _
          refine XS.lcmp X67.here hx rfl (hb hby at_151) rfl ?_
          show Steps p.tables e below (T67.setTop (mkF m 152 #[.val (.long q0), .second, .val (.long q1), .second, .val (.int p2), .val (.int f5), .val (.int f6), .val (.int f7), .val (.ref b4), .val (.long (50358 : Int64)), .second, .val (.long lf), .second, .val (.long (own_park lf (50358 : Int64) f5)), .second, .unset, .unset] [(.int (lcmpW lf (50358 : Int64)))])) _
          exact k
        by_cases hc68 : (0 : Int32) < (lcmpW lf (50358 : Int64))
        · skip
          refine own_step (T' := T67) (g' := (mkF m 193 #[.val (.long q0), .second, .val (.long q1), .second, .val (.int p2), .val (.int f5), .val (.int f6), .val (.int f7), .val (.ref b4), .val (.long (50358 : Int64)), .second, .val (.long lf), .second, .val (.long (own_park lf (50358 : Int64) f5)), .second, .val (.long (lf - (50358 : Int64))), .second] [(.int (1 : Int32))])) (fun t k => ?_) ?_
          · show Steps p.tables e below (T67.setTop (mkF m 152 #[.val (.long q0), .second, .val (.long q1), .second, .val (.int p2), .val (.int f5), .val (.int f6), .val (.int f7), .val (.ref b4), .val (.long (50358 : Int64)), .second, .val (.long lf), .second, .val (.long (own_park lf (50358 : Int64) f5)), .second, .unset, .unset] [(.int (lcmpW lf (50358 : Int64)))])) _
            refine XS.ifYes X67.here hx rfl (pc0 := 152) (pc' := 173) rfl (hb hby at_152) rfl ((if0 _ _).trans (tlt hc68).2.2.1) (by decide) (by decide) ?_
            show Steps p.tables e below (T67.setTop (mkF m 173 #[.val (.long q0), .second, .val (.long q1), .second, .val (.int p2), .val (.int f5), .val (.int f6), .val (.int f7), .val (.ref b4), .val (.long (50358 : Int64)), .second, .val (.long lf), .second, .val (.long (own_park lf (50358 : Int64) f5)), .second, .unset, .unset] [])) _
            refine XS.lload X67.here hx rfl (hb hby at_173) rfl ?_
            show Steps p.tables e below (T67.setTop (mkF m 175 #[.val (.long q0), .second, .val (.long q1), .second, .val (.int p2), .val (.int f5), .val (.int f6), .val (.int f7), .val (.ref b4), .val (.long (50358 : Int64)), .second, .val (.long lf), .second, .val (.long (own_park lf (50358 : Int64) f5)), .second, .unset, .unset] [(.long lf)])) _
            refine XS.lload X67.here hx rfl (hb hby at_175) rfl ?_
            show Steps p.tables e below (T67.setTop (mkF m 177 #[.val (.long q0), .second, .val (.long q1), .second, .val (.int p2), .val (.int f5), .val (.int f6), .val (.int f7), .val (.ref b4), .val (.long (50358 : Int64)), .second, .val (.long lf), .second, .val (.long (own_park lf (50358 : Int64) f5)), .second, .unset, .unset] [(.long (50358 : Int64)), (.long lf)])) _
            refine XS.lsub X67.here hx rfl (hb hby at_177) rfl ?_
            show Steps p.tables e below (T67.setTop (mkF m 178 #[.val (.long q0), .second, .val (.long q1), .second, .val (.int p2), .val (.int f5), .val (.int f6), .val (.int f7), .val (.ref b4), .val (.long (50358 : Int64)), .second, .val (.long lf), .second, .val (.long (own_park lf (50358 : Int64) f5)), .second, .unset, .unset] [(.long (lf - (50358 : Int64)))])) _
            refine XS.lstore X67.here hx rfl (hb hby at_178) rfl (l' := #[.val (.long q0), .second, .val (.long q1), .second, .val (.int p2), .val (.int f5), .val (.int f6), .val (.int f7), .val (.ref b4), .val (.long (50358 : Int64)), .second, .val (.long lf), .second, .val (.long (own_park lf (50358 : Int64) f5)), .second, .val (.long (lf - (50358 : Int64))), .second]) rfl ?_
            show Steps p.tables e below (T67.setTop (mkF m 180 #[.val (.long q0), .second, .val (.long q1), .second, .val (.int p2), .val (.int f5), .val (.int f6), .val (.int f7), .val (.ref b4), .val (.long (50358 : Int64)), .second, .val (.long lf), .second, .val (.long (own_park lf (50358 : Int64) f5)), .second, .val (.long (lf - (50358 : Int64))), .second] [])) _
            refine XS.lload X67.here hx rfl (hb hby at_180) rfl ?_
            show Steps p.tables e below (T67.setTop (mkF m 182 #[.val (.long q0), .second, .val (.long q1), .second, .val (.int p2), .val (.int f5), .val (.int f6), .val (.int f7), .val (.ref b4), .val (.long (50358 : Int64)), .second, .val (.long lf), .second, .val (.long (own_park lf (50358 : Int64) f5)), .second, .val (.long (lf - (50358 : Int64))), .second] [(.long (own_park lf (50358 : Int64) f5))])) _
            refine XS.lload X67.here hx rfl (hb hby at_182) rfl ?_
            show Steps p.tables e below (T67.setTop (mkF m 184 #[.val (.long q0), .second, .val (.long q1), .second, .val (.int p2), .val (.int f5), .val (.int f6), .val (.int f7), .val (.ref b4), .val (.long (50358 : Int64)), .second, .val (.long lf), .second, .val (.long (own_park lf (50358 : Int64) f5)), .second, .val (.long (lf - (50358 : Int64))), .second] [(.long (lf - (50358 : Int64))), (.long (own_park lf (50358 : Int64) f5))])) _
            refine XS.lcmp X67.here hx rfl (hb hby at_184) rfl ?_
            show Steps p.tables e below (T67.setTop (mkF m 185 #[.val (.long q0), .second, .val (.long q1), .second, .val (.int p2), .val (.int f5), .val (.int f6), .val (.int f7), .val (.ref b4), .val (.long (50358 : Int64)), .second, .val (.long lf), .second, .val (.long (own_park lf (50358 : Int64) f5)), .second, .val (.long (lf - (50358 : Int64))), .second] [(.int (lcmpW (own_park lf (50358 : Int64) f5) (lf - (50358 : Int64))))])) _
            refine XS.ifNo X67.here hx rfl (hb hby at_185) rfl ((if0 _ _).trans (teq ((lw_eq _ _).mpr (own_fin1 hc68))).2) ?_
            show Steps p.tables e below (T67.setTop (mkF m 188 #[.val (.long q0), .second, .val (.long q1), .second, .val (.int p2), .val (.int f5), .val (.int f6), .val (.int f7), .val (.ref b4), .val (.long (50358 : Int64)), .second, .val (.long lf), .second, .val (.long (own_park lf (50358 : Int64) f5)), .second, .val (.long (lf - (50358 : Int64))), .second] [])) _
            refine XS.iconst X67.here hx rfl (hb hby at_188) ?_
            show Steps p.tables e below (T67.setTop (mkF m 189 #[.val (.long q0), .second, .val (.long q1), .second, .val (.int p2), .val (.int f5), .val (.int f6), .val (.int f7), .val (.ref b4), .val (.long (50358 : Int64)), .second, .val (.long lf), .second, .val (.long (own_park lf (50358 : Int64) f5)), .second, .val (.long (lf - (50358 : Int64))), .second] [(.int (1 : Int32))])) _
            refine XS.goto X67.here hx rfl (pc0 := 189) (pc' := 193) rfl (hb hby at_189) (by decide) (by decide) ?_
            show Steps p.tables e below (T67.setTop (mkF m 193 #[.val (.long q0), .second, .val (.long q1), .second, .val (.int p2), .val (.int f5), .val (.int f6), .val (.int f7), .val (.ref b4), .val (.long (50358 : Int64)), .second, .val (.long lf), .second, .val (.long (own_park lf (50358 : Int64) f5)), .second, .val (.long (lf - (50358 : Int64))), .second] [(.int (1 : Int32))])) _
            exact k
          refine own_retN X67 hx (t := .boolean) Bd.returns (by simp) (hb hby at_193) (BodyLoose.notSynchronized Bd) (by decide) (by decide) ?_
          rw [show T67.heap = T30.heap from eq67]
          exact ⟨rfl, N67⟩
        · skip
          refine own_step (T' := T67) (g' := (mkF m 157 #[.val (.long q0), .second, .val (.long q1), .second, .val (.int p2), .val (.int f5), .val (.int f6), .val (.int f7), .val (.ref b4), .val (.long (50358 : Int64)), .second, .val (.long lf), .second, .val (.long (own_park lf (50358 : Int64) f5)), .second, .unset, .unset] [(.int f5)])) (fun t k => ?_) ?_
          · show Steps p.tables e below (T67.setTop (mkF m 152 #[.val (.long q0), .second, .val (.long q1), .second, .val (.int p2), .val (.int f5), .val (.int f6), .val (.int f7), .val (.ref b4), .val (.long (50358 : Int64)), .second, .val (.long lf), .second, .val (.long (own_park lf (50358 : Int64) f5)), .second, .unset, .unset] [(.int (lcmpW lf (50358 : Int64)))])) _
            refine XS.ifNo X67.here hx rfl (hb hby at_152) rfl ((if0 _ _).trans (flt hc68).2.2.1) ?_
            show Steps p.tables e below (T67.setTop (mkF m 155 #[.val (.long q0), .second, .val (.long q1), .second, .val (.int p2), .val (.int f5), .val (.int f6), .val (.int f7), .val (.ref b4), .val (.long (50358 : Int64)), .second, .val (.long lf), .second, .val (.long (own_park lf (50358 : Int64) f5)), .second, .unset, .unset] [])) _
            refine XS.iload X67.here hx rfl (hb hby at_155) rfl ?_
            show Steps p.tables e below (T67.setTop (mkF m 157 #[.val (.long q0), .second, .val (.long q1), .second, .val (.int p2), .val (.int f5), .val (.int f6), .val (.int f7), .val (.ref b4), .val (.long (50358 : Int64)), .second, .val (.long lf), .second, .val (.long (own_park lf (50358 : Int64) f5)), .second, .unset, .unset] [(.int f5)])) _
            exact k
          by_cases hc70 : f5 = (0 : Int32)
          · skip
            refine own_step (T' := T67) (g' := (mkF m 193 #[.val (.long q0), .second, .val (.long q1), .second, .val (.int p2), .val (.int f5), .val (.int f6), .val (.int f7), .val (.ref b4), .val (.long (50358 : Int64)), .second, .val (.long lf), .second, .val (.long (own_park lf (50358 : Int64) f5)), .second, .val (.long lf), .second] [(.int (1 : Int32))])) (fun t k => ?_) ?_
            · show Steps p.tables e below (T67.setTop (mkF m 157 #[.val (.long q0), .second, .val (.long q1), .second, .val (.int p2), .val (.int f5), .val (.int f6), .val (.int f7), .val (.ref b4), .val (.long (50358 : Int64)), .second, .val (.long lf), .second, .val (.long (own_park lf (50358 : Int64) f5)), .second, .unset, .unset] [(.int f5)])) _
              refine XS.ifYes X67.here hx rfl (pc0 := 157) (pc' := 166) rfl (hb hby at_157) rfl ((if0 _ _).trans (teq hc70).1) (by decide) (by decide) ?_
              show Steps p.tables e below (T67.setTop (mkF m 166 #[.val (.long q0), .second, .val (.long q1), .second, .val (.int p2), .val (.int f5), .val (.int f6), .val (.int f7), .val (.ref b4), .val (.long (50358 : Int64)), .second, .val (.long lf), .second, .val (.long (own_park lf (50358 : Int64) f5)), .second, .unset, .unset] [])) _
              refine XS.lload X67.here hx rfl (hb hby at_166) rfl ?_
              show Steps p.tables e below (T67.setTop (mkF m 168 #[.val (.long q0), .second, .val (.long q1), .second, .val (.int p2), .val (.int f5), .val (.int f6), .val (.int f7), .val (.ref b4), .val (.long (50358 : Int64)), .second, .val (.long lf), .second, .val (.long (own_park lf (50358 : Int64) f5)), .second, .unset, .unset] [(.long lf)])) _
              refine XS.lstore X67.here hx rfl (hb hby at_168) rfl (l' := #[.val (.long q0), .second, .val (.long q1), .second, .val (.int p2), .val (.int f5), .val (.int f6), .val (.int f7), .val (.ref b4), .val (.long (50358 : Int64)), .second, .val (.long lf), .second, .val (.long (own_park lf (50358 : Int64) f5)), .second, .val (.long lf), .second]) rfl ?_
              show Steps p.tables e below (T67.setTop (mkF m 170 #[.val (.long q0), .second, .val (.long q1), .second, .val (.int p2), .val (.int f5), .val (.int f6), .val (.int f7), .val (.ref b4), .val (.long (50358 : Int64)), .second, .val (.long lf), .second, .val (.long (own_park lf (50358 : Int64) f5)), .second, .val (.long lf), .second] [])) _
              refine XS.goto X67.here hx rfl (pc0 := 170) (pc' := 180) rfl (hb hby at_170) (by decide) (by decide) ?_
              show Steps p.tables e below (T67.setTop (mkF m 180 #[.val (.long q0), .second, .val (.long q1), .second, .val (.int p2), .val (.int f5), .val (.int f6), .val (.int f7), .val (.ref b4), .val (.long (50358 : Int64)), .second, .val (.long lf), .second, .val (.long (own_park lf (50358 : Int64) f5)), .second, .val (.long lf), .second] [])) _
              refine XS.lload X67.here hx rfl (hb hby at_180) rfl ?_
              show Steps p.tables e below (T67.setTop (mkF m 182 #[.val (.long q0), .second, .val (.long q1), .second, .val (.int p2), .val (.int f5), .val (.int f6), .val (.int f7), .val (.ref b4), .val (.long (50358 : Int64)), .second, .val (.long lf), .second, .val (.long (own_park lf (50358 : Int64) f5)), .second, .val (.long lf), .second] [(.long (own_park lf (50358 : Int64) f5))])) _
              refine XS.lload X67.here hx rfl (hb hby at_182) rfl ?_
              show Steps p.tables e below (T67.setTop (mkF m 184 #[.val (.long q0), .second, .val (.long q1), .second, .val (.int p2), .val (.int f5), .val (.int f6), .val (.int f7), .val (.ref b4), .val (.long (50358 : Int64)), .second, .val (.long lf), .second, .val (.long (own_park lf (50358 : Int64) f5)), .second, .val (.long lf), .second] [(.long lf), (.long (own_park lf (50358 : Int64) f5))])) _
              refine XS.lcmp X67.here hx rfl (hb hby at_184) rfl ?_
              show Steps p.tables e below (T67.setTop (mkF m 185 #[.val (.long q0), .second, .val (.long q1), .second, .val (.int p2), .val (.int f5), .val (.int f6), .val (.int f7), .val (.ref b4), .val (.long (50358 : Int64)), .second, .val (.long lf), .second, .val (.long (own_park lf (50358 : Int64) f5)), .second, .val (.long lf), .second] [(.int (lcmpW (own_park lf (50358 : Int64) f5) lf))])) _
              refine XS.ifNo X67.here hx rfl (hb hby at_185) rfl ((if0 _ _).trans (teq ((lw_eq _ _).mpr (own_fin2 hc68 hc70))).2) ?_
              show Steps p.tables e below (T67.setTop (mkF m 188 #[.val (.long q0), .second, .val (.long q1), .second, .val (.int p2), .val (.int f5), .val (.int f6), .val (.int f7), .val (.ref b4), .val (.long (50358 : Int64)), .second, .val (.long lf), .second, .val (.long (own_park lf (50358 : Int64) f5)), .second, .val (.long lf), .second] [])) _
              refine XS.iconst X67.here hx rfl (hb hby at_188) ?_
              show Steps p.tables e below (T67.setTop (mkF m 189 #[.val (.long q0), .second, .val (.long q1), .second, .val (.int p2), .val (.int f5), .val (.int f6), .val (.int f7), .val (.ref b4), .val (.long (50358 : Int64)), .second, .val (.long lf), .second, .val (.long (own_park lf (50358 : Int64) f5)), .second, .val (.long lf), .second] [(.int (1 : Int32))])) _
              refine XS.goto X67.here hx rfl (pc0 := 189) (pc' := 193) rfl (hb hby at_189) (by decide) (by decide) ?_
              show Steps p.tables e below (T67.setTop (mkF m 193 #[.val (.long q0), .second, .val (.long q1), .second, .val (.int p2), .val (.int f5), .val (.int f6), .val (.int f7), .val (.ref b4), .val (.long (50358 : Int64)), .second, .val (.long lf), .second, .val (.long (own_park lf (50358 : Int64) f5)), .second, .val (.long lf), .second] [(.int (1 : Int32))])) _
              exact k
            refine own_retN X67 hx (t := .boolean) Bd.returns (by simp) (hb hby at_193) (BodyLoose.notSynchronized Bd) (by decide) (by decide) ?_
            rw [show T67.heap = T30.heap from eq67]
            exact ⟨rfl, N67⟩
          · skip
            refine own_step (T' := T67) (g' := (mkF m 193 #[.val (.long q0), .second, .val (.long q1), .second, .val (.int p2), .val (.int f5), .val (.int f6), .val (.int f7), .val (.ref b4), .val (.long (50358 : Int64)), .second, .val (.long lf), .second, .val (.long (own_park lf (50358 : Int64) f5)), .second, .val (.long (0 : Int64)), .second] [(.int (1 : Int32))])) (fun t k => ?_) ?_
            · show Steps p.tables e below (T67.setTop (mkF m 157 #[.val (.long q0), .second, .val (.long q1), .second, .val (.int p2), .val (.int f5), .val (.int f6), .val (.int f7), .val (.ref b4), .val (.long (50358 : Int64)), .second, .val (.long lf), .second, .val (.long (own_park lf (50358 : Int64) f5)), .second, .unset, .unset] [(.int f5)])) _
              refine XS.ifNo X67.here hx rfl (hb hby at_157) rfl ((if0 _ _).trans (feq hc70).1) ?_
              show Steps p.tables e below (T67.setTop (mkF m 160 #[.val (.long q0), .second, .val (.long q1), .second, .val (.int p2), .val (.int f5), .val (.int f6), .val (.int f7), .val (.ref b4), .val (.long (50358 : Int64)), .second, .val (.long lf), .second, .val (.long (own_park lf (50358 : Int64) f5)), .second, .unset, .unset] [])) _
              refine XS.lconst X67.here hx rfl (hb hby at_160) ?_
              show Steps p.tables e below (T67.setTop (mkF m 161 #[.val (.long q0), .second, .val (.long q1), .second, .val (.int p2), .val (.int f5), .val (.int f6), .val (.int f7), .val (.ref b4), .val (.long (50358 : Int64)), .second, .val (.long lf), .second, .val (.long (own_park lf (50358 : Int64) f5)), .second, .unset, .unset] [(.long (0 : Int64))])) _
              refine XS.lstore X67.here hx rfl (hb hby at_161) rfl (l' := #[.val (.long q0), .second, .val (.long q1), .second, .val (.int p2), .val (.int f5), .val (.int f6), .val (.int f7), .val (.ref b4), .val (.long (50358 : Int64)), .second, .val (.long lf), .second, .val (.long (own_park lf (50358 : Int64) f5)), .second, .val (.long (0 : Int64)), .second]) rfl ?_
              show Steps p.tables e below (T67.setTop (mkF m 163 #[.val (.long q0), .second, .val (.long q1), .second, .val (.int p2), .val (.int f5), .val (.int f6), .val (.int f7), .val (.ref b4), .val (.long (50358 : Int64)), .second, .val (.long lf), .second, .val (.long (own_park lf (50358 : Int64) f5)), .second, .val (.long (0 : Int64)), .second] [])) _
              refine XS.goto X67.here hx rfl (pc0 := 163) (pc' := 180) rfl (hb hby at_163) (by decide) (by decide) ?_
              show Steps p.tables e below (T67.setTop (mkF m 180 #[.val (.long q0), .second, .val (.long q1), .second, .val (.int p2), .val (.int f5), .val (.int f6), .val (.int f7), .val (.ref b4), .val (.long (50358 : Int64)), .second, .val (.long lf), .second, .val (.long (own_park lf (50358 : Int64) f5)), .second, .val (.long (0 : Int64)), .second] [])) _
              refine XS.lload X67.here hx rfl (hb hby at_180) rfl ?_
              show Steps p.tables e below (T67.setTop (mkF m 182 #[.val (.long q0), .second, .val (.long q1), .second, .val (.int p2), .val (.int f5), .val (.int f6), .val (.int f7), .val (.ref b4), .val (.long (50358 : Int64)), .second, .val (.long lf), .second, .val (.long (own_park lf (50358 : Int64) f5)), .second, .val (.long (0 : Int64)), .second] [(.long (own_park lf (50358 : Int64) f5))])) _
              refine XS.lload X67.here hx rfl (hb hby at_182) rfl ?_
              show Steps p.tables e below (T67.setTop (mkF m 184 #[.val (.long q0), .second, .val (.long q1), .second, .val (.int p2), .val (.int f5), .val (.int f6), .val (.int f7), .val (.ref b4), .val (.long (50358 : Int64)), .second, .val (.long lf), .second, .val (.long (own_park lf (50358 : Int64) f5)), .second, .val (.long (0 : Int64)), .second] [(.long (0 : Int64)), (.long (own_park lf (50358 : Int64) f5))])) _
              refine XS.lcmp X67.here hx rfl (hb hby at_184) rfl ?_
              show Steps p.tables e below (T67.setTop (mkF m 185 #[.val (.long q0), .second, .val (.long q1), .second, .val (.int p2), .val (.int f5), .val (.int f6), .val (.int f7), .val (.ref b4), .val (.long (50358 : Int64)), .second, .val (.long lf), .second, .val (.long (own_park lf (50358 : Int64) f5)), .second, .val (.long (0 : Int64)), .second] [(.int (lcmpW (own_park lf (50358 : Int64) f5) (0 : Int64)))])) _
              refine XS.ifNo X67.here hx rfl (hb hby at_185) rfl ((if0 _ _).trans (teq ((lw_eq _ _).mpr (own_fin3 hc68 hc70))).2) ?_
              show Steps p.tables e below (T67.setTop (mkF m 188 #[.val (.long q0), .second, .val (.long q1), .second, .val (.int p2), .val (.int f5), .val (.int f6), .val (.int f7), .val (.ref b4), .val (.long (50358 : Int64)), .second, .val (.long lf), .second, .val (.long (own_park lf (50358 : Int64) f5)), .second, .val (.long (0 : Int64)), .second] [])) _
              refine XS.iconst X67.here hx rfl (hb hby at_188) ?_
              show Steps p.tables e below (T67.setTop (mkF m 189 #[.val (.long q0), .second, .val (.long q1), .second, .val (.int p2), .val (.int f5), .val (.int f6), .val (.int f7), .val (.ref b4), .val (.long (50358 : Int64)), .second, .val (.long lf), .second, .val (.long (own_park lf (50358 : Int64) f5)), .second, .val (.long (0 : Int64)), .second] [(.int (1 : Int32))])) _
              refine XS.goto X67.here hx rfl (pc0 := 189) (pc' := 193) rfl (hb hby at_189) (by decide) (by decide) ?_
              show Steps p.tables e below (T67.setTop (mkF m 193 #[.val (.long q0), .second, .val (.long q1), .second, .val (.int p2), .val (.int f5), .val (.int f6), .val (.int f7), .val (.ref b4), .val (.long (50358 : Int64)), .second, .val (.long lf), .second, .val (.long (own_park lf (50358 : Int64) f5)), .second, .val (.long (0 : Int64)), .second] [(.int (1 : Int32))])) _
              exact k
            refine own_retN X67 hx (t := .boolean) Bd.returns (by simp) (hb hby at_193) (BodyLoose.notSynchronized Bd) (by decide) (by decide) ?_
            rw [show T67.heap = T30.heap from eq67]
            exact ⟨rfl, N67⟩
set_option maxRecDepth 65536 in
set_option maxHeartbeats 40000000 in
theorem comes_1 {Post : Tables → Env → Array Value → State → Outcome → State → Prop} (hpost : ∀ tb e args s v u, (limb_1_1.after args s (.returned v) u = true ∧ limb_1_2.after args s (.returned v) u = true ∧ True) → FrameEnd s (.returned v) u (Jvm.fieldLocs frame_1_writes args s ++ Jvm.arrayLocs frame_1_arrays args s ++ Jvm.staticLocs frame_1_statics s) 16 128 → Post tb e args s (.returned v) u) :
    ArmFor flags0 classFile x code maxLocals ret World_1 tables_1 room_1 Calls_1 rest_1 Pre_1 Post := by
  intro l hfl _ _ p e ha hc hk s m args below hf hA hF happ hP
  obtain ⟨hcalls, hrest, hpre⟩ := hP
  obtain ⟨-, -, -, hnamed, -, -, -, hat⟩ := (Spec.applies_iff hf).mp happ
  obtain ⟨hg, hn⟩ := and_e (Cond.before_iff.mp (show (Jvm.Cond.and given_1 narrow_1).before args s = true from hpre))
  obtain ⟨gc, gr0⟩ := and_e hg
  obtain ⟨ga0, gr1⟩ := and_e gr0
  obtain ⟨ga1, gr2⟩ := and_e gr1
  obtain ⟨w0, w1, w2, rfl⟩ : ∃ w0 w1 w2 : Value, args = #[w0, w1, w2] := by
    have hs : args.size = 3 := by simpa [Cond.value, given_1] using gc
    obtain ⟨L⟩ := args
    match L, hs with
    | [w0, w1, w2], _ => exact ⟨w0, w1, w2, rfl⟩
  have hw := fun d (hd : d ∈ tables_1) => atoms_spec (ws := Jvm.Cond.code x code maxLocals ret :: tables_1) hat d (List.mem_cons_of_mem _ hd)
  obtain ⟨i0, ei0⟩ := isL_v ga0
  obtain rfl : w0 = (.long i0) := Option.some.inj ei0
  obtain ⟨i1, ei1⟩ := isL_v ga1
  obtain rfl : w1 = (.long i1) := Option.some.inj ei1
  obtain ⟨i2, ei2⟩ := is_v gr2
  obtain rfl : w2 = (.int i2) := Option.some.inj ei2
  obtain ⟨n, o, h1, h2, h3, _, L, rfl, ⟨rfl, N⟩, hq⟩ := rm0 l s _ hw tables_1 i0 i1 i2  s.heap s.heap.size (Nat.le_refl _)  p e ha hc hk s m _ below hf ((Spec.applies_iff_loose hf).mp happ).1 ⟨rfl, State.Warmed39.refl s, rfl⟩ trivial
  refine ⟨n, _, h1, h2, h3, hpost _ _ _ _ _ _ ⟨Cond.after_iff.mpr rfl, Cond.after_iff.mpr (eq_i res_at (Term.int_eval (1)) rfl), trivial⟩ ⟨hq.1, hq.2.1, (hq.2.2.sift fun y hy => Or.inr (N y hy)).mono (by decide) (by decide)⟩⟩
theorem main_1_1 : Claimed_1_1 := comes_1 fun _ _ _ _ _ _ h hF => ⟨h.1, hF⟩
theorem main_1_2 : Claimed_1_2 := comes_1 fun _ _ _ _ _ _ h hF => ⟨h.2.1, hF⟩
end Jvm.Pilot.@@N@@
namespace Jvm.Pilot.@@N@@
open Jvm Jvm.ClassFile Sem Op Lib Jvm.Free Jvm.Stand Jvm.Pilot.@@N@@.Jvm.D
/-! MADE BY PROGRAM (witnessworld.py) out of the Statement's table words and the real class files: 10 classes; the members and pool entries that the words name. The judged class is class 1, her method 1. -/
namespace start1
open Jvm.ClassFile
def u (s : String) : CpInfo := .utf8 (stringToUtf16 s)
/-- a pool by its gaps: so many unusable entries, then the entry; so many at the end -/
def gap : Nat → List CpInfo → List CpInfo
  | 0, r => r
  | n + 1, r => .unusable :: gap n r
def poolList (es : List (Nat × CpInfo)) (last : Nat) : List CpInfo := es.foldr (fun e r => gap e.1 (e.2 :: r)) (gap last [])
def pool (es : List (Nat × CpInfo)) (last : Nat) : Array CpInfo := ⟨poolList es last⟩
def fileOf (pool : Array CpInfo) (this : Nat) (attrs : Array Attribute := #[]) (ms : Array MethodInfo := #[]) (fl : Nat := 33) (sup : Nat := 0) (ifs : Array Nat := #[]) (fds : Array FieldInfo := #[]) : ClassFile where
  minorVersion := 0
  majorVersion := 65
  constantPool := pool
  accessFlags := fl
  thisClass := this
  superClass := sup
  interfaces := ifs
  fields := fds
  methods := ms
  attributes := attrs
def plain (name : String) (sup : Option ClassId) : Class where
  name := name
  kind := .ordinary
  loader := none
  accessFlags := 33
  super := sup
  interfaces := #[]
  cf := none
  fields := #[]
  methods := #[]
  instanceTypes := #[]
  staticTypes := #[]
  resolved := #[]
  callSites := []
  init := .initialized
  statics := none
  mirror := none

def pool0 : Array CpInfo := pool [(5, u "<init>"), (0, u "()V"), (1, .class_ 10), (1, u "java/lang/Object")] 113

def k0c0 : Code := { maxStack := 0, maxLocals := 1, code := object_method_1_code, exceptionTable := #[], attributes := #[] }
def k0m0 : Method := { name := "<init>", desc := "()V", sig := { parameters := [], returnType := none }, accessFlags := 1, code := some k0c0 }
/-- java/lang/Object -/
def k0 : Class := { plain "java/lang/Object" none with
  accessFlags := 33
  interfaces := #[]
  cf := some (fileOf pool0 8 #[] #[{ accessFlags := 1, nameIndex := 5, descriptorIndex := 6, attributes := #[] }] 33 0 #[] #[])
  fields := #[]
  methods := #[k0m0]
  instanceTypes := #[]
  staticTypes := #[]
  resolved := Array.replicate 124 none
  statics := none }

def pool1 : Array CpInfo := pool [(2, .class_ 4), (0, .nameAndType 5 6), (0, u "java/lang/Object"), (0, u "<init>"), (0, u "()V"), (0, .class_ 8), (0, u "com/example/windlass/windlass/ParkLead"), (0, .methodref 7 3), (0, .long 50000), (3, .long 9223372036854775807), (1, .methodref 7 17), (0, .nameAndType 18 19), (0, u "learn"), (0, u "(J)V"), (0, .long 46775), (1, .long 50358), (1, .long 16), (1, .long 31), (1, .methodref 7 29), (0, .nameAndType 30 31), (0, u "parkNanos"), (0, u "(JZ)J"), (0, .class_ 33), (0, u "com/example/windlass/windlass/ParkLeadParkNanosPinLaw"), (2, u "law"), (0, u "(JJI)Z")] 3

def k1m0 : Method := { name := "<init>", desc := "()V", sig := { parameters := [], returnType := none }, accessFlags := 2, code := none }
def k1c1 : Code := { maxStack := 6, maxLocals := 17, code := code, exceptionTable := #[], attributes := #[] }
def k1m1 : Method := { name := "law", desc := "(JJI)Z", sig := { parameters := [.long, .long, .int], returnType := some .boolean }, accessFlags := 9, code := some k1c1 }
/-- com/example/windlass/windlass/ParkLeadParkNanosPinLaw -/
def k1 : Class := { plain "com/example/windlass/windlass/ParkLeadParkNanosPinLaw" (some 0) with
  accessFlags := 49
  interfaces := #[]
  cf := some (fileOf pool1 32 #[] #[{ accessFlags := 2, nameIndex := 5, descriptorIndex := 6, attributes := #[] }, { accessFlags := 9, nameIndex := 36, descriptorIndex := 37, attributes := #[] }] 49 2 #[] #[])
  fields := #[]
  methods := #[k1m0, k1m1]
  instanceTypes := #[]
  staticTypes := #[]
  resolved := Array.replicate 41 none
  statics := none }

def pool2 : Array CpInfo := pool [(1, .methodref 2 3), (0, .class_ 4), (0, .nameAndType 5 6), (0, u "java/lang/Object"), (0, u "<init>"), (0, u "()V"), (0, .class_ 8), (0, u "com/example/windlass/windlass/ParkLead"), (0, .long 50000), (1, .fieldref 7 12), (0, .nameAndType 13 14), (0, u "nanos"), (0, u "J"), (0, .long 100), (1, .methodref 18 19), (0, .class_ 20), (0, .nameAndType 21 22), (0, u "java/lang/Math"), (0, u "max"), (0, u "(JJ)J"), (0, .long 1000000), (1, .long 9), (1, .methodref 18 28), (0, .nameAndType 29 22), (0, u "min"), (0, u "INITIAL_NANOS"), (1, u "MAX_NANOS"), (0, u "LEAST_STEP_NANOS"), (2, u "parkNanos"), (0, u "(JZ)J"), (1, u "learn"), (0, u "(J)V")] 2

def k2c0 : Code := { maxStack := 3, maxLocals := 1, code := prog_51_method_1_code, exceptionTable := #[], attributes := #[] }
def k2m0 : Method := { name := "<init>", desc := "()V", sig := { parameters := [], returnType := none }, accessFlags := 0, code := some k2c0 }
def k2c1 : Code := { maxStack := 4, maxLocals := 4, code := prog_51_method_2_code, exceptionTable := #[], attributes := #[] }
def k2m1 : Method := { name := "parkNanos", desc := "(JZ)J", sig := { parameters := [.long, .boolean], returnType := some .long }, accessFlags := 0, code := some k2c1 }
def k2c2 : Code := { maxStack := 9, maxLocals := 5, code := prog_51_method_3_code, exceptionTable := #[], attributes := #[] }
def k2m2 : Method := { name := "learn", desc := "(J)V", sig := { parameters := [.long], returnType := none }, accessFlags := 0, code := some k2c2 }
/-- com/example/windlass/windlass/ParkLead -/
def k2 : Class := { plain "com/example/windlass/windlass/ParkLead" (some 0) with
  accessFlags := 48
  interfaces := #[]
  cf := some (fileOf pool2 7 #[] #[{ accessFlags := 0, nameIndex := 5, descriptorIndex := 6, attributes := #[] }, { accessFlags := 0, nameIndex := 36, descriptorIndex := 37, attributes := #[] }, { accessFlags := 0, nameIndex := 39, descriptorIndex := 40, attributes := #[] }] 48 2 #[] #[{ accessFlags := 26, nameIndex := 30, descriptorIndex := 14, attributes := #[] }, { accessFlags := 26, nameIndex := 32, descriptorIndex := 14, attributes := #[] }, { accessFlags := 26, nameIndex := 33, descriptorIndex := 14, attributes := #[] }, { accessFlags := 2, nameIndex := 13, descriptorIndex := 14, attributes := #[] }])
  fields := #[{ name := "INITIAL_NANOS", type := .long, accessFlags := 26, slot := 0, constantValue := 0 }, { name := "MAX_NANOS", type := .long, accessFlags := 26, slot := 1, constantValue := 0 }, { name := "LEAST_STEP_NANOS", type := .long, accessFlags := 26, slot := 2, constantValue := 0 }, { name := "nanos", type := .long, accessFlags := 2, slot := 0, constantValue := 0 }]
  methods := #[k2m0, k2m1, k2m2]
  instanceTypes := #[.long]
  staticTypes := #[.long, .long, .long]
  resolved := Array.replicate 43 none
  statics := none }

def pool3 : Array CpInfo := pool [(1, .class_ 2), (0, u "java/lang/Math"), (1, .class_ 6), (1, u "java/lang/Object"), (0, u "<init>"), (0, u "()V"), (89, .class_ 100), (1, u "java/lang/Math$RandomNumberGeneratorHolder"), (20, u "(JJ)J"), (50, u "negativeZeroFloatBits"), (0, u "J"), (2, u "negativeZeroDoubleBits"), (21, u "max"), (2, u "min"), (43, u "$assertionsDisabled"), (0, u "Z"), (91, u "twoToTheDoubleScaleDown"), (0, u "D"), (4, u "twoToTheDoubleScaleUp"), (9, u "E"), (3, u "PI"), (2, u "TAU"), (2, u "DEGREES_TO_RADIANS"), (0, u "RADIANS_TO_DEGREES")] 94

def k3m0 : Method := { name := "<init>", desc := "()V", sig := { parameters := [], returnType := none }, accessFlags := 2, code := none }
def k3c1 : Code := { maxStack := 4, maxLocals := 4, code := jdk_29_method_66_code, exceptionTable := #[], attributes := #[] }
def k3m1 : Method := { name := "max", desc := "(JJ)J", sig := { parameters := [.long, .long], returnType := some .long }, accessFlags := 9, code := some k3c1 }
def k3c2 : Code := { maxStack := 4, maxLocals := 4, code := jdk_29_method_70_code, exceptionTable := #[], attributes := #[] }
def k3m2 : Method := { name := "min", desc := "(JJ)J", sig := { parameters := [.long, .long], returnType := some .long }, accessFlags := 9, code := some k3c2 }
/-- java/lang/Math -/
def k3 : Class := { plain "java/lang/Math" (some 0) with
  accessFlags := 49
  interfaces := #[]
  cf := some (fileOf pool3 1 #[.nestMembers #[98]] #[{ accessFlags := 2, nameIndex := 7, descriptorIndex := 8, attributes := #[] }, { accessFlags := 9, nameIndex := 198, descriptorIndex := 121, attributes := #[] }, { accessFlags := 9, nameIndex := 201, descriptorIndex := 121, attributes := #[] }] 49 4 #[] #[{ accessFlags := 25, nameIndex := 354, descriptorIndex := 339, attributes := #[] }, { accessFlags := 25, nameIndex := 358, descriptorIndex := 339, attributes := #[] }, { accessFlags := 25, nameIndex := 361, descriptorIndex := 339, attributes := #[] }, { accessFlags := 26, nameIndex := 364, descriptorIndex := 339, attributes := #[] }, { accessFlags := 26, nameIndex := 365, descriptorIndex := 339, attributes := #[] }, { accessFlags := 26, nameIndex := 172, descriptorIndex := 173, attributes := #[] }, { accessFlags := 26, nameIndex := 176, descriptorIndex := 173, attributes := #[] }, { accessFlags := 8, nameIndex := 344, descriptorIndex := 339, attributes := #[] }, { accessFlags := 8, nameIndex := 338, descriptorIndex := 339, attributes := #[] }, { accessFlags := 4120, nameIndex := 245, descriptorIndex := 246, attributes := #[] }])
  fields := #[{ name := "E", type := .double, accessFlags := 25, slot := 0, constantValue := 0 }, { name := "PI", type := .double, accessFlags := 25, slot := 1, constantValue := 0 }, { name := "TAU", type := .double, accessFlags := 25, slot := 2, constantValue := 0 }, { name := "DEGREES_TO_RADIANS", type := .double, accessFlags := 26, slot := 3, constantValue := 0 }, { name := "RADIANS_TO_DEGREES", type := .double, accessFlags := 26, slot := 4, constantValue := 0 }, { name := "negativeZeroFloatBits", type := .long, accessFlags := 26, slot := 5, constantValue := 0 }, { name := "negativeZeroDoubleBits", type := .long, accessFlags := 26, slot := 6, constantValue := 0 }, { name := "twoToTheDoubleScaleUp", type := .double, accessFlags := 8, slot := 7, constantValue := 0 }, { name := "twoToTheDoubleScaleDown", type := .double, accessFlags := 8, slot := 8, constantValue := 0 }, { name := "$assertionsDisabled", type := .boolean, accessFlags := 4120, slot := 9, constantValue := 0 }]
  methods := #[k3m0, k3m1, k3m2]
  instanceTypes := #[]
  staticTypes := #[.double, .double, .double, .double, .double, .long, .long, .double, .double, .boolean]
  resolved := Array.replicate 460 none
  statics := none }

def pool4 : Array CpInfo := pool [(1, u "java/lang/Cloneable"), (0, .class_ 1), (0, u "java/lang/Object"), (0, .class_ 3)] 3

/-- java/lang/Cloneable -/
def k4 : Class := { plain "java/lang/Cloneable" (some 0) with
  accessFlags := 1537
  interfaces := #[]
  cf := some (fileOf pool4 2 #[] #[] 1537 4 #[] #[])
  fields := #[]
  methods := #[]
  instanceTypes := #[]
  staticTypes := #[]
  resolved := Array.replicate 8 none
  statics := none }

def pool5 : Array CpInfo := pool [(1, u "java/io/Serializable"), (0, .class_ 1), (0, u "java/lang/Object"), (0, .class_ 3)] 3

/-- java/io/Serializable -/
def k5 : Class := { plain "java/io/Serializable" (some 0) with
  accessFlags := 1537
  interfaces := #[]
  cf := some (fileOf pool5 2 #[] #[] 1537 4 #[] #[])
  fields := #[]
  methods := #[]
  instanceTypes := #[]
  staticTypes := #[]
  resolved := Array.replicate 8 none
  statics := none }

/-- the primitive byte -/
def k6 : Class := { plain "byte" none with kind := .primitive 'B', accessFlags := 0x411 }
/-- [B -/
def k7 : Class := { plain "[B" (some 0) with kind := .array 6 .byte, interfaces := #[4, 5], accessFlags := 1041 }

/-- the primitive int -/
def k8 : Class := { plain "int" none with kind := .primitive 'I', accessFlags := 0x411 }
/-- [I -/
def k9 : Class := { plain "[I" (some 0) with kind := .array 8 .int, interfaces := #[4, 5], accessFlags := 1041 }

def heap : Heap := #[]
def classes : Array Class := #[k0, k1, k2, k3, k4, k5, k6, k7, k8, k9]
def interned : List (Array UInt16 × Addr) := []
def slotsUsed : Nat := 0
def theMethod : MethodId := ⟨1, 1⟩
def args0 : Array Value := #[.long 5, .long 6, .int 7]
def aboutOver (below : List Frame) : State where
  vm := { classes := classes, interned := interned.toArray }
  heap := heap
  slotsUsed := slotsUsed
  threads := #[{ frames := .invoking theMethod args0 :: below }]
def below0 : List Frame := [.native { method := ⟨0, 0⟩, args := #[] }]
def about1 : State := aboutOver below0
def p0 : Program := .bare "" "" ""
def e0 : Env := launch0.env 0 0 0
theorem w_frames : about1.frames = Frame.invoking theMethod args0 :: below0 := rfl
set_option maxRecDepth 65536 in
theorem w_args : argsFit about1.vm theMethod args0 = true := by decide +kernel
set_option maxRecDepth 65536 in
theorem w_heap : heapFits about1 = true := by decide +kernel
set_option maxRecDepth 65536 in
theorem w_runnable : about1.curStatus? = some .runnable := by decide +kernel
set_option maxRecDepth 65536 in
theorem w_alone : about1.alone = true := by decide +kernel
set_option maxRecDepth 65536 in
theorem w_named : about1.methodNamed? x = some theMethod := by decide +kernel
set_option maxRecDepth 65536 in
theorem w_hears : about1.hears theMethod below0 = true := by decide +kernel
set_option maxRecDepth 65536 in
theorem w_ripe : about1.ripe theMethod args0 below0 = true := by decide +kernel
theorem w_running : about1.status = .running := rfl
set_option maxRecDepth 65536 in
theorem w_room : about1.hasRoom e0.platform room_1 = true :=
  launch0.hasRoom_least _ room_1 (by decide +kernel) (by decide +kernel) (by decide +kernel) (by decide +kernel) (by decide +kernel) (by decide +kernel)
theorem allAtoms_all (ts : List Jvm.Cond) (a : Array Jvm.Value) (st : Jvm.State) : (allAtoms ts).before a st = ts.all (fun c => c.before a st) := by
  induction ts with
  | nil => rfl
  | cons c t ih =>
    show (Jvm.Cond.and c (allAtoms t)).before a st = _
    rw [Jvm.Cond.before_and, ih, List.all_cons]
def words1 : List Jvm.Cond := Jvm.Cond.code x code maxLocals ret :: tables_1
/-- a 'code' word, met by the world's own term for the bytes: nothing is compared byte by byte -/
theorem code_word {y : MethodName} {bytes : ByteArray} {mx : Nat} {rt : Option FieldType} {a : Array Value} {s : State} {m : MethodId} {meth : Method} {c : Code} (h1 : s.methodNamed? y = some m) (h2 : s.vm.method? m = some meth) (h3 : meth.code = some c) (h4 : c.code = bytes)
    (h5 : (c.maxLocals == mx && c.exceptionTable.isEmpty && decide (c.maxStack ≤ mostOperands) && decide (meth.sig.returnType = rt) && !meth.locks && decide (parseMethodDescriptor y.desc = some meth.sig)) = true) : (Jvm.Cond.code y bytes mx rt).before a s = true := by
  simp only [Bool.and_eq_true, beq_iff_eq, Bool.not_eq_true', decide_eq_true_eq] at h5
  obtain ⟨⟨⟨⟨⟨g1, g2⟩, g3⟩, g4⟩, g5⟩, g6⟩ := h5
  simp [Cond.before, Cond.holds, Cond.value, h1, h2, h3, h4, g1, g2, g3, g4, g5, g6]
def isCode : Jvm.Cond → Bool
  | .code _ _ _ _ => true
  | _ => false
theorem all_split {L : List Jvm.Cond} {P : Jvm.Cond → Bool} (h1 : L.all (fun c => isCode c || P c) = true) (h2 : ∀ c ∈ L.filter isCode, P c = true) : L.all P = true := by
  refine List.all_eq_true.mpr fun c hc => ?_
  have h := List.all_eq_true.mp h1 c hc
  rcases Bool.eq_false_or_eq_true (isCode c) with hi | hi
  · exact h2 c (List.mem_filter.mpr ⟨hc, hi⟩)
  · simpa [hi] using h
set_option maxRecDepth 65536 in
theorem w_c0 : (Jvm.Cond.code x code maxLocals ret).before args0 about1 = true := code_word (m := ⟨1, 1⟩) (meth := k1m1) (c := k1c1) (by decide +kernel) rfl rfl rfl (by decide +kernel)
set_option maxRecDepth 65536 in
theorem w_c1 : (Jvm.Cond.code ({ cls := "com/example/windlass/windlass/ParkLead", name := "<init>", desc := "()V" } : Jvm.MethodName) prog_51_method_1_code (1 : Nat) (Option.none : Option Jvm.ClassFile.FieldType)).before args0 about1 = true := code_word (m := ⟨2, 0⟩) (meth := k2m0) (c := k2c0) (by decide +kernel) rfl rfl rfl (by decide +kernel)
set_option maxRecDepth 65536 in
theorem w_c2 : (Jvm.Cond.code ({ cls := "java/lang/Object", name := "<init>", desc := "()V" } : Jvm.MethodName) object_method_1_code (1 : Nat) (Option.none : Option Jvm.ClassFile.FieldType)).before args0 about1 = true := code_word (m := ⟨0, 0⟩) (meth := k0m0) (c := k0c0) (by decide +kernel) rfl rfl rfl (by decide +kernel)
set_option maxRecDepth 65536 in
theorem w_c3 : (Jvm.Cond.code ({ cls := "com/example/windlass/windlass/ParkLead", name := "parkNanos", desc := "(JZ)J" } : Jvm.MethodName) prog_51_method_2_code (4 : Nat) (Option.some Jvm.ClassFile.FieldType.long)).before args0 about1 = true := code_word (m := ⟨2, 1⟩) (meth := k2m1) (c := k2c1) (by decide +kernel) rfl rfl rfl (by decide +kernel)
set_option maxRecDepth 65536 in
theorem w_c4 : (Jvm.Cond.code ({ cls := "com/example/windlass/windlass/ParkLead", name := "learn", desc := "(J)V" } : Jvm.MethodName) prog_51_method_3_code (5 : Nat) (Option.none : Option Jvm.ClassFile.FieldType)).before args0 about1 = true := code_word (m := ⟨2, 2⟩) (meth := k2m2) (c := k2c2) (by decide +kernel) rfl rfl rfl (by decide +kernel)
set_option maxRecDepth 65536 in
theorem w_c5 : (Jvm.Cond.code ({ cls := "java/lang/Math", name := "max", desc := "(JJ)J" } : Jvm.MethodName) jdk_29_method_66_code (4 : Nat) (Option.some Jvm.ClassFile.FieldType.long)).before args0 about1 = true := code_word (m := ⟨3, 1⟩) (meth := k3m1) (c := k3c1) (by decide +kernel) rfl rfl rfl (by decide +kernel)
set_option maxRecDepth 65536 in
theorem w_c6 : (Jvm.Cond.code ({ cls := "java/lang/Math", name := "min", desc := "(JJ)J" } : Jvm.MethodName) jdk_29_method_70_code (4 : Nat) (Option.some Jvm.ClassFile.FieldType.long)).before args0 about1 = true := code_word (m := ⟨3, 2⟩) (meth := k3m2) (c := k3c2) (by decide +kernel) rfl rfl rfl (by decide +kernel)
def codes1 : List Jvm.Cond := [Jvm.Cond.code x code maxLocals ret, Jvm.Cond.code ({ cls := "com/example/windlass/windlass/ParkLead", name := "<init>", desc := "()V" } : Jvm.MethodName) prog_51_method_1_code (1 : Nat) (Option.none : Option Jvm.ClassFile.FieldType), Jvm.Cond.code ({ cls := "java/lang/Object", name := "<init>", desc := "()V" } : Jvm.MethodName) object_method_1_code (1 : Nat) (Option.none : Option Jvm.ClassFile.FieldType), Jvm.Cond.code ({ cls := "com/example/windlass/windlass/ParkLead", name := "parkNanos", desc := "(JZ)J" } : Jvm.MethodName) prog_51_method_2_code (4 : Nat) (Option.some Jvm.ClassFile.FieldType.long), Jvm.Cond.code ({ cls := "com/example/windlass/windlass/ParkLead", name := "learn", desc := "(J)V" } : Jvm.MethodName) prog_51_method_3_code (5 : Nat) (Option.none : Option Jvm.ClassFile.FieldType), Jvm.Cond.code ({ cls := "java/lang/Math", name := "max", desc := "(JJ)J" } : Jvm.MethodName) jdk_29_method_66_code (4 : Nat) (Option.some Jvm.ClassFile.FieldType.long), Jvm.Cond.code ({ cls := "java/lang/Math", name := "min", desc := "(JJ)J" } : Jvm.MethodName) jdk_29_method_70_code (4 : Nat) (Option.some Jvm.ClassFile.FieldType.long)]
set_option maxRecDepth 65536 in
theorem codes_eq : words1.filter isCode = codes1 := rfl
theorem w_codes : ∀ c ∈ words1.filter isCode, c.before args0 about1 = true := by
  rw [codes_eq]
  intro c hc
  simp only [codes1, List.mem_cons, List.not_mem_nil, or_false] at hc
  rcases hc with rfl | rfl | rfl | rfl | rfl | rfl | rfl
  · exact w_c0
  · exact w_c1
  · exact w_c2
  · exact w_c3
  · exact w_c4
  · exact w_c5
  · exact w_c6
set_option maxRecDepth 65536 in
theorem w_t1 : (words1.take 24).all (fun c => isCode c || c.before args0 about1) = true := by decide +kernel
set_option maxRecDepth 65536 in
theorem w_t2 : (words1.drop 24).all (fun c => isCode c || c.before args0 about1) = true := by decide +kernel
theorem w_tables : (allAtoms (Jvm.Cond.code x code maxLocals ret :: tables_1)).before args0 about1 = true := by
  rw [allAtoms_all]
  show words1.all (fun c => c.before args0 about1) = true
  refine all_split ?_ w_codes
  rw [← List.take_append_drop 24 words1, List.all_append, w_t1, w_t2]
  rfl
set_option maxRecDepth 65536 in
theorem w_case : (Jvm.Cond.and given_1 narrow_1).before args0 about1 = true := by decide +kernel
theorem w_applies : (headSpec (Jvm.Cond.code x code maxLocals ret :: tables_1) room_1).applies x e0.platform about1 = true :=
  (Spec.applies_iff w_frames).mpr ⟨w_running, w_runnable, w_alone, w_named, w_hears, w_ripe, w_room, w_tables⟩
theorem atStart : AtStart classFile x code maxLocals ret World_1 tables_1 room_1 Calls_1 rest_1 Pre_1 launch0 p0 e0 about1 theMethod args0 below0 :=
  ⟨lists_1, trivial, launch0.admits_env _ _ _, launch0.least_env, fairChoices_fair.cas, fairChoices_fair.clock, w_frames, w_args, w_heap, w_applies, trivial, trivial, w_case⟩
end start1
theorem witness_1 : WitnessClaimed_1 := ⟨start1.p0, start1.e0, start1.about1, start1.theMethod, start1.args0, start1.below0, start1.atStart⟩
end Jvm.Pilot.@@N@@
