import JvmDerived
import JvmDerived.Pilot.@@N@@Statement
import JvmDerived.Pilot.@@N@@Code
set_option linter.unusedVariables false
set_option linter.unusedSimpArgs false
namespace Jvm.Pilot.@@N@@
open Jvm Jvm.ClassFile Sem Op Lib Jvm.Free Jvm.Stand Jvm.LawKit Jvm.RoadKit Bundle Jvm.Pilot.@@N@@.Jvm.D
section Own
variable {p : Program} {l : Launch} {e : Env} {R : Room} {s : State} {m : MethodId} {args : Array Value} {below : List Frame} {meth : Method} {c : Code} {T : State} {locs : List Loc} {cells slots : Nat}
/-- from the frame g on top of T the invocation comes to its end, and there QQ holds of what it returns, of the heap and of what it wrote -/
def own_Run (p : Program) (e : Env) (below : List Frame) (s : State) (QQ : Option Value → Heap → List Loc → Prop) (C S : Nat) (T : State) (g : JFrame) : Prop :=
  ∃ s₂ v L, Steps p.tables e below (T.setTop g) s₂ ∧ s₂.status = .running ∧ Ended s₂ below (.returned v) ∧ QQ v s₂.heap L ∧ FrameEnd s (.returned v) s₂ L C S
variable {QQ : Option Value → Heap → List Loc → Prop} {C S : Nat}
theorem own_enter {g : JFrame} {ml : Nat} (q : entryFrame m args ml = g) (k : own_Run p e below s QQ C S T g) :
    ∃ s₂ o, Steps p.tables e below (T.setTop (entryFrame m args ml)) s₂ ∧ s₂.status = .running ∧ Ended s₂ below o ∧ ∃ v L, o = .returned v ∧ QQ v s₂.heap L ∧ FrameEnd s o s₂ L C S := by
  subst q
  obtain ⟨s₂, v, L, h1, h2, h3, h4, h5⟩ := k
  exact ⟨s₂, _, h1, h2, h3, v, L, rfl, h4, h5⟩
theorem own_step {g g' : JFrame} {T' : State} (h : ∀ t, Steps p.tables e below (T'.setTop g') t → Steps p.tables e below (T.setTop g) t) (k : own_Run p e below s QQ C S T' g') : own_Run p e below s QQ C S T g := by
  obtain ⟨s₂, v, L, h1, h2⟩ := k
  exact ⟨s₂, v, L, h _ h1, h2⟩
theorem own_end (X : Stand p l e R s m args below meth c T locs cells slots) {v : Option Value} (hv : meth.sig.returnType = none → v = none) (hlocks : meth.locks = false) {g : JFrame} (hc : cells ≤ C) (hs : slots ≤ S) (hq : QQ v T.heap locs)
    (k : ∀ fs, (∀ (f : JFrame) (acts : List Action), f.method = m → f.locked = none → f.entered = [] → (doReturn e (T.setTop f) acts v).1 = T.setFrames fs) → Steps p.tables e below (T.setTop g) (T.setFrames fs)) : own_Run p e below s QQ C S T g := by
  obtain ⟨fs, hr, hrun, hended, hW, hsame⟩ := X.leave (v := v) hv hlocks
  exact ⟨_, v, locs, k fs hr, hrun, hended, hq, ⟨_, rfl⟩, hW, hsame.mono hc hs⟩
theorem own_retN (X : Stand p l e R s m args below meth c T locs cells slots) (hx : p.tables.exec = Jvm.exec) {pc : Nat} {Ls : Array Slot} {z : Int32} {t : FieldType} {rest : List Value} (hret : meth.sig.returnType = some t) (ht : t = .boolean ∨ t = .byte ∨ t = .char ∨ t = .short)
    (hd : decode c.code pc = .ok (.ireturn, 1)) (hlocks : meth.locks = false) (hc : cells ≤ C) (hs : slots ≤ S) (hq : QQ (some (.int (nar t z))) T.heap locs) : own_Run p e below s QQ C S T (mkF m pc Ls (.int z :: rest)) :=
  own_end X (fun h => by rw [hret] at h; cases h) hlocks hc hs hq (fun fs hr => retN X hx hret ht hd hr)
theorem own_retI (X : Stand p l e R s m args below meth c T locs cells slots) (hx : p.tables.exec = Jvm.exec) {pc : Nat} {Ls : Array Slot} {z : Int32} {rest : List Value} (hret : meth.sig.returnType = some .int)
    (hd : decode c.code pc = .ok (.ireturn, 1)) (hlocks : meth.locks = false) (hc : cells ≤ C) (hs : slots ≤ S) (hq : QQ (some (.int z)) T.heap locs) : own_Run p e below s QQ C S T (mkF m pc Ls (.int z :: rest)) :=
  own_end X (fun h => by rw [hret] at h; cases h) hlocks hc hs hq (fun fs hr => retOut X hx hret rfl (Or.inl ⟨rfl, Or.inl rfl, _, rfl⟩) hd hr)
theorem own_retJ (X : Stand p l e R s m args below meth c T locs cells slots) (hx : p.tables.exec = Jvm.exec) {pc : Nat} {Ls : Array Slot} {z : Int64} {rest : List Value} (hret : meth.sig.returnType = some .long)
    (hd : decode c.code pc = .ok (.lreturn, 1)) (hlocks : meth.locks = false) (hc : cells ≤ C) (hs : slots ≤ S) (hq : QQ (some (.long z)) T.heap locs) : own_Run p e below s QQ C S T (mkF m pc Ls (.long z :: rest)) :=
  own_end X (fun h => by rw [hret] at h; cases h) hlocks hc hs hq (fun fs hr => retOut X hx hret rfl (Or.inr (Or.inl ⟨rfl, rfl, _, rfl⟩)) hd hr)
theorem own_retA (X : Stand p l e R s m args below meth c T locs cells slots) (hx : p.tables.exec = Jvm.exec) {pc : Nat} {Ls : Array Slot} {w : Value} {t : FieldType} {rest : List Value} (hret : meth.sig.returnType = some t) (ht : t.isReference = true) (hw : w.isRef = true)
    (hd : decode c.code pc = .ok (.areturn, 1)) (hlocks : meth.locks = false) (hc : cells ≤ C) (hs : slots ≤ S) (hq : QQ (some w) T.heap locs) : own_Run p e below s QQ C S T (mkF m pc Ls (w :: rest)) :=
  own_end X (fun h => by rw [hret] at h; cases h) hlocks hc hs hq (fun fs hr => retOut X hx hret (by cases t <;> first | rfl | cases ht) (Or.inr (Or.inr (Or.inr (Or.inr ⟨rfl, ht, hw⟩)))) hd hr)
theorem own_retV (X : Stand p l e R s m args below meth c T locs cells slots) (hx : p.tables.exec = Jvm.exec) {pc : Nat} {Ls : Array Slot} (hret : meth.sig.returnType = none)
    (hd : decode c.code pc = .ok (.return_, 1)) (hlocks : meth.locks = false) (hc : cells ≤ C) (hs : slots ≤ S) (hq : QQ none T.heap locs) : own_Run p e below s QQ C S T (mkF m pc Ls []) :=
  own_end X (fun _ => rfl) hlocks hc hs hq (fun fs hr => X.returnOut hx hret hd hr)
end Own
/-- one of two ints, by a proposition -/
def own_pick (P : Prop) [Decidable P] (a b : Int32) : Int32 := if P then a else b
def own_pickJ (P : Prop) [Decidable P] (a b : Int64) : Int64 := if P then a else b
theorem own_pick_pos {P : Prop} [Decidable P] {a b : Int32} (h : P) : own_pick P a b = a := if_pos h
theorem own_pick_neg {P : Prop} [Decidable P] {a b : Int32} (h : ¬ P) : own_pick P a b = b := if_neg h
theorem own_pickJ_pos {P : Prop} [Decidable P] {a b : Int64} (h : P) : own_pickJ P a b = a := if_pos h
theorem own_pickJ_neg {P : Prop} [Decidable P] {a b : Int64} (h : ¬ P) : own_pickJ P a b = b := if_neg h
section OwnMat
variable {tb : Tables} [Ours tb] {e : Env} {below : List Frame} {T target : State} {m : MethodId} {c : Code} {pc : Nat} {Ls : Array Slot} {x y : Int32} {rest : List Value} {a b : Int} {cd : ClassFile.Cond}
theorem own_mat_i (h : At T m c below) (hx : tb.exec = Jvm.exec) (hd0 : decode c.code pc = .ok (.if_icmp cd 7, 3)) (hd1 : decode c.code (pc + 3) = .ok (.iconst a, 1)) (hd2 : decode c.code (pc + 4) = .ok (.goto 4, 3)) (hd3 : decode c.code (pc + 7) = .ok (.iconst b, 1))
    {w : Int32} (hT : if_icmp.holds cd x y = true → w = Int32.ofInt b) (hF : if_icmp.holds cd x y = false → w = Int32.ofInt a) (hr : Steps tb e below (T.setTop (mkF m (pc + 8) Ls (.int w :: rest))) target) : Steps tb e below (T.setTop (mkF m pc Ls (.int y :: .int x :: rest))) target := by
  cases q : if_icmp.holds cd x y
  · rw [hF q] at hr
    exact XS.icmpNo h hx rfl hd0 rfl q (XS.iconst h hx rfl hd1 (XS.goto h hx rfl (pc0 := pc + 4) (pc' := pc + 8) rfl hd2 (by omega) (by omega) hr))
  · rw [hT q] at hr
    exact XS.icmpYes h hx rfl (pc0 := pc) (pc' := pc + 7) rfl hd0 rfl q (by omega) (by omega) (XS.iconst h hx rfl hd3 hr)
theorem own_mat_c (h : At T m c below) (hx : tb.exec = Jvm.exec) (hd0 : decode c.code pc = .ok (.ifCond cd 7, 3)) (hd1 : decode c.code (pc + 3) = .ok (.iconst a, 1)) (hd2 : decode c.code (pc + 4) = .ok (.goto 4, 3)) (hd3 : decode c.code (pc + 7) = .ok (.iconst b, 1))
    {w : Int32} (hT : if_icmp.holds cd x 0 = true → w = Int32.ofInt b) (hF : if_icmp.holds cd x 0 = false → w = Int32.ofInt a) (hr : Steps tb e below (T.setTop (mkF m (pc + 8) Ls (.int w :: rest))) target) : Steps tb e below (T.setTop (mkF m pc Ls (.int x :: rest))) target := by
  cases q : if_icmp.holds cd x 0
  · rw [hF q] at hr
    exact XS.ifNo h hx rfl hd0 rfl ((if0 _ _).trans q) (XS.iconst h hx rfl hd1 (XS.goto h hx rfl (pc0 := pc + 4) (pc' := pc + 8) rfl hd2 (by omega) (by omega) hr))
  · rw [hT q] at hr
    exact XS.ifYes h hx rfl (pc0 := pc) (pc' := pc + 7) rfl hd0 rfl ((if0 _ _).trans q) (by omega) (by omega) (XS.iconst h hx rfl hd3 hr)
theorem own_mat_i_eq (h : At T m c below) (hx : tb.exec = Jvm.exec) (hg : m = m) (hd0 : decode c.code pc = .ok (.if_icmp .eq 7, 3)) (hd1 : decode c.code (pc + 3) = .ok (.iconst a, 1)) (hd2 : decode c.code (pc + 4) = .ok (.goto 4, 3)) (hd3 : decode c.code (pc + 7) = .ok (.iconst b, 1))
    (hr : Steps tb e below (T.setTop (mkF m (pc + 8) Ls (.int (own_pick (x = y) (Int32.ofInt b) (Int32.ofInt a)) :: rest))) target) : Steps tb e below (T.setTop (mkF m pc Ls (.int y :: .int x :: rest))) target :=
  own_mat_i h hx hd0 hd1 hd2 hd3 (fun q => by by_cases z : x = y <;> simp [own_pick, z] <;> (first | rw [(teq z).1] at q | rw [(feq z).1] at q) <;> cases q) (fun q => by by_cases z : x = y <;> simp [own_pick, z] <;> (first | rw [(teq z).1] at q | rw [(feq z).1] at q) <;> cases q) hr
theorem own_mat_i_ne (h : At T m c below) (hx : tb.exec = Jvm.exec) (hg : m = m) (hd0 : decode c.code pc = .ok (.if_icmp .ne 7, 3)) (hd1 : decode c.code (pc + 3) = .ok (.iconst a, 1)) (hd2 : decode c.code (pc + 4) = .ok (.goto 4, 3)) (hd3 : decode c.code (pc + 7) = .ok (.iconst b, 1))
    (hr : Steps tb e below (T.setTop (mkF m (pc + 8) Ls (.int (own_pick (x = y) (Int32.ofInt a) (Int32.ofInt b)) :: rest))) target) : Steps tb e below (T.setTop (mkF m pc Ls (.int y :: .int x :: rest))) target :=
  own_mat_i h hx hd0 hd1 hd2 hd3 (fun q => by by_cases z : x = y <;> simp [own_pick, z] <;> (first | rw [(teq z).2] at q | rw [(feq z).2] at q) <;> cases q) (fun q => by by_cases z : x = y <;> simp [own_pick, z] <;> (first | rw [(teq z).2] at q | rw [(feq z).2] at q) <;> cases q) hr
theorem own_mat_i_lt (h : At T m c below) (hx : tb.exec = Jvm.exec) (hg : m = m) (hd0 : decode c.code pc = .ok (.if_icmp .lt 7, 3)) (hd1 : decode c.code (pc + 3) = .ok (.iconst a, 1)) (hd2 : decode c.code (pc + 4) = .ok (.goto 4, 3)) (hd3 : decode c.code (pc + 7) = .ok (.iconst b, 1))
    (hr : Steps tb e below (T.setTop (mkF m (pc + 8) Ls (.int (own_pick (x < y) (Int32.ofInt b) (Int32.ofInt a)) :: rest))) target) : Steps tb e below (T.setTop (mkF m pc Ls (.int y :: .int x :: rest))) target :=
  own_mat_i h hx hd0 hd1 hd2 hd3 (fun q => by by_cases z : x < y <;> simp [own_pick, z] <;> (first | rw [(tlt z).1] at q | rw [(flt z).1] at q) <;> cases q) (fun q => by by_cases z : x < y <;> simp [own_pick, z] <;> (first | rw [(tlt z).1] at q | rw [(flt z).1] at q) <;> cases q) hr
theorem own_mat_i_ge (h : At T m c below) (hx : tb.exec = Jvm.exec) (hg : m = m) (hd0 : decode c.code pc = .ok (.if_icmp .ge 7, 3)) (hd1 : decode c.code (pc + 3) = .ok (.iconst a, 1)) (hd2 : decode c.code (pc + 4) = .ok (.goto 4, 3)) (hd3 : decode c.code (pc + 7) = .ok (.iconst b, 1))
    (hr : Steps tb e below (T.setTop (mkF m (pc + 8) Ls (.int (own_pick (x < y) (Int32.ofInt a) (Int32.ofInt b)) :: rest))) target) : Steps tb e below (T.setTop (mkF m pc Ls (.int y :: .int x :: rest))) target :=
  own_mat_i h hx hd0 hd1 hd2 hd3 (fun q => by by_cases z : x < y <;> simp [own_pick, z] <;> (first | rw [(tlt z).2.1] at q | rw [(flt z).2.1] at q) <;> cases q) (fun q => by by_cases z : x < y <;> simp [own_pick, z] <;> (first | rw [(tlt z).2.1] at q | rw [(flt z).2.1] at q) <;> cases q) hr
theorem own_mat_i_gt (h : At T m c below) (hx : tb.exec = Jvm.exec) (hg : m = m) (hd0 : decode c.code pc = .ok (.if_icmp .gt 7, 3)) (hd1 : decode c.code (pc + 3) = .ok (.iconst a, 1)) (hd2 : decode c.code (pc + 4) = .ok (.goto 4, 3)) (hd3 : decode c.code (pc + 7) = .ok (.iconst b, 1))
    (hr : Steps tb e below (T.setTop (mkF m (pc + 8) Ls (.int (own_pick (y < x) (Int32.ofInt b) (Int32.ofInt a)) :: rest))) target) : Steps tb e below (T.setTop (mkF m pc Ls (.int y :: .int x :: rest))) target :=
  own_mat_i h hx hd0 hd1 hd2 hd3 (fun q => by by_cases z : y < x <;> simp [own_pick, z] <;> (first | rw [(tlt z).2.2.1] at q | rw [(flt z).2.2.1] at q) <;> cases q) (fun q => by by_cases z : y < x <;> simp [own_pick, z] <;> (first | rw [(tlt z).2.2.1] at q | rw [(flt z).2.2.1] at q) <;> cases q) hr
theorem own_mat_i_le (h : At T m c below) (hx : tb.exec = Jvm.exec) (hg : m = m) (hd0 : decode c.code pc = .ok (.if_icmp .le 7, 3)) (hd1 : decode c.code (pc + 3) = .ok (.iconst a, 1)) (hd2 : decode c.code (pc + 4) = .ok (.goto 4, 3)) (hd3 : decode c.code (pc + 7) = .ok (.iconst b, 1))
    (hr : Steps tb e below (T.setTop (mkF m (pc + 8) Ls (.int (own_pick (y < x) (Int32.ofInt a) (Int32.ofInt b)) :: rest))) target) : Steps tb e below (T.setTop (mkF m pc Ls (.int y :: .int x :: rest))) target :=
  own_mat_i h hx hd0 hd1 hd2 hd3 (fun q => by by_cases z : y < x <;> simp [own_pick, z] <;> (first | rw [(tlt z).2.2.2] at q | rw [(flt z).2.2.2] at q) <;> cases q) (fun q => by by_cases z : y < x <;> simp [own_pick, z] <;> (first | rw [(tlt z).2.2.2] at q | rw [(flt z).2.2.2] at q) <;> cases q) hr
theorem own_mat_c_eq (h : At T m c below) (hx : tb.exec = Jvm.exec) (hg : m = m) (hd0 : decode c.code pc = .ok (.ifCond .eq 7, 3)) (hd1 : decode c.code (pc + 3) = .ok (.iconst a, 1)) (hd2 : decode c.code (pc + 4) = .ok (.goto 4, 3)) (hd3 : decode c.code (pc + 7) = .ok (.iconst b, 1))
    (hr : Steps tb e below (T.setTop (mkF m (pc + 8) Ls (.int (own_pick (x = (0 : Int32)) (Int32.ofInt b) (Int32.ofInt a)) :: rest))) target) : Steps tb e below (T.setTop (mkF m pc Ls (.int x :: rest))) target :=
  own_mat_c h hx hd0 hd1 hd2 hd3 (fun q => by by_cases z : x = (0 : Int32) <;> simp [own_pick, z] <;> (first | rw [(teq z).1] at q | rw [(feq z).1] at q) <;> cases q) (fun q => by by_cases z : x = (0 : Int32) <;> simp [own_pick, z] <;> (first | rw [(teq z).1] at q | rw [(feq z).1] at q) <;> cases q) hr
theorem own_mat_c_ne (h : At T m c below) (hx : tb.exec = Jvm.exec) (hg : m = m) (hd0 : decode c.code pc = .ok (.ifCond .ne 7, 3)) (hd1 : decode c.code (pc + 3) = .ok (.iconst a, 1)) (hd2 : decode c.code (pc + 4) = .ok (.goto 4, 3)) (hd3 : decode c.code (pc + 7) = .ok (.iconst b, 1))
    (hr : Steps tb e below (T.setTop (mkF m (pc + 8) Ls (.int (own_pick (x = (0 : Int32)) (Int32.ofInt a) (Int32.ofInt b)) :: rest))) target) : Steps tb e below (T.setTop (mkF m pc Ls (.int x :: rest))) target :=
  own_mat_c h hx hd0 hd1 hd2 hd3 (fun q => by by_cases z : x = (0 : Int32) <;> simp [own_pick, z] <;> (first | rw [(teq z).2] at q | rw [(feq z).2] at q) <;> cases q) (fun q => by by_cases z : x = (0 : Int32) <;> simp [own_pick, z] <;> (first | rw [(teq z).2] at q | rw [(feq z).2] at q) <;> cases q) hr
theorem own_mat_c_lt (h : At T m c below) (hx : tb.exec = Jvm.exec) (hg : m = m) (hd0 : decode c.code pc = .ok (.ifCond .lt 7, 3)) (hd1 : decode c.code (pc + 3) = .ok (.iconst a, 1)) (hd2 : decode c.code (pc + 4) = .ok (.goto 4, 3)) (hd3 : decode c.code (pc + 7) = .ok (.iconst b, 1))
    (hr : Steps tb e below (T.setTop (mkF m (pc + 8) Ls (.int (own_pick (x < (0 : Int32)) (Int32.ofInt b) (Int32.ofInt a)) :: rest))) target) : Steps tb e below (T.setTop (mkF m pc Ls (.int x :: rest))) target :=
  own_mat_c h hx hd0 hd1 hd2 hd3 (fun q => by by_cases z : x < (0 : Int32) <;> simp [own_pick, z] <;> (first | rw [(tlt z).1] at q | rw [(flt z).1] at q) <;> cases q) (fun q => by by_cases z : x < (0 : Int32) <;> simp [own_pick, z] <;> (first | rw [(tlt z).1] at q | rw [(flt z).1] at q) <;> cases q) hr
theorem own_mat_c_ge (h : At T m c below) (hx : tb.exec = Jvm.exec) (hg : m = m) (hd0 : decode c.code pc = .ok (.ifCond .ge 7, 3)) (hd1 : decode c.code (pc + 3) = .ok (.iconst a, 1)) (hd2 : decode c.code (pc + 4) = .ok (.goto 4, 3)) (hd3 : decode c.code (pc + 7) = .ok (.iconst b, 1))
    (hr : Steps tb e below (T.setTop (mkF m (pc + 8) Ls (.int (own_pick (x < (0 : Int32)) (Int32.ofInt a) (Int32.ofInt b)) :: rest))) target) : Steps tb e below (T.setTop (mkF m pc Ls (.int x :: rest))) target :=
  own_mat_c h hx hd0 hd1 hd2 hd3 (fun q => by by_cases z : x < (0 : Int32) <;> simp [own_pick, z] <;> (first | rw [(tlt z).2.1] at q | rw [(flt z).2.1] at q) <;> cases q) (fun q => by by_cases z : x < (0 : Int32) <;> simp [own_pick, z] <;> (first | rw [(tlt z).2.1] at q | rw [(flt z).2.1] at q) <;> cases q) hr
theorem own_mat_c_gt (h : At T m c below) (hx : tb.exec = Jvm.exec) (hg : m = m) (hd0 : decode c.code pc = .ok (.ifCond .gt 7, 3)) (hd1 : decode c.code (pc + 3) = .ok (.iconst a, 1)) (hd2 : decode c.code (pc + 4) = .ok (.goto 4, 3)) (hd3 : decode c.code (pc + 7) = .ok (.iconst b, 1))
    (hr : Steps tb e below (T.setTop (mkF m (pc + 8) Ls (.int (own_pick ((0 : Int32) < x) (Int32.ofInt b) (Int32.ofInt a)) :: rest))) target) : Steps tb e below (T.setTop (mkF m pc Ls (.int x :: rest))) target :=
  own_mat_c h hx hd0 hd1 hd2 hd3 (fun q => by by_cases z : (0 : Int32) < x <;> simp [own_pick, z] <;> (first | rw [(tlt z).2.2.1] at q | rw [(flt z).2.2.1] at q) <;> cases q) (fun q => by by_cases z : (0 : Int32) < x <;> simp [own_pick, z] <;> (first | rw [(tlt z).2.2.1] at q | rw [(flt z).2.2.1] at q) <;> cases q) hr
theorem own_mat_c_le (h : At T m c below) (hx : tb.exec = Jvm.exec) (hg : m = m) (hd0 : decode c.code pc = .ok (.ifCond .le 7, 3)) (hd1 : decode c.code (pc + 3) = .ok (.iconst a, 1)) (hd2 : decode c.code (pc + 4) = .ok (.goto 4, 3)) (hd3 : decode c.code (pc + 7) = .ok (.iconst b, 1))
    (hr : Steps tb e below (T.setTop (mkF m (pc + 8) Ls (.int (own_pick ((0 : Int32) < x) (Int32.ofInt a) (Int32.ofInt b)) :: rest))) target) : Steps tb e below (T.setTop (mkF m pc Ls (.int x :: rest))) target :=
  own_mat_c h hx hd0 hd1 hd2 hd3 (fun q => by by_cases z : (0 : Int32) < x <;> simp [own_pick, z] <;> (first | rw [(tlt z).2.2.2] at q | rw [(flt z).2.2.2] at q) <;> cases q) (fun q => by by_cases z : (0 : Int32) < x <;> simp [own_pick, z] <;> (first | rw [(tlt z).2.2.2] at q | rw [(flt z).2.2.2] at q) <;> cases q) hr
end OwnMat
theorem pd_0 : parseMethodDescriptor "(C)Z" = some ⟨[.char], some .boolean⟩ := by decide +kernel
def own_esc (p0 : Int32) : Int32 := (nar .boolean (((((own_pick (p0 < (32 : Int32)) (1 : Int32) (0 : Int32)) ||| ((own_pick (p0 < (127 : Int32)) (0 : Int32) (1 : Int32)) &&& (own_pick ((159 : Int32) < p0) (0 : Int32) (1 : Int32)))) ||| (own_pick ((p0 &&& (63488 : Int32)) = (55296 : Int32)) (1 : Int32) (0 : Int32))) ||| (own_pick (p0 = (92 : Int32)) (1 : Int32) (0 : Int32))) ||| (own_pick (p0 = (34 : Int32)) (1 : Int32) (0 : Int32))))
theorem d1_0 : decode prog_80_method_36_code 0 = .ok (.iload_n 0, 1) := by decide +kernel
theorem d1_1 : decode prog_80_method_36_code 1 = .ok (.bipush 32, 2) := by decide +kernel
theorem d1_3 : decode prog_80_method_36_code 3 = .ok (.if_icmp .ge 7, 3) := by decide +kernel
theorem d1_6 : decode prog_80_method_36_code 6 = .ok (.iconst 1, 1) := by decide +kernel
theorem d1_7 : decode prog_80_method_36_code 7 = .ok (.goto 4, 3) := by decide +kernel
theorem d1_10 : decode prog_80_method_36_code 10 = .ok (.iconst 0, 1) := by decide +kernel
theorem d1_11 : decode prog_80_method_36_code 11 = .ok (.iload_n 0, 1) := by decide +kernel
theorem d1_12 : decode prog_80_method_36_code 12 = .ok (.bipush 127, 2) := by decide +kernel
theorem d1_14 : decode prog_80_method_36_code 14 = .ok (.if_icmp .lt 7, 3) := by decide +kernel
theorem d1_17 : decode prog_80_method_36_code 17 = .ok (.iconst 1, 1) := by decide +kernel
theorem d1_18 : decode prog_80_method_36_code 18 = .ok (.goto 4, 3) := by decide +kernel
theorem d1_21 : decode prog_80_method_36_code 21 = .ok (.iconst 0, 1) := by decide +kernel
theorem d1_22 : decode prog_80_method_36_code 22 = .ok (.iload_n 0, 1) := by decide +kernel
theorem d1_23 : decode prog_80_method_36_code 23 = .ok (.sipush 159, 3) := by decide +kernel
theorem d1_26 : decode prog_80_method_36_code 26 = .ok (.if_icmp .gt 7, 3) := by decide +kernel
theorem d1_29 : decode prog_80_method_36_code 29 = .ok (.iconst 1, 1) := by decide +kernel
theorem d1_30 : decode prog_80_method_36_code 30 = .ok (.goto 4, 3) := by decide +kernel
theorem d1_33 : decode prog_80_method_36_code 33 = .ok (.iconst 0, 1) := by decide +kernel
theorem d1_34 : decode prog_80_method_36_code 34 = .ok (.iand, 1) := by decide +kernel
theorem d1_35 : decode prog_80_method_36_code 35 = .ok (.ior, 1) := by decide +kernel
theorem d1_36 : decode prog_80_method_36_code 36 = .ok (.iload_n 0, 1) := by decide +kernel
theorem d1_37 : decode prog_80_method_36_code 37 = .ok (.ldc_w 340, 3) := by decide +kernel
theorem d1_40 : decode prog_80_method_36_code 40 = .ok (.iand, 1) := by decide +kernel
theorem d1_41 : decode prog_80_method_36_code 41 = .ok (.ldc_w 341, 3) := by decide +kernel
theorem d1_44 : decode prog_80_method_36_code 44 = .ok (.if_icmp .ne 7, 3) := by decide +kernel
theorem d1_47 : decode prog_80_method_36_code 47 = .ok (.iconst 1, 1) := by decide +kernel
theorem d1_48 : decode prog_80_method_36_code 48 = .ok (.goto 4, 3) := by decide +kernel
theorem d1_51 : decode prog_80_method_36_code 51 = .ok (.iconst 0, 1) := by decide +kernel
theorem d1_52 : decode prog_80_method_36_code 52 = .ok (.ior, 1) := by decide +kernel
theorem d1_53 : decode prog_80_method_36_code 53 = .ok (.iload_n 0, 1) := by decide +kernel
theorem d1_54 : decode prog_80_method_36_code 54 = .ok (.bipush 92, 2) := by decide +kernel
theorem d1_56 : decode prog_80_method_36_code 56 = .ok (.if_icmp .ne 7, 3) := by decide +kernel
theorem d1_59 : decode prog_80_method_36_code 59 = .ok (.iconst 1, 1) := by decide +kernel
theorem d1_60 : decode prog_80_method_36_code 60 = .ok (.goto 4, 3) := by decide +kernel
theorem d1_63 : decode prog_80_method_36_code 63 = .ok (.iconst 0, 1) := by decide +kernel
theorem d1_64 : decode prog_80_method_36_code 64 = .ok (.ior, 1) := by decide +kernel
theorem d1_65 : decode prog_80_method_36_code 65 = .ok (.iload_n 0, 1) := by decide +kernel
theorem d1_66 : decode prog_80_method_36_code 66 = .ok (.bipush 34, 2) := by decide +kernel
theorem d1_68 : decode prog_80_method_36_code 68 = .ok (.if_icmp .ne 7, 3) := by decide +kernel
theorem d1_71 : decode prog_80_method_36_code 71 = .ok (.iconst 1, 1) := by decide +kernel
theorem d1_72 : decode prog_80_method_36_code 72 = .ok (.goto 4, 3) := by decide +kernel
theorem d1_75 : decode prog_80_method_36_code 75 = .ok (.iconst 0, 1) := by decide +kernel
theorem d1_76 : decode prog_80_method_36_code 76 = .ok (.ior, 1) := by decide +kernel
theorem d1_77 : decode prog_80_method_36_code 77 = .ok (.ireturn, 1) := by decide +kernel
theorem pn_rm1 : plainName "bytelens/ConstantPool" = true := by first | (simp [plainName, overriddenIn]; done) | decide +kernel
theorem ef_rm1 (m : MethodId) (p0 : Int32) : entryFrame m #[(.int p0)] 1 = mkF m 0 #[.val (.int p0)] [] := by first | (simp [entryFrame, mkF, argsToLocals, Value.category, maxLocals]; done) | rfl
def rm1_Q (Z : State) (p0 : Int32)  (h0 : Heap) (n0 : Nat) (v : Option Value) (h : Heap) (L : List Loc) : Prop := v = some (.int (own_esc p0)) ∧ Fr n0 L ∧ h = h0
set_option maxRecDepth 65536 in
set_option maxHeartbeats 40000000 in
theorem rm1 (l : Launch) (Z : State) (a0 : Array Value) (hw : ∀ d ∈ tables_1, d.before a0 Z = true) (ws : List Jvm.Cond) (p0 : Int32)  (h0 : Heap) (n0 : Nat) (Z0 : n0 ≤ h0.size)  :
    MetFree l (⟨"bytelens/ConstantPool", "isEscaped", "(C)Z"⟩ : MethodName) (head1 (Jvm.Cond.code (⟨"bytelens/ConstantPool", "isEscaped", "(C)Z"⟩ : MethodName) prog_80_method_36_code 1 (some .boolean) :: ws) ({ frames := 0, cells := 0, slots := 0, locals := 0 } : Room)) (fun a U => a = #[(.int p0)] ∧ Z.Warmed39 U.vm ∧ U.heap = h0) (fun _ _ _ _ _ => True) (fun _ U o U' => ∃ v L, o = .returned v ∧ rm1_Q Z p0 h0 n0 v U'.heap L ∧ FrameEnd U o U' L ({ frames := 0, cells := 0, slots := 0, locals := 0 } : Room).cells ({ frames := 0, cells := 0, slots := 0, locals := 0 } : Room).slots) := by
  refine MetFree.of_bodySF (plainFor_of_name pn_rm1) hisR ?_
  intro p e s m args below meth c s₁ Bd hml0 hP hK
  obtain ⟨rfl, hZ, hh⟩ := hP
  have hx := Bd.exec
  have hby := Bd.bytes
  have hml : c.maxLocals = 1 := hml0
  have hown : s.vm.findClass "bytelens/ConstantPool" = some m.cls := findClass_of_methodNamed Bd.named
  have hnm := (name_of_methodNamed Bd.named Bd.method).1
  have X0 : Stand p l e ({ frames := 0, cells := 0, slots := 0, locals := 0 } : Room) s m #[(.int p0)] below meth c s₁ [] 0 0 := Stand.of_body Bd
  have e0 : s₁.heap = h0 := by rw [← hh, Bd.state]; rfl
  have N0 := Fr.nil n0
  refine own_enter (QQ := rm1_Q Z p0 h0 n0) (ef_rm1 m p0) ?_
  show own_Run p e below s _ _ _ s₁ (mkF m 0 #[.val (.int p0)] [])
  refine own_step (T' := s₁) (g' := (mkF m 77 #[.val (.int p0)] [(.int (((((own_pick (p0 < (32 : Int32)) (1 : Int32) (0 : Int32)) ||| ((own_pick (p0 < (127 : Int32)) (0 : Int32) (1 : Int32)) &&& (own_pick ((159 : Int32) < p0) (0 : Int32) (1 : Int32)))) ||| (own_pick ((p0 &&& (63488 : Int32)) = (55296 : Int32)) (1 : Int32) (0 : Int32))) ||| (own_pick (p0 = (92 : Int32)) (1 : Int32) (0 : Int32))) ||| (own_pick (p0 = (34 : Int32)) (1 : Int32) (0 : Int32))))])) (fun t k => ?_) ?_
  · show Steps p.tables e below (s₁.setTop (mkF m 0 #[.val (.int p0)] [])) _
    refine XS.iloadN X0.here hx rfl (hb hby d1_0) rfl ?_
    show Steps p.tables e below (s₁.setTop (mkF m 1 #[.val (.int p0)] [(.int p0)])) _
    refine XS.bipush X0.here hx rfl (hb hby d1_1) ?_
    show Steps p.tables e below (s₁.setTop (mkF m 3 #[.val (.int p0)] [(.int (32 : Int32)), (.int p0)])) _
    refine own_mat_i_ge X0.here hx rfl (hb hby d1_3) (hb hby d1_6) (hb hby d1_7) (hb hby d1_10) ?_
    show Steps p.tables e below (s₁.setTop (mkF m 11 #[.val (.int p0)] [(.int (own_pick (p0 < (32 : Int32)) (1 : Int32) (0 : Int32)))])) _
    refine XS.iloadN X0.here hx rfl (hb hby d1_11) rfl ?_
    show Steps p.tables e below (s₁.setTop (mkF m 12 #[.val (.int p0)] [(.int p0), (.int (own_pick (p0 < (32 : Int32)) (1 : Int32) (0 : Int32)))])) _
    refine XS.bipush X0.here hx rfl (hb hby d1_12) ?_
    show Steps p.tables e below (s₁.setTop (mkF m 14 #[.val (.int p0)] [(.int (127 : Int32)), (.int p0), (.int (own_pick (p0 < (32 : Int32)) (1 : Int32) (0 : Int32)))])) _
    refine own_mat_i_lt X0.here hx rfl (hb hby d1_14) (hb hby d1_17) (hb hby d1_18) (hb hby d1_21) ?_
    show Steps p.tables e below (s₁.setTop (mkF m 22 #[.val (.int p0)] [(.int (own_pick (p0 < (127 : Int32)) (0 : Int32) (1 : Int32))), (.int (own_pick (p0 < (32 : Int32)) (1 : Int32) (0 : Int32)))])) _
    refine XS.iloadN X0.here hx rfl (hb hby d1_22) rfl ?_
    show Steps p.tables e below (s₁.setTop (mkF m 23 #[.val (.int p0)] [(.int p0), (.int (own_pick (p0 < (127 : Int32)) (0 : Int32) (1 : Int32))), (.int (own_pick (p0 < (32 : Int32)) (1 : Int32) (0 : Int32)))])) _
    refine XS.sipush X0.here hx rfl (hb hby d1_23) ?_
    show Steps p.tables e below (s₁.setTop (mkF m 26 #[.val (.int p0)] [(.int (159 : Int32)), (.int p0), (.int (own_pick (p0 < (127 : Int32)) (0 : Int32) (1 : Int32))), (.int (own_pick (p0 < (32 : Int32)) (1 : Int32) (0 : Int32)))])) _
    refine own_mat_i_gt X0.here hx rfl (hb hby d1_26) (hb hby d1_29) (hb hby d1_30) (hb hby d1_33) ?_
    show Steps p.tables e below (s₁.setTop (mkF m 34 #[.val (.int p0)] [(.int (own_pick ((159 : Int32) < p0) (0 : Int32) (1 : Int32))), (.int (own_pick (p0 < (127 : Int32)) (0 : Int32) (1 : Int32))), (.int (own_pick (p0 < (32 : Int32)) (1 : Int32) (0 : Int32)))])) _
    refine XS.iand X0.here hx rfl (hb hby d1_34) rfl ?_
    show Steps p.tables e below (s₁.setTop (mkF m 35 #[.val (.int p0)] [(.int ((own_pick (p0 < (127 : Int32)) (0 : Int32) (1 : Int32)) &&& (own_pick ((159 : Int32) < p0) (0 : Int32) (1 : Int32)))), (.int (own_pick (p0 < (32 : Int32)) (1 : Int32) (0 : Int32)))])) _
    refine XS.ior X0.here hx rfl (hb hby d1_35) rfl ?_
    show Steps p.tables e below (s₁.setTop (mkF m 36 #[.val (.int p0)] [(.int ((own_pick (p0 < (32 : Int32)) (1 : Int32) (0 : Int32)) ||| ((own_pick (p0 < (127 : Int32)) (0 : Int32) (1 : Int32)) &&& (own_pick ((159 : Int32) < p0) (0 : Int32) (1 : Int32)))))])) _
    refine XS.iloadN X0.here hx rfl (hb hby d1_36) rfl ?_
    show Steps p.tables e below (s₁.setTop (mkF m 37 #[.val (.int p0)] [(.int p0), (.int ((own_pick (p0 < (32 : Int32)) (1 : Int32) (0 : Int32)) ||| ((own_pick (p0 < (127 : Int32)) (0 : Int32) (1 : Int32)) &&& (own_pick ((159 : Int32) < p0) (0 : Int32) (1 : Int32)))))])) _
    refine X0.ldcwInt hx hown (mvT hZ (hw _ (List.mem_of_getElem? (i := 4) rfl))) (g := (mkF m 37 #[.val (.int p0)] [(.int p0), (.int ((own_pick (p0 < (32 : Int32)) (1 : Int32) (0 : Int32)) ||| ((own_pick (p0 < (127 : Int32)) (0 : Int32) (1 : Int32)) &&& (own_pick ((159 : Int32) < p0) (0 : Int32) (1 : Int32)))))])) rfl (hb hby d1_37) _ ?_
    show Steps p.tables e below (s₁.setTop (mkF m 40 #[.val (.int p0)] [(.int (63488 : Int32)), (.int p0), (.int ((own_pick (p0 < (32 : Int32)) (1 : Int32) (0 : Int32)) ||| ((own_pick (p0 < (127 : Int32)) (0 : Int32) (1 : Int32)) &&& (own_pick ((159 : Int32) < p0) (0 : Int32) (1 : Int32)))))])) _
    refine XS.iand X0.here hx rfl (hb hby d1_40) rfl ?_
    show Steps p.tables e below (s₁.setTop (mkF m 41 #[.val (.int p0)] [(.int (p0 &&& (63488 : Int32))), (.int ((own_pick (p0 < (32 : Int32)) (1 : Int32) (0 : Int32)) ||| ((own_pick (p0 < (127 : Int32)) (0 : Int32) (1 : Int32)) &&& (own_pick ((159 : Int32) < p0) (0 : Int32) (1 : Int32)))))])) _
    refine X0.ldcwInt hx hown (mvT hZ (hw _ (List.mem_of_getElem? (i := 5) rfl))) (g := (mkF m 41 #[.val (.int p0)] [(.int (p0 &&& (63488 : Int32))), (.int ((own_pick (p0 < (32 : Int32)) (1 : Int32) (0 : Int32)) ||| ((own_pick (p0 < (127 : Int32)) (0 : Int32) (1 : Int32)) &&& (own_pick ((159 : Int32) < p0) (0 : Int32) (1 : Int32)))))])) rfl (hb hby d1_41) _ ?_
    show Steps p.tables e below (s₁.setTop (mkF m 44 #[.val (.int p0)] [(.int (55296 : Int32)), (.int (p0 &&& (63488 : Int32))), (.int ((own_pick (p0 < (32 : Int32)) (1 : Int32) (0 : Int32)) ||| ((own_pick (p0 < (127 : Int32)) (0 : Int32) (1 : Int32)) &&& (own_pick ((159 : Int32) < p0) (0 : Int32) (1 : Int32)))))])) _
    refine own_mat_i_ne X0.here hx rfl (hb hby d1_44) (hb hby d1_47) (hb hby d1_48) (hb hby d1_51) ?_
    show Steps p.tables e below (s₁.setTop (mkF m 52 #[.val (.int p0)] [(.int (own_pick ((p0 &&& (63488 : Int32)) = (55296 : Int32)) (1 : Int32) (0 : Int32))), (.int ((own_pick (p0 < (32 : Int32)) (1 : Int32) (0 : Int32)) ||| ((own_pick (p0 < (127 : Int32)) (0 : Int32) (1 : Int32)) &&& (own_pick ((159 : Int32) < p0) (0 : Int32) (1 : Int32)))))])) _
    refine XS.ior X0.here hx rfl (hb hby d1_52) rfl ?_
    show Steps p.tables e below (s₁.setTop (mkF m 53 #[.val (.int p0)] [(.int (((own_pick (p0 < (32 : Int32)) (1 : Int32) (0 : Int32)) ||| ((own_pick (p0 < (127 : Int32)) (0 : Int32) (1 : Int32)) &&& (own_pick ((159 : Int32) < p0) (0 : Int32) (1 : Int32)))) ||| (own_pick ((p0 &&& (63488 : Int32)) = (55296 : Int32)) (1 : Int32) (0 : Int32))))])) _
    refine XS.iloadN X0.here hx rfl (hb hby d1_53) rfl ?_
    show Steps p.tables e below (s₁.setTop (mkF m 54 #[.val (.int p0)] [(.int p0), (.int (((own_pick (p0 < (32 : Int32)) (1 : Int32) (0 : Int32)) ||| ((own_pick (p0 < (127 : Int32)) (0 : Int32) (1 : Int32)) &&& (own_pick ((159 : Int32) < p0) (0 : Int32) (1 : Int32)))) ||| (own_pick ((p0 &&& (63488 : Int32)) = (55296 : Int32)) (1 : Int32) (0 : Int32))))])) _
    refine XS.bipush X0.here hx rfl (hb hby d1_54) ?_
    show Steps p.tables e below (s₁.setTop (mkF m 56 #[.val (.int p0)] [(.int (92 : Int32)), (.int p0), (.int (((own_pick (p0 < (32 : Int32)) (1 : Int32) (0 : Int32)) ||| ((own_pick (p0 < (127 : Int32)) (0 : Int32) (1 : Int32)) &&& (own_pick ((159 : Int32) < p0) (0 : Int32) (1 : Int32)))) ||| (own_pick ((p0 &&& (63488 : Int32)) = (55296 : Int32)) (1 : Int32) (0 : Int32))))])) _
    refine own_mat_i_ne X0.here hx rfl (hb hby d1_56) (hb hby d1_59) (hb hby d1_60) (hb hby d1_63) ?_
    show Steps p.tables e below (s₁.setTop (mkF m 64 #[.val (.int p0)] [(.int (own_pick (p0 = (92 : Int32)) (1 : Int32) (0 : Int32))), (.int (((own_pick (p0 < (32 : Int32)) (1 : Int32) (0 : Int32)) ||| ((own_pick (p0 < (127 : Int32)) (0 : Int32) (1 : Int32)) &&& (own_pick ((159 : Int32) < p0) (0 : Int32) (1 : Int32)))) ||| (own_pick ((p0 &&& (63488 : Int32)) = (55296 : Int32)) (1 : Int32) (0 : Int32))))])) _
    refine XS.ior X0.here hx rfl (hb hby d1_64) rfl ?_
    show Steps p.tables e below (s₁.setTop (mkF m 65 #[.val (.int p0)] [(.int ((((own_pick (p0 < (32 : Int32)) (1 : Int32) (0 : Int32)) ||| ((own_pick (p0 < (127 : Int32)) (0 : Int32) (1 : Int32)) &&& (own_pick ((159 : Int32) < p0) (0 : Int32) (1 : Int32)))) ||| (own_pick ((p0 &&& (63488 : Int32)) = (55296 : Int32)) (1 : Int32) (0 : Int32))) ||| (own_pick (p0 = (92 : Int32)) (1 : Int32) (0 : Int32))))])) _
    refine XS.iloadN X0.here hx rfl (hb hby d1_65) rfl ?_
    show Steps p.tables e below (s₁.setTop (mkF m 66 #[.val (.int p0)] [(.int p0), (.int ((((own_pick (p0 < (32 : Int32)) (1 : Int32) (0 : Int32)) ||| ((own_pick (p0 < (127 : Int32)) (0 : Int32) (1 : Int32)) &&& (own_pick ((159 : Int32) < p0) (0 : Int32) (1 : Int32)))) ||| (own_pick ((p0 &&& (63488 : Int32)) = (55296 : Int32)) (1 : Int32) (0 : Int32))) ||| (own_pick (p0 = (92 : Int32)) (1 : Int32) (0 : Int32))))])) _
    refine XS.bipush X0.here hx rfl (hb hby d1_66) ?_
    show Steps p.tables e below (s₁.setTop (mkF m 68 #[.val (.int p0)] [(.int (34 : Int32)), (.int p0), (.int ((((own_pick (p0 < (32 : Int32)) (1 : Int32) (0 : Int32)) ||| ((own_pick (p0 < (127 : Int32)) (0 : Int32) (1 : Int32)) &&& (own_pick ((159 : Int32) < p0) (0 : Int32) (1 : Int32)))) ||| (own_pick ((p0 &&& (63488 : Int32)) = (55296 : Int32)) (1 : Int32) (0 : Int32))) ||| (own_pick (p0 = (92 : Int32)) (1 : Int32) (0 : Int32))))])) _
    refine own_mat_i_ne X0.here hx rfl (hb hby d1_68) (hb hby d1_71) (hb hby d1_72) (hb hby d1_75) ?_
    show Steps p.tables e below (s₁.setTop (mkF m 76 #[.val (.int p0)] [(.int (own_pick (p0 = (34 : Int32)) (1 : Int32) (0 : Int32))), (.int ((((own_pick (p0 < (32 : Int32)) (1 : Int32) (0 : Int32)) ||| ((own_pick (p0 < (127 : Int32)) (0 : Int32) (1 : Int32)) &&& (own_pick ((159 : Int32) < p0) (0 : Int32) (1 : Int32)))) ||| (own_pick ((p0 &&& (63488 : Int32)) = (55296 : Int32)) (1 : Int32) (0 : Int32))) ||| (own_pick (p0 = (92 : Int32)) (1 : Int32) (0 : Int32))))])) _
    refine XS.ior X0.here hx rfl (hb hby d1_76) rfl ?_
    show Steps p.tables e below (s₁.setTop (mkF m 77 #[.val (.int p0)] [(.int (((((own_pick (p0 < (32 : Int32)) (1 : Int32) (0 : Int32)) ||| ((own_pick (p0 < (127 : Int32)) (0 : Int32) (1 : Int32)) &&& (own_pick ((159 : Int32) < p0) (0 : Int32) (1 : Int32)))) ||| (own_pick ((p0 &&& (63488 : Int32)) = (55296 : Int32)) (1 : Int32) (0 : Int32))) ||| (own_pick (p0 = (92 : Int32)) (1 : Int32) (0 : Int32))) ||| (own_pick (p0 = (34 : Int32)) (1 : Int32) (0 : Int32))))])) _
    exact k
  refine own_retN X0 hx (t := .boolean) Bd.returns (by simp) (hb hby d1_77) (BodyLoose.notSynchronized Bd) (by decide) (by decide) ?_
  rw [show s₁.heap = h0 from e0]
  exact ⟨rfl, N0, rfl⟩
def own_exp (p0 : Int32) : Int32 := if p0 < 32 then 1 else if p0 = 34 then 1 else if p0 = 92 then 1 else if p0 < 127 then 0 else if 159 < p0 then (if p0 < 55296 then 0 else if 57343 < p0 then 0 else 1) else 1
theorem d2_0 : decode method_2_code 0 = .ok (.iload_n 0, 1) := by decide +kernel
theorem d2_1 : decode method_2_code 1 = .ok (.bipush 32, 2) := by decide +kernel
theorem d2_3 : decode method_2_code 3 = .ok (.if_icmp .ge 5, 3) := by decide +kernel
theorem d2_6 : decode method_2_code 6 = .ok (.iconst 1, 1) := by decide +kernel
theorem d2_7 : decode method_2_code 7 = .ok (.ireturn, 1) := by decide +kernel
theorem d2_8 : decode method_2_code 8 = .ok (.iload_n 0, 1) := by decide +kernel
theorem d2_9 : decode method_2_code 9 = .ok (.bipush 34, 2) := by decide +kernel
theorem d2_11 : decode method_2_code 11 = .ok (.if_icmp .eq 9, 3) := by decide +kernel
theorem d2_14 : decode method_2_code 14 = .ok (.iload_n 0, 1) := by decide +kernel
theorem d2_15 : decode method_2_code 15 = .ok (.bipush 92, 2) := by decide +kernel
theorem d2_17 : decode method_2_code 17 = .ok (.if_icmp .ne 5, 3) := by decide +kernel
theorem d2_20 : decode method_2_code 20 = .ok (.iconst 1, 1) := by decide +kernel
theorem d2_21 : decode method_2_code 21 = .ok (.ireturn, 1) := by decide +kernel
theorem d2_22 : decode method_2_code 22 = .ok (.iload_n 0, 1) := by decide +kernel
theorem d2_23 : decode method_2_code 23 = .ok (.bipush 127, 2) := by decide +kernel
theorem d2_25 : decode method_2_code 25 = .ok (.if_icmp .ge 5, 3) := by decide +kernel
theorem d2_28 : decode method_2_code 28 = .ok (.iconst 0, 1) := by decide +kernel
theorem d2_29 : decode method_2_code 29 = .ok (.ireturn, 1) := by decide +kernel
theorem d2_30 : decode method_2_code 30 = .ok (.iload_n 0, 1) := by decide +kernel
theorem d2_31 : decode method_2_code 31 = .ok (.sipush 159, 3) := by decide +kernel
theorem d2_34 : decode method_2_code 34 = .ok (.if_icmp .gt 5, 3) := by decide +kernel
theorem d2_37 : decode method_2_code 37 = .ok (.iconst 1, 1) := by decide +kernel
theorem d2_38 : decode method_2_code 38 = .ok (.ireturn, 1) := by decide +kernel
theorem d2_39 : decode method_2_code 39 = .ok (.iload_n 0, 1) := by decide +kernel
theorem d2_40 : decode method_2_code 40 = .ok (.ldc 7, 2) := by decide +kernel
theorem d2_42 : decode method_2_code 42 = .ok (.if_icmp .ge 5, 3) := by decide +kernel
theorem d2_45 : decode method_2_code 45 = .ok (.iconst 0, 1) := by decide +kernel
theorem d2_46 : decode method_2_code 46 = .ok (.ireturn, 1) := by decide +kernel
theorem d2_47 : decode method_2_code 47 = .ok (.iload_n 0, 1) := by decide +kernel
theorem d2_48 : decode method_2_code 48 = .ok (.ldc 8, 2) := by decide +kernel
theorem d2_50 : decode method_2_code 50 = .ok (.if_icmp .gt 5, 3) := by decide +kernel
theorem d2_53 : decode method_2_code 53 = .ok (.iconst 1, 1) := by decide +kernel
theorem d2_54 : decode method_2_code 54 = .ok (.ireturn, 1) := by decide +kernel
theorem d2_55 : decode method_2_code 55 = .ok (.iconst 0, 1) := by decide +kernel
theorem d2_56 : decode method_2_code 56 = .ok (.ireturn, 1) := by decide +kernel
theorem pn_rm2 : plainName "bytelens/ConstantPoolIsEscapedPinLaw" = true := by first | (simp [plainName, overriddenIn]; done) | decide +kernel
theorem ef_rm2 (m : MethodId) (p0 : Int32) : entryFrame m #[(.int p0)] 1 = mkF m 0 #[.val (.int p0)] [] := by first | (simp [entryFrame, mkF, argsToLocals, Value.category, maxLocals]; done) | rfl
def rm2_Q (Z : State) (p0 : Int32)  (h0 : Heap) (n0 : Nat) (v : Option Value) (h : Heap) (L : List Loc) : Prop := v = some (.int (own_exp p0)) ∧ Fr n0 L ∧ h = h0
set_option maxRecDepth 65536 in
set_option maxHeartbeats 40000000 in
theorem rm2 (l : Launch) (Z : State) (a0 : Array Value) (hw : ∀ d ∈ tables_1, d.before a0 Z = true) (ws : List Jvm.Cond) (p0 : Int32)  (h0 : Heap) (n0 : Nat) (Z0 : n0 ≤ h0.size)  :
    MetFree l (⟨"bytelens/ConstantPoolIsEscapedPinLaw", "expected", "(C)Z"⟩ : MethodName) (head1 (Jvm.Cond.code (⟨"bytelens/ConstantPoolIsEscapedPinLaw", "expected", "(C)Z"⟩ : MethodName) method_2_code 1 (some .boolean) :: ws) ({ frames := 0, cells := 0, slots := 0, locals := 0 } : Room)) (fun a U => a = #[(.int p0)] ∧ Z.Warmed39 U.vm ∧ U.heap = h0) (fun _ _ _ _ _ => True) (fun _ U o U' => ∃ v L, o = .returned v ∧ rm2_Q Z p0 h0 n0 v U'.heap L ∧ FrameEnd U o U' L ({ frames := 0, cells := 0, slots := 0, locals := 0 } : Room).cells ({ frames := 0, cells := 0, slots := 0, locals := 0 } : Room).slots) := by
  refine MetFree.of_bodySF (plainFor_of_name pn_rm2) hisR ?_
  intro p e s m args below meth c s₁ Bd hml0 hP hK
  obtain ⟨rfl, hZ, hh⟩ := hP
  have hx := Bd.exec
  have hby := Bd.bytes
  have hml : c.maxLocals = 1 := hml0
  have hown : s.vm.findClass "bytelens/ConstantPoolIsEscapedPinLaw" = some m.cls := findClass_of_methodNamed Bd.named
  have hnm := (name_of_methodNamed Bd.named Bd.method).1
  have X0 : Stand p l e ({ frames := 0, cells := 0, slots := 0, locals := 0 } : Room) s m #[(.int p0)] below meth c s₁ [] 0 0 := Stand.of_body Bd
  have e0 : s₁.heap = h0 := by rw [← hh, Bd.state]; rfl
  have N0 := Fr.nil n0
  refine own_enter (QQ := rm2_Q Z p0 h0 n0) (ef_rm2 m p0) ?_
  show own_Run p e below s _ _ _ s₁ (mkF m 0 #[.val (.int p0)] [])
  refine own_step (T' := s₁) (g' := (mkF m 3 #[.val (.int p0)] [(.int (32 : Int32)), (.int p0)])) (fun t k => ?_) ?_
  · show Steps p.tables e below (s₁.setTop (mkF m 0 #[.val (.int p0)] [])) _
    refine XS.iloadN X0.here hx rfl (hb hby d2_0) rfl ?_
    show Steps p.tables e below (s₁.setTop (mkF m 1 #[.val (.int p0)] [(.int p0)])) _
    refine XS.bipush X0.here hx rfl (hb hby d2_1) ?_
    show Steps p.tables e below (s₁.setTop (mkF m 3 #[.val (.int p0)] [(.int (32 : Int32)), (.int p0)])) _
    exact k
  by_cases hc1 : p0 < (32 : Int32)
  · skip
    refine own_step (T' := s₁) (g' := (mkF m 7 #[.val (.int p0)] [(.int (1 : Int32))])) (fun t k => ?_) ?_
    · show Steps p.tables e below (s₁.setTop (mkF m 3 #[.val (.int p0)] [(.int (32 : Int32)), (.int p0)])) _
      refine XS.icmpNo X0.here hx rfl (hb hby d2_3) rfl (tlt hc1).2.1 ?_
      show Steps p.tables e below (s₁.setTop (mkF m 6 #[.val (.int p0)] [])) _
      refine XS.iconst X0.here hx rfl (hb hby d2_6) ?_
      show Steps p.tables e below (s₁.setTop (mkF m 7 #[.val (.int p0)] [(.int (1 : Int32))])) _
      exact k
    refine own_retN X0 hx (t := .boolean) Bd.returns (by simp) (hb hby d2_7) (BodyLoose.notSynchronized Bd) (by decide) (by decide) ?_
    rw [show s₁.heap = h0 from e0]
    exact ⟨by rw [show own_exp p0 = (1 : Int32) from by simp [own_exp, hc1]]; rfl, N0, rfl⟩
  · skip
    refine own_step (T' := s₁) (g' := (mkF m 11 #[.val (.int p0)] [(.int (34 : Int32)), (.int p0)])) (fun t k => ?_) ?_
    · show Steps p.tables e below (s₁.setTop (mkF m 3 #[.val (.int p0)] [(.int (32 : Int32)), (.int p0)])) _
      refine XS.icmpYes X0.here hx rfl (pc0 := 3) (pc' := 8) rfl (hb hby d2_3) rfl (flt hc1).2.1 (by decide) (by decide) ?_
      show Steps p.tables e below (s₁.setTop (mkF m 8 #[.val (.int p0)] [])) _
      refine XS.iloadN X0.here hx rfl (hb hby d2_8) rfl ?_
      show Steps p.tables e below (s₁.setTop (mkF m 9 #[.val (.int p0)] [(.int p0)])) _
      refine XS.bipush X0.here hx rfl (hb hby d2_9) ?_
      show Steps p.tables e below (s₁.setTop (mkF m 11 #[.val (.int p0)] [(.int (34 : Int32)), (.int p0)])) _
      exact k
    by_cases hc2 : p0 = (34 : Int32)
    · skip
      refine own_step (T' := s₁) (g' := (mkF m 21 #[.val (.int p0)] [(.int (1 : Int32))])) (fun t k => ?_) ?_
      · show Steps p.tables e below (s₁.setTop (mkF m 11 #[.val (.int p0)] [(.int (34 : Int32)), (.int p0)])) _
        refine XS.icmpYes X0.here hx rfl (pc0 := 11) (pc' := 20) rfl (hb hby d2_11) rfl (teq hc2).1 (by decide) (by decide) ?_
        show Steps p.tables e below (s₁.setTop (mkF m 20 #[.val (.int p0)] [])) _
        refine XS.iconst X0.here hx rfl (hb hby d2_20) ?_
        show Steps p.tables e below (s₁.setTop (mkF m 21 #[.val (.int p0)] [(.int (1 : Int32))])) _
        exact k
      refine own_retN X0 hx (t := .boolean) Bd.returns (by simp) (hb hby d2_21) (BodyLoose.notSynchronized Bd) (by decide) (by decide) ?_
      rw [show s₁.heap = h0 from e0]
      exact ⟨by rw [show own_exp p0 = (1 : Int32) from by simp [own_exp, hc1, hc2]]; rfl, N0, rfl⟩
    · skip
      refine own_step (T' := s₁) (g' := (mkF m 17 #[.val (.int p0)] [(.int (92 : Int32)), (.int p0)])) (fun t k => ?_) ?_
      · show Steps p.tables e below (s₁.setTop (mkF m 11 #[.val (.int p0)] [(.int (34 : Int32)), (.int p0)])) _
        refine XS.icmpNo X0.here hx rfl (hb hby d2_11) rfl (feq hc2).1 ?_
        show Steps p.tables e below (s₁.setTop (mkF m 14 #[.val (.int p0)] [])) _
        refine XS.iloadN X0.here hx rfl (hb hby d2_14) rfl ?_
        show Steps p.tables e below (s₁.setTop (mkF m 15 #[.val (.int p0)] [(.int p0)])) _
        refine XS.bipush X0.here hx rfl (hb hby d2_15) ?_
        show Steps p.tables e below (s₁.setTop (mkF m 17 #[.val (.int p0)] [(.int (92 : Int32)), (.int p0)])) _
        exact k
      by_cases hc3 : p0 = (92 : Int32)
      · skip
        refine own_step (T' := s₁) (g' := (mkF m 21 #[.val (.int p0)] [(.int (1 : Int32))])) (fun t k => ?_) ?_
        · show Steps p.tables e below (s₁.setTop (mkF m 17 #[.val (.int p0)] [(.int (92 : Int32)), (.int p0)])) _
          refine XS.icmpNo X0.here hx rfl (hb hby d2_17) rfl (teq hc3).2 ?_
          show Steps p.tables e below (s₁.setTop (mkF m 20 #[.val (.int p0)] [])) _
          refine XS.iconst X0.here hx rfl (hb hby d2_20) ?_
          show Steps p.tables e below (s₁.setTop (mkF m 21 #[.val (.int p0)] [(.int (1 : Int32))])) _
          exact k
        refine own_retN X0 hx (t := .boolean) Bd.returns (by simp) (hb hby d2_21) (BodyLoose.notSynchronized Bd) (by decide) (by decide) ?_
        rw [show s₁.heap = h0 from e0]
        exact ⟨by rw [show own_exp p0 = (1 : Int32) from by simp [own_exp, hc1, hc2, hc3]]; rfl, N0, rfl⟩
      · skip
        refine own_step (T' := s₁) (g' := (mkF m 25 #[.val (.int p0)] [(.int (127 : Int32)), (.int p0)])) (fun t k => ?_) ?_
        · show Steps p.tables e below (s₁.setTop (mkF m 17 #[.val (.int p0)] [(.int (92 : Int32)), (.int p0)])) _
          refine XS.icmpYes X0.here hx rfl (pc0 := 17) (pc' := 22) rfl (hb hby d2_17) rfl (feq hc3).2 (by decide) (by decide) ?_
          show Steps p.tables e below (s₁.setTop (mkF m 22 #[.val (.int p0)] [])) _
          refine XS.iloadN X0.here hx rfl (hb hby d2_22) rfl ?_
          show Steps p.tables e below (s₁.setTop (mkF m 23 #[.val (.int p0)] [(.int p0)])) _
          refine XS.bipush X0.here hx rfl (hb hby d2_23) ?_
          show Steps p.tables e below (s₁.setTop (mkF m 25 #[.val (.int p0)] [(.int (127 : Int32)), (.int p0)])) _
          exact k
        by_cases hc4 : p0 < (127 : Int32)
        · skip
          refine own_step (T' := s₁) (g' := (mkF m 29 #[.val (.int p0)] [(.int (0 : Int32))])) (fun t k => ?_) ?_
          · show Steps p.tables e below (s₁.setTop (mkF m 25 #[.val (.int p0)] [(.int (127 : Int32)), (.int p0)])) _
            refine XS.icmpNo X0.here hx rfl (hb hby d2_25) rfl (tlt hc4).2.1 ?_
            show Steps p.tables e below (s₁.setTop (mkF m 28 #[.val (.int p0)] [])) _
            refine XS.iconst X0.here hx rfl (hb hby d2_28) ?_
            show Steps p.tables e below (s₁.setTop (mkF m 29 #[.val (.int p0)] [(.int (0 : Int32))])) _
            exact k
          refine own_retN X0 hx (t := .boolean) Bd.returns (by simp) (hb hby d2_29) (BodyLoose.notSynchronized Bd) (by decide) (by decide) ?_
          rw [show s₁.heap = h0 from e0]
          exact ⟨by rw [show own_exp p0 = (0 : Int32) from by simp [own_exp, hc1, hc2, hc3, hc4]]; rfl, N0, rfl⟩
        · skip
          refine own_step (T' := s₁) (g' := (mkF m 34 #[.val (.int p0)] [(.int (159 : Int32)), (.int p0)])) (fun t k => ?_) ?_
          · show Steps p.tables e below (s₁.setTop (mkF m 25 #[.val (.int p0)] [(.int (127 : Int32)), (.int p0)])) _
            refine XS.icmpYes X0.here hx rfl (pc0 := 25) (pc' := 30) rfl (hb hby d2_25) rfl (flt hc4).2.1 (by decide) (by decide) ?_
            show Steps p.tables e below (s₁.setTop (mkF m 30 #[.val (.int p0)] [])) _
            refine XS.iloadN X0.here hx rfl (hb hby d2_30) rfl ?_
            show Steps p.tables e below (s₁.setTop (mkF m 31 #[.val (.int p0)] [(.int p0)])) _
            refine XS.sipush X0.here hx rfl (hb hby d2_31) ?_
            show Steps p.tables e below (s₁.setTop (mkF m 34 #[.val (.int p0)] [(.int (159 : Int32)), (.int p0)])) _
            exact k
          by_cases hc5 : (159 : Int32) < p0
          · skip
            refine own_step (T' := s₁) (g' := (mkF m 42 #[.val (.int p0)] [(.int (55296 : Int32)), (.int p0)])) (fun t k => ?_) ?_
            · show Steps p.tables e below (s₁.setTop (mkF m 34 #[.val (.int p0)] [(.int (159 : Int32)), (.int p0)])) _
              refine XS.icmpYes X0.here hx rfl (pc0 := 34) (pc' := 39) rfl (hb hby d2_34) rfl (tlt hc5).2.2.1 (by decide) (by decide) ?_
              show Steps p.tables e below (s₁.setTop (mkF m 39 #[.val (.int p0)] [])) _
              refine XS.iloadN X0.here hx rfl (hb hby d2_39) rfl ?_
              show Steps p.tables e below (s₁.setTop (mkF m 40 #[.val (.int p0)] [(.int p0)])) _
              refine X0.ldcInt hx hown (mvT hZ (hw _ (List.mem_of_getElem? (i := 10) rfl))) (g := (mkF m 40 #[.val (.int p0)] [(.int p0)])) rfl (hb hby d2_40) _ ?_
              show Steps p.tables e below (s₁.setTop (mkF m 42 #[.val (.int p0)] [(.int (55296 : Int32)), (.int p0)])) _
              exact k
            by_cases hc6 : p0 < (55296 : Int32)
            · skip
              refine own_step (T' := s₁) (g' := (mkF m 46 #[.val (.int p0)] [(.int (0 : Int32))])) (fun t k => ?_) ?_
              · show Steps p.tables e below (s₁.setTop (mkF m 42 #[.val (.int p0)] [(.int (55296 : Int32)), (.int p0)])) _
                refine XS.icmpNo X0.here hx rfl (hb hby d2_42) rfl (tlt hc6).2.1 ?_
                show Steps p.tables e below (s₁.setTop (mkF m 45 #[.val (.int p0)] [])) _
                refine XS.iconst X0.here hx rfl (hb hby d2_45) ?_
                show Steps p.tables e below (s₁.setTop (mkF m 46 #[.val (.int p0)] [(.int (0 : Int32))])) _
                exact k
              refine own_retN X0 hx (t := .boolean) Bd.returns (by simp) (hb hby d2_46) (BodyLoose.notSynchronized Bd) (by decide) (by decide) ?_
              rw [show s₁.heap = h0 from e0]
              exact ⟨by rw [show own_exp p0 = (0 : Int32) from by simp [own_exp, hc1, hc2, hc3, hc4, hc5, hc6]]; rfl, N0, rfl⟩
            · skip
              refine own_step (T' := s₁) (g' := (mkF m 50 #[.val (.int p0)] [(.int (57343 : Int32)), (.int p0)])) (fun t k => ?_) ?_
              · show Steps p.tables e below (s₁.setTop (mkF m 42 #[.val (.int p0)] [(.int (55296 : Int32)), (.int p0)])) _
                refine XS.icmpYes X0.here hx rfl (pc0 := 42) (pc' := 47) rfl (hb hby d2_42) rfl (flt hc6).2.1 (by decide) (by decide) ?_
                show Steps p.tables e below (s₁.setTop (mkF m 47 #[.val (.int p0)] [])) _
                refine XS.iloadN X0.here hx rfl (hb hby d2_47) rfl ?_
                show Steps p.tables e below (s₁.setTop (mkF m 48 #[.val (.int p0)] [(.int p0)])) _
                refine X0.ldcInt hx hown (mvT hZ (hw _ (List.mem_of_getElem? (i := 11) rfl))) (g := (mkF m 48 #[.val (.int p0)] [(.int p0)])) rfl (hb hby d2_48) _ ?_
                show Steps p.tables e below (s₁.setTop (mkF m 50 #[.val (.int p0)] [(.int (57343 : Int32)), (.int p0)])) _
                exact k
              by_cases hc7 : (57343 : Int32) < p0
              · skip
                refine own_step (T' := s₁) (g' := (mkF m 56 #[.val (.int p0)] [(.int (0 : Int32))])) (fun t k => ?_) ?_
                · show Steps p.tables e below (s₁.setTop (mkF m 50 #[.val (.int p0)] [(.int (57343 : Int32)), (.int p0)])) _
                  refine XS.icmpYes X0.here hx rfl (pc0 := 50) (pc' := 55) rfl (hb hby d2_50) rfl (tlt hc7).2.2.1 (by decide) (by decide) ?_
                  show Steps p.tables e below (s₁.setTop (mkF m 55 #[.val (.int p0)] [])) _
                  refine XS.iconst X0.here hx rfl (hb hby d2_55) ?_
                  show Steps p.tables e below (s₁.setTop (mkF m 56 #[.val (.int p0)] [(.int (0 : Int32))])) _
                  exact k
                refine own_retN X0 hx (t := .boolean) Bd.returns (by simp) (hb hby d2_56) (BodyLoose.notSynchronized Bd) (by decide) (by decide) ?_
                rw [show s₁.heap = h0 from e0]
                exact ⟨by rw [show own_exp p0 = (0 : Int32) from by simp [own_exp, hc1, hc2, hc3, hc4, hc5, hc6, hc7]]; rfl, N0, rfl⟩
              · skip
                refine own_step (T' := s₁) (g' := (mkF m 54 #[.val (.int p0)] [(.int (1 : Int32))])) (fun t k => ?_) ?_
                · show Steps p.tables e below (s₁.setTop (mkF m 50 #[.val (.int p0)] [(.int (57343 : Int32)), (.int p0)])) _
                  refine XS.icmpNo X0.here hx rfl (hb hby d2_50) rfl (flt hc7).2.2.1 ?_
                  show Steps p.tables e below (s₁.setTop (mkF m 53 #[.val (.int p0)] [])) _
                  refine XS.iconst X0.here hx rfl (hb hby d2_53) ?_
                  show Steps p.tables e below (s₁.setTop (mkF m 54 #[.val (.int p0)] [(.int (1 : Int32))])) _
                  exact k
                refine own_retN X0 hx (t := .boolean) Bd.returns (by simp) (hb hby d2_54) (BodyLoose.notSynchronized Bd) (by decide) (by decide) ?_
                rw [show s₁.heap = h0 from e0]
                exact ⟨by rw [show own_exp p0 = (1 : Int32) from by simp [own_exp, hc1, hc2, hc3, hc4, hc5, hc6, hc7]]; rfl, N0, rfl⟩
          · skip
            refine own_step (T' := s₁) (g' := (mkF m 38 #[.val (.int p0)] [(.int (1 : Int32))])) (fun t k => ?_) ?_
            · show Steps p.tables e below (s₁.setTop (mkF m 34 #[.val (.int p0)] [(.int (159 : Int32)), (.int p0)])) _
              refine XS.icmpNo X0.here hx rfl (hb hby d2_34) rfl (flt hc5).2.2.1 ?_
              show Steps p.tables e below (s₁.setTop (mkF m 37 #[.val (.int p0)] [])) _
              refine XS.iconst X0.here hx rfl (hb hby d2_37) ?_
              show Steps p.tables e below (s₁.setTop (mkF m 38 #[.val (.int p0)] [(.int (1 : Int32))])) _
              exact k
            refine own_retN X0 hx (t := .boolean) Bd.returns (by simp) (hb hby d2_38) (BodyLoose.notSynchronized Bd) (by decide) (by decide) ?_
            rw [show s₁.heap = h0 from e0]
            exact ⟨by rw [show own_exp p0 = (1 : Int32) from by simp [own_exp, hc1, hc2, hc3, hc4, hc5]]; rfl, N0, rfl⟩
theorem own_mask (n : Nat) (h : n < 65536) : n &&& 63488 = n / 2048 * 2048 := by
  apply Nat.eq_of_testBit_eq; intro i
  have e : (63488 : Nat) = (2 ^ 5 - 1) * 2 ^ 11 := by decide
  have e2 : n / 2048 * 2048 = (n / 2 ^ 11) * 2 ^ 11 := rfl
  rw [e, e2, Nat.testBit_and, Nat.testBit_mul_two_pow, Nat.testBit_mul_two_pow, Nat.testBit_two_pow_sub_one, Nat.testBit_div_two_pow]
  by_cases q : 11 ≤ i
  · by_cases r : i - 11 < 5
    · simp [q, r, show i - 11 + 11 = i by omega]
    · have : n.testBit i = false := Nat.testBit_lt_two_pow (Nat.lt_of_lt_of_le h (Nat.pow_le_pow_right (n := 2) (by decide) (show 16 ≤ i by omega)))
      simp [q, r, show i - 11 + 11 = i by omega, this]
  · simp [q]
theorem own_char (p : Int32) : ∃ n : Nat, n < 65536 ∧ p.toUInt32.toUInt16.toUInt32.toInt32 = Int32.ofNat n := by
  refine ⟨p.toUInt32.toUInt16.toNat, UInt16.toNat_lt _, ?_⟩
  generalize p.toUInt32.toUInt16 = u
  apply Int32.toBitVec_inj.mp
  apply BitVec.eq_of_toNat_eq
  have := u.toNat_lt
  rw [Int32.toBitVec_ofNat']
  simp
theorem own_toInt (n : Nat) (h : n < 65536) : (Int32.ofNat n).toInt = n := by
  rw [Int32.toInt_ofNat', show Int32.size = 4294967296 from rfl]
  rw [Int.bmod_def]; omega
theorem own_maski (n : Nat) (k : Nat) (e : n &&& 63488 = k) : (Int32.ofNat n &&& 63488) = Int32.ofNat k := by
  subst e
  apply Int32.toBitVec_inj.mp
  rw [Int32.toBitVec_and, Int32.toBitVec_ofNat', Int32.toBitVec_ofNat', BitVec.ofNat_and]
  rfl
theorem own_law0 (n : Nat) (hn : n < 65536) (em : (Int32.ofNat n &&& (63488 : Int32) = (55296 : Int32)) ↔ (55296 ≤ n ∧ n ≤ 57343)) : own_esc (Int32.ofNat n) = own_exp (Int32.ofNat n) := by
  have hi := own_toInt n hn
  have e32 : (32 : Int32).toInt = 32 := rfl
  have e127 : (127 : Int32).toInt = 127 := rfl
  have e159 : (159 : Int32).toInt = 159 := rfl
  have e34 : (34 : Int32).toInt = 34 := rfl
  have e92 : (92 : Int32).toInt = 92 := rfl
  have ea : (55296 : Int32).toInt = 55296 := rfl
  have eb : (57343 : Int32).toInt = 57343 := rfl
  unfold own_esc own_exp own_pick
  simp only [em, ← Int32.toInt_inj, Int32.lt_iff_toInt_lt, hi, e32, e127, e159, e34, e92, ea, eb]
  by_cases h1 : (n : Int) < 32
  · have a1 : ((n : Int) < 127) := by omega
    have a2 : ¬ (159 < (n : Int)) := by omega
    have a3 : ¬ (55296 ≤ n ∧ n ≤ 57343) := by omega
    have a4 : ¬ ((n : Int) = 92) := by omega
    have a5 : ¬ ((n : Int) = 34) := by omega
    simp only [h1, a1, a2, a3, a4, a5, if_true, if_false]; rfl
  · by_cases h2 : (n : Int) = 34
    · have a1 : ((n : Int) < 127) := by omega
      have a2 : ¬ (159 < (n : Int)) := by omega
      have a3 : ¬ (55296 ≤ n ∧ n ≤ 57343) := by omega
      have a4 : ¬ ((n : Int) = 92) := by omega
      simp only [h1, h2, a1, a2, a3, a4, if_true, if_false]; rfl
    · by_cases h3 : (n : Int) = 92
      · have a1 : ((n : Int) < 127) := by omega
        have a2 : ¬ (159 < (n : Int)) := by omega
        have a3 : ¬ (55296 ≤ n ∧ n ≤ 57343) := by omega
        simp only [h1, h2, h3, a1, a2, a3, if_true, if_false]; rfl
      · by_cases h4 : (n : Int) < 127
        · have a2 : ¬ (159 < (n : Int)) := by omega
          have a3 : ¬ (55296 ≤ n ∧ n ≤ 57343) := by omega
          simp only [h1, h2, h3, h4, a2, a3, if_true, if_false]; rfl
        · by_cases h5 : 159 < (n : Int)
          · by_cases h6 : (n : Int) < 55296
            · have a3 : ¬ (55296 ≤ n ∧ n ≤ 57343) := by omega
              simp only [h1, h2, h3, h4, h5, h6, a3, if_true, if_false]; rfl
            · by_cases h7 : 57343 < (n : Int)
              · have a3 : ¬ (55296 ≤ n ∧ n ≤ 57343) := by omega
                simp only [h1, h2, h3, h4, h5, h6, h7, a3, if_true, if_false]; rfl
              · have a3 : (55296 ≤ n ∧ n ≤ 57343) := by omega
                simp only [h1, h2, h3, h4, h5, h6, h7, a3, and_self, if_true, if_false]; rfl
          · have a3 : ¬ (55296 ≤ n ∧ n ≤ 57343) := by omega
            simp only [h1, h2, h3, h4, h5, a3, if_true, if_false]; rfl
theorem own_em (n : Nat) (hn : n < 65536) : (Int32.ofNat n &&& (63488 : Int32) = (55296 : Int32)) ↔ (55296 ≤ n ∧ n ≤ 57343) := by
  rw [own_maski n (n / 2048 * 2048) (own_mask n hn), ← Int32.toInt_inj, own_toInt _ (by omega), show (55296 : Int32).toInt = 55296 from rfl]
  omega
theorem own_law (p : Int32) : own_esc (p.toUInt32.toUInt16.toUInt32.toInt32) = own_exp (p.toUInt32.toUInt16.toUInt32.toInt32) := by
  obtain ⟨n, hn, e⟩ := own_char p
  rw [e]
  exact own_law0 n hn (own_em n hn)
theorem pn_rm0 : plainName "bytelens/ConstantPoolIsEscapedPinLaw" = true := by first | (simp [plainName, overriddenIn]; done) | decide +kernel
theorem ef_rm0 (m : MethodId) (p0 : Int32) : entryFrame m #[(.int p0)] maxLocals = mkF m 0 #[.val (.int p0), .unset] [] := by first | (simp [entryFrame, mkF, argsToLocals, Value.category, maxLocals]; done) | rfl
def rm0_Q (Z : State) (p0 : Int32)  (h0 : Heap) (n0 : Nat) (v : Option Value) (h : Heap) (L : List Loc) : Prop := v = some (.int (1 : Int32)) ∧ Fr n0 L
set_option maxRecDepth 65536 in
set_option maxHeartbeats 40000000 in
theorem rm0 (l : Launch) (Z : State) (a0 : Array Value) (hw : ∀ d ∈ tables_1, d.before a0 Z = true) (ws : List Jvm.Cond) (p0 : Int32)  (h0 : Heap) (n0 : Nat) (Z0 : n0 ≤ h0.size)  :
    MetFree l x (head1 (Jvm.Cond.code x code maxLocals ret :: ws) room_1) (fun a U => a = #[(.int p0)] ∧ Z.Warmed39 U.vm ∧ U.heap = h0) (fun _ _ _ _ _ => True) (fun _ U o U' => ∃ v L, o = .returned v ∧ rm0_Q Z p0 h0 n0 v U'.heap L ∧ FrameEnd U o U' L room_1.cells room_1.slots) := by
  refine MetFree.of_bodySF (plainFor_of_name pn_rm0) hisR ?_
  intro p e s m args below meth c s₁ Bd hml0 hP hK
  obtain ⟨rfl, hZ, hh⟩ := hP
  have hx := Bd.exec
  have hby := Bd.bytes
  have hml : c.maxLocals = 2 := hml0
  have hown : s.vm.findClass "bytelens/ConstantPoolIsEscapedPinLaw" = some m.cls := findClass_of_methodNamed Bd.named
  have hnm := (name_of_methodNamed Bd.named Bd.method).1
  have X0 : Stand p l e room_1 s m #[(.int p0)] below meth c s₁ [] 0 0 := Stand.of_body Bd
  have e0 : s₁.heap = h0 := by rw [← hh, Bd.state]; rfl
  have N0 := Fr.nil n0
  refine own_enter (QQ := rm0_Q Z p0 h0 n0) (ef_rm0 m p0) ?_
  show own_Run p e below s _ _ _ s₁ (mkF m 0 #[.val (.int p0), .unset] [])
  refine own_step (T' := s₁) (g' := (mkF m 4 #[.val (.int p0), .val (.int (p0.toUInt32.toUInt16.toUInt32.toInt32))] [(.int (p0.toUInt32.toUInt16.toUInt32.toInt32))])) (fun t k => ?_) ?_
  · show Steps p.tables e below (s₁.setTop (mkF m 0 #[.val (.int p0), .unset] [])) _
    refine XS.iloadN X0.here hx rfl (hb hby at_0) rfl ?_
    show Steps p.tables e below (s₁.setTop (mkF m 1 #[.val (.int p0), .unset] [(.int p0)])) _
    refine XS.i2c X0.here hx rfl (hb hby at_1) rfl ?_
    show Steps p.tables e below (s₁.setTop (mkF m 2 #[.val (.int p0), .unset] [(.int (p0.toUInt32.toUInt16.toUInt32.toInt32))])) _
    refine XS.istoreN X0.here hx rfl (hb hby at_2) rfl (l' := #[.val (.int p0), .val (.int (p0.toUInt32.toUInt16.toUInt32.toInt32))]) rfl ?_
    show Steps p.tables e below (s₁.setTop (mkF m 3 #[.val (.int p0), .val (.int (p0.toUInt32.toUInt16.toUInt32.toInt32))] [])) _
    refine XS.iloadN X0.here hx rfl (hb hby at_3) rfl ?_
    show Steps p.tables e below (s₁.setTop (mkF m 4 #[.val (.int p0), .val (.int (p0.toUInt32.toUInt16.toUInt32.toInt32))] [(.int (p0.toUInt32.toUInt16.toUInt32.toInt32))])) _
    exact k
  obtain ⟨_, _, ⟨T1, L1, k1, n1⟩, -, X1, ⟨Lc1, hQ1, l1, y1, z1⟩, st1⟩ := Jvm.LawKit.callS X0 hx (y := (⟨"bytelens/ConstantPool", "isEscaped", "(C)Z"⟩ : MethodName)) hown (mvT hZ (hw _ (List.mem_of_getElem? (i := 0) rfl))) (mvT hZ (hw _ (List.mem_of_getElem? (i := 1) rfl))) (mvT hZ (hw _ (List.mem_of_getElem? (i := 2) rfl))) (mvT hZ (hw _ (List.mem_of_getElem? (i := 3) rfl))) (by decide) (backOf (W := 0) (rm1 l Z a0 hw [] (p0.toUInt32.toUInt16.toUInt32.toInt32)  h0 n0 Z0) hZ (hw _ (List.mem_of_getElem? (i := 3) rfl)) (hw _ (List.mem_of_getElem? (i := 2) rfl)) (by decide) (by decide)) (g := (mkF m 4 #[.val (.int p0), .val (.int (p0.toUInt32.toUInt16.toUInt32.toInt32))] [(.int (p0.toUInt32.toUInt16.toUInt32.toInt32))])) rfl (by rw [hml]; rfl) (argsL := [(.int (p0.toUInt32.toUInt16.toUInt32.toInt32))]) (rest := []) (lenOf pd_0 rfl) rfl (by show 2 * 0 + _ ≤ _; exact Nat.le_of_eq rfl) (hb hby at_4) (fun _ _ => ⟨rfl, e0, (by decide : 0 + 0 ≤ _), (by decide : 0 + 0 ≤ _)⟩)
  dsimp only [Pt.U, Pt.locs, Pt.cells, Pt.slots] at X1 l1 y1 z1 st1 hQ1
  subst l1 y1 z1
  obtain ⟨rfl, N1q, eq1⟩ := hQ1
  have N1 := Fr.app N0 N1q
  refine own_step st1 ?_
  show own_Run p e below s _ _ _ T1 (mkF m 7 #[.val (.int p0), .val (.int (p0.toUInt32.toUInt16.toUInt32.toInt32))] [(.int (own_esc (p0.toUInt32.toUInt16.toUInt32.toInt32)))])
  refine own_step (T' := T1) (g' := (mkF m 8 #[.val (.int p0), .val (.int (p0.toUInt32.toUInt16.toUInt32.toInt32))] [(.int (p0.toUInt32.toUInt16.toUInt32.toInt32)), (.int (own_esc (p0.toUInt32.toUInt16.toUInt32.toInt32)))])) (fun t k => ?_) ?_
  · show Steps p.tables e below (T1.setTop (mkF m 7 #[.val (.int p0), .val (.int (p0.toUInt32.toUInt16.toUInt32.toInt32))] [(.int (own_esc (p0.toUInt32.toUInt16.toUInt32.toInt32)))])) _
    refine XS.iloadN X1.here hx rfl (hb hby at_7) rfl ?_
    show Steps p.tables e below (T1.setTop (mkF m 8 #[.val (.int p0), .val (.int (p0.toUInt32.toUInt16.toUInt32.toInt32))] [(.int (p0.toUInt32.toUInt16.toUInt32.toInt32)), (.int (own_esc (p0.toUInt32.toUInt16.toUInt32.toInt32)))])) _
    exact k
  obtain ⟨_, _, ⟨T2, L2, k2, n2⟩, -, X2, ⟨Lc2, hQ2, l2, y2, z2⟩, st2⟩ := Jvm.LawKit.callS X1 hx (y := (⟨"bytelens/ConstantPoolIsEscapedPinLaw", "expected", "(C)Z"⟩ : MethodName)) hown (mvT hZ (hw _ (List.mem_of_getElem? (i := 6) rfl))) (mvT hZ (hw _ (List.mem_of_getElem? (i := 7) rfl))) (mvT hZ (hw _ (List.mem_of_getElem? (i := 8) rfl))) (mvT hZ (hw _ (List.mem_of_getElem? (i := 9) rfl))) (by decide) (backOf (W := 1) (rm2 l Z a0 hw [] (p0.toUInt32.toUInt16.toUInt32.toInt32)  h0 n0 Z0) hZ (hw _ (List.mem_of_getElem? (i := 9) rfl)) (hw _ (List.mem_of_getElem? (i := 8) rfl)) (by decide) (by decide)) (g := (mkF m 8 #[.val (.int p0), .val (.int (p0.toUInt32.toUInt16.toUInt32.toInt32))] [(.int (p0.toUInt32.toUInt16.toUInt32.toInt32)), (.int (own_esc (p0.toUInt32.toUInt16.toUInt32.toInt32)))])) rfl (by rw [hml]; rfl) (argsL := [(.int (p0.toUInt32.toUInt16.toUInt32.toInt32))]) (rest := [(.int (own_esc (p0.toUInt32.toUInt16.toUInt32.toInt32)))]) (lenOf pd_0 rfl) rfl (by show 2 * 0 + _ ≤ _; exact Nat.le_of_eq rfl) (hb hby at_8) (fun _ _ => ⟨rfl, eq1, (by decide : 0 + 0 ≤ _), (by decide : 0 + 0 ≤ _)⟩)
  dsimp only [Pt.U, Pt.locs, Pt.cells, Pt.slots] at X2 l2 y2 z2 st2 hQ2
  subst l2 y2 z2
  obtain ⟨rfl, N2q, eq2⟩ := hQ2
  have N2 := Fr.app N1 N2q
  refine own_step st2 ?_
  show own_Run p e below s _ _ _ T2 (mkF m 11 #[.val (.int p0), .val (.int (p0.toUInt32.toUInt16.toUInt32.toInt32))] [(.int (own_exp (p0.toUInt32.toUInt16.toUInt32.toInt32))), (.int (own_esc (p0.toUInt32.toUInt16.toUInt32.toInt32)))])
  refine own_step (T' := T2) (g' := (mkF m 19 #[.val (.int p0), .val (.int (p0.toUInt32.toUInt16.toUInt32.toInt32))] [(.int (1 : Int32))])) (fun t k => ?_) ?_
  · show Steps p.tables e below (T2.setTop (mkF m 11 #[.val (.int p0), .val (.int (p0.toUInt32.toUInt16.toUInt32.toInt32))] [(.int (own_exp (p0.toUInt32.toUInt16.toUInt32.toInt32))), (.int (own_esc (p0.toUInt32.toUInt16.toUInt32.toInt32)))])) _
    refine XS.icmpNo X2.here hx rfl (hb hby at_11) rfl (teq (own_law p0)).2 ?_
    show Steps p.tables e below (T2.setTop (mkF m 14 #[.val (.int p0), .val (.int (p0.toUInt32.toUInt16.toUInt32.toInt32))] [])) _
    refine XS.iconst X2.here hx rfl (hb hby at_14) ?_
    show Steps p.tables e below (T2.setTop (mkF m 15 #[.val (.int p0), .val (.int (p0.toUInt32.toUInt16.toUInt32.toInt32))] [(.int (1 : Int32))])) _
    refine XS.goto X2.here hx rfl (pc0 := 15) (pc' := 19) rfl (hb hby at_15) (by decide) (by decide) ?_
    show Steps p.tables e below (T2.setTop (mkF m 19 #[.val (.int p0), .val (.int (p0.toUInt32.toUInt16.toUInt32.toInt32))] [(.int (1 : Int32))])) _
    exact k
  refine own_retN X2 hx (t := .boolean) Bd.returns (by simp) (hb hby at_19) (BodyLoose.notSynchronized Bd) (by decide) (by decide) ?_
  rw [show T2.heap = h0 from eq2]
  exact ⟨rfl, N2⟩
set_option maxRecDepth 65536 in
set_option maxHeartbeats 40000000 in
theorem comes_1 {Post : Tables → Env → Array Value → State → Outcome → State → Prop} (hpost : ∀ tb e args s v u, (limb_1_1.after args s (.returned v) u = true ∧ limb_1_2.after args s (.returned v) u = true ∧ True) → FrameEnd s (.returned v) u (Jvm.fieldLocs frame_1_writes args s ++ Jvm.arrayLocs frame_1_arrays args s ++ Jvm.staticLocs frame_1_statics s) 0 0 → Post tb e args s (.returned v) u) :
    ArmFor flags0 classFile x code maxLocals ret World_1 tables_1 room_1 Calls_1 rest_1 Pre_1 Post := by
  intro l hfl _ _ p e ha hc hk s m args below hf hA hF happ hP
  obtain ⟨hcalls, hrest, hpre⟩ := hP
  obtain ⟨-, -, -, hnamed, -, -, -, hat⟩ := (Spec.applies_iff hf).mp happ
  obtain ⟨hg, hn⟩ := and_e (Cond.before_iff.mp (show (Jvm.Cond.and given_1 narrow_1).before args s = true from hpre))
  obtain ⟨gc, gr0⟩ := and_e hg
  obtain ⟨w0, rfl⟩ : ∃ w0 : Value, args = #[w0] := by
    have hs : args.size = 1 := by simpa [Cond.value, given_1] using gc
    obtain ⟨L⟩ := args
    match L, hs with
    | [w0], _ => exact ⟨w0, rfl⟩
  have hw := fun d (hd : d ∈ tables_1) => atoms_spec (ws := Jvm.Cond.code x code maxLocals ret :: tables_1) hat d (List.mem_cons_of_mem _ hd)
  obtain ⟨i0, ei0⟩ := is_v gr0
  obtain rfl : w0 = (.int i0) := Option.some.inj ei0
  obtain ⟨n, o, h1, h2, h3, _, L, rfl, ⟨rfl, N⟩, hq⟩ := rm0 l s _ hw tables_1 i0  s.heap s.heap.size (Nat.le_refl _)  p e ha hc hk s m _ below hf ((Spec.applies_iff_loose hf).mp happ).1 ⟨rfl, State.Warmed39.refl s, rfl⟩ trivial
  refine ⟨n, _, h1, h2, h3, hpost _ _ _ _ _ _ ⟨Cond.after_iff.mpr rfl, Cond.after_iff.mpr (eq_i res_at (Term.int_eval (1)) rfl), trivial⟩ ⟨hq.1, hq.2.1, (hq.2.2.sift fun y hy => Or.inr (N y hy)).mono (by decide) (by decide)⟩⟩
theorem main_1_1 : Claimed_1_1 := comes_1 fun _ _ _ _ _ _ h hF => ⟨h.1, hF⟩
theorem main_1_2 : Claimed_1_2 := comes_1 fun _ _ _ _ _ _ h hF => ⟨h.2.1, hF⟩
end Jvm.Pilot.@@N@@
namespace Jvm.Pilot.@@N@@
open Jvm Jvm.ClassFile Sem Op Lib Jvm.Free Jvm.Stand Jvm.Pilot.@@N@@.Jvm.D
/-! MADE BY PROGRAM (witnessworld.py) out of the Statement's table words and the real class files: 9 classes; the members and pool entries that the words name. The judged class is class 1, her method 2. -/
namespace start1
open Jvm.ClassFile
def u (s : String) : CpInfo := .utf8 (stringToUtf16 s)
/-- a pool by its gaps: so many unusable entries, then the entry; so many at the end -/
def gap : Nat → List CpInfo → List CpInfo
  | 0, r => r
  | n + 1, r => .unusable :: gap n r
def poolList (es : List (Nat × CpInfo)) (last : Nat) : List CpInfo := es.foldr (fun e r => gap e.1 (e.2 :: r)) (gap last [])
def pool (es : List (Nat × CpInfo)) (last : Nat) : Array CpInfo := ⟨poolList es last⟩
def fileOf (pool : Array CpInfo) (this : Nat) (attrs : Array Attribute := #[]) (ms : Array MethodInfo := #[]) (fl : Nat := 33) (sup : Nat := 0) (ifs : Array Nat := #[]) (fds : Array FieldInfo := #[]) : ClassFile where
  minorVersion := 0
  majorVersion := 65
  constantPool := pool
  accessFlags := fl
  thisClass := this
  superClass := sup
  interfaces := ifs
  fields := fds
  methods := ms
  attributes := attrs
def plain (name : String) (sup : Option ClassId) : Class where
  name := name
  kind := .ordinary
  loader := none
  accessFlags := 33
  super := sup
  interfaces := #[]
  cf := none
  fields := #[]
  methods := #[]
  instanceTypes := #[]
  staticTypes := #[]
  resolved := #[]
  callSites := []
  init := .initialized
  statics := none
  mirror := none

def pool0 : Array CpInfo := pool [(5, u "<init>"), (0, u "()V"), (1, .class_ 10), (1, u "java/lang/Object")] 113

def k0m0 : Method := { name := "<init>", desc := "()V", sig := { parameters := [], returnType := none }, accessFlags := 1, code := none }
/-- java/lang/Object -/
def k0 : Class := { plain "java/lang/Object" none with
  accessFlags := 33
  interfaces := #[]
  cf := some (fileOf pool0 8 #[] #[{ accessFlags := 1, nameIndex := 5, descriptorIndex := 6, attributes := #[] }] 33 0 #[] #[])
  fields := #[]
  methods := #[k0m0]
  instanceTypes := #[]
  staticTypes := #[]
  resolved := Array.replicate 124 none
  statics := none }

def pool1 : Array CpInfo := pool [(2, .class_ 4), (1, u "java/lang/Object"), (0, u "<init>"), (0, u "()V"), (0, .integer 55296), (0, .integer 57343), (0, .methodref 10 11), (0, .class_ 12), (0, .nameAndType 13 14), (0, u "bytelens/ConstantPool"), (0, u "isEscaped"), (0, u "(C)Z"), (0, .methodref 16 17), (0, .class_ 18), (0, .nameAndType 19 14), (0, u "bytelens/ConstantPoolIsEscapedPinLaw"), (0, u "expected"), (3, u "law"), (0, u "(I)Z")] 2

def k1m0 : Method := { name := "<init>", desc := "()V", sig := { parameters := [], returnType := none }, accessFlags := 2, code := none }
def k1c1 : Code := { maxStack := 2, maxLocals := 1, code := method_2_code, exceptionTable := #[], attributes := #[] }
def k1m1 : Method := { name := "expected", desc := "(C)Z", sig := { parameters := [.char], returnType := some .boolean }, accessFlags := 10, code := some k1c1 }
def k1c2 : Code := { maxStack := 2, maxLocals := 2, code := code, exceptionTable := #[], attributes := #[] }
def k1m2 : Method := { name := "law", desc := "(I)Z", sig := { parameters := [.int], returnType := some .boolean }, accessFlags := 9, code := some k1c2 }
/-- bytelens/ConstantPoolIsEscapedPinLaw -/
def k1 : Class := { plain "bytelens/ConstantPoolIsEscapedPinLaw" (some 0) with
  accessFlags := 49
  interfaces := #[]
  cf := some (fileOf pool1 16 #[] #[{ accessFlags := 2, nameIndex := 5, descriptorIndex := 6, attributes := #[] }, { accessFlags := 10, nameIndex := 19, descriptorIndex := 14, attributes := #[] }, { accessFlags := 9, nameIndex := 23, descriptorIndex := 24, attributes := #[] }] 49 2 #[] #[])
  fields := #[]
  methods := #[k1m0, k1m1, k1m2]
  instanceTypes := #[]
  staticTypes := #[]
  resolved := Array.replicate 27 none
  statics := none }

def pool2 : Array CpInfo := pool [(2, .class_ 4), (1, u "java/lang/Object"), (3, .class_ 10), (1, u "bytelens/ConstantPool"), (0, u "entries"), (0, u "[Lbytelens/Constant;"), (2, u "count"), (0, u "I"), (0, .class_ 18), (0, u "bytelens/ConstantPool$EscapedUtf8"), (5, u "escapedUtf8"), (0, u "Lbytelens/ConstantMemo;"), (0, .class_ 27), (0, u "bytelens/ConstantPool$DecodedUtf8"), (3, u "decodedUtf8"), (0, .class_ 33), (0, u "bytelens/ConstantPool$Descriptions"), (3, u "descriptions"), (66, .class_ 106), (1, u "bytelens/ConstantPool$1"), (105, u "REFERENCE_KINDS"), (0, u "[Ljava/lang/String;"), (27, u "(C)Z"), (5, u "ASCII_IDENTIFIER_STARTS"), (0, u "[Z"), (7, u "ASCII_IDENTIFIER_PARTS"), (5, u "isEscaped"), (21, u "BYTE_DIGITS"), (0, u "Ljava/util/HexFormat;"), (36, u "HEX_DIGITS"), (0, u "[C"), (16, .integer 63488), (0, .integer 55296), (26, u "REPLACEMENT_CHARACTER"), (0, u "C")] 63

def k2c0 : Code := { maxStack := 4, maxLocals := 1, code := prog_80_method_36_code, exceptionTable := #[], attributes := #[] }
def k2m0 : Method := { name := "isEscaped", desc := "(C)Z", sig := { parameters := [.char], returnType := some .boolean }, accessFlags := 8, code := some k2c0 }
/-- bytelens/ConstantPool -/
def k2 : Class := { plain "bytelens/ConstantPool" (some 0) with
  accessFlags := 48
  interfaces := #[]
  cf := some (fileOf pool2 8 #[.nestMembers #[104, 32, 26, 17]] #[{ accessFlags := 8, nameIndex := 262, descriptorIndex := 241, attributes := #[] }] 48 2 #[] #[{ accessFlags := 26, nameIndex := 212, descriptorIndex := 213, attributes := #[] }, { accessFlags := 26, nameIndex := 322, descriptorIndex := 323, attributes := #[] }, { accessFlags := 26, nameIndex := 284, descriptorIndex := 285, attributes := #[] }, { accessFlags := 24, nameIndex := 368, descriptorIndex := 369, attributes := #[] }, { accessFlags := 26, nameIndex := 247, descriptorIndex := 248, attributes := #[] }, { accessFlags := 26, nameIndex := 256, descriptorIndex := 248, attributes := #[] }, { accessFlags := 18, nameIndex := 11, descriptorIndex := 12, attributes := #[] }, { accessFlags := 18, nameIndex := 15, descriptorIndex := 16, attributes := #[] }, { accessFlags := 18, nameIndex := 24, descriptorIndex := 25, attributes := #[] }, { accessFlags := 18, nameIndex := 31, descriptorIndex := 25, attributes := #[] }, { accessFlags := 18, nameIndex := 37, descriptorIndex := 25, attributes := #[] }])
  fields := #[{ name := "REFERENCE_KINDS", type := (.array (.object "java/lang/String")), accessFlags := 26, slot := 0, constantValue := 0 }, { name := "HEX_DIGITS", type := (.array .char), accessFlags := 26, slot := 1, constantValue := 0 }, { name := "BYTE_DIGITS", type := (.object "java/util/HexFormat"), accessFlags := 26, slot := 2, constantValue := 0 }, { name := "REPLACEMENT_CHARACTER", type := .char, accessFlags := 24, slot := 3, constantValue := 0 }, { name := "ASCII_IDENTIFIER_STARTS", type := (.array .boolean), accessFlags := 26, slot := 4, constantValue := 0 }, { name := "ASCII_IDENTIFIER_PARTS", type := (.array .boolean), accessFlags := 26, slot := 5, constantValue := 0 }, { name := "entries", type := (.array (.object "bytelens/Constant")), accessFlags := 18, slot := 0, constantValue := 0 }, { name := "count", type := .int, accessFlags := 18, slot := 1, constantValue := 0 }, { name := "escapedUtf8", type := (.object "bytelens/ConstantMemo"), accessFlags := 18, slot := 2, constantValue := 0 }, { name := "decodedUtf8", type := (.object "bytelens/ConstantMemo"), accessFlags := 18, slot := 3, constantValue := 0 }, { name := "descriptions", type := (.object "bytelens/ConstantMemo"), accessFlags := 18, slot := 4, constantValue := 0 }]
  methods := #[k2m0]
  instanceTypes := #[(.array (.object "bytelens/Constant")), .int, (.object "bytelens/ConstantMemo"), (.object "bytelens/ConstantMemo"), (.object "bytelens/ConstantMemo")]
  staticTypes := #[(.array (.object "java/lang/String")), (.array .char), (.object "java/util/HexFormat"), .char, (.array .boolean), (.array .boolean)]
  resolved := Array.replicate 433 none
  statics := none }

def pool3 : Array CpInfo := pool [(1, u "java/lang/Cloneable"), (0, .class_ 1), (0, u "java/lang/Object"), (0, .class_ 3)] 3

/-- java/lang/Cloneable -/
def k3 : Class := { plain "java/lang/Cloneable" (some 0) with
  accessFlags := 1537
  interfaces := #[]
  cf := some (fileOf pool3 2 #[] #[] 1537 4 #[] #[])
  fields := #[]
  methods := #[]
  instanceTypes := #[]
  staticTypes := #[]
  resolved := Array.replicate 8 none
  statics := none }

def pool4 : Array CpInfo := pool [(1, u "java/io/Serializable"), (0, .class_ 1), (0, u "java/lang/Object"), (0, .class_ 3)] 3

/-- java/io/Serializable -/
def k4 : Class := { plain "java/io/Serializable" (some 0) with
  accessFlags := 1537
  interfaces := #[]
  cf := some (fileOf pool4 2 #[] #[] 1537 4 #[] #[])
  fields := #[]
  methods := #[]
  instanceTypes := #[]
  staticTypes := #[]
  resolved := Array.replicate 8 none
  statics := none }

/-- the primitive byte -/
def k5 : Class := { plain "byte" none with kind := .primitive 'B', accessFlags := 0x411 }
/-- [B -/
def k6 : Class := { plain "[B" (some 0) with kind := .array 5 .byte, interfaces := #[3, 4], accessFlags := 1041 }

/-- the primitive int -/
def k7 : Class := { plain "int" none with kind := .primitive 'I', accessFlags := 0x411 }
/-- [I -/
def k8 : Class := { plain "[I" (some 0) with kind := .array 7 .int, interfaces := #[3, 4], accessFlags := 1041 }

def heap : Heap := #[]
def classes : Array Class := #[k0, k1, k2, k3, k4, k5, k6, k7, k8]
def interned : List (Array UInt16 × Addr) := []
def slotsUsed : Nat := 0
def theMethod : MethodId := ⟨1, 2⟩
def args0 : Array Value := #[.int 34]
def aboutOver (below : List Frame) : State where
  vm := { classes := classes, interned := interned.toArray }
  heap := heap
  slotsUsed := slotsUsed
  threads := #[{ frames := .invoking theMethod args0 :: below }]
def below0 : List Frame := [.native { method := ⟨0, 0⟩, args := #[] }]
def about1 : State := aboutOver below0
def p0 : Program := .bare "" "" ""
def e0 : Env := launch0.env 0 0 0
theorem w_frames : about1.frames = Frame.invoking theMethod args0 :: below0 := rfl
set_option maxRecDepth 65536 in
theorem w_args : argsFit about1.vm theMethod args0 = true := by decide +kernel
set_option maxRecDepth 65536 in
theorem w_heap : heapFits about1 = true := by decide +kernel
set_option maxRecDepth 65536 in
theorem w_runnable : about1.curStatus? = some .runnable := by decide +kernel
set_option maxRecDepth 65536 in
theorem w_alone : about1.alone = true := by decide +kernel
set_option maxRecDepth 65536 in
theorem w_named : about1.methodNamed? x = some theMethod := by decide +kernel
set_option maxRecDepth 65536 in
theorem w_hears : about1.hears theMethod below0 = true := by decide +kernel
set_option maxRecDepth 65536 in
theorem w_ripe : about1.ripe theMethod args0 below0 = true := by decide +kernel
theorem w_running : about1.status = .running := rfl
set_option maxRecDepth 65536 in
theorem w_room : about1.hasRoom e0.platform room_1 = true :=
  launch0.hasRoom_least _ room_1 (by decide +kernel) (by decide +kernel) (by decide +kernel) (by decide +kernel) (by decide +kernel) (by decide +kernel)
theorem allAtoms_all (ts : List Jvm.Cond) (a : Array Jvm.Value) (st : Jvm.State) : (allAtoms ts).before a st = ts.all (fun c => c.before a st) := by
  induction ts with
  | nil => rfl
  | cons c t ih =>
    show (Jvm.Cond.and c (allAtoms t)).before a st = _
    rw [Jvm.Cond.before_and, ih, List.all_cons]
def words1 : List Jvm.Cond := Jvm.Cond.code x code maxLocals ret :: tables_1
/-- a 'code' word, met by the world's own term for the bytes: nothing is compared byte by byte -/
theorem code_word {y : MethodName} {bytes : ByteArray} {mx : Nat} {rt : Option FieldType} {a : Array Value} {s : State} {m : MethodId} {meth : Method} {c : Code} (h1 : s.methodNamed? y = some m) (h2 : s.vm.method? m = some meth) (h3 : meth.code = some c) (h4 : c.code = bytes)
    (h5 : (c.maxLocals == mx && c.exceptionTable.isEmpty && decide (c.maxStack ≤ mostOperands) && decide (meth.sig.returnType = rt) && !meth.locks && decide (parseMethodDescriptor y.desc = some meth.sig)) = true) : (Jvm.Cond.code y bytes mx rt).before a s = true := by
  simp only [Bool.and_eq_true, beq_iff_eq, Bool.not_eq_true', decide_eq_true_eq] at h5
  obtain ⟨⟨⟨⟨⟨g1, g2⟩, g3⟩, g4⟩, g5⟩, g6⟩ := h5
  simp [Cond.before, Cond.holds, Cond.value, h1, h2, h3, h4, g1, g2, g3, g4, g5, g6]
def isCode : Jvm.Cond → Bool
  | .code _ _ _ _ => true
  | _ => false
theorem all_split {L : List Jvm.Cond} {P : Jvm.Cond → Bool} (h1 : L.all (fun c => isCode c || P c) = true) (h2 : ∀ c ∈ L.filter isCode, P c = true) : L.all P = true := by
  refine List.all_eq_true.mpr fun c hc => ?_
  have h := List.all_eq_true.mp h1 c hc
  rcases Bool.eq_false_or_eq_true (isCode c) with hi | hi
  · exact h2 c (List.mem_filter.mpr ⟨hc, hi⟩)
  · simpa [hi] using h
set_option maxRecDepth 65536 in
theorem w_c0 : (Jvm.Cond.code x code maxLocals ret).before args0 about1 = true := code_word (m := ⟨1, 2⟩) (meth := k1m2) (c := k1c2) (by decide +kernel) rfl rfl rfl (by decide +kernel)
set_option maxRecDepth 65536 in
theorem w_c1 : (Jvm.Cond.code ({ cls := "bytelens/ConstantPool", name := "isEscaped", desc := "(C)Z" } : Jvm.MethodName) prog_80_method_36_code (1 : Nat) (Option.some Jvm.ClassFile.FieldType.boolean)).before args0 about1 = true := code_word (m := ⟨2, 0⟩) (meth := k2m0) (c := k2c0) (by decide +kernel) rfl rfl rfl (by decide +kernel)
set_option maxRecDepth 65536 in
theorem w_c2 : (Jvm.Cond.code ({ cls := "bytelens/ConstantPoolIsEscapedPinLaw", name := "expected", desc := "(C)Z" } : Jvm.MethodName) method_2_code (1 : Nat) (Option.some Jvm.ClassFile.FieldType.boolean)).before args0 about1 = true := code_word (m := ⟨1, 1⟩) (meth := k1m1) (c := k1c1) (by decide +kernel) rfl rfl rfl (by decide +kernel)
def codes1 : List Jvm.Cond := [Jvm.Cond.code x code maxLocals ret, Jvm.Cond.code ({ cls := "bytelens/ConstantPool", name := "isEscaped", desc := "(C)Z" } : Jvm.MethodName) prog_80_method_36_code (1 : Nat) (Option.some Jvm.ClassFile.FieldType.boolean), Jvm.Cond.code ({ cls := "bytelens/ConstantPoolIsEscapedPinLaw", name := "expected", desc := "(C)Z" } : Jvm.MethodName) method_2_code (1 : Nat) (Option.some Jvm.ClassFile.FieldType.boolean)]
set_option maxRecDepth 65536 in
theorem codes_eq : words1.filter isCode = codes1 := rfl
theorem w_codes : ∀ c ∈ words1.filter isCode, c.before args0 about1 = true := by
  rw [codes_eq]
  intro c hc
  simp only [codes1, List.mem_cons, List.not_mem_nil, or_false] at hc
  rcases hc with rfl | rfl | rfl
  · exact w_c0
  · exact w_c1
  · exact w_c2
set_option maxRecDepth 65536 in
theorem w_t1 : words1.all (fun c => isCode c || c.before args0 about1) = true := by decide +kernel
theorem w_tables : (allAtoms (Jvm.Cond.code x code maxLocals ret :: tables_1)).before args0 about1 = true := by
  rw [allAtoms_all]
  show words1.all (fun c => c.before args0 about1) = true
  refine all_split ?_ w_codes
  rw [w_t1]
set_option maxRecDepth 65536 in
theorem w_case : (Jvm.Cond.and given_1 narrow_1).before args0 about1 = true := by decide +kernel
theorem w_applies : (headSpec (Jvm.Cond.code x code maxLocals ret :: tables_1) room_1).applies x e0.platform about1 = true :=
  (Spec.applies_iff w_frames).mpr ⟨w_running, w_runnable, w_alone, w_named, w_hears, w_ripe, w_room, w_tables⟩
theorem atStart : AtStart classFile x code maxLocals ret World_1 tables_1 room_1 Calls_1 rest_1 Pre_1 launch0 p0 e0 about1 theMethod args0 below0 :=
  ⟨lists_1, trivial, launch0.admits_env _ _ _, launch0.least_env, fairChoices_fair.cas, fairChoices_fair.clock, w_frames, w_args, w_heap, w_applies, trivial, trivial, w_case⟩
end start1
theorem witness_1 : WitnessClaimed_1 := ⟨start1.p0, start1.e0, start1.about1, start1.theMethod, start1.args0, start1.below0, start1.atStart⟩
end Jvm.Pilot.@@N@@
