import JvmDerived
import JvmDerived.Pilot.@@N@@Statement
import JvmDerived.Pilot.@@N@@Code
set_option linter.unusedVariables false
set_option linter.unusedSimpArgs false
namespace Jvm.Pilot.@@N@@
open Jvm Jvm.ClassFile Sem Op Lib Jvm.Free Jvm.Stand Jvm.LawKit Jvm.RoadKit Bundle Jvm.Pilot.@@N@@.Jvm.D
section Own
variable {p : Program} {l : Launch} {e : Env} {R : Room} {s : State} {m : MethodId} {args : Array Value} {below : List Frame} {meth : Method} {c : Code} {T : State} {locs : List Loc} {cells slots : Nat}
/-- from the frame g on top of T the invocation comes to its end, and there QQ holds of what it returns, of the heap and of what it wrote -/
def own_Run (p : Program) (e : Env) (below : List Frame) (s : State) (QQ : Option Value → Heap → List Loc → Prop) (C S : Nat) (T : State) (g : JFrame) : Prop :=
  ∃ s₂ v L, Steps p.tables e below (T.setTop g) s₂ ∧ s₂.status = .running ∧ Ended s₂ below (.returned v) ∧ QQ v s₂.heap L ∧ FrameEnd s (.returned v) s₂ L C S
variable {QQ : Option Value → Heap → List Loc → Prop} {C S : Nat}
theorem own_enter {g : JFrame} {ml : Nat} (q : entryFrame m args ml = g) (k : own_Run p e below s QQ C S T g) :
    ∃ s₂ o, Steps p.tables e below (T.setTop (entryFrame m args ml)) s₂ ∧ s₂.status = .running ∧ Ended s₂ below o ∧ ∃ v L, o = .returned v ∧ QQ v s₂.heap L ∧ FrameEnd s o s₂ L C S := by
  subst q
  obtain ⟨s₂, v, L, h1, h2, h3, h4, h5⟩ := k
  exact ⟨s₂, _, h1, h2, h3, v, L, rfl, h4, h5⟩
theorem own_step {g g' : JFrame} {T' : State} (h : ∀ t, Steps p.tables e below (T'.setTop g') t → Steps p.tables e below (T.setTop g) t) (k : own_Run p e below s QQ C S T' g') : own_Run p e below s QQ C S T g := by
  obtain ⟨s₂, v, L, h1, h2⟩ := k
  exact ⟨s₂, v, L, h _ h1, h2⟩
theorem own_end (X : Stand p l e R s m args below meth c T locs cells slots) {v : Option Value} (hv : meth.sig.returnType = none → v = none) (hlocks : meth.locks = false) {g : JFrame} (hc : cells ≤ C) (hs : slots ≤ S) (hq : QQ v T.heap locs)
    (k : ∀ fs, (∀ (f : JFrame) (acts : List Action), f.method = m → f.locked = none → f.entered = [] → (doReturn e (T.setTop f) acts v).1 = T.setFrames fs) → Steps p.tables e below (T.setTop g) (T.setFrames fs)) : own_Run p e below s QQ C S T g := by
  obtain ⟨fs, hr, hrun, hended, hW, hsame⟩ := X.leave (v := v) hv hlocks
  exact ⟨_, v, locs, k fs hr, hrun, hended, hq, ⟨_, rfl⟩, hW, hsame.mono hc hs⟩
theorem own_retN (X : Stand p l e R s m args below meth c T locs cells slots) (hx : p.tables.exec = Jvm.exec) {pc : Nat} {Ls : Array Slot} {z : Int32} {t : FieldType} {rest : List Value} (hret : meth.sig.returnType = some t) (ht : t = .boolean ∨ t = .byte ∨ t = .char ∨ t = .short)
    (hd : decode c.code pc = .ok (.ireturn, 1)) (hlocks : meth.locks = false) (hc : cells ≤ C) (hs : slots ≤ S) (hq : QQ (some (.int (nar t z))) T.heap locs) : own_Run p e below s QQ C S T (mkF m pc Ls (.int z :: rest)) :=
  own_end X (fun h => by rw [hret] at h; cases h) hlocks hc hs hq (fun fs hr => retN X hx hret ht hd hr)
theorem own_retI (X : Stand p l e R s m args below meth c T locs cells slots) (hx : p.tables.exec = Jvm.exec) {pc : Nat} {Ls : Array Slot} {z : Int32} {rest : List Value} (hret : meth.sig.returnType = some .int)
    (hd : decode c.code pc = .ok (.ireturn, 1)) (hlocks : meth.locks = false) (hc : cells ≤ C) (hs : slots ≤ S) (hq : QQ (some (.int z)) T.heap locs) : own_Run p e below s QQ C S T (mkF m pc Ls (.int z :: rest)) :=
  own_end X (fun h => by rw [hret] at h; cases h) hlocks hc hs hq (fun fs hr => retOut X hx hret rfl (Or.inl ⟨rfl, Or.inl rfl, _, rfl⟩) hd hr)
theorem own_retJ (X : Stand p l e R s m args below meth c T locs cells slots) (hx : p.tables.exec = Jvm.exec) {pc : Nat} {Ls : Array Slot} {z : Int64} {rest : List Value} (hret : meth.sig.returnType = some .long)
    (hd : decode c.code pc = .ok (.lreturn, 1)) (hlocks : meth.locks = false) (hc : cells ≤ C) (hs : slots ≤ S) (hq : QQ (some (.long z)) T.heap locs) : own_Run p e below s QQ C S T (mkF m pc Ls (.long z :: rest)) :=
  own_end X (fun h => by rw [hret] at h; cases h) hlocks hc hs hq (fun fs hr => retOut X hx hret rfl (Or.inr (Or.inl ⟨rfl, rfl, _, rfl⟩)) hd hr)
theorem own_retA (X : Stand p l e R s m args below meth c T locs cells slots) (hx : p.tables.exec = Jvm.exec) {pc : Nat} {Ls : Array Slot} {w : Value} {t : FieldType} {rest : List Value} (hret : meth.sig.returnType = some t) (ht : t.isReference = true) (hw : w.isRef = true)
    (hd : decode c.code pc = .ok (.areturn, 1)) (hlocks : meth.locks = false) (hc : cells ≤ C) (hs : slots ≤ S) (hq : QQ (some w) T.heap locs) : own_Run p e below s QQ C S T (mkF m pc Ls (w :: rest)) :=
  own_end X (fun h => by rw [hret] at h; cases h) hlocks hc hs hq (fun fs hr => retOut X hx hret (by cases t <;> first | rfl | cases ht) (Or.inr (Or.inr (Or.inr (Or.inr ⟨rfl, ht, hw⟩)))) hd hr)
theorem own_retV (X : Stand p l e R s m args below meth c T locs cells slots) (hx : p.tables.exec = Jvm.exec) {pc : Nat} {Ls : Array Slot} (hret : meth.sig.returnType = none)
    (hd : decode c.code pc = .ok (.return_, 1)) (hlocks : meth.locks = false) (hc : cells ≤ C) (hs : slots ≤ S) (hq : QQ none T.heap locs) : own_Run p e below s QQ C S T (mkF m pc Ls []) :=
  own_end X (fun _ => rfl) hlocks hc hs hq (fun fs hr => X.returnOut hx hret hd hr)
end Own
/-- one of two ints, by a proposition -/
def own_pick (P : Prop) [Decidable P] (a b : Int32) : Int32 := if P then a else b
def own_pickJ (P : Prop) [Decidable P] (a b : Int64) : Int64 := if P then a else b
theorem own_pick_pos {P : Prop} [Decidable P] {a b : Int32} (h : P) : own_pick P a b = a := if_pos h
theorem own_pick_neg {P : Prop} [Decidable P] {a b : Int32} (h : ¬ P) : own_pick P a b = b := if_neg h
theorem own_pickJ_pos {P : Prop} [Decidable P] {a b : Int64} (h : P) : own_pickJ P a b = a := if_pos h
theorem own_pickJ_neg {P : Prop} [Decidable P] {a b : Int64} (h : ¬ P) : own_pickJ P a b = b := if_neg h
section OwnMat
variable {tb : Tables} [Ours tb] {e : Env} {below : List Frame} {T target : State} {m : MethodId} {c : Code} {pc : Nat} {Ls : Array Slot} {x y : Int32} {rest : List Value} {a b : Int} {cd : ClassFile.Cond}
theorem own_mat_i (h : At T m c below) (hx : tb.exec = Jvm.exec) (hd0 : decode c.code pc = .ok (.if_icmp cd 7, 3)) (hd1 : decode c.code (pc + 3) = .ok (.iconst a, 1)) (hd2 : decode c.code (pc + 4) = .ok (.goto 4, 3)) (hd3 : decode c.code (pc + 7) = .ok (.iconst b, 1))
    {w : Int32} (hT : if_icmp.holds cd x y = true → w = Int32.ofInt b) (hF : if_icmp.holds cd x y = false → w = Int32.ofInt a) (hr : Steps tb e below (T.setTop (mkF m (pc + 8) Ls (.int w :: rest))) target) : Steps tb e below (T.setTop (mkF m pc Ls (.int y :: .int x :: rest))) target := by
  cases q : if_icmp.holds cd x y
  · rw [hF q] at hr
    exact XS.icmpNo h hx rfl hd0 rfl q (XS.iconst h hx rfl hd1 (XS.goto h hx rfl (pc0 := pc + 4) (pc' := pc + 8) rfl hd2 (by omega) (by omega) hr))
  · rw [hT q] at hr
    exact XS.icmpYes h hx rfl (pc0 := pc) (pc' := pc + 7) rfl hd0 rfl q (by omega) (by omega) (XS.iconst h hx rfl hd3 hr)
theorem own_mat_c (h : At T m c below) (hx : tb.exec = Jvm.exec) (hd0 : decode c.code pc = .ok (.ifCond cd 7, 3)) (hd1 : decode c.code (pc + 3) = .ok (.iconst a, 1)) (hd2 : decode c.code (pc + 4) = .ok (.goto 4, 3)) (hd3 : decode c.code (pc + 7) = .ok (.iconst b, 1))
    {w : Int32} (hT : if_icmp.holds cd x 0 = true → w = Int32.ofInt b) (hF : if_icmp.holds cd x 0 = false → w = Int32.ofInt a) (hr : Steps tb e below (T.setTop (mkF m (pc + 8) Ls (.int w :: rest))) target) : Steps tb e below (T.setTop (mkF m pc Ls (.int x :: rest))) target := by
  cases q : if_icmp.holds cd x 0
  · rw [hF q] at hr
    exact XS.ifNo h hx rfl hd0 rfl ((if0 _ _).trans q) (XS.iconst h hx rfl hd1 (XS.goto h hx rfl (pc0 := pc + 4) (pc' := pc + 8) rfl hd2 (by omega) (by omega) hr))
  · rw [hT q] at hr
    exact XS.ifYes h hx rfl (pc0 := pc) (pc' := pc + 7) rfl hd0 rfl ((if0 _ _).trans q) (by omega) (by omega) (XS.iconst h hx rfl hd3 hr)
theorem own_mat_i_eq (h : At T m c below) (hx : tb.exec = Jvm.exec) (hg : m = m) (hd0 : decode c.code pc = .ok (.if_icmp .eq 7, 3)) (hd1 : decode c.code (pc + 3) = .ok (.iconst a, 1)) (hd2 : decode c.code (pc + 4) = .ok (.goto 4, 3)) (hd3 : decode c.code (pc + 7) = .ok (.iconst b, 1))
    (hr : Steps tb e below (T.setTop (mkF m (pc + 8) Ls (.int (own_pick (x = y) (Int32.ofInt b) (Int32.ofInt a)) :: rest))) target) : Steps tb e below (T.setTop (mkF m pc Ls (.int y :: .int x :: rest))) target :=
  own_mat_i h hx hd0 hd1 hd2 hd3 (fun q => by by_cases z : x = y <;> simp [own_pick, z] <;> (first | rw [(teq z).1] at q | rw [(feq z).1] at q) <;> cases q) (fun q => by by_cases z : x = y <;> simp [own_pick, z] <;> (first | rw [(teq z).1] at q | rw [(feq z).1] at q) <;> cases q) hr
theorem own_mat_i_ne (h : At T m c below) (hx : tb.exec = Jvm.exec) (hg : m = m) (hd0 : decode c.code pc = .ok (.if_icmp .ne 7, 3)) (hd1 : decode c.code (pc + 3) = .ok (.iconst a, 1)) (hd2 : decode c.code (pc + 4) = .ok (.goto 4, 3)) (hd3 : decode c.code (pc + 7) = .ok (.iconst b, 1))
    (hr : Steps tb e below (T.setTop (mkF m (pc + 8) Ls (.int (own_pick (x = y) (Int32.ofInt a) (Int32.ofInt b)) :: rest))) target) : Steps tb e below (T.setTop (mkF m pc Ls (.int y :: .int x :: rest))) target :=
  own_mat_i h hx hd0 hd1 hd2 hd3 (fun q => by by_cases z : x = y <;> simp [own_pick, z] <;> (first | rw [(teq z).2] at q | rw [(feq z).2] at q) <;> cases q) (fun q => by by_cases z : x = y <;> simp [own_pick, z] <;> (first | rw [(teq z).2] at q | rw [(feq z).2] at q) <;> cases q) hr
theorem own_mat_i_lt (h : At T m c below) (hx : tb.exec = Jvm.exec) (hg : m = m) (hd0 : decode c.code pc = .ok (.if_icmp .lt 7, 3)) (hd1 : decode c.code (pc + 3) = .ok (.iconst a, 1)) (hd2 : decode c.code (pc + 4) = .ok (.goto 4, 3)) (hd3 : decode c.code (pc + 7) = .ok (.iconst b, 1))
    (hr : Steps tb e below (T.setTop (mkF m (pc + 8) Ls (.int (own_pick (x < y) (Int32.ofInt b) (Int32.ofInt a)) :: rest))) target) : Steps tb e below (T.setTop (mkF m pc Ls (.int y :: .int x :: rest))) target :=
  own_mat_i h hx hd0 hd1 hd2 hd3 (fun q => by by_cases z : x < y <;> simp [own_pick, z] <;> (first | rw [(tlt z).1] at q | rw [(flt z).1] at q) <;> cases q) (fun q => by by_cases z : x < y <;> simp [own_pick, z] <;> (first | rw [(tlt z).1] at q | rw [(flt z).1] at q) <;> cases q) hr
theorem own_mat_i_ge (h : At T m c below) (hx : tb.exec = Jvm.exec) (hg : m = m) (hd0 : decode c.code pc = .ok (.if_icmp .ge 7, 3)) (hd1 : decode c.code (pc + 3) = .ok (.iconst a, 1)) (hd2 : decode c.code (pc + 4) = .ok (.goto 4, 3)) (hd3 : decode c.code (pc + 7) = .ok (.iconst b, 1))
    (hr : Steps tb e below (T.setTop (mkF m (pc + 8) Ls (.int (own_pick (x < y) (Int32.ofInt a) (Int32.ofInt b)) :: rest))) target) : Steps tb e below (T.setTop (mkF m pc Ls (.int y :: .int x :: rest))) target :=
  own_mat_i h hx hd0 hd1 hd2 hd3 (fun q => by by_cases z : x < y <;> simp [own_pick, z] <;> (first | rw [(tlt z).2.1] at q | rw [(flt z).2.1] at q) <;> cases q) (fun q => by by_cases z : x < y <;> simp [own_pick, z] <;> (first | rw [(tlt z).2.1] at q | rw [(flt z).2.1] at q) <;> cases q) hr
theorem own_mat_i_gt (h : At T m c below) (hx : tb.exec = Jvm.exec) (hg : m = m) (hd0 : decode c.code pc = .ok (.if_icmp .gt 7, 3)) (hd1 : decode c.code (pc + 3) = .ok (.iconst a, 1)) (hd2 : decode c.code (pc + 4) = .ok (.goto 4, 3)) (hd3 : decode c.code (pc + 7) = .ok (.iconst b, 1))
    (hr : Steps tb e below (T.setTop (mkF m (pc + 8) Ls (.int (own_pick (y < x) (Int32.ofInt b) (Int32.ofInt a)) :: rest))) target) : Steps tb e below (T.setTop (mkF m pc Ls (.int y :: .int x :: rest))) target :=
  own_mat_i h hx hd0 hd1 hd2 hd3 (fun q => by by_cases z : y < x <;> simp [own_pick, z] <;> (first | rw [(tlt z).2.2.1] at q | rw [(flt z).2.2.1] at q) <;> cases q) (fun q => by by_cases z : y < x <;> simp [own_pick, z] <;> (first | rw [(tlt z).2.2.1] at q | rw [(flt z).2.2.1] at q) <;> cases q) hr
theorem own_mat_i_le (h : At T m c below) (hx : tb.exec = Jvm.exec) (hg : m = m) (hd0 : decode c.code pc = .ok (.if_icmp .le 7, 3)) (hd1 : decode c.code (pc + 3) = .ok (.iconst a, 1)) (hd2 : decode c.code (pc + 4) = .ok (.goto 4, 3)) (hd3 : decode c.code (pc + 7) = .ok (.iconst b, 1))
    (hr : Steps tb e below (T.setTop (mkF m (pc + 8) Ls (.int (own_pick (y < x) (Int32.ofInt a) (Int32.ofInt b)) :: rest))) target) : Steps tb e below (T.setTop (mkF m pc Ls (.int y :: .int x :: rest))) target :=
  own_mat_i h hx hd0 hd1 hd2 hd3 (fun q => by by_cases z : y < x <;> simp [own_pick, z] <;> (first | rw [(tlt z).2.2.2] at q | rw [(flt z).2.2.2] at q) <;> cases q) (fun q => by by_cases z : y < x <;> simp [own_pick, z] <;> (first | rw [(tlt z).2.2.2] at q | rw [(flt z).2.2.2] at q) <;> cases q) hr
theorem own_mat_c_eq (h : At T m c below) (hx : tb.exec = Jvm.exec) (hg : m = m) (hd0 : decode c.code pc = .ok (.ifCond .eq 7, 3)) (hd1 : decode c.code (pc + 3) = .ok (.iconst a, 1)) (hd2 : decode c.code (pc + 4) = .ok (.goto 4, 3)) (hd3 : decode c.code (pc + 7) = .ok (.iconst b, 1))
    (hr : Steps tb e below (T.setTop (mkF m (pc + 8) Ls (.int (own_pick (x = (0 : Int32)) (Int32.ofInt b) (Int32.ofInt a)) :: rest))) target) : Steps tb e below (T.setTop (mkF m pc Ls (.int x :: rest))) target :=
  own_mat_c h hx hd0 hd1 hd2 hd3 (fun q => by by_cases z : x = (0 : Int32) <;> simp [own_pick, z] <;> (first | rw [(teq z).1] at q | rw [(feq z).1] at q) <;> cases q) (fun q => by by_cases z : x = (0 : Int32) <;> simp [own_pick, z] <;> (first | rw [(teq z).1] at q | rw [(feq z).1] at q) <;> cases q) hr
theorem own_mat_c_ne (h : At T m c below) (hx : tb.exec = Jvm.exec) (hg : m = m) (hd0 : decode c.code pc = .ok (.ifCond .ne 7, 3)) (hd1 : decode c.code (pc + 3) = .ok (.iconst a, 1)) (hd2 : decode c.code (pc + 4) = .ok (.goto 4, 3)) (hd3 : decode c.code (pc + 7) = .ok (.iconst b, 1))
    (hr : Steps tb e below (T.setTop (mkF m (pc + 8) Ls (.int (own_pick (x = (0 : Int32)) (Int32.ofInt a) (Int32.ofInt b)) :: rest))) target) : Steps tb e below (T.setTop (mkF m pc Ls (.int x :: rest))) target :=
  own_mat_c h hx hd0 hd1 hd2 hd3 (fun q => by by_cases z : x = (0 : Int32) <;> simp [own_pick, z] <;> (first | rw [(teq z).2] at q | rw [(feq z).2] at q) <;> cases q) (fun q => by by_cases z : x = (0 : Int32) <;> simp [own_pick, z] <;> (first | rw [(teq z).2] at q | rw [(feq z).2] at q) <;> cases q) hr
theorem own_mat_c_lt (h : At T m c below) (hx : tb.exec = Jvm.exec) (hg : m = m) (hd0 : decode c.code pc = .ok (.ifCond .lt 7, 3)) (hd1 : decode c.code (pc + 3) = .ok (.iconst a, 1)) (hd2 : decode c.code (pc + 4) = .ok (.goto 4, 3)) (hd3 : decode c.code (pc + 7) = .ok (.iconst b, 1))
    (hr : Steps tb e below (T.setTop (mkF m (pc + 8) Ls (.int (own_pick (x < (0 : Int32)) (Int32.ofInt b) (Int32.ofInt a)) :: rest))) target) : Steps tb e below (T.setTop (mkF m pc Ls (.int x :: rest))) target :=
  own_mat_c h hx hd0 hd1 hd2 hd3 (fun q => by by_cases z : x < (0 : Int32) <;> simp [own_pick, z] <;> (first | rw [(tlt z).1] at q | rw [(flt z).1] at q) <;> cases q) (fun q => by by_cases z : x < (0 : Int32) <;> simp [own_pick, z] <;> (first | rw [(tlt z).1] at q | rw [(flt z).1] at q) <;> cases q) hr
theorem own_mat_c_ge (h : At T m c below) (hx : tb.exec = Jvm.exec) (hg : m = m) (hd0 : decode c.code pc = .ok (.ifCond .ge 7, 3)) (hd1 : decode c.code (pc + 3) = .ok (.iconst a, 1)) (hd2 : decode c.code (pc + 4) = .ok (.goto 4, 3)) (hd3 : decode c.code (pc + 7) = .ok (.iconst b, 1))
    (hr : Steps tb e below (T.setTop (mkF m (pc + 8) Ls (.int (own_pick (x < (0 : Int32)) (Int32.ofInt a) (Int32.ofInt b)) :: rest))) target) : Steps tb e below (T.setTop (mkF m pc Ls (.int x :: rest))) target :=
  own_mat_c h hx hd0 hd1 hd2 hd3 (fun q => by by_cases z : x < (0 : Int32) <;> simp [own_pick, z] <;> (first | rw [(tlt z).2.1] at q | rw [(flt z).2.1] at q) <;> cases q) (fun q => by by_cases z : x < (0 : Int32) <;> simp [own_pick, z] <;> (first | rw [(tlt z).2.1] at q | rw [(flt z).2.1] at q) <;> cases q) hr
theorem own_mat_c_gt (h : At T m c below) (hx : tb.exec = Jvm.exec) (hg : m = m) (hd0 : decode c.code pc = .ok (.ifCond .gt 7, 3)) (hd1 : decode c.code (pc + 3) = .ok (.iconst a, 1)) (hd2 : decode c.code (pc + 4) = .ok (.goto 4, 3)) (hd3 : decode c.code (pc + 7) = .ok (.iconst b, 1))
    (hr : Steps tb e below (T.setTop (mkF m (pc + 8) Ls (.int (own_pick ((0 : Int32) < x) (Int32.ofInt b) (Int32.ofInt a)) :: rest))) target) : Steps tb e below (T.setTop (mkF m pc Ls (.int x :: rest))) target :=
  own_mat_c h hx hd0 hd1 hd2 hd3 (fun q => by by_cases z : (0 : Int32) < x <;> simp [own_pick, z] <;> (first | rw [(tlt z).2.2.1] at q | rw [(flt z).2.2.1] at q) <;> cases q) (fun q => by by_cases z : (0 : Int32) < x <;> simp [own_pick, z] <;> (first | rw [(tlt z).2.2.1] at q | rw [(flt z).2.2.1] at q) <;> cases q) hr
theorem own_mat_c_le (h : At T m c below) (hx : tb.exec = Jvm.exec) (hg : m = m) (hd0 : decode c.code pc = .ok (.ifCond .le 7, 3)) (hd1 : decode c.code (pc + 3) = .ok (.iconst a, 1)) (hd2 : decode c.code (pc + 4) = .ok (.goto 4, 3)) (hd3 : decode c.code (pc + 7) = .ok (.iconst b, 1))
    (hr : Steps tb e below (T.setTop (mkF m (pc + 8) Ls (.int (own_pick ((0 : Int32) < x) (Int32.ofInt a) (Int32.ofInt b)) :: rest))) target) : Steps tb e below (T.setTop (mkF m pc Ls (.int x :: rest))) target :=
  own_mat_c h hx hd0 hd1 hd2 hd3 (fun q => by by_cases z : (0 : Int32) < x <;> simp [own_pick, z] <;> (first | rw [(tlt z).2.2.2] at q | rw [(flt z).2.2.2] at q) <;> cases q) (fun q => by by_cases z : (0 : Int32) < x <;> simp [own_pick, z] <;> (first | rw [(tlt z).2.2.2] at q | rw [(flt z).2.2.2] at q) <;> cases q) hr
end OwnMat
theorem pd_0 : parseMethodDescriptor "(I[BII)I" = some ⟨[.int, (.array .byte), .int, .int], some .int⟩ := by decide +kernel
theorem pd_1 : parseMethodDescriptor "(Ljava/lang/Object;IIII)I" = some ⟨[(.object "java/lang/Object"), .int, .int, .int, .int], some .int⟩ := by decide +kernel
theorem pd_2 : parseMethodDescriptor "(J)I" = some ⟨[.long], some .int⟩ := by decide +kernel
theorem pd_3 : parseMethodDescriptor "([B)I" = some ⟨[(.array .byte)], some .int⟩ := by decide +kernel
theorem pd_4 : parseMethodDescriptor "([B[BI)I" = some ⟨[(.array .byte), (.array .byte), .int], some .int⟩ := by decide +kernel
theorem pd_5 : parseMethodDescriptor "([B[B)Z" = some ⟨[(.array .byte), (.array .byte)], some .boolean⟩ := by decide +kernel
theorem pd_6 : parseMethodDescriptor "(J[B)V" = some ⟨[.long, (.array .byte)], none⟩ := by decide +kernel
theorem pd_7 : parseMethodDescriptor "()I" = some ⟨[], some .int⟩ := by decide +kernel
theorem pd_8 : parseMethodDescriptor "(Ljava/lang/Object;)Z" = some ⟨[(.object "java/lang/Object")], some .boolean⟩ := by decide +kernel
theorem pd_9 : parseMethodDescriptor "(JZBB)I" = some ⟨[.long, .boolean, .byte, .byte], some .int⟩ := by decide +kernel
theorem own_clone {p : Program} {l : Launch} {e : Env} {R : Room} {s : State} {m : MethodId} {args : Array Value} {below : List Frame} {meth : Method} {c : Code} {T : State} {locs : List Loc} {cells slots : Nat} {Z : State} {h : Heap} {a : Addr} {ty : FieldType}
    (X : Stand p l e R s m args below meth c T locs cells slots) (hx : p.tables.exec = Jvm.exec) (hZ : Z.Warmed39 s.vm) {a0 : Array Value} {own ad : String} {index : Nat} (hown : s.vm.findClass own = some m.cls)
    (w1 : (Cond.methodLink own index ⟨ad, "clone", "()Ljava/lang/Object;"⟩).before a0 Z = true) (w2 : (Cond.sameMethod ad "java/lang/Object" "clone" "()Ljava/lang/Object;").before a0 Z = true) (w3 : (Cond.native ⟨"java/lang/Object", "clone", "()Ljava/lang/Object;"⟩).before a0 Z = true)
    (w4 : (Cond.instanceMethod ⟨"java/lang/Object", "clone", "()Ljava/lang/Object;"⟩).before a0 Z = true) (w5 : (Cond.selects ad ⟨ad, "clone", "()Ljava/lang/Object;"⟩ ⟨"java/lang/Object", "clone", "()Ljava/lang/Object;"⟩).before a0 Z = true) (w6 : (Cond.castable ad "java/lang/Cloneable").before a0 Z = true)
    (eT : T.heap = h) {k : ClassId} {z : Int32} {vs : List Value} {dv : Value} (F : Arv Z h a k ty z vs dv) (E : Exa Z h a ad) {g : JFrame} (hg : g.method = m) (hsize : g.locals.size = c.maxLocals) {rest : List Value} (hst : g.stack = .ref a :: rest) (hd : decode c.code g.pc = .ok (.invokevirtual index, 3))
    (hf : 1 ≤ R.frames) {W cap : Nat} (hW : 2 * g.monitorRoom + (rest.map fun v => v.category).sum ≤ W) (hl : W + 14 ≤ R.locals) (hcap : z.toNatClampNeg ≤ cap) (hc : cells + 1 ≤ R.cells) (hsl : slots + cap ≤ R.slots) :
    ∃ T' h', Stand p l e R s m args below meth c T' locs (cells + 1) (slots + cap) ∧ T'.heap = h' ∧ Ext h h' ∧ Arv Z h' h.size k ty z vs dv ∧ Exa Z h' h.size ad ∧
      ∀ target, Steps p.tables e below (T'.setTop { g with pc := g.pc + 3, stack := .ref h.size :: rest }) target → Steps p.tables e below (T.setTop g) target := by
  obtain ⟨cl, A, q1, S, q3, H, G⟩ := F
  obtain ⟨T', h', X', e', ex, A', E', st⟩ := cloneA X hx hZ hown w1 w2 w3 w4 w5 w6 eT A E (fitC_of A fun i hi v hv => by rw [H i hi] at hv; cases hv; exact G i hi) hg hsize hst hd hf hW hl (by rw [S]; exact hcap) hc hsl
  exact ⟨T', h', X', e', ex, ⟨cloneOf cl, A', q1, S, q3, H, G⟩, E', st⟩
theorem d1_0 : decode prog_13_method_1_code 0 = .ok (.aload_n 0, 1) := by decide +kernel
theorem d1_1 : decode prog_13_method_1_code 1 = .ok (.invokespecial 1, 3) := by decide +kernel
theorem d1_4 : decode prog_13_method_1_code 4 = .ok (.aload_n 0, 1) := by decide +kernel
theorem d1_5 : decode prog_13_method_1_code 5 = .ok (.lload_n 1, 1) := by decide +kernel
theorem d1_6 : decode prog_13_method_1_code 6 = .ok (.putfield 7, 3) := by decide +kernel
theorem d1_9 : decode prog_13_method_1_code 9 = .ok (.aload_n 0, 1) := by decide +kernel
theorem d1_10 : decode prog_13_method_1_code 10 = .ok (.aload_n 3, 1) := by decide +kernel
theorem d1_11 : decode prog_13_method_1_code 11 = .ok (.invokevirtual 13, 3) := by decide +kernel
theorem d1_14 : decode prog_13_method_1_code 14 = .ok (.checkcast 14, 3) := by decide +kernel
theorem d1_17 : decode prog_13_method_1_code 17 = .ok (.putfield 19, 3) := by decide +kernel
theorem d1_20 : decode prog_13_method_1_code 20 = .ok (.return_, 1) := by decide +kernel
theorem pn_rm1 : plainName "com/example/bevaka/bevaka/store/Checkpoint" = true := by first | (simp [plainName, overriddenIn]; done) | decide +kernel
theorem ef_rm1 (m : MethodId) (o0 : Addr) (q1 : Int64) (o2 : Addr) : entryFrame m #[(.ref o0), (.long q1), (.ref o2)] 4 = mkF m 0 #[.val (.ref o0), .val (.long q1), .second, .val (.ref o2)] [] := by first | (simp [entryFrame, mkF, argsToLocals, Value.category, maxLocals]; done) | rfl
def rm1_Q (Z : State) (o0 : Addr) (q1 : Int64) (o2 : Addr) (k : ClassId) (z : Int32) (vs : List Value) (h0 : Heap) (n0 : Nat) (v : Option Value) (h : Heap) (L : List Loc) : Prop := ∃ b, v = none ∧ Fr n0 L ∧ Keep h0 h [o0] ∧ h0.size ≤ b ∧ Fld Z h o0 "com/example/bevaka/bevaka/store/Checkpoint" "records" "J" (.long q1) ∧ Fld Z h o0 "com/example/bevaka/bevaka/store/Checkpoint" "chain" "[B" (.ref b) ∧ Arv Z h b k .byte z vs (.int (0 : Int32)) ∧ Exa Z h b "[B" ∧ Exa Z h o0 "com/example/bevaka/bevaka/store/Checkpoint"
set_option maxRecDepth 65536 in
set_option maxHeartbeats 40000000 in
theorem rm1 (l : Launch) (Z : State) (a0 : Array Value) (hw : ∀ d ∈ tables_1, d.before a0 Z = true) (ws : List Jvm.Cond) (o0 : Addr) (q1 : Int64) (o2 : Addr) (k : ClassId) (z : Int32) (vs : List Value) (h0 : Heap) (n0 : Nat) (Z0 : n0 ≤ h0.size) (E_o0 : Exa Z h0 o0 "com/example/bevaka/bevaka/store/Checkpoint") (F_r : Fld Z h0 o0 "com/example/bevaka/bevaka/store/Checkpoint" "records" "J" (.long (0 : Int64))) (F_c : Fld Z h0 o0 "com/example/bevaka/bevaka/store/Checkpoint" "chain" "[B" .null) (g_o0 : n0 ≤ o0) (V_o2 : Arv Z h0 o2 k .byte z vs (.int (0 : Int32))) (A_o2 : Exa Z h0 o2 "[B") (hz : z.toNatClampNeg ≤ 2) (ne20 : o2 ≠ o0) :
    MetFree l (⟨"com/example/bevaka/bevaka/store/Checkpoint", "<init>", "(J[B)V"⟩ : MethodName) (head1 (Jvm.Cond.code (⟨"com/example/bevaka/bevaka/store/Checkpoint", "<init>", "(J[B)V"⟩ : MethodName) prog_13_method_1_code 4 none :: ws) ({ frames := 1, cells := 1, slots := 2, locals := 15 } : Room)) (fun a U => a = #[(.ref o0), (.long q1), (.ref o2)] ∧ Z.Warmed39 U.vm ∧ U.heap = h0) (fun _ _ _ _ _ => True) (fun _ U o U' => ∃ v L, o = .returned v ∧ rm1_Q Z o0 q1 o2 k z vs h0 n0 v U'.heap L ∧ FrameEnd U o U' L ({ frames := 1, cells := 1, slots := 2, locals := 15 } : Room).cells ({ frames := 1, cells := 1, slots := 2, locals := 15 } : Room).slots) := by
  refine MetFree.of_bodySF (plainFor_of_name pn_rm1) hisR ?_
  intro p e s m args below meth c s₁ Bd hml0 hP hK
  obtain ⟨rfl, hZ, hh⟩ := hP
  have hx := Bd.exec
  have hby := Bd.bytes
  have hml : c.maxLocals = 4 := hml0
  have hown : s.vm.findClass "com/example/bevaka/bevaka/store/Checkpoint" = some m.cls := findClass_of_methodNamed Bd.named
  have hnm := (name_of_methodNamed Bd.named Bd.method).1
  have X0 : Stand p l e ({ frames := 1, cells := 1, slots := 2, locals := 15 } : Room) s m #[(.ref o0), (.long q1), (.ref o2)] below meth c s₁ [] 0 0 := Stand.of_body Bd
  have e0 : s₁.heap = h0 := by rw [← hh, Bd.state]; rfl
  have N0 := Fr.nil n0
  have K0 := Keep.refl h0 [o0]
  refine own_enter (QQ := rm1_Q Z o0 q1 o2 k z vs h0 n0) (ef_rm1 m o0 q1 o2) ?_
  show own_Run p e below s _ _ _ s₁ (mkF m 0 #[.val (.ref o0), .val (.long q1), .second, .val (.ref o2)] [])
  refine own_step (T' := s₁) (g' := (mkF m 1 #[.val (.ref o0), .val (.long q1), .second, .val (.ref o2)] [(.ref o0)])) (fun t k => ?_) ?_
  · show Steps p.tables e below (s₁.setTop (mkF m 0 #[.val (.ref o0), .val (.long q1), .second, .val (.ref o2)] [])) _
    refine XS.aloadN X0.here hx rfl (hb hby d1_0) rfl rfl ?_
    show Steps p.tables e below (s₁.setTop (mkF m 1 #[.val (.ref o0), .val (.long q1), .second, .val (.ref o2)] [(.ref o0)])) _
    exact k
  obtain ⟨T1, X1, e1, st1⟩ := initO X0 hx hZ hown (hw _ (List.mem_of_getElem? (i := 7) rfl)) (hw _ (List.mem_of_getElem? (i := 8) rfl)) (hw _ (List.mem_of_getElem? (i := 9) rfl)) e0 (g := (mkF m 1 #[.val (.ref o0), .val (.long q1), .second, .val (.ref o2)] [(.ref o0)])) rfl (by rw [hml]; rfl) rfl (hb hby d1_1) (by decide) (W := 0) (by show 2 * 0 + _ ≤ _; exact Nat.le_of_eq rfl) (by decide)
  refine own_step st1 ?_
  show own_Run p e below s _ _ _ T1 (mkF m 4 #[.val (.ref o0), .val (.long q1), .second, .val (.ref o2)] [])
  refine own_step (T' := T1) (g' := (mkF m 6 #[.val (.ref o0), .val (.long q1), .second, .val (.ref o2)] [(.long q1), (.ref o0)])) (fun t k => ?_) ?_
  · show Steps p.tables e below (T1.setTop (mkF m 4 #[.val (.ref o0), .val (.long q1), .second, .val (.ref o2)] [])) _
    refine XS.aloadN X1.here hx rfl (hb hby d1_4) rfl rfl ?_
    show Steps p.tables e below (T1.setTop (mkF m 5 #[.val (.ref o0), .val (.long q1), .second, .val (.ref o2)] [(.ref o0)])) _
    refine XS.lloadN X1.here hx rfl (hb hby d1_5) rfl ?_
    show Steps p.tables e below (T1.setTop (mkF m 6 #[.val (.ref o0), .val (.long q1), .second, .val (.ref o2)] [(.long q1), (.ref o0)])) _
    exact k
  obtain ⟨T2, h2, X2, e2, W2, st2⟩ := putF X1 hx hZ hown (host := "") (Or.inl (hw _ (List.mem_of_getElem? (i := 10) rfl))) Via.refl e1 F_r E_o0 (Or.inr ⟨(hw _ (List.mem_of_getElem? (i := 11) rfl)), rfl, hnm⟩) (hw _ (List.mem_of_getElem? (i := 2) rfl)) (ty := .long) (by decide) rfl rfl (g := (mkF m 6 #[.val (.ref o0), .val (.long q1), .second, .val (.ref o2)] [(.long q1), (.ref o0)])) rfl rfl (hb hby d1_6)
  have F3 := F_r.same W2
  have F4 := F_c.other W2 (Or.inr (slot_ne (Or.inr (hw _ (List.mem_of_getElem? (i := 22) rfl))) (Or.inr (hw _ (List.mem_of_getElem? (i := 11) rfl))) (by decide) (t := (.array .byte)) (t' := .long) (by decide) (by decide)))
  have A5 := E_o0.wr W2
  have A6 := A_o2.wr W2
  have V7 := V_o2.other W2 ne20
  have Z8 := Nat.le_trans Z0 (Keep.of_wr W2).1
  have K2 := K0.wr W2 (Or.inl (List.mem_of_getElem? (i := 0) rfl))
  have N2 := Fr.snoc X2 N0 g_o0
  refine own_step st2 ?_
  show own_Run p e below s _ _ _ T2 (mkF m 9 #[.val (.ref o0), .val (.long q1), .second, .val (.ref o2)] [])
  refine own_step (T' := T2) (g' := (mkF m 11 #[.val (.ref o0), .val (.long q1), .second, .val (.ref o2)] [(.ref o2), (.ref o0)])) (fun t k => ?_) ?_
  · show Steps p.tables e below (T2.setTop (mkF m 9 #[.val (.ref o0), .val (.long q1), .second, .val (.ref o2)] [])) _
    refine XS.aloadN X2.here hx rfl (hb hby d1_9) rfl rfl ?_
    show Steps p.tables e below (T2.setTop (mkF m 10 #[.val (.ref o0), .val (.long q1), .second, .val (.ref o2)] [(.ref o0)])) _
    refine XS.aloadN X2.here hx rfl (hb hby d1_10) rfl rfl ?_
    show Steps p.tables e below (T2.setTop (mkF m 11 #[.val (.ref o0), .val (.long q1), .second, .val (.ref o2)] [(.ref o2), (.ref o0)])) _
    exact k
  obtain ⟨T9, h9, X9, e9, E9, V9, A9, st9⟩ := own_clone X2 hx hZ hown (hw _ (List.mem_of_getElem? (i := 12) rfl)) (hw _ (List.mem_of_getElem? (i := 13) rfl)) (hw _ (List.mem_of_getElem? (i := 17) rfl)) (hw _ (List.mem_of_getElem? (i := 15) rfl)) (hw _ (List.mem_of_getElem? (i := 16) rfl)) (hw _ (List.mem_of_getElem? (i := 18) rfl)) e2 V7 A6 (g := (mkF m 11 #[.val (.ref o0), .val (.long q1), .second, .val (.ref o2)] [(.ref o2), (.ref o0)])) rfl (by rw [hml]; rfl) rfl (hb hby d1_11) (by decide) (W := 1) (cap := 2) (by show 2 * 0 + _ ≤ _; exact Nat.le_of_eq rfl) (by decide) hz (by decide) (by decide)
  obtain ⟨b9, g9⟩ : ∃ z, z = h2.size := ⟨_, rfl⟩
  have ne10 : o0 ≠ b9 := Nat.ne_of_lt (Nat.lt_of_lt_of_le F3.lt (Nat.le_of_eq g9.symm))
  have ne11 : o2 ≠ b9 := Nat.ne_of_lt (Nat.lt_of_lt_of_le A6.lt (Nat.le_of_eq g9.symm))
  have g_b9 : n0 ≤ b9 := Nat.le_trans Z8 (Nat.le_of_eq g9.symm)
  have sz_b9 : h0.size ≤ b9 := Nat.le_trans K2.1 (Nat.le_of_eq g9.symm)
  rw [← g9] at A9 V9 st9
  have F12 := F3.ext E9
  have F13 := F4.ext E9
  have A14 := A5.ext E9
  have A15 := A6.ext E9
  have V16 := V7.ext E9
  have K9 := K2.ext E9
  have Z17 := Nat.le_trans Z8 E9.1
  refine own_step st9 ?_
  show own_Run p e below s _ _ _ T9 (mkF m 14 #[.val (.ref o0), .val (.long q1), .second, .val (.ref o2)] [(.ref b9), (.ref o0)])
  obtain ⟨T18, X18, e18, st18⟩ := castY X9 hx hZ hown (hw _ (List.mem_of_getElem? (i := 19) rfl)) e9 (Ins.self A9) (g := (mkF m 14 #[.val (.ref o0), .val (.long q1), .second, .val (.ref o2)] [(.ref b9), (.ref o0)])) rfl rfl (hb hby d1_14)
  refine own_step st18 ?_
  show own_Run p e below s _ _ _ T18 (mkF m 17 #[.val (.ref o0), .val (.long q1), .second, .val (.ref o2)] [(.ref b9), (.ref o0)])
  obtain ⟨T19, h19, X19, e19, W19, st19⟩ := putF X18 hx hZ hown (host := "") (Or.inl (hw _ (List.mem_of_getElem? (i := 21) rfl))) Via.refl e18 F13 A14 (Or.inr ⟨(hw _ (List.mem_of_getElem? (i := 22) rfl)), rfl, hnm⟩) (hw _ (List.mem_of_getElem? (i := 2) rfl)) (ty := (.array .byte)) (by decide) rfl rfl (g := (mkF m 17 #[.val (.ref o0), .val (.long q1), .second, .val (.ref o2)] [(.ref b9), (.ref o0)])) rfl rfl (hb hby d1_17)
  have F20 := F13.same W19
  have F21 := F12.other W19 (Or.inr (slot_ne (Or.inr (hw _ (List.mem_of_getElem? (i := 11) rfl))) (Or.inr (hw _ (List.mem_of_getElem? (i := 22) rfl))) (by decide) (t := .long) (t' := (.array .byte)) (by decide) (by decide)))
  have A22 := A14.wr W19
  have A23 := A15.wr W19
  have A24 := A9.wr W19
  have V25 := V16.other W19 ne20
  have V26 := V9.other W19 (Ne.symm ne10)
  have Z27 := Nat.le_trans Z17 (Keep.of_wr W19).1
  have K19 := K9.wr W19 (Or.inl (List.mem_of_getElem? (i := 0) rfl))
  have N19 := Fr.snoc X19 N2 g_o0
  refine own_step st19 ?_
  show own_Run p e below s _ _ _ T19 (mkF m 20 #[.val (.ref o0), .val (.long q1), .second, .val (.ref o2)] [])
  refine own_retV X19 hx Bd.returns (hb hby d1_20) (BodyLoose.notSynchronized Bd) (by decide) (by decide) ?_
  rw [show T19.heap = h19 from e19]
  exact ⟨b9, rfl, N19, K19, sz_b9, F21, F20, V26, A24, A22⟩
def own_lh (q0 : Int64) : Int32 := ((q0 ^^^ ((q0.toUInt64 >>> ((32 : Int32) &&& 0x3f).toInt64.toUInt64).toInt64)).toInt32)
theorem d4_0 : decode jdk_35_method_36_code 0 = .ok (.lload_n 0, 1) := by decide +kernel
theorem d4_1 : decode jdk_35_method_36_code 1 = .ok (.lload_n 0, 1) := by decide +kernel
theorem d4_2 : decode jdk_35_method_36_code 2 = .ok (.bipush 32, 2) := by decide +kernel
theorem d4_4 : decode jdk_35_method_36_code 4 = .ok (.lushr, 1) := by decide +kernel
theorem d4_5 : decode jdk_35_method_36_code 5 = .ok (.lxor, 1) := by decide +kernel
theorem d4_6 : decode jdk_35_method_36_code 6 = .ok (.l2i, 1) := by decide +kernel
theorem d4_7 : decode jdk_35_method_36_code 7 = .ok (.ireturn, 1) := by decide +kernel
theorem pn_rm4 : plainName "java/lang/Long" = true := by first | (simp [plainName, overriddenIn]; done) | decide +kernel
theorem ef_rm4 (m : MethodId) (q0 : Int64) : entryFrame m #[(.long q0)] 2 = mkF m 0 #[.val (.long q0), .second] [] := by first | (simp [entryFrame, mkF, argsToLocals, Value.category, maxLocals]; done) | rfl
def rm4_Q (Z : State) (q0 : Int64)  (h0 : Heap) (n0 : Nat) (v : Option Value) (h : Heap) (L : List Loc) : Prop := v = some (.int (own_lh q0)) ∧ Fr n0 L ∧ h = h0
set_option maxRecDepth 65536 in
set_option maxHeartbeats 40000000 in
theorem rm4 (l : Launch) (Z : State) (a0 : Array Value) (hw : ∀ d ∈ tables_1, d.before a0 Z = true) (ws : List Jvm.Cond) (q0 : Int64)  (h0 : Heap) (n0 : Nat) (Z0 : n0 ≤ h0.size)  :
    MetFree l (⟨"java/lang/Long", "hashCode", "(J)I"⟩ : MethodName) (head1 (Jvm.Cond.code (⟨"java/lang/Long", "hashCode", "(J)I"⟩ : MethodName) jdk_35_method_36_code 2 (some .int) :: ws) ({ frames := 0, cells := 0, slots := 0, locals := 0 } : Room)) (fun a U => a = #[(.long q0)] ∧ Z.Warmed39 U.vm ∧ U.heap = h0) (fun _ _ _ _ _ => True) (fun _ U o U' => ∃ v L, o = .returned v ∧ rm4_Q Z q0 h0 n0 v U'.heap L ∧ FrameEnd U o U' L ({ frames := 0, cells := 0, slots := 0, locals := 0 } : Room).cells ({ frames := 0, cells := 0, slots := 0, locals := 0 } : Room).slots) := by
  refine MetFree.of_bodySF (plainFor_of_name pn_rm4) hisR ?_
  intro p e s m args below meth c s₁ Bd hml0 hP hK
  obtain ⟨rfl, hZ, hh⟩ := hP
  have hx := Bd.exec
  have hby := Bd.bytes
  have hml : c.maxLocals = 2 := hml0
  have hown : s.vm.findClass "java/lang/Long" = some m.cls := findClass_of_methodNamed Bd.named
  have hnm := (name_of_methodNamed Bd.named Bd.method).1
  have X0 : Stand p l e ({ frames := 0, cells := 0, slots := 0, locals := 0 } : Room) s m #[(.long q0)] below meth c s₁ [] 0 0 := Stand.of_body Bd
  have e0 : s₁.heap = h0 := by rw [← hh, Bd.state]; rfl
  have N0 := Fr.nil n0
  refine own_enter (QQ := rm4_Q Z q0 h0 n0) (ef_rm4 m q0) ?_
  show own_Run p e below s _ _ _ s₁ (mkF m 0 #[.val (.long q0), .second] [])
  refine own_step (T' := s₁) (g' := (mkF m 7 #[.val (.long q0), .second] [(.int ((q0 ^^^ ((q0.toUInt64 >>> ((32 : Int32) &&& 0x3f).toInt64.toUInt64).toInt64)).toInt32))])) (fun t k => ?_) ?_
  · show Steps p.tables e below (s₁.setTop (mkF m 0 #[.val (.long q0), .second] [])) _
    refine XS.lloadN X0.here hx rfl (hb hby d4_0) rfl ?_
    show Steps p.tables e below (s₁.setTop (mkF m 1 #[.val (.long q0), .second] [(.long q0)])) _
    refine XS.lloadN X0.here hx rfl (hb hby d4_1) rfl ?_
    show Steps p.tables e below (s₁.setTop (mkF m 2 #[.val (.long q0), .second] [(.long q0), (.long q0)])) _
    refine XS.bipush X0.here hx rfl (hb hby d4_2) ?_
    show Steps p.tables e below (s₁.setTop (mkF m 4 #[.val (.long q0), .second] [(.int (32 : Int32)), (.long q0), (.long q0)])) _
    refine XS.lushr X0.here hx rfl (hb hby d4_4) rfl ?_
    show Steps p.tables e below (s₁.setTop (mkF m 5 #[.val (.long q0), .second] [(.long ((q0.toUInt64 >>> ((32 : Int32) &&& 0x3f).toInt64.toUInt64).toInt64)), (.long q0)])) _
    refine XS.lxor X0.here hx rfl (hb hby d4_5) rfl ?_
    show Steps p.tables e below (s₁.setTop (mkF m 6 #[.val (.long q0), .second] [(.long (q0 ^^^ ((q0.toUInt64 >>> ((32 : Int32) &&& 0x3f).toInt64.toUInt64).toInt64)))])) _
    refine XS.l2i X0.here hx rfl (hb hby d4_6) rfl ?_
    show Steps p.tables e below (s₁.setTop (mkF m 7 #[.val (.long q0), .second] [(.int ((q0 ^^^ ((q0.toUInt64 >>> ((32 : Int32) &&& 0x3f).toInt64.toUInt64).toInt64)).toInt32))])) _
    exact k
  refine own_retI X0 hx Bd.returns (hb hby d4_7) (BodyLoose.notSynchronized Bd) (by decide) (by decide) ?_
  rw [show s₁.heap = h0 from e0]
  exact ⟨rfl, N0, rfl⟩
def own_ah (c0 c1 : Int32) : Int32 := (((31 : Int32) * ((31 : Int32) + c0)) + c1)
theorem d7_0 : decode jdk_48_method_6_code 0 = .ok (.iload_n 2, 1) := by decide +kernel
theorem d7_1 : decode jdk_48_method_6_code 1 = .ok (.iload_n 3, 1) := by decide +kernel
theorem d7_2 : decode jdk_48_method_6_code 2 = .ok (.iadd, 1) := by decide +kernel
theorem d7_3 : decode jdk_48_method_6_code 3 = .ok (.istore 4, 2) := by decide +kernel
theorem d7_5 : decode jdk_48_method_6_code 5 = .ok (.iload_n 2, 1) := by decide +kernel
theorem d7_6 : decode jdk_48_method_6_code 6 = .ok (.istore 5, 2) := by decide +kernel
theorem d7_8 : decode jdk_48_method_6_code 8 = .ok (.iload 5, 2) := by decide +kernel
theorem d7_10 : decode jdk_48_method_6_code 10 = .ok (.iload 4, 2) := by decide +kernel
theorem d7_12 : decode jdk_48_method_6_code 12 = .ok (.if_icmp .ge 19, 3) := by decide +kernel
theorem d7_15 : decode jdk_48_method_6_code 15 = .ok (.bipush 31, 2) := by decide +kernel
theorem d7_17 : decode jdk_48_method_6_code 17 = .ok (.iload_n 0, 1) := by decide +kernel
theorem d7_18 : decode jdk_48_method_6_code 18 = .ok (.imul, 1) := by decide +kernel
theorem d7_19 : decode jdk_48_method_6_code 19 = .ok (.aload_n 1, 1) := by decide +kernel
theorem d7_20 : decode jdk_48_method_6_code 20 = .ok (.iload 5, 2) := by decide +kernel
theorem d7_22 : decode jdk_48_method_6_code 22 = .ok (.baload, 1) := by decide +kernel
theorem d7_23 : decode jdk_48_method_6_code 23 = .ok (.iadd, 1) := by decide +kernel
theorem d7_24 : decode jdk_48_method_6_code 24 = .ok (.istore_n 0, 1) := by decide +kernel
theorem d7_25 : decode jdk_48_method_6_code 25 = .ok (.iinc 5 1, 3) := by decide +kernel
theorem d7_28 : decode jdk_48_method_6_code 28 = .ok (.goto (-20), 3) := by decide +kernel
theorem d7_31 : decode jdk_48_method_6_code 31 = .ok (.iload_n 0, 1) := by decide +kernel
theorem d7_32 : decode jdk_48_method_6_code 32 = .ok (.ireturn, 1) := by decide +kernel
theorem pn_rm7 : plainName "jdk/internal/util/ArraysSupport" = true := by first | (simp [plainName, overriddenIn]; done) | decide +kernel
theorem ef_rm7 (m : MethodId) (o1 : Addr) : entryFrame m #[(.int (1 : Int32)), (.ref o1), (.int (0 : Int32)), (.int (2 : Int32))] 6 = mkF m 0 #[.val (.int (1 : Int32)), .val (.ref o1), .val (.int (0 : Int32)), .val (.int (2 : Int32)), .unset, .unset] [] := by first | (simp [entryFrame, mkF, argsToLocals, Value.category, maxLocals]; done) | rfl
def rm7_Q (Z : State) (o1 : Addr) (k : ClassId) (c0 : Int32) (c1 : Int32) (h0 : Heap) (n0 : Nat) (v : Option Value) (h : Heap) (L : List Loc) : Prop := v = some (.int (own_ah c0 c1)) ∧ Fr n0 L ∧ h = h0
set_option maxRecDepth 65536 in
set_option maxHeartbeats 40000000 in
theorem rm7 (l : Launch) (Z : State) (a0 : Array Value) (hw : ∀ d ∈ tables_1, d.before a0 Z = true) (ws : List Jvm.Cond) (o1 : Addr) (k : ClassId) (c0 : Int32) (c1 : Int32) (h0 : Heap) (n0 : Nat) (Z0 : n0 ≤ h0.size) (V : Arv Z h0 o1 k .byte (2 : Int32) [(.int c0), (.int c1)] (.int (0 : Int32))) :
    MetFree l (⟨"jdk/internal/util/ArraysSupport", "hashCode", "(I[BII)I"⟩ : MethodName) (head1 (Jvm.Cond.code (⟨"jdk/internal/util/ArraysSupport", "hashCode", "(I[BII)I"⟩ : MethodName) jdk_48_method_6_code 6 (some .int) :: ws) ({ frames := 0, cells := 0, slots := 0, locals := 0 } : Room)) (fun a U => a = #[(.int (1 : Int32)), (.ref o1), (.int (0 : Int32)), (.int (2 : Int32))] ∧ Z.Warmed39 U.vm ∧ U.heap = h0) (fun _ _ _ _ _ => True) (fun _ U o U' => ∃ v L, o = .returned v ∧ rm7_Q Z o1 k c0 c1 h0 n0 v U'.heap L ∧ FrameEnd U o U' L ({ frames := 0, cells := 0, slots := 0, locals := 0 } : Room).cells ({ frames := 0, cells := 0, slots := 0, locals := 0 } : Room).slots) := by
  refine MetFree.of_bodySF (plainFor_of_name pn_rm7) hisR ?_
  intro p e s m args below meth c s₁ Bd hml0 hP hK
  obtain ⟨rfl, hZ, hh⟩ := hP
  have hx := Bd.exec
  have hby := Bd.bytes
  have hml : c.maxLocals = 6 := hml0
  have hown : s.vm.findClass "jdk/internal/util/ArraysSupport" = some m.cls := findClass_of_methodNamed Bd.named
  have hnm := (name_of_methodNamed Bd.named Bd.method).1
  have X0 : Stand p l e ({ frames := 0, cells := 0, slots := 0, locals := 0 } : Room) s m #[(.int (1 : Int32)), (.ref o1), (.int (0 : Int32)), (.int (2 : Int32))] below meth c s₁ [] 0 0 := Stand.of_body Bd
  have e0 : s₁.heap = h0 := by rw [← hh, Bd.state]; rfl
  have N0 := Fr.nil n0
  refine own_enter (QQ := rm7_Q Z o1 k c0 c1 h0 n0) (ef_rm7 m o1) ?_
  show own_Run p e below s _ _ _ s₁ (mkF m 0 #[.val (.int (1 : Int32)), .val (.ref o1), .val (.int (0 : Int32)), .val (.int (2 : Int32)), .unset, .unset] [])
  refine own_step (T' := s₁) (g' := (mkF m 22 #[.val (.int (1 : Int32)), .val (.ref o1), .val (.int (0 : Int32)), .val (.int (2 : Int32)), .val (.int (2 : Int32)), .val (.int (0 : Int32))] [(.int (0 : Int32)), (.ref o1), (.int (31 : Int32))])) (fun t k => ?_) ?_
  · show Steps p.tables e below (s₁.setTop (mkF m 0 #[.val (.int (1 : Int32)), .val (.ref o1), .val (.int (0 : Int32)), .val (.int (2 : Int32)), .unset, .unset] [])) _
    refine XS.iloadN X0.here hx rfl (hb hby d7_0) rfl ?_
    show Steps p.tables e below (s₁.setTop (mkF m 1 #[.val (.int (1 : Int32)), .val (.ref o1), .val (.int (0 : Int32)), .val (.int (2 : Int32)), .unset, .unset] [(.int (0 : Int32))])) _
    refine XS.iloadN X0.here hx rfl (hb hby d7_1) rfl ?_
    show Steps p.tables e below (s₁.setTop (mkF m 2 #[.val (.int (1 : Int32)), .val (.ref o1), .val (.int (0 : Int32)), .val (.int (2 : Int32)), .unset, .unset] [(.int (2 : Int32)), (.int (0 : Int32))])) _
    refine XS.iadd X0.here hx rfl (hb hby d7_2) rfl ?_
    show Steps p.tables e below (s₁.setTop (mkF m 3 #[.val (.int (1 : Int32)), .val (.ref o1), .val (.int (0 : Int32)), .val (.int (2 : Int32)), .unset, .unset] [(.int (2 : Int32))])) _
    refine XS.istore X0.here hx rfl (hb hby d7_3) rfl (l' := #[.val (.int (1 : Int32)), .val (.ref o1), .val (.int (0 : Int32)), .val (.int (2 : Int32)), .val (.int (2 : Int32)), .unset]) rfl ?_
    show Steps p.tables e below (s₁.setTop (mkF m 5 #[.val (.int (1 : Int32)), .val (.ref o1), .val (.int (0 : Int32)), .val (.int (2 : Int32)), .val (.int (2 : Int32)), .unset] [])) _
    refine XS.iloadN X0.here hx rfl (hb hby d7_5) rfl ?_
    show Steps p.tables e below (s₁.setTop (mkF m 6 #[.val (.int (1 : Int32)), .val (.ref o1), .val (.int (0 : Int32)), .val (.int (2 : Int32)), .val (.int (2 : Int32)), .unset] [(.int (0 : Int32))])) _
    refine XS.istore X0.here hx rfl (hb hby d7_6) rfl (l' := #[.val (.int (1 : Int32)), .val (.ref o1), .val (.int (0 : Int32)), .val (.int (2 : Int32)), .val (.int (2 : Int32)), .val (.int (0 : Int32))]) rfl ?_
    show Steps p.tables e below (s₁.setTop (mkF m 8 #[.val (.int (1 : Int32)), .val (.ref o1), .val (.int (0 : Int32)), .val (.int (2 : Int32)), .val (.int (2 : Int32)), .val (.int (0 : Int32))] [])) _
    refine XS.iload X0.here hx rfl (hb hby d7_8) rfl ?_
    show Steps p.tables e below (s₁.setTop (mkF m 10 #[.val (.int (1 : Int32)), .val (.ref o1), .val (.int (0 : Int32)), .val (.int (2 : Int32)), .val (.int (2 : Int32)), .val (.int (0 : Int32))] [(.int (0 : Int32))])) _
    refine XS.iload X0.here hx rfl (hb hby d7_10) rfl ?_
    show Steps p.tables e below (s₁.setTop (mkF m 12 #[.val (.int (1 : Int32)), .val (.ref o1), .val (.int (0 : Int32)), .val (.int (2 : Int32)), .val (.int (2 : Int32)), .val (.int (0 : Int32))] [(.int (2 : Int32)), (.int (0 : Int32))])) _
    refine XS.icmpNo X0.here hx rfl (hb hby d7_12) rfl (tlt (by decide)).2.1 ?_
    show Steps p.tables e below (s₁.setTop (mkF m 15 #[.val (.int (1 : Int32)), .val (.ref o1), .val (.int (0 : Int32)), .val (.int (2 : Int32)), .val (.int (2 : Int32)), .val (.int (0 : Int32))] [])) _
    refine XS.bipush X0.here hx rfl (hb hby d7_15) ?_
    show Steps p.tables e below (s₁.setTop (mkF m 17 #[.val (.int (1 : Int32)), .val (.ref o1), .val (.int (0 : Int32)), .val (.int (2 : Int32)), .val (.int (2 : Int32)), .val (.int (0 : Int32))] [(.int (31 : Int32))])) _
    refine XS.iloadN X0.here hx rfl (hb hby d7_17) rfl ?_
    show Steps p.tables e below (s₁.setTop (mkF m 18 #[.val (.int (1 : Int32)), .val (.ref o1), .val (.int (0 : Int32)), .val (.int (2 : Int32)), .val (.int (2 : Int32)), .val (.int (0 : Int32))] [(.int (1 : Int32)), (.int (31 : Int32))])) _
    refine XS.imul X0.here hx rfl (hb hby d7_18) rfl ?_
    show Steps p.tables e below (s₁.setTop (mkF m 19 #[.val (.int (1 : Int32)), .val (.ref o1), .val (.int (0 : Int32)), .val (.int (2 : Int32)), .val (.int (2 : Int32)), .val (.int (0 : Int32))] [(.int (31 : Int32))])) _
    refine XS.aloadN X0.here hx rfl (hb hby d7_19) rfl rfl ?_
    show Steps p.tables e below (s₁.setTop (mkF m 20 #[.val (.int (1 : Int32)), .val (.ref o1), .val (.int (0 : Int32)), .val (.int (2 : Int32)), .val (.int (2 : Int32)), .val (.int (0 : Int32))] [(.ref o1), (.int (31 : Int32))])) _
    refine XS.iload X0.here hx rfl (hb hby d7_20) rfl ?_
    show Steps p.tables e below (s₁.setTop (mkF m 22 #[.val (.int (1 : Int32)), .val (.ref o1), .val (.int (0 : Int32)), .val (.int (2 : Int32)), .val (.int (2 : Int32)), .val (.int (0 : Int32))] [(.int (0 : Int32)), (.ref o1), (.int (31 : Int32))])) _
    exact k
  obtain ⟨cl2, Arcl2, qcl2, Scl2, Mcl2, Hcl2, Gcl2⟩ := id V
  have hincl2 : ¬ ((0 : Int32) < 0 ∨ cl2.slots.size ≤ ((0 : Int32)).toNatClampNeg) := inb_of Scl2 ⟨by decide, by decide⟩
  have hatcl2 : cl2.slots[((0 : Int32)).toNatClampNeg]? = some (.int c0) := Hcl2.at hincl2 rfl
  refine own_step (T' := s₁) (g' := (mkF m 22 #[.val (.int ((31 : Int32) + c0)), .val (.ref o1), .val (.int (0 : Int32)), .val (.int (2 : Int32)), .val (.int (2 : Int32)), .val (.int (1 : Int32))] [(.int (1 : Int32)), (.ref o1), (.int ((31 : Int32) * ((31 : Int32) + c0)))])) (fun t k => ?_) ?_
  · show Steps p.tables e below (s₁.setTop (mkF m 22 #[.val (.int (1 : Int32)), .val (.ref o1), .val (.int (0 : Int32)), .val (.int (2 : Int32)), .val (.int (2 : Int32)), .val (.int (0 : Int32))] [(.int (0 : Int32)), (.ref o1), (.int (31 : Int32))])) _
    refine X0.baloadBytes hx (j := (0 : Int32)) (v := (.int c0)) (by rw [e0]; exact Arcl2.1) (State.isArrayOf_alike hZ.alike Arcl2.2.1) Arcl2.2.2 hincl2 hatcl2 (g := (mkF m 22 #[.val (.int (1 : Int32)), .val (.ref o1), .val (.int (0 : Int32)), .val (.int (2 : Int32)), .val (.int (2 : Int32)), .val (.int (0 : Int32))] [(.int (0 : Int32)), (.ref o1), (.int (31 : Int32))])) rfl rfl (hb hby d7_22) _ ?_
    show Steps p.tables e below (s₁.setTop (mkF m 23 #[.val (.int (1 : Int32)), .val (.ref o1), .val (.int (0 : Int32)), .val (.int (2 : Int32)), .val (.int (2 : Int32)), .val (.int (0 : Int32))] [(.int c0), (.int (31 : Int32))])) _
    refine XS.iadd X0.here hx rfl (hb hby d7_23) rfl ?_
    show Steps p.tables e below (s₁.setTop (mkF m 24 #[.val (.int (1 : Int32)), .val (.ref o1), .val (.int (0 : Int32)), .val (.int (2 : Int32)), .val (.int (2 : Int32)), .val (.int (0 : Int32))] [(.int ((31 : Int32) + c0))])) _
    refine XS.istoreN X0.here hx rfl (hb hby d7_24) rfl (l' := #[.val (.int ((31 : Int32) + c0)), .val (.ref o1), .val (.int (0 : Int32)), .val (.int (2 : Int32)), .val (.int (2 : Int32)), .val (.int (0 : Int32))]) rfl ?_
    show Steps p.tables e below (s₁.setTop (mkF m 25 #[.val (.int ((31 : Int32) + c0)), .val (.ref o1), .val (.int (0 : Int32)), .val (.int (2 : Int32)), .val (.int (2 : Int32)), .val (.int (0 : Int32))] [])) _
    refine XS.iinc X0.here hx rfl (hb hby d7_25) rfl (l' := #[.val (.int ((31 : Int32) + c0)), .val (.ref o1), .val (.int (0 : Int32)), .val (.int (2 : Int32)), .val (.int (2 : Int32)), .val (.int (1 : Int32))]) rfl ?_
    show Steps p.tables e below (s₁.setTop (mkF m 28 #[.val (.int ((31 : Int32) + c0)), .val (.ref o1), .val (.int (0 : Int32)), .val (.int (2 : Int32)), .val (.int (2 : Int32)), .val (.int (1 : Int32))] [])) _
    refine XS.goto X0.here hx rfl (pc0 := 28) (pc' := 8) rfl (hb hby d7_28) (by decide) (by decide) ?_
    show Steps p.tables e below (s₁.setTop (mkF m 8 #[.val (.int ((31 : Int32) + c0)), .val (.ref o1), .val (.int (0 : Int32)), .val (.int (2 : Int32)), .val (.int (2 : Int32)), .val (.int (1 : Int32))] [])) _
    refine XS.iload X0.here hx rfl (hb hby d7_8) rfl ?_
    show Steps p.tables e below (s₁.setTop (mkF m 10 #[.val (.int ((31 : Int32) + c0)), .val (.ref o1), .val (.int (0 : Int32)), .val (.int (2 : Int32)), .val (.int (2 : Int32)), .val (.int (1 : Int32))] [(.int (1 : Int32))])) _
    refine XS.iload X0.here hx rfl (hb hby d7_10) rfl ?_
    show Steps p.tables e below (s₁.setTop (mkF m 12 #[.val (.int ((31 : Int32) + c0)), .val (.ref o1), .val (.int (0 : Int32)), .val (.int (2 : Int32)), .val (.int (2 : Int32)), .val (.int (1 : Int32))] [(.int (2 : Int32)), (.int (1 : Int32))])) _
    refine XS.icmpNo X0.here hx rfl (hb hby d7_12) rfl (tlt (by decide)).2.1 ?_
    show Steps p.tables e below (s₁.setTop (mkF m 15 #[.val (.int ((31 : Int32) + c0)), .val (.ref o1), .val (.int (0 : Int32)), .val (.int (2 : Int32)), .val (.int (2 : Int32)), .val (.int (1 : Int32))] [])) _
    refine XS.bipush X0.here hx rfl (hb hby d7_15) ?_
    show Steps p.tables e below (s₁.setTop (mkF m 17 #[.val (.int ((31 : Int32) + c0)), .val (.ref o1), .val (.int (0 : Int32)), .val (.int (2 : Int32)), .val (.int (2 : Int32)), .val (.int (1 : Int32))] [(.int (31 : Int32))])) _
    refine XS.iloadN X0.here hx rfl (hb hby d7_17) rfl ?_
    show Steps p.tables e below (s₁.setTop (mkF m 18 #[.val (.int ((31 : Int32) + c0)), .val (.ref o1), .val (.int (0 : Int32)), .val (.int (2 : Int32)), .val (.int (2 : Int32)), .val (.int (1 : Int32))] [(.int ((31 : Int32) + c0)), (.int (31 : Int32))])) _
    refine XS.imul X0.here hx rfl (hb hby d7_18) rfl ?_
    show Steps p.tables e below (s₁.setTop (mkF m 19 #[.val (.int ((31 : Int32) + c0)), .val (.ref o1), .val (.int (0 : Int32)), .val (.int (2 : Int32)), .val (.int (2 : Int32)), .val (.int (1 : Int32))] [(.int ((31 : Int32) * ((31 : Int32) + c0)))])) _
    refine XS.aloadN X0.here hx rfl (hb hby d7_19) rfl rfl ?_
    show Steps p.tables e below (s₁.setTop (mkF m 20 #[.val (.int ((31 : Int32) + c0)), .val (.ref o1), .val (.int (0 : Int32)), .val (.int (2 : Int32)), .val (.int (2 : Int32)), .val (.int (1 : Int32))] [(.ref o1), (.int ((31 : Int32) * ((31 : Int32) + c0)))])) _
    refine XS.iload X0.here hx rfl (hb hby d7_20) rfl ?_
    show Steps p.tables e below (s₁.setTop (mkF m 22 #[.val (.int ((31 : Int32) + c0)), .val (.ref o1), .val (.int (0 : Int32)), .val (.int (2 : Int32)), .val (.int (2 : Int32)), .val (.int (1 : Int32))] [(.int (1 : Int32)), (.ref o1), (.int ((31 : Int32) * ((31 : Int32) + c0)))])) _
    exact k
  obtain ⟨cl4, Arcl4, qcl4, Scl4, Mcl4, Hcl4, Gcl4⟩ := id V
  have hincl4 : ¬ ((1 : Int32) < 0 ∨ cl4.slots.size ≤ ((1 : Int32)).toNatClampNeg) := inb_of Scl4 ⟨by decide, by decide⟩
  have hatcl4 : cl4.slots[((1 : Int32)).toNatClampNeg]? = some (.int c1) := Hcl4.at hincl4 rfl
  refine own_step (T' := s₁) (g' := (mkF m 32 #[.val (.int (((31 : Int32) * ((31 : Int32) + c0)) + c1)), .val (.ref o1), .val (.int (0 : Int32)), .val (.int (2 : Int32)), .val (.int (2 : Int32)), .val (.int (2 : Int32))] [(.int (((31 : Int32) * ((31 : Int32) + c0)) + c1))])) (fun t k => ?_) ?_
  · show Steps p.tables e below (s₁.setTop (mkF m 22 #[.val (.int ((31 : Int32) + c0)), .val (.ref o1), .val (.int (0 : Int32)), .val (.int (2 : Int32)), .val (.int (2 : Int32)), .val (.int (1 : Int32))] [(.int (1 : Int32)), (.ref o1), (.int ((31 : Int32) * ((31 : Int32) + c0)))])) _
    refine X0.baloadBytes hx (j := (1 : Int32)) (v := (.int c1)) (by rw [e0]; exact Arcl4.1) (State.isArrayOf_alike hZ.alike Arcl4.2.1) Arcl4.2.2 hincl4 hatcl4 (g := (mkF m 22 #[.val (.int ((31 : Int32) + c0)), .val (.ref o1), .val (.int (0 : Int32)), .val (.int (2 : Int32)), .val (.int (2 : Int32)), .val (.int (1 : Int32))] [(.int (1 : Int32)), (.ref o1), (.int ((31 : Int32) * ((31 : Int32) + c0)))])) rfl rfl (hb hby d7_22) _ ?_
    show Steps p.tables e below (s₁.setTop (mkF m 23 #[.val (.int ((31 : Int32) + c0)), .val (.ref o1), .val (.int (0 : Int32)), .val (.int (2 : Int32)), .val (.int (2 : Int32)), .val (.int (1 : Int32))] [(.int c1), (.int ((31 : Int32) * ((31 : Int32) + c0)))])) _
    refine XS.iadd X0.here hx rfl (hb hby d7_23) rfl ?_
    show Steps p.tables e below (s₁.setTop (mkF m 24 #[.val (.int ((31 : Int32) + c0)), .val (.ref o1), .val (.int (0 : Int32)), .val (.int (2 : Int32)), .val (.int (2 : Int32)), .val (.int (1 : Int32))] [(.int (((31 : Int32) * ((31 : Int32) + c0)) + c1))])) _
    refine XS.istoreN X0.here hx rfl (hb hby d7_24) rfl (l' := #[.val (.int (((31 : Int32) * ((31 : Int32) + c0)) + c1)), .val (.ref o1), .val (.int (0 : Int32)), .val (.int (2 : Int32)), .val (.int (2 : Int32)), .val (.int (1 : Int32))]) rfl ?_
    show Steps p.tables e below (s₁.setTop (mkF m 25 #[.val (.int (((31 : Int32) * ((31 : Int32) + c0)) + c1)), .val (.ref o1), .val (.int (0 : Int32)), .val (.int (2 : Int32)), .val (.int (2 : Int32)), .val (.int (1 : Int32))] [])) _
    refine XS.iinc X0.here hx rfl (hb hby d7_25) rfl (l' := #[.val (.int (((31 : Int32) * ((31 : Int32) + c0)) + c1)), .val (.ref o1), .val (.int (0 : Int32)), .val (.int (2 : Int32)), .val (.int (2 : Int32)), .val (.int (2 : Int32))]) rfl ?_
    show Steps p.tables e below (s₁.setTop (mkF m 28 #[.val (.int (((31 : Int32) * ((31 : Int32) + c0)) + c1)), .val (.ref o1), .val (.int (0 : Int32)), .val (.int (2 : Int32)), .val (.int (2 : Int32)), .val (.int (2 : Int32))] [])) _
    refine XS.goto X0.here hx rfl (pc0 := 28) (pc' := 8) rfl (hb hby d7_28) (by decide) (by decide) ?_
    show Steps p.tables e below (s₁.setTop (mkF m 8 #[.val (.int (((31 : Int32) * ((31 : Int32) + c0)) + c1)), .val (.ref o1), .val (.int (0 : Int32)), .val (.int (2 : Int32)), .val (.int (2 : Int32)), .val (.int (2 : Int32))] [])) _
    refine XS.iload X0.here hx rfl (hb hby d7_8) rfl ?_
    show Steps p.tables e below (s₁.setTop (mkF m 10 #[.val (.int (((31 : Int32) * ((31 : Int32) + c0)) + c1)), .val (.ref o1), .val (.int (0 : Int32)), .val (.int (2 : Int32)), .val (.int (2 : Int32)), .val (.int (2 : Int32))] [(.int (2 : Int32))])) _
    refine XS.iload X0.here hx rfl (hb hby d7_10) rfl ?_
    show Steps p.tables e below (s₁.setTop (mkF m 12 #[.val (.int (((31 : Int32) * ((31 : Int32) + c0)) + c1)), .val (.ref o1), .val (.int (0 : Int32)), .val (.int (2 : Int32)), .val (.int (2 : Int32)), .val (.int (2 : Int32))] [(.int (2 : Int32)), (.int (2 : Int32))])) _
    refine XS.icmpYes X0.here hx rfl (pc0 := 12) (pc' := 31) rfl (hb hby d7_12) rfl (flt (by decide)).2.1 (by decide) (by decide) ?_
    show Steps p.tables e below (s₁.setTop (mkF m 31 #[.val (.int (((31 : Int32) * ((31 : Int32) + c0)) + c1)), .val (.ref o1), .val (.int (0 : Int32)), .val (.int (2 : Int32)), .val (.int (2 : Int32)), .val (.int (2 : Int32))] [])) _
    refine XS.iloadN X0.here hx rfl (hb hby d7_31) rfl ?_
    show Steps p.tables e below (s₁.setTop (mkF m 32 #[.val (.int (((31 : Int32) * ((31 : Int32) + c0)) + c1)), .val (.ref o1), .val (.int (0 : Int32)), .val (.int (2 : Int32)), .val (.int (2 : Int32)), .val (.int (2 : Int32))] [(.int (((31 : Int32) * ((31 : Int32) + c0)) + c1))])) _
    exact k
  refine own_retI X0 hx Bd.returns (hb hby d7_32) (BodyLoose.notSynchronized Bd) (by decide) (by decide) ?_
  rw [show s₁.heap = h0 from e0]
  exact ⟨rfl, N0, rfl⟩
theorem d6_0 : decode jdk_48_method_4_code 0 = .ok (.iload 4, 2) := by decide +kernel
theorem d6_2 : decode jdk_48_method_4_code 2 = .ok (.tableswitch 127 4 10 #[42, 55, 127, 127, 88, 101, 114], 42) := by decide +kernel
theorem d6_90 : decode jdk_48_method_4_code 90 = .ok (.iload_n 3, 1) := by decide +kernel
theorem d6_91 : decode jdk_48_method_4_code 91 = .ok (.aload_n 0, 1) := by decide +kernel
theorem d6_92 : decode jdk_48_method_4_code 92 = .ok (.checkcast 60, 3) := by decide +kernel
theorem d6_95 : decode jdk_48_method_4_code 95 = .ok (.iload_n 1, 1) := by decide +kernel
theorem d6_96 : decode jdk_48_method_4_code 96 = .ok (.iload_n 2, 1) := by decide +kernel
theorem d6_97 : decode jdk_48_method_4_code 97 = .ok (.invokestatic 75, 3) := by decide +kernel
theorem d6_100 : decode jdk_48_method_4_code 100 = .ok (.goto 57, 3) := by decide +kernel
theorem d6_157 : decode jdk_48_method_4_code 157 = .ok (.ireturn, 1) := by decide +kernel
theorem pn_rm6 : plainName "jdk/internal/util/ArraysSupport" = true := by first | (simp [plainName, overriddenIn]; done) | decide +kernel
theorem ef_rm6 (m : MethodId) (o0 : Addr) : entryFrame m #[(.ref o0), (.int (0 : Int32)), (.int (2 : Int32)), (.int (1 : Int32)), (.int (8 : Int32))] 5 = mkF m 0 #[.val (.ref o0), .val (.int (0 : Int32)), .val (.int (2 : Int32)), .val (.int (1 : Int32)), .val (.int (8 : Int32))] [] := by first | (simp [entryFrame, mkF, argsToLocals, Value.category, maxLocals]; done) | rfl
def rm6_Q (Z : State) (o0 : Addr) (k : ClassId) (c0 : Int32) (c1 : Int32) (h0 : Heap) (n0 : Nat) (v : Option Value) (h : Heap) (L : List Loc) : Prop := v = some (.int (own_ah c0 c1)) ∧ Fr n0 L ∧ h = h0
set_option maxRecDepth 65536 in
set_option maxHeartbeats 40000000 in
theorem rm6 (l : Launch) (Z : State) (a0 : Array Value) (hw : ∀ d ∈ tables_1, d.before a0 Z = true) (ws : List Jvm.Cond) (o0 : Addr) (k : ClassId) (c0 : Int32) (c1 : Int32) (h0 : Heap) (n0 : Nat) (Z0 : n0 ≤ h0.size) (V : Arv Z h0 o0 k .byte (2 : Int32) [(.int c0), (.int c1)] (.int (0 : Int32))) (A : Exa Z h0 o0 "[B") :
    MetFree l (⟨"jdk/internal/util/ArraysSupport", "vectorizedHashCode", "(Ljava/lang/Object;IIII)I"⟩ : MethodName) (head1 (Jvm.Cond.code (⟨"jdk/internal/util/ArraysSupport", "vectorizedHashCode", "(Ljava/lang/Object;IIII)I"⟩ : MethodName) jdk_48_method_4_code 5 (some .int) :: ws) ({ frames := 1, cells := 0, slots := 0, locals := 17 } : Room)) (fun a U => a = #[(.ref o0), (.int (0 : Int32)), (.int (2 : Int32)), (.int (1 : Int32)), (.int (8 : Int32))] ∧ Z.Warmed39 U.vm ∧ U.heap = h0) (fun _ _ _ _ _ => True) (fun _ U o U' => ∃ v L, o = .returned v ∧ rm6_Q Z o0 k c0 c1 h0 n0 v U'.heap L ∧ FrameEnd U o U' L ({ frames := 1, cells := 0, slots := 0, locals := 17 } : Room).cells ({ frames := 1, cells := 0, slots := 0, locals := 17 } : Room).slots) := by
  refine MetFree.of_bodySF (plainFor_of_name pn_rm6) hisR ?_
  intro p e s m args below meth c s₁ Bd hml0 hP hK
  obtain ⟨rfl, hZ, hh⟩ := hP
  have hx := Bd.exec
  have hby := Bd.bytes
  have hml : c.maxLocals = 5 := hml0
  have hown : s.vm.findClass "jdk/internal/util/ArraysSupport" = some m.cls := findClass_of_methodNamed Bd.named
  have hnm := (name_of_methodNamed Bd.named Bd.method).1
  have X0 : Stand p l e ({ frames := 1, cells := 0, slots := 0, locals := 17 } : Room) s m #[(.ref o0), (.int (0 : Int32)), (.int (2 : Int32)), (.int (1 : Int32)), (.int (8 : Int32))] below meth c s₁ [] 0 0 := Stand.of_body Bd
  have e0 : s₁.heap = h0 := by rw [← hh, Bd.state]; rfl
  have N0 := Fr.nil n0
  refine own_enter (QQ := rm6_Q Z o0 k c0 c1 h0 n0) (ef_rm6 m o0) ?_
  show own_Run p e below s _ _ _ s₁ (mkF m 0 #[.val (.ref o0), .val (.int (0 : Int32)), .val (.int (2 : Int32)), .val (.int (1 : Int32)), .val (.int (8 : Int32))] [])
  refine own_step (T' := s₁) (g' := (mkF m 92 #[.val (.ref o0), .val (.int (0 : Int32)), .val (.int (2 : Int32)), .val (.int (1 : Int32)), .val (.int (8 : Int32))] [(.ref o0), (.int (1 : Int32))])) (fun t k => ?_) ?_
  · show Steps p.tables e below (s₁.setTop (mkF m 0 #[.val (.ref o0), .val (.int (0 : Int32)), .val (.int (2 : Int32)), .val (.int (1 : Int32)), .val (.int (8 : Int32))] [])) _
    refine XS.iload X0.here hx rfl (hb hby d6_0) rfl ?_
    show Steps p.tables e below (s₁.setTop (mkF m 2 #[.val (.ref o0), .val (.int (0 : Int32)), .val (.int (2 : Int32)), .val (.int (1 : Int32)), .val (.int (8 : Int32))] [(.int (8 : Int32))])) _
    refine X0.tableswitchIn hx (g := (mkF m 2 #[.val (.ref o0), .val (.int (0 : Int32)), .val (.int (2 : Int32)), .val (.int (1 : Int32)), .val (.int (8 : Int32))] [(.int (8 : Int32))])) rfl (k := (8 : Int32)) (rest := []) rfl (hb hby d6_2) (by decide) (off := 88) (by decide) (by show (0 : Int) ≤ (2 : Nat) + 88; decide) _ ?_
    show Steps p.tables e below (s₁.setTop (mkF m 90 #[.val (.ref o0), .val (.int (0 : Int32)), .val (.int (2 : Int32)), .val (.int (1 : Int32)), .val (.int (8 : Int32))] [])) _
    refine XS.iloadN X0.here hx rfl (hb hby d6_90) rfl ?_
    show Steps p.tables e below (s₁.setTop (mkF m 91 #[.val (.ref o0), .val (.int (0 : Int32)), .val (.int (2 : Int32)), .val (.int (1 : Int32)), .val (.int (8 : Int32))] [(.int (1 : Int32))])) _
    refine XS.aloadN X0.here hx rfl (hb hby d6_91) rfl rfl ?_
    show Steps p.tables e below (s₁.setTop (mkF m 92 #[.val (.ref o0), .val (.int (0 : Int32)), .val (.int (2 : Int32)), .val (.int (1 : Int32)), .val (.int (8 : Int32))] [(.ref o0), (.int (1 : Int32))])) _
    exact k
  obtain ⟨T1, X1, e1, st1⟩ := castY X0 hx hZ hown (hw _ (List.mem_of_getElem? (i := 40) rfl)) e0 (Ins.self A) (g := (mkF m 92 #[.val (.ref o0), .val (.int (0 : Int32)), .val (.int (2 : Int32)), .val (.int (1 : Int32)), .val (.int (8 : Int32))] [(.ref o0), (.int (1 : Int32))])) rfl rfl (hb hby d6_92)
  refine own_step st1 ?_
  show own_Run p e below s _ _ _ T1 (mkF m 95 #[.val (.ref o0), .val (.int (0 : Int32)), .val (.int (2 : Int32)), .val (.int (1 : Int32)), .val (.int (8 : Int32))] [(.ref o0), (.int (1 : Int32))])
  refine own_step (T' := T1) (g' := (mkF m 97 #[.val (.ref o0), .val (.int (0 : Int32)), .val (.int (2 : Int32)), .val (.int (1 : Int32)), .val (.int (8 : Int32))] [(.int (2 : Int32)), (.int (0 : Int32)), (.ref o0), (.int (1 : Int32))])) (fun t k => ?_) ?_
  · show Steps p.tables e below (T1.setTop (mkF m 95 #[.val (.ref o0), .val (.int (0 : Int32)), .val (.int (2 : Int32)), .val (.int (1 : Int32)), .val (.int (8 : Int32))] [(.ref o0), (.int (1 : Int32))])) _
    refine XS.iloadN X1.here hx rfl (hb hby d6_95) rfl ?_
    show Steps p.tables e below (T1.setTop (mkF m 96 #[.val (.ref o0), .val (.int (0 : Int32)), .val (.int (2 : Int32)), .val (.int (1 : Int32)), .val (.int (8 : Int32))] [(.int (0 : Int32)), (.ref o0), (.int (1 : Int32))])) _
    refine XS.iloadN X1.here hx rfl (hb hby d6_96) rfl ?_
    show Steps p.tables e below (T1.setTop (mkF m 97 #[.val (.ref o0), .val (.int (0 : Int32)), .val (.int (2 : Int32)), .val (.int (1 : Int32)), .val (.int (8 : Int32))] [(.int (2 : Int32)), (.int (0 : Int32)), (.ref o0), (.int (1 : Int32))])) _
    exact k
  obtain ⟨_, _, ⟨T2, L2, k2, n2⟩, -, X2, ⟨Lc2, hQ2, l2, y2, z2⟩, st2⟩ := Jvm.LawKit.callS X1 hx (y := (⟨"jdk/internal/util/ArraysSupport", "hashCode", "(I[BII)I"⟩ : MethodName)) hown (mvT hZ (hw _ (List.mem_of_getElem? (i := 41) rfl))) (mvT hZ (hw _ (List.mem_of_getElem? (i := 42) rfl))) (mvT hZ (hw _ (List.mem_of_getElem? (i := 38) rfl))) (mvT hZ (hw _ (List.mem_of_getElem? (i := 43) rfl))) (by decide) (backOf (W := 0) (rm7 l Z a0 hw [] o0 k c0 c1 h0 n0 Z0 V) hZ (hw _ (List.mem_of_getElem? (i := 43) rfl)) (hw _ (List.mem_of_getElem? (i := 38) rfl)) (by decide) (by decide)) (g := (mkF m 97 #[.val (.ref o0), .val (.int (0 : Int32)), .val (.int (2 : Int32)), .val (.int (1 : Int32)), .val (.int (8 : Int32))] [(.int (2 : Int32)), (.int (0 : Int32)), (.ref o0), (.int (1 : Int32))])) rfl (by rw [hml]; rfl) (argsL := [(.int (1 : Int32)), (.ref o0), (.int (0 : Int32)), (.int (2 : Int32))]) (rest := []) (lenOf pd_0 rfl) rfl (by show 2 * 0 + _ ≤ _; exact Nat.le_of_eq rfl) (hb hby d6_97) (fun _ _ => ⟨rfl, e1, (by decide : 0 + 0 ≤ _), (by decide : 0 + 0 ≤ _)⟩)
  dsimp only [Pt.U, Pt.locs, Pt.cells, Pt.slots] at X2 l2 y2 z2 st2 hQ2
  subst l2 y2 z2
  obtain ⟨rfl, N2q, eq2⟩ := hQ2
  have N2 := Fr.app N0 N2q
  refine own_step st2 ?_
  show own_Run p e below s _ _ _ T2 (mkF m 100 #[.val (.ref o0), .val (.int (0 : Int32)), .val (.int (2 : Int32)), .val (.int (1 : Int32)), .val (.int (8 : Int32))] [(.int (own_ah c0 c1))])
  refine own_step (T' := T2) (g' := (mkF m 157 #[.val (.ref o0), .val (.int (0 : Int32)), .val (.int (2 : Int32)), .val (.int (1 : Int32)), .val (.int (8 : Int32))] [(.int (own_ah c0 c1))])) (fun t k => ?_) ?_
  · show Steps p.tables e below (T2.setTop (mkF m 100 #[.val (.ref o0), .val (.int (0 : Int32)), .val (.int (2 : Int32)), .val (.int (1 : Int32)), .val (.int (8 : Int32))] [(.int (own_ah c0 c1))])) _
    refine XS.goto X2.here hx rfl (pc0 := 100) (pc' := 157) rfl (hb hby d6_100) (by decide) (by decide) ?_
    show Steps p.tables e below (T2.setTop (mkF m 157 #[.val (.ref o0), .val (.int (0 : Int32)), .val (.int (2 : Int32)), .val (.int (1 : Int32)), .val (.int (8 : Int32))] [(.int (own_ah c0 c1))])) _
    exact k
  refine own_retI X2 hx Bd.returns (hb hby d6_157) (BodyLoose.notSynchronized Bd) (by decide) (by decide) ?_
  rw [show T2.heap = h0 from eq2]
  exact ⟨rfl, N2, rfl⟩
theorem d5_0 : decode jdk_65_method_153_code 0 = .ok (.aload_n 0, 1) := by decide +kernel
theorem d5_1 : decode jdk_65_method_153_code 1 = .ok (.ifnonnull 5, 3) := by decide +kernel
theorem d5_6 : decode jdk_65_method_153_code 6 = .ok (.aload_n 0, 1) := by decide +kernel
theorem d5_7 : decode jdk_65_method_153_code 7 = .ok (.arraylength, 1) := by decide +kernel
theorem d5_8 : decode jdk_65_method_153_code 8 = .ok (.lookupswitch 41 #[(0, 28), (1, 32)], 28) := by decide +kernel
theorem d5_36 : decode jdk_65_method_153_code 36 = .ok (.iconst 1, 1) := by decide +kernel
theorem d5_37 : decode jdk_65_method_153_code 37 = .ok (.goto 22, 3) := by decide +kernel
theorem d5_59 : decode jdk_65_method_153_code 59 = .ok (.ireturn, 1) := by decide +kernel
theorem pn_rm5e : plainName "java/util/Arrays" = true := by first | (simp [plainName, overriddenIn]; done) | decide +kernel
theorem ef_rm5e (m : MethodId) (o0 : Addr) : entryFrame m #[(.ref o0)] 1 = mkF m 0 #[.val (.ref o0)] [] := by first | (simp [entryFrame, mkF, argsToLocals, Value.category, maxLocals]; done) | rfl
def rm5e_Q (Z : State) (o0 : Addr) (k : ClassId) (h0 : Heap) (n0 : Nat) (v : Option Value) (h : Heap) (L : List Loc) : Prop := v = some (.int (1 : Int32)) ∧ Fr n0 L ∧ h = h0
set_option maxRecDepth 65536 in
set_option maxHeartbeats 40000000 in
theorem rm5e (l : Launch) (Z : State) (a0 : Array Value) (hw : ∀ d ∈ tables_1, d.before a0 Z = true) (ws : List Jvm.Cond) (o0 : Addr) (k : ClassId) (h0 : Heap) (n0 : Nat) (Z0 : n0 ≤ h0.size) (V : Arv Z h0 o0 k .byte (0 : Int32) [] (.int (0 : Int32))) :
    MetFree l (⟨"java/util/Arrays", "hashCode", "([B)I"⟩ : MethodName) (head1 (Jvm.Cond.code (⟨"java/util/Arrays", "hashCode", "([B)I"⟩ : MethodName) jdk_65_method_153_code 1 (some .int) :: ws) ({ frames := 0, cells := 0, slots := 0, locals := 0 } : Room)) (fun a U => a = #[(.ref o0)] ∧ Z.Warmed39 U.vm ∧ U.heap = h0) (fun _ _ _ _ _ => True) (fun _ U o U' => ∃ v L, o = .returned v ∧ rm5e_Q Z o0 k h0 n0 v U'.heap L ∧ FrameEnd U o U' L ({ frames := 0, cells := 0, slots := 0, locals := 0 } : Room).cells ({ frames := 0, cells := 0, slots := 0, locals := 0 } : Room).slots) := by
  refine MetFree.of_bodySF (plainFor_of_name pn_rm5e) hisR ?_
  intro p e s m args below meth c s₁ Bd hml0 hP hK
  obtain ⟨rfl, hZ, hh⟩ := hP
  have hx := Bd.exec
  have hby := Bd.bytes
  have hml : c.maxLocals = 1 := hml0
  have hown : s.vm.findClass "java/util/Arrays" = some m.cls := findClass_of_methodNamed Bd.named
  have hnm := (name_of_methodNamed Bd.named Bd.method).1
  have X0 : Stand p l e ({ frames := 0, cells := 0, slots := 0, locals := 0 } : Room) s m #[(.ref o0)] below meth c s₁ [] 0 0 := Stand.of_body Bd
  have e0 : s₁.heap = h0 := by rw [← hh, Bd.state]; rfl
  have N0 := Fr.nil n0
  refine own_enter (QQ := rm5e_Q Z o0 k h0 n0) (ef_rm5e m o0) ?_
  show own_Run p e below s _ _ _ s₁ (mkF m 0 #[.val (.ref o0)] [])
  refine own_step (T' := s₁) (g' := (mkF m 7 #[.val (.ref o0)] [(.ref o0)])) (fun t k => ?_) ?_
  · show Steps p.tables e below (s₁.setTop (mkF m 0 #[.val (.ref o0)] [])) _
    refine XS.aloadN X0.here hx rfl (hb hby d5_0) rfl rfl ?_
    show Steps p.tables e below (s₁.setTop (mkF m 1 #[.val (.ref o0)] [(.ref o0)])) _
    refine XS.ifnonnullYes X0.here hx rfl (pc0 := 1) (pc' := 6) rfl (hb hby d5_1) rfl (by decide) (by decide) ?_
    show Steps p.tables e below (s₁.setTop (mkF m 6 #[.val (.ref o0)] [])) _
    refine XS.aloadN X0.here hx rfl (hb hby d5_6) rfl rfl ?_
    show Steps p.tables e below (s₁.setTop (mkF m 7 #[.val (.ref o0)] [(.ref o0)])) _
    exact k
  obtain ⟨cl1, Arcl1, -, Scl1, Mcl1, -, -⟩ := id V
  refine own_step (T' := s₁) (g' := (mkF m 59 #[.val (.ref o0)] [(.int (1 : Int32))])) (fun t k => ?_) ?_
  · show Steps p.tables e below (s₁.setTop (mkF m 7 #[.val (.ref o0)] [(.ref o0)])) _
    refine X0.arraylength hx (by rw [e0]; exact Arcl1.1) (State.isArrayOf_alike hZ.alike Arcl1.2.1) (g := (mkF m 7 #[.val (.ref o0)] [(.ref o0)])) rfl rfl (hb hby d5_7) _ ?_
    rw [len_of Scl1 Mcl1]
    show Steps p.tables e below (s₁.setTop (mkF m 8 #[.val (.ref o0)] [(.int (0 : Int32))])) _
    refine X0.lookupswitchHit hx (g := (mkF m 8 #[.val (.ref o0)] [(.int (0 : Int32))])) rfl (k := (0 : Int32)) (rest := []) rfl (hb hby d5_8) (by decide) (a := 0) (off := 28) (by decide) (by show (0 : Int) ≤ (8 : Nat) + 28; decide) _ ?_
    show Steps p.tables e below (s₁.setTop (mkF m 36 #[.val (.ref o0)] [])) _
    refine XS.iconst X0.here hx rfl (hb hby d5_36) ?_
    show Steps p.tables e below (s₁.setTop (mkF m 37 #[.val (.ref o0)] [(.int (1 : Int32))])) _
    refine XS.goto X0.here hx rfl (pc0 := 37) (pc' := 59) rfl (hb hby d5_37) (by decide) (by decide) ?_
    show Steps p.tables e below (s₁.setTop (mkF m 59 #[.val (.ref o0)] [(.int (1 : Int32))])) _
    exact k
  refine own_retI X0 hx Bd.returns (hb hby d5_59) (BodyLoose.notSynchronized Bd) (by decide) (by decide) ?_
  rw [show s₁.heap = h0 from e0]
  exact ⟨rfl, N0, rfl⟩
theorem d5_49 : decode jdk_65_method_153_code 49 = .ok (.aload_n 0, 1) := by decide +kernel
theorem d5_50 : decode jdk_65_method_153_code 50 = .ok (.iconst 0, 1) := by decide +kernel
theorem d5_51 : decode jdk_65_method_153_code 51 = .ok (.aload_n 0, 1) := by decide +kernel
theorem d5_52 : decode jdk_65_method_153_code 52 = .ok (.arraylength, 1) := by decide +kernel
theorem d5_53 : decode jdk_65_method_153_code 53 = .ok (.iconst 1, 1) := by decide +kernel
theorem d5_54 : decode jdk_65_method_153_code 54 = .ok (.bipush 8, 2) := by decide +kernel
theorem d5_56 : decode jdk_65_method_153_code 56 = .ok (.invokestatic 379, 3) := by decide +kernel
theorem pn_rm5n : plainName "java/util/Arrays" = true := by first | (simp [plainName, overriddenIn]; done) | decide +kernel
theorem ef_rm5n (m : MethodId) (o0 : Addr) : entryFrame m #[(.ref o0)] 1 = mkF m 0 #[.val (.ref o0)] [] := by first | (simp [entryFrame, mkF, argsToLocals, Value.category, maxLocals]; done) | rfl
def rm5n_Q (Z : State) (o0 : Addr) (k : ClassId) (c0 : Int32) (c1 : Int32) (h0 : Heap) (n0 : Nat) (v : Option Value) (h : Heap) (L : List Loc) : Prop := v = some (.int (own_ah c0 c1)) ∧ Fr n0 L ∧ h = h0
set_option maxRecDepth 65536 in
set_option maxHeartbeats 40000000 in
theorem rm5n (l : Launch) (Z : State) (a0 : Array Value) (hw : ∀ d ∈ tables_1, d.before a0 Z = true) (ws : List Jvm.Cond) (o0 : Addr) (k : ClassId) (c0 : Int32) (c1 : Int32) (h0 : Heap) (n0 : Nat) (Z0 : n0 ≤ h0.size) (V : Arv Z h0 o0 k .byte (2 : Int32) [(.int c0), (.int c1)] (.int (0 : Int32))) (A : Exa Z h0 o0 "[B") :
    MetFree l (⟨"java/util/Arrays", "hashCode", "([B)I"⟩ : MethodName) (head1 (Jvm.Cond.code (⟨"java/util/Arrays", "hashCode", "([B)I"⟩ : MethodName) jdk_65_method_153_code 1 (some .int) :: ws) ({ frames := 2, cells := 0, slots := 0, locals := 33 } : Room)) (fun a U => a = #[(.ref o0)] ∧ Z.Warmed39 U.vm ∧ U.heap = h0) (fun _ _ _ _ _ => True) (fun _ U o U' => ∃ v L, o = .returned v ∧ rm5n_Q Z o0 k c0 c1 h0 n0 v U'.heap L ∧ FrameEnd U o U' L ({ frames := 2, cells := 0, slots := 0, locals := 33 } : Room).cells ({ frames := 2, cells := 0, slots := 0, locals := 33 } : Room).slots) := by
  refine MetFree.of_bodySF (plainFor_of_name pn_rm5n) hisR ?_
  intro p e s m args below meth c s₁ Bd hml0 hP hK
  obtain ⟨rfl, hZ, hh⟩ := hP
  have hx := Bd.exec
  have hby := Bd.bytes
  have hml : c.maxLocals = 1 := hml0
  have hown : s.vm.findClass "java/util/Arrays" = some m.cls := findClass_of_methodNamed Bd.named
  have hnm := (name_of_methodNamed Bd.named Bd.method).1
  have X0 : Stand p l e ({ frames := 2, cells := 0, slots := 0, locals := 33 } : Room) s m #[(.ref o0)] below meth c s₁ [] 0 0 := Stand.of_body Bd
  have e0 : s₁.heap = h0 := by rw [← hh, Bd.state]; rfl
  have N0 := Fr.nil n0
  refine own_enter (QQ := rm5n_Q Z o0 k c0 c1 h0 n0) (ef_rm5n m o0) ?_
  show own_Run p e below s _ _ _ s₁ (mkF m 0 #[.val (.ref o0)] [])
  refine own_step (T' := s₁) (g' := (mkF m 7 #[.val (.ref o0)] [(.ref o0)])) (fun t k => ?_) ?_
  · show Steps p.tables e below (s₁.setTop (mkF m 0 #[.val (.ref o0)] [])) _
    refine XS.aloadN X0.here hx rfl (hb hby d5_0) rfl rfl ?_
    show Steps p.tables e below (s₁.setTop (mkF m 1 #[.val (.ref o0)] [(.ref o0)])) _
    refine XS.ifnonnullYes X0.here hx rfl (pc0 := 1) (pc' := 6) rfl (hb hby d5_1) rfl (by decide) (by decide) ?_
    show Steps p.tables e below (s₁.setTop (mkF m 6 #[.val (.ref o0)] [])) _
    refine XS.aloadN X0.here hx rfl (hb hby d5_6) rfl rfl ?_
    show Steps p.tables e below (s₁.setTop (mkF m 7 #[.val (.ref o0)] [(.ref o0)])) _
    exact k
  obtain ⟨cl1, Arcl1, -, Scl1, Mcl1, -, -⟩ := id V
  refine own_step (T' := s₁) (g' := (mkF m 52 #[.val (.ref o0)] [(.ref o0), (.int (0 : Int32)), (.ref o0)])) (fun t k => ?_) ?_
  · show Steps p.tables e below (s₁.setTop (mkF m 7 #[.val (.ref o0)] [(.ref o0)])) _
    refine X0.arraylength hx (by rw [e0]; exact Arcl1.1) (State.isArrayOf_alike hZ.alike Arcl1.2.1) (g := (mkF m 7 #[.val (.ref o0)] [(.ref o0)])) rfl rfl (hb hby d5_7) _ ?_
    rw [len_of Scl1 Mcl1]
    show Steps p.tables e below (s₁.setTop (mkF m 8 #[.val (.ref o0)] [(.int (2 : Int32))])) _
    refine X0.lookupswitchMiss hx (g := (mkF m 8 #[.val (.ref o0)] [(.int (2 : Int32))])) rfl (k := (2 : Int32)) (rest := []) rfl (hb hby d5_8) (by decide) (by decide) (by show (0 : Int) ≤ (8 : Nat) + 41; decide) _ ?_
    show Steps p.tables e below (s₁.setTop (mkF m 49 #[.val (.ref o0)] [])) _
    refine XS.aloadN X0.here hx rfl (hb hby d5_49) rfl rfl ?_
    show Steps p.tables e below (s₁.setTop (mkF m 50 #[.val (.ref o0)] [(.ref o0)])) _
    refine XS.iconst X0.here hx rfl (hb hby d5_50) ?_
    show Steps p.tables e below (s₁.setTop (mkF m 51 #[.val (.ref o0)] [(.int (0 : Int32)), (.ref o0)])) _
    refine XS.aloadN X0.here hx rfl (hb hby d5_51) rfl rfl ?_
    show Steps p.tables e below (s₁.setTop (mkF m 52 #[.val (.ref o0)] [(.ref o0), (.int (0 : Int32)), (.ref o0)])) _
    exact k
  obtain ⟨cl2, Arcl2, -, Scl2, Mcl2, -, -⟩ := id V
  refine own_step (T' := s₁) (g' := (mkF m 56 #[.val (.ref o0)] [(.int (8 : Int32)), (.int (1 : Int32)), (.int (2 : Int32)), (.int (0 : Int32)), (.ref o0)])) (fun t k => ?_) ?_
  · show Steps p.tables e below (s₁.setTop (mkF m 52 #[.val (.ref o0)] [(.ref o0), (.int (0 : Int32)), (.ref o0)])) _
    refine X0.arraylength hx (by rw [e0]; exact Arcl2.1) (State.isArrayOf_alike hZ.alike Arcl2.2.1) (g := (mkF m 52 #[.val (.ref o0)] [(.ref o0), (.int (0 : Int32)), (.ref o0)])) rfl rfl (hb hby d5_52) _ ?_
    rw [len_of Scl2 Mcl2]
    show Steps p.tables e below (s₁.setTop (mkF m 53 #[.val (.ref o0)] [(.int (2 : Int32)), (.int (0 : Int32)), (.ref o0)])) _
    refine XS.iconst X0.here hx rfl (hb hby d5_53) ?_
    show Steps p.tables e below (s₁.setTop (mkF m 54 #[.val (.ref o0)] [(.int (1 : Int32)), (.int (2 : Int32)), (.int (0 : Int32)), (.ref o0)])) _
    refine XS.bipush X0.here hx rfl (hb hby d5_54) ?_
    show Steps p.tables e below (s₁.setTop (mkF m 56 #[.val (.ref o0)] [(.int (8 : Int32)), (.int (1 : Int32)), (.int (2 : Int32)), (.int (0 : Int32)), (.ref o0)])) _
    exact k
  obtain ⟨_, _, ⟨T3, L3, k3, n3⟩, -, X3, ⟨Lc3, hQ3, l3, y3, z3⟩, st3⟩ := Jvm.LawKit.callS X0 hx (y := (⟨"jdk/internal/util/ArraysSupport", "vectorizedHashCode", "(Ljava/lang/Object;IIII)I"⟩ : MethodName)) hown (mvT hZ (hw _ (List.mem_of_getElem? (i := 36) rfl))) (mvT hZ (hw _ (List.mem_of_getElem? (i := 37) rfl))) (mvT hZ (hw _ (List.mem_of_getElem? (i := 38) rfl))) (mvT hZ (hw _ (List.mem_of_getElem? (i := 39) rfl))) (by decide) (backOf (W := 0) (rm6 l Z a0 hw [] o0 k c0 c1 h0 n0 Z0 V A) hZ (hw _ (List.mem_of_getElem? (i := 39) rfl)) (hw _ (List.mem_of_getElem? (i := 38) rfl)) (by decide) (by decide)) (g := (mkF m 56 #[.val (.ref o0)] [(.int (8 : Int32)), (.int (1 : Int32)), (.int (2 : Int32)), (.int (0 : Int32)), (.ref o0)])) rfl (by rw [hml]; rfl) (argsL := [(.ref o0), (.int (0 : Int32)), (.int (2 : Int32)), (.int (1 : Int32)), (.int (8 : Int32))]) (rest := []) (lenOf pd_1 rfl) rfl (by show 2 * 0 + _ ≤ _; exact Nat.le_of_eq rfl) (hb hby d5_56) (fun _ _ => ⟨rfl, e0, (by decide : 0 + 0 ≤ _), (by decide : 0 + 0 ≤ _)⟩)
  dsimp only [Pt.U, Pt.locs, Pt.cells, Pt.slots] at X3 l3 y3 z3 st3 hQ3
  subst l3 y3 z3
  obtain ⟨rfl, N3q, eq3⟩ := hQ3
  have N3 := Fr.app N0 N3q
  refine own_step st3 ?_
  show own_Run p e below s _ _ _ T3 (mkF m 59 #[.val (.ref o0)] [(.int (own_ah c0 c1))])
  refine own_retI X3 hx Bd.returns (hb hby d5_59) (BodyLoose.notSynchronized Bd) (by decide) (by decide) ?_
  rw [show T3.heap = h0 from eq3]
  exact ⟨rfl, N3, rfl⟩
theorem d3_0 : decode prog_13_method_9_code 0 = .ok (.aload_n 0, 1) := by decide +kernel
theorem d3_1 : decode prog_13_method_9_code 1 = .ok (.getfield 7, 3) := by decide +kernel
theorem d3_4 : decode prog_13_method_9_code 4 = .ok (.invokestatic 119, 3) := by decide +kernel
theorem d3_7 : decode prog_13_method_9_code 7 = .ok (.bipush 31, 2) := by decide +kernel
theorem d3_9 : decode prog_13_method_9_code 9 = .ok (.imul, 1) := by decide +kernel
theorem d3_10 : decode prog_13_method_9_code 10 = .ok (.aload_n 0, 1) := by decide +kernel
theorem d3_11 : decode prog_13_method_9_code 11 = .ok (.getfield 19, 3) := by decide +kernel
theorem d3_14 : decode prog_13_method_9_code 14 = .ok (.invokestatic 123, 3) := by decide +kernel
theorem d3_17 : decode prog_13_method_9_code 17 = .ok (.iadd, 1) := by decide +kernel
theorem d3_18 : decode prog_13_method_9_code 18 = .ok (.ireturn, 1) := by decide +kernel
theorem pn_rm3e : plainName "com/example/bevaka/bevaka/store/Checkpoint" = true := by first | (simp [plainName, overriddenIn]; done) | decide +kernel
theorem ef_rm3e (m : MethodId) (o0 : Addr) : entryFrame m #[(.ref o0)] 1 = mkF m 0 #[.val (.ref o0)] [] := by first | (simp [entryFrame, mkF, argsToLocals, Value.category, maxLocals]; done) | rfl
def rm3e_Q (Z : State) (o0 : Addr) (w : Int64) (cx : Addr) (k : ClassId) (h0 : Heap) (n0 : Nat) (v : Option Value) (h : Heap) (L : List Loc) : Prop := v = some (.int (((own_lh w) * (31 : Int32)) + (1 : Int32))) ∧ Fr n0 L ∧ h = h0
set_option maxRecDepth 65536 in
set_option maxHeartbeats 40000000 in
theorem rm3e (l : Launch) (Z : State) (a0 : Array Value) (hw : ∀ d ∈ tables_1, d.before a0 Z = true) (ws : List Jvm.Cond) (o0 : Addr) (w : Int64) (cx : Addr) (k : ClassId) (h0 : Heap) (n0 : Nat) (Z0 : n0 ≤ h0.size) (F_r : Fld Z h0 o0 "com/example/bevaka/bevaka/store/Checkpoint" "records" "J" (.long w)) (F_c : Fld Z h0 o0 "com/example/bevaka/bevaka/store/Checkpoint" "chain" "[B" (.ref cx)) (V : Arv Z h0 cx k .byte (0 : Int32) [] (.int (0 : Int32))) :
    MetFree l (⟨"com/example/bevaka/bevaka/store/Checkpoint", "hashCode", "()I"⟩ : MethodName) (head1 (Jvm.Cond.code (⟨"com/example/bevaka/bevaka/store/Checkpoint", "hashCode", "()I"⟩ : MethodName) prog_13_method_9_code 1 (some .int) :: ws) ({ frames := 1, cells := 0, slots := 0, locals := 13 } : Room)) (fun a U => a = #[(.ref o0)] ∧ Z.Warmed39 U.vm ∧ U.heap = h0) (fun _ _ _ _ _ => True) (fun _ U o U' => ∃ v L, o = .returned v ∧ rm3e_Q Z o0 w cx k h0 n0 v U'.heap L ∧ FrameEnd U o U' L ({ frames := 1, cells := 0, slots := 0, locals := 13 } : Room).cells ({ frames := 1, cells := 0, slots := 0, locals := 13 } : Room).slots) := by
  refine MetFree.of_bodySF (plainFor_of_name pn_rm3e) hisR ?_
  intro p e s m args below meth c s₁ Bd hml0 hP hK
  obtain ⟨rfl, hZ, hh⟩ := hP
  have hx := Bd.exec
  have hby := Bd.bytes
  have hml : c.maxLocals = 1 := hml0
  have hown : s.vm.findClass "com/example/bevaka/bevaka/store/Checkpoint" = some m.cls := findClass_of_methodNamed Bd.named
  have hnm := (name_of_methodNamed Bd.named Bd.method).1
  have X0 : Stand p l e ({ frames := 1, cells := 0, slots := 0, locals := 13 } : Room) s m #[(.ref o0)] below meth c s₁ [] 0 0 := Stand.of_body Bd
  have e0 : s₁.heap = h0 := by rw [← hh, Bd.state]; rfl
  have N0 := Fr.nil n0
  refine own_enter (QQ := rm3e_Q Z o0 w cx k h0 n0) (ef_rm3e m o0) ?_
  show own_Run p e below s _ _ _ s₁ (mkF m 0 #[.val (.ref o0)] [])
  refine own_step (T' := s₁) (g' := (mkF m 1 #[.val (.ref o0)] [(.ref o0)])) (fun t k => ?_) ?_
  · show Steps p.tables e below (s₁.setTop (mkF m 0 #[.val (.ref o0)] [])) _
    refine XS.aloadN X0.here hx rfl (hb hby d3_0) rfl rfl ?_
    show Steps p.tables e below (s₁.setTop (mkF m 1 #[.val (.ref o0)] [(.ref o0)])) _
    exact k
  obtain ⟨T1, X1, e1, st1⟩ := getF X0 hx hZ hown (host := "") (Or.inl (hw _ (List.mem_of_getElem? (i := 10) rfl))) Via.refl e0 F_r (g := (mkF m 1 #[.val (.ref o0)] [(.ref o0)])) rfl rfl (hb hby d3_1)
  refine own_step st1 ?_
  show own_Run p e below s _ _ _ T1 (mkF m 4 #[.val (.ref o0)] [(.long w)])
  obtain ⟨_, _, ⟨T2, L2, k2, n2⟩, -, X2, ⟨Lc2, hQ2, l2, y2, z2⟩, st2⟩ := Jvm.LawKit.callS X1 hx (y := (⟨"java/lang/Long", "hashCode", "(J)I"⟩ : MethodName)) hown (mvT hZ (hw _ (List.mem_of_getElem? (i := 28) rfl))) (mvT hZ (hw _ (List.mem_of_getElem? (i := 29) rfl))) (mvT hZ (hw _ (List.mem_of_getElem? (i := 30) rfl))) (mvT hZ (hw _ (List.mem_of_getElem? (i := 31) rfl))) (by decide) (backOf (W := 0) (rm4 l Z a0 hw [] w  h0 n0 Z0) hZ (hw _ (List.mem_of_getElem? (i := 31) rfl)) (hw _ (List.mem_of_getElem? (i := 30) rfl)) (by decide) (by decide)) (g := (mkF m 4 #[.val (.ref o0)] [(.long w)])) rfl (by rw [hml]; rfl) (argsL := [(.long w)]) (rest := []) (lenOf pd_2 rfl) rfl (by show 2 * 0 + _ ≤ _; exact Nat.le_of_eq rfl) (hb hby d3_4) (fun _ _ => ⟨rfl, e1, (by decide : 0 + 0 ≤ _), (by decide : 0 + 0 ≤ _)⟩)
  dsimp only [Pt.U, Pt.locs, Pt.cells, Pt.slots] at X2 l2 y2 z2 st2 hQ2
  subst l2 y2 z2
  obtain ⟨rfl, N2q, eq2⟩ := hQ2
  have N2 := Fr.app N0 N2q
  refine own_step st2 ?_
  show own_Run p e below s _ _ _ T2 (mkF m 7 #[.val (.ref o0)] [(.int (own_lh w))])
  refine own_step (T' := T2) (g' := (mkF m 11 #[.val (.ref o0)] [(.ref o0), (.int ((own_lh w) * (31 : Int32)))])) (fun t k => ?_) ?_
  · show Steps p.tables e below (T2.setTop (mkF m 7 #[.val (.ref o0)] [(.int (own_lh w))])) _
    refine XS.bipush X2.here hx rfl (hb hby d3_7) ?_
    show Steps p.tables e below (T2.setTop (mkF m 9 #[.val (.ref o0)] [(.int (31 : Int32)), (.int (own_lh w))])) _
    refine XS.imul X2.here hx rfl (hb hby d3_9) rfl ?_
    show Steps p.tables e below (T2.setTop (mkF m 10 #[.val (.ref o0)] [(.int ((own_lh w) * (31 : Int32)))])) _
    refine XS.aloadN X2.here hx rfl (hb hby d3_10) rfl rfl ?_
    show Steps p.tables e below (T2.setTop (mkF m 11 #[.val (.ref o0)] [(.ref o0), (.int ((own_lh w) * (31 : Int32)))])) _
    exact k
  obtain ⟨T3, X3, e3, st3⟩ := getF X2 hx hZ hown (host := "") (Or.inl (hw _ (List.mem_of_getElem? (i := 21) rfl))) Via.refl eq2 F_c (g := (mkF m 11 #[.val (.ref o0)] [(.ref o0), (.int ((own_lh w) * (31 : Int32)))])) rfl rfl (hb hby d3_11)
  refine own_step st3 ?_
  show own_Run p e below s _ _ _ T3 (mkF m 14 #[.val (.ref o0)] [(.ref cx), (.int ((own_lh w) * (31 : Int32)))])
  obtain ⟨_, _, ⟨T4, L4, k4, n4⟩, -, X4, ⟨Lc4, hQ4, l4, y4, z4⟩, st4⟩ := Jvm.LawKit.callS X3 hx (y := (⟨"java/util/Arrays", "hashCode", "([B)I"⟩ : MethodName)) hown (mvT hZ (hw _ (List.mem_of_getElem? (i := 32) rfl))) (mvT hZ (hw _ (List.mem_of_getElem? (i := 33) rfl))) (mvT hZ (hw _ (List.mem_of_getElem? (i := 34) rfl))) (mvT hZ (hw _ (List.mem_of_getElem? (i := 35) rfl))) (by decide) (backOf (W := 1) (rm5e l Z a0 hw [] cx k h0 n0 Z0 V) hZ (hw _ (List.mem_of_getElem? (i := 35) rfl)) (hw _ (List.mem_of_getElem? (i := 34) rfl)) (by decide) (by decide)) (g := (mkF m 14 #[.val (.ref o0)] [(.ref cx), (.int ((own_lh w) * (31 : Int32)))])) rfl (by rw [hml]; rfl) (argsL := [(.ref cx)]) (rest := [(.int ((own_lh w) * (31 : Int32)))]) (lenOf pd_3 rfl) rfl (by show 2 * 0 + _ ≤ _; exact Nat.le_of_eq rfl) (hb hby d3_14) (fun _ _ => ⟨rfl, e3, (by decide : 0 + 0 ≤ _), (by decide : 0 + 0 ≤ _)⟩)
  dsimp only [Pt.U, Pt.locs, Pt.cells, Pt.slots] at X4 l4 y4 z4 st4 hQ4
  subst l4 y4 z4
  obtain ⟨rfl, N4q, eq4⟩ := hQ4
  have N4 := Fr.app N2 N4q
  refine own_step st4 ?_
  show own_Run p e below s _ _ _ T4 (mkF m 17 #[.val (.ref o0)] [(.int (1 : Int32)), (.int ((own_lh w) * (31 : Int32)))])
  refine own_step (T' := T4) (g' := (mkF m 18 #[.val (.ref o0)] [(.int (((own_lh w) * (31 : Int32)) + (1 : Int32)))])) (fun t k => ?_) ?_
  · show Steps p.tables e below (T4.setTop (mkF m 17 #[.val (.ref o0)] [(.int (1 : Int32)), (.int ((own_lh w) * (31 : Int32)))])) _
    refine XS.iadd X4.here hx rfl (hb hby d3_17) rfl ?_
    show Steps p.tables e below (T4.setTop (mkF m 18 #[.val (.ref o0)] [(.int (((own_lh w) * (31 : Int32)) + (1 : Int32)))])) _
    exact k
  refine own_retI X4 hx Bd.returns (hb hby d3_18) (BodyLoose.notSynchronized Bd) (by decide) (by decide) ?_
  rw [show T4.heap = h0 from eq4]
  exact ⟨rfl, N4, rfl⟩
theorem pn_rm3n : plainName "com/example/bevaka/bevaka/store/Checkpoint" = true := by first | (simp [plainName, overriddenIn]; done) | decide +kernel
theorem ef_rm3n (m : MethodId) (o0 : Addr) : entryFrame m #[(.ref o0)] 1 = mkF m 0 #[.val (.ref o0)] [] := by first | (simp [entryFrame, mkF, argsToLocals, Value.category, maxLocals]; done) | rfl
def rm3n_Q (Z : State) (o0 : Addr) (w : Int64) (cx : Addr) (k : ClassId) (c0 : Int32) (c1 : Int32) (h0 : Heap) (n0 : Nat) (v : Option Value) (h : Heap) (L : List Loc) : Prop := v = some (.int (((own_lh w) * (31 : Int32)) + (own_ah c0 c1))) ∧ Fr n0 L ∧ h = h0
set_option maxRecDepth 65536 in
set_option maxHeartbeats 40000000 in
theorem rm3n (l : Launch) (Z : State) (a0 : Array Value) (hw : ∀ d ∈ tables_1, d.before a0 Z = true) (ws : List Jvm.Cond) (o0 : Addr) (w : Int64) (cx : Addr) (k : ClassId) (c0 : Int32) (c1 : Int32) (h0 : Heap) (n0 : Nat) (Z0 : n0 ≤ h0.size) (F_r : Fld Z h0 o0 "com/example/bevaka/bevaka/store/Checkpoint" "records" "J" (.long w)) (F_c : Fld Z h0 o0 "com/example/bevaka/bevaka/store/Checkpoint" "chain" "[B" (.ref cx)) (V : Arv Z h0 cx k .byte (2 : Int32) [(.int c0), (.int c1)] (.int (0 : Int32))) (A : Exa Z h0 cx "[B") :
    MetFree l (⟨"com/example/bevaka/bevaka/store/Checkpoint", "hashCode", "()I"⟩ : MethodName) (head1 (Jvm.Cond.code (⟨"com/example/bevaka/bevaka/store/Checkpoint", "hashCode", "()I"⟩ : MethodName) prog_13_method_9_code 1 (some .int) :: ws) ({ frames := 3, cells := 0, slots := 0, locals := 46 } : Room)) (fun a U => a = #[(.ref o0)] ∧ Z.Warmed39 U.vm ∧ U.heap = h0) (fun _ _ _ _ _ => True) (fun _ U o U' => ∃ v L, o = .returned v ∧ rm3n_Q Z o0 w cx k c0 c1 h0 n0 v U'.heap L ∧ FrameEnd U o U' L ({ frames := 3, cells := 0, slots := 0, locals := 46 } : Room).cells ({ frames := 3, cells := 0, slots := 0, locals := 46 } : Room).slots) := by
  refine MetFree.of_bodySF (plainFor_of_name pn_rm3n) hisR ?_
  intro p e s m args below meth c s₁ Bd hml0 hP hK
  obtain ⟨rfl, hZ, hh⟩ := hP
  have hx := Bd.exec
  have hby := Bd.bytes
  have hml : c.maxLocals = 1 := hml0
  have hown : s.vm.findClass "com/example/bevaka/bevaka/store/Checkpoint" = some m.cls := findClass_of_methodNamed Bd.named
  have hnm := (name_of_methodNamed Bd.named Bd.method).1
  have X0 : Stand p l e ({ frames := 3, cells := 0, slots := 0, locals := 46 } : Room) s m #[(.ref o0)] below meth c s₁ [] 0 0 := Stand.of_body Bd
  have e0 : s₁.heap = h0 := by rw [← hh, Bd.state]; rfl
  have N0 := Fr.nil n0
  refine own_enter (QQ := rm3n_Q Z o0 w cx k c0 c1 h0 n0) (ef_rm3n m o0) ?_
  show own_Run p e below s _ _ _ s₁ (mkF m 0 #[.val (.ref o0)] [])
  refine own_step (T' := s₁) (g' := (mkF m 1 #[.val (.ref o0)] [(.ref o0)])) (fun t k => ?_) ?_
  · show Steps p.tables e below (s₁.setTop (mkF m 0 #[.val (.ref o0)] [])) _
    refine XS.aloadN X0.here hx rfl (hb hby d3_0) rfl rfl ?_
    show Steps p.tables e below (s₁.setTop (mkF m 1 #[.val (.ref o0)] [(.ref o0)])) _
    exact k
  obtain ⟨T1, X1, e1, st1⟩ := getF X0 hx hZ hown (host := "") (Or.inl (hw _ (List.mem_of_getElem? (i := 10) rfl))) Via.refl e0 F_r (g := (mkF m 1 #[.val (.ref o0)] [(.ref o0)])) rfl rfl (hb hby d3_1)
  refine own_step st1 ?_
  show own_Run p e below s _ _ _ T1 (mkF m 4 #[.val (.ref o0)] [(.long w)])
  obtain ⟨_, _, ⟨T2, L2, k2, n2⟩, -, X2, ⟨Lc2, hQ2, l2, y2, z2⟩, st2⟩ := Jvm.LawKit.callS X1 hx (y := (⟨"java/lang/Long", "hashCode", "(J)I"⟩ : MethodName)) hown (mvT hZ (hw _ (List.mem_of_getElem? (i := 28) rfl))) (mvT hZ (hw _ (List.mem_of_getElem? (i := 29) rfl))) (mvT hZ (hw _ (List.mem_of_getElem? (i := 30) rfl))) (mvT hZ (hw _ (List.mem_of_getElem? (i := 31) rfl))) (by decide) (backOf (W := 0) (rm4 l Z a0 hw [] w  h0 n0 Z0) hZ (hw _ (List.mem_of_getElem? (i := 31) rfl)) (hw _ (List.mem_of_getElem? (i := 30) rfl)) (by decide) (by decide)) (g := (mkF m 4 #[.val (.ref o0)] [(.long w)])) rfl (by rw [hml]; rfl) (argsL := [(.long w)]) (rest := []) (lenOf pd_2 rfl) rfl (by show 2 * 0 + _ ≤ _; exact Nat.le_of_eq rfl) (hb hby d3_4) (fun _ _ => ⟨rfl, e1, (by decide : 0 + 0 ≤ _), (by decide : 0 + 0 ≤ _)⟩)
  dsimp only [Pt.U, Pt.locs, Pt.cells, Pt.slots] at X2 l2 y2 z2 st2 hQ2
  subst l2 y2 z2
  obtain ⟨rfl, N2q, eq2⟩ := hQ2
  have N2 := Fr.app N0 N2q
  refine own_step st2 ?_
  show own_Run p e below s _ _ _ T2 (mkF m 7 #[.val (.ref o0)] [(.int (own_lh w))])
  refine own_step (T' := T2) (g' := (mkF m 11 #[.val (.ref o0)] [(.ref o0), (.int ((own_lh w) * (31 : Int32)))])) (fun t k => ?_) ?_
  · show Steps p.tables e below (T2.setTop (mkF m 7 #[.val (.ref o0)] [(.int (own_lh w))])) _
    refine XS.bipush X2.here hx rfl (hb hby d3_7) ?_
    show Steps p.tables e below (T2.setTop (mkF m 9 #[.val (.ref o0)] [(.int (31 : Int32)), (.int (own_lh w))])) _
    refine XS.imul X2.here hx rfl (hb hby d3_9) rfl ?_
    show Steps p.tables e below (T2.setTop (mkF m 10 #[.val (.ref o0)] [(.int ((own_lh w) * (31 : Int32)))])) _
    refine XS.aloadN X2.here hx rfl (hb hby d3_10) rfl rfl ?_
    show Steps p.tables e below (T2.setTop (mkF m 11 #[.val (.ref o0)] [(.ref o0), (.int ((own_lh w) * (31 : Int32)))])) _
    exact k
  obtain ⟨T3, X3, e3, st3⟩ := getF X2 hx hZ hown (host := "") (Or.inl (hw _ (List.mem_of_getElem? (i := 21) rfl))) Via.refl eq2 F_c (g := (mkF m 11 #[.val (.ref o0)] [(.ref o0), (.int ((own_lh w) * (31 : Int32)))])) rfl rfl (hb hby d3_11)
  refine own_step st3 ?_
  show own_Run p e below s _ _ _ T3 (mkF m 14 #[.val (.ref o0)] [(.ref cx), (.int ((own_lh w) * (31 : Int32)))])
  obtain ⟨_, _, ⟨T4, L4, k4, n4⟩, -, X4, ⟨Lc4, hQ4, l4, y4, z4⟩, st4⟩ := Jvm.LawKit.callS X3 hx (y := (⟨"java/util/Arrays", "hashCode", "([B)I"⟩ : MethodName)) hown (mvT hZ (hw _ (List.mem_of_getElem? (i := 32) rfl))) (mvT hZ (hw _ (List.mem_of_getElem? (i := 33) rfl))) (mvT hZ (hw _ (List.mem_of_getElem? (i := 34) rfl))) (mvT hZ (hw _ (List.mem_of_getElem? (i := 35) rfl))) (by decide) (backOf (W := 1) (rm5n l Z a0 hw [] cx k c0 c1 h0 n0 Z0 V A) hZ (hw _ (List.mem_of_getElem? (i := 35) rfl)) (hw _ (List.mem_of_getElem? (i := 34) rfl)) (by decide) (by decide)) (g := (mkF m 14 #[.val (.ref o0)] [(.ref cx), (.int ((own_lh w) * (31 : Int32)))])) rfl (by rw [hml]; rfl) (argsL := [(.ref cx)]) (rest := [(.int ((own_lh w) * (31 : Int32)))]) (lenOf pd_3 rfl) rfl (by show 2 * 0 + _ ≤ _; exact Nat.le_of_eq rfl) (hb hby d3_14) (fun _ _ => ⟨rfl, e3, (by decide : 0 + 0 ≤ _), (by decide : 0 + 0 ≤ _)⟩)
  dsimp only [Pt.U, Pt.locs, Pt.cells, Pt.slots] at X4 l4 y4 z4 st4 hQ4
  subst l4 y4 z4
  obtain ⟨rfl, N4q, eq4⟩ := hQ4
  have N4 := Fr.app N2 N4q
  refine own_step st4 ?_
  show own_Run p e below s _ _ _ T4 (mkF m 17 #[.val (.ref o0)] [(.int (own_ah c0 c1)), (.int ((own_lh w) * (31 : Int32)))])
  refine own_step (T' := T4) (g' := (mkF m 18 #[.val (.ref o0)] [(.int (((own_lh w) * (31 : Int32)) + (own_ah c0 c1)))])) (fun t k => ?_) ?_
  · show Steps p.tables e below (T4.setTop (mkF m 17 #[.val (.ref o0)] [(.int (own_ah c0 c1)), (.int ((own_lh w) * (31 : Int32)))])) _
    refine XS.iadd X4.here hx rfl (hb hby d3_17) rfl ?_
    show Steps p.tables e below (T4.setTop (mkF m 18 #[.val (.ref o0)] [(.int (((own_lh w) * (31 : Int32)) + (own_ah c0 c1)))])) _
    exact k
  refine own_retI X4 hx Bd.returns (hb hby d3_18) (BodyLoose.notSynchronized Bd) (by decide) (by decide) ?_
  rw [show T4.heap = h0 from eq4]
  exact ⟨rfl, N4, rfl⟩
theorem d11_0 : decode jdk_48_method_13_code 0 = .ok (.iconst 0, 1) := by decide +kernel
theorem d11_1 : decode jdk_48_method_13_code 1 = .ok (.istore_n 3, 1) := by decide +kernel
theorem d11_2 : decode jdk_48_method_13_code 2 = .ok (.iload_n 2, 1) := by decide +kernel
theorem d11_3 : decode jdk_48_method_13_code 3 = .ok (.bipush 7, 2) := by decide +kernel
theorem d11_5 : decode jdk_48_method_13_code 5 = .ok (.if_icmp .le 44, 3) := by decide +kernel
theorem d11_49 : decode jdk_48_method_13_code 49 = .ok (.iload_n 3, 1) := by decide +kernel
theorem d11_50 : decode jdk_48_method_13_code 50 = .ok (.iload_n 2, 1) := by decide +kernel
theorem d11_51 : decode jdk_48_method_13_code 51 = .ok (.if_icmp .ge 20, 3) := by decide +kernel
theorem d11_71 : decode jdk_48_method_13_code 71 = .ok (.iconst (-1), 1) := by decide +kernel
theorem d11_72 : decode jdk_48_method_13_code 72 = .ok (.ireturn, 1) := by decide +kernel
theorem pn_rm11e : plainName "jdk/internal/util/ArraysSupport" = true := by first | (simp [plainName, overriddenIn]; done) | decide +kernel
theorem ef_rm11e (m : MethodId) (o0 : Addr) (o1 : Addr) : entryFrame m #[(.ref o0), (.ref o1), (.int (0 : Int32))] 4 = mkF m 0 #[.val (.ref o0), .val (.ref o1), .val (.int (0 : Int32)), .unset] [] := by first | (simp [entryFrame, mkF, argsToLocals, Value.category, maxLocals]; done) | rfl
def rm11e_Q (Z : State) (o0 : Addr) (o1 : Addr)  (h0 : Heap) (n0 : Nat) (v : Option Value) (h : Heap) (L : List Loc) : Prop := v = some (.int (-1 : Int32)) ∧ Fr n0 L ∧ h = h0
set_option maxRecDepth 65536 in
set_option maxHeartbeats 40000000 in
theorem rm11e (l : Launch) (Z : State) (a0 : Array Value) (hw : ∀ d ∈ tables_1, d.before a0 Z = true) (ws : List Jvm.Cond) (o0 : Addr) (o1 : Addr)  (h0 : Heap) (n0 : Nat) (Z0 : n0 ≤ h0.size)  :
    MetFree l (⟨"jdk/internal/util/ArraysSupport", "mismatch", "([B[BI)I"⟩ : MethodName) (head1 (Jvm.Cond.code (⟨"jdk/internal/util/ArraysSupport", "mismatch", "([B[BI)I"⟩ : MethodName) jdk_48_method_13_code 4 (some .int) :: ws) ({ frames := 0, cells := 0, slots := 0, locals := 0 } : Room)) (fun a U => a = #[(.ref o0), (.ref o1), (.int (0 : Int32))] ∧ Z.Warmed39 U.vm ∧ U.heap = h0) (fun _ _ _ _ _ => True) (fun _ U o U' => ∃ v L, o = .returned v ∧ rm11e_Q Z o0 o1 h0 n0 v U'.heap L ∧ FrameEnd U o U' L ({ frames := 0, cells := 0, slots := 0, locals := 0 } : Room).cells ({ frames := 0, cells := 0, slots := 0, locals := 0 } : Room).slots) := by
  refine MetFree.of_bodySF (plainFor_of_name pn_rm11e) hisR ?_
  intro p e s m args below meth c s₁ Bd hml0 hP hK
  obtain ⟨rfl, hZ, hh⟩ := hP
  have hx := Bd.exec
  have hby := Bd.bytes
  have hml : c.maxLocals = 4 := hml0
  have hown : s.vm.findClass "jdk/internal/util/ArraysSupport" = some m.cls := findClass_of_methodNamed Bd.named
  have hnm := (name_of_methodNamed Bd.named Bd.method).1
  have X0 : Stand p l e ({ frames := 0, cells := 0, slots := 0, locals := 0 } : Room) s m #[(.ref o0), (.ref o1), (.int (0 : Int32))] below meth c s₁ [] 0 0 := Stand.of_body Bd
  have e0 : s₁.heap = h0 := by rw [← hh, Bd.state]; rfl
  have N0 := Fr.nil n0
  refine own_enter (QQ := rm11e_Q Z o0 o1 h0 n0) (ef_rm11e m o0 o1) ?_
  show own_Run p e below s _ _ _ s₁ (mkF m 0 #[.val (.ref o0), .val (.ref o1), .val (.int (0 : Int32)), .unset] [])
  refine own_step (T' := s₁) (g' := (mkF m 72 #[.val (.ref o0), .val (.ref o1), .val (.int (0 : Int32)), .val (.int (0 : Int32))] [(.int (-1 : Int32))])) (fun t k => ?_) ?_
  · show Steps p.tables e below (s₁.setTop (mkF m 0 #[.val (.ref o0), .val (.ref o1), .val (.int (0 : Int32)), .unset] [])) _
    refine XS.iconst X0.here hx rfl (hb hby d11_0) ?_
    show Steps p.tables e below (s₁.setTop (mkF m 1 #[.val (.ref o0), .val (.ref o1), .val (.int (0 : Int32)), .unset] [(.int (0 : Int32))])) _
    refine XS.istoreN X0.here hx rfl (hb hby d11_1) rfl (l' := #[.val (.ref o0), .val (.ref o1), .val (.int (0 : Int32)), .val (.int (0 : Int32))]) rfl ?_
    show Steps p.tables e below (s₁.setTop (mkF m 2 #[.val (.ref o0), .val (.ref o1), .val (.int (0 : Int32)), .val (.int (0 : Int32))] [])) _
    refine XS.iloadN X0.here hx rfl (hb hby d11_2) rfl ?_
    show Steps p.tables e below (s₁.setTop (mkF m 3 #[.val (.ref o0), .val (.ref o1), .val (.int (0 : Int32)), .val (.int (0 : Int32))] [(.int (0 : Int32))])) _
    refine XS.bipush X0.here hx rfl (hb hby d11_3) ?_
    show Steps p.tables e below (s₁.setTop (mkF m 5 #[.val (.ref o0), .val (.ref o1), .val (.int (0 : Int32)), .val (.int (0 : Int32))] [(.int (7 : Int32)), (.int (0 : Int32))])) _
    refine XS.icmpYes X0.here hx rfl (pc0 := 5) (pc' := 49) rfl (hb hby d11_5) rfl (flt (by decide)).2.2.2 (by decide) (by decide) ?_
    show Steps p.tables e below (s₁.setTop (mkF m 49 #[.val (.ref o0), .val (.ref o1), .val (.int (0 : Int32)), .val (.int (0 : Int32))] [])) _
    refine XS.iloadN X0.here hx rfl (hb hby d11_49) rfl ?_
    show Steps p.tables e below (s₁.setTop (mkF m 50 #[.val (.ref o0), .val (.ref o1), .val (.int (0 : Int32)), .val (.int (0 : Int32))] [(.int (0 : Int32))])) _
    refine XS.iloadN X0.here hx rfl (hb hby d11_50) rfl ?_
    show Steps p.tables e below (s₁.setTop (mkF m 51 #[.val (.ref o0), .val (.ref o1), .val (.int (0 : Int32)), .val (.int (0 : Int32))] [(.int (0 : Int32)), (.int (0 : Int32))])) _
    refine XS.icmpYes X0.here hx rfl (pc0 := 51) (pc' := 71) rfl (hb hby d11_51) rfl (flt (by decide)).2.1 (by decide) (by decide) ?_
    show Steps p.tables e below (s₁.setTop (mkF m 71 #[.val (.ref o0), .val (.ref o1), .val (.int (0 : Int32)), .val (.int (0 : Int32))] [])) _
    refine XS.iconst X0.here hx rfl (hb hby d11_71) ?_
    show Steps p.tables e below (s₁.setTop (mkF m 72 #[.val (.ref o0), .val (.ref o1), .val (.int (0 : Int32)), .val (.int (0 : Int32))] [(.int (-1 : Int32))])) _
    exact k
  refine own_retI X0 hx Bd.returns (hb hby d11_72) (BodyLoose.notSynchronized Bd) (by decide) (by decide) ?_
  rw [show s₁.heap = h0 from e0]
  exact ⟨rfl, N0, rfl⟩
def own_mm (c0 c1 d0 d1 : Int32) : Int32 := if c0 = d0 then (if c1 = d1 then -1 else 1) else 0
theorem d11_54 : decode jdk_48_method_13_code 54 = .ok (.aload_n 0, 1) := by decide +kernel
theorem d11_55 : decode jdk_48_method_13_code 55 = .ok (.iload_n 3, 1) := by decide +kernel
theorem d11_56 : decode jdk_48_method_13_code 56 = .ok (.baload, 1) := by decide +kernel
theorem d11_57 : decode jdk_48_method_13_code 57 = .ok (.aload_n 1, 1) := by decide +kernel
theorem d11_58 : decode jdk_48_method_13_code 58 = .ok (.iload_n 3, 1) := by decide +kernel
theorem d11_59 : decode jdk_48_method_13_code 59 = .ok (.baload, 1) := by decide +kernel
theorem d11_60 : decode jdk_48_method_13_code 60 = .ok (.if_icmp .eq 5, 3) := by decide +kernel
theorem d11_63 : decode jdk_48_method_13_code 63 = .ok (.iload_n 3, 1) := by decide +kernel
theorem d11_64 : decode jdk_48_method_13_code 64 = .ok (.ireturn, 1) := by decide +kernel
theorem d11_65 : decode jdk_48_method_13_code 65 = .ok (.iinc 3 1, 3) := by decide +kernel
theorem d11_68 : decode jdk_48_method_13_code 68 = .ok (.goto (-19), 3) := by decide +kernel
theorem pn_rm11n : plainName "jdk/internal/util/ArraysSupport" = true := by first | (simp [plainName, overriddenIn]; done) | decide +kernel
theorem ef_rm11n (m : MethodId) (o0 : Addr) (o1 : Addr) : entryFrame m #[(.ref o0), (.ref o1), (.int (2 : Int32))] 4 = mkF m 0 #[.val (.ref o0), .val (.ref o1), .val (.int (2 : Int32)), .unset] [] := by first | (simp [entryFrame, mkF, argsToLocals, Value.category, maxLocals]; done) | rfl
def rm11n_Q (Z : State) (o0 : Addr) (o1 : Addr) (k : ClassId) (k1 : ClassId) (c0 : Int32) (c1 : Int32) (d0 : Int32) (d1 : Int32) (h0 : Heap) (n0 : Nat) (v : Option Value) (h : Heap) (L : List Loc) : Prop := v = some (.int (own_mm c0 c1 d0 d1)) ∧ Fr n0 L ∧ h = h0
set_option maxRecDepth 65536 in
set_option maxHeartbeats 40000000 in
theorem rm11n (l : Launch) (Z : State) (a0 : Array Value) (hw : ∀ d ∈ tables_1, d.before a0 Z = true) (ws : List Jvm.Cond) (o0 : Addr) (o1 : Addr) (k : ClassId) (k1 : ClassId) (c0 : Int32) (c1 : Int32) (d0 : Int32) (d1 : Int32) (h0 : Heap) (n0 : Nat) (Z0 : n0 ≤ h0.size) (V : Arv Z h0 o0 k .byte (2 : Int32) [(.int c0), (.int c1)] (.int (0 : Int32))) (V1 : Arv Z h0 o1 k1 .byte (2 : Int32) [(.int d0), (.int d1)] (.int (0 : Int32))) :
    MetFree l (⟨"jdk/internal/util/ArraysSupport", "mismatch", "([B[BI)I"⟩ : MethodName) (head1 (Jvm.Cond.code (⟨"jdk/internal/util/ArraysSupport", "mismatch", "([B[BI)I"⟩ : MethodName) jdk_48_method_13_code 4 (some .int) :: ws) ({ frames := 0, cells := 0, slots := 0, locals := 0 } : Room)) (fun a U => a = #[(.ref o0), (.ref o1), (.int (2 : Int32))] ∧ Z.Warmed39 U.vm ∧ U.heap = h0) (fun _ _ _ _ _ => True) (fun _ U o U' => ∃ v L, o = .returned v ∧ rm11n_Q Z o0 o1 k k1 c0 c1 d0 d1 h0 n0 v U'.heap L ∧ FrameEnd U o U' L ({ frames := 0, cells := 0, slots := 0, locals := 0 } : Room).cells ({ frames := 0, cells := 0, slots := 0, locals := 0 } : Room).slots) := by
  refine MetFree.of_bodySF (plainFor_of_name pn_rm11n) hisR ?_
  intro p e s m args below meth c s₁ Bd hml0 hP hK
  obtain ⟨rfl, hZ, hh⟩ := hP
  have hx := Bd.exec
  have hby := Bd.bytes
  have hml : c.maxLocals = 4 := hml0
  have hown : s.vm.findClass "jdk/internal/util/ArraysSupport" = some m.cls := findClass_of_methodNamed Bd.named
  have hnm := (name_of_methodNamed Bd.named Bd.method).1
  have X0 : Stand p l e ({ frames := 0, cells := 0, slots := 0, locals := 0 } : Room) s m #[(.ref o0), (.ref o1), (.int (2 : Int32))] below meth c s₁ [] 0 0 := Stand.of_body Bd
  have e0 : s₁.heap = h0 := by rw [← hh, Bd.state]; rfl
  have N0 := Fr.nil n0
  refine own_enter (QQ := rm11n_Q Z o0 o1 k k1 c0 c1 d0 d1 h0 n0) (ef_rm11n m o0 o1) ?_
  show own_Run p e below s _ _ _ s₁ (mkF m 0 #[.val (.ref o0), .val (.ref o1), .val (.int (2 : Int32)), .unset] [])
  refine own_step (T' := s₁) (g' := (mkF m 56 #[.val (.ref o0), .val (.ref o1), .val (.int (2 : Int32)), .val (.int (0 : Int32))] [(.int (0 : Int32)), (.ref o0)])) (fun t k => ?_) ?_
  · show Steps p.tables e below (s₁.setTop (mkF m 0 #[.val (.ref o0), .val (.ref o1), .val (.int (2 : Int32)), .unset] [])) _
    refine XS.iconst X0.here hx rfl (hb hby d11_0) ?_
    show Steps p.tables e below (s₁.setTop (mkF m 1 #[.val (.ref o0), .val (.ref o1), .val (.int (2 : Int32)), .unset] [(.int (0 : Int32))])) _
    refine XS.istoreN X0.here hx rfl (hb hby d11_1) rfl (l' := #[.val (.ref o0), .val (.ref o1), .val (.int (2 : Int32)), .val (.int (0 : Int32))]) rfl ?_
    show Steps p.tables e below (s₁.setTop (mkF m 2 #[.val (.ref o0), .val (.ref o1), .val (.int (2 : Int32)), .val (.int (0 : Int32))] [])) _
    refine XS.iloadN X0.here hx rfl (hb hby d11_2) rfl ?_
    show Steps p.tables e below (s₁.setTop (mkF m 3 #[.val (.ref o0), .val (.ref o1), .val (.int (2 : Int32)), .val (.int (0 : Int32))] [(.int (2 : Int32))])) _
    refine XS.bipush X0.here hx rfl (hb hby d11_3) ?_
    show Steps p.tables e below (s₁.setTop (mkF m 5 #[.val (.ref o0), .val (.ref o1), .val (.int (2 : Int32)), .val (.int (0 : Int32))] [(.int (7 : Int32)), (.int (2 : Int32))])) _
    refine XS.icmpYes X0.here hx rfl (pc0 := 5) (pc' := 49) rfl (hb hby d11_5) rfl (flt (by decide)).2.2.2 (by decide) (by decide) ?_
    show Steps p.tables e below (s₁.setTop (mkF m 49 #[.val (.ref o0), .val (.ref o1), .val (.int (2 : Int32)), .val (.int (0 : Int32))] [])) _
    refine XS.iloadN X0.here hx rfl (hb hby d11_49) rfl ?_
    show Steps p.tables e below (s₁.setTop (mkF m 50 #[.val (.ref o0), .val (.ref o1), .val (.int (2 : Int32)), .val (.int (0 : Int32))] [(.int (0 : Int32))])) _
    refine XS.iloadN X0.here hx rfl (hb hby d11_50) rfl ?_
    show Steps p.tables e below (s₁.setTop (mkF m 51 #[.val (.ref o0), .val (.ref o1), .val (.int (2 : Int32)), .val (.int (0 : Int32))] [(.int (2 : Int32)), (.int (0 : Int32))])) _
    refine XS.icmpNo X0.here hx rfl (hb hby d11_51) rfl (tlt (by decide)).2.1 ?_
    show Steps p.tables e below (s₁.setTop (mkF m 54 #[.val (.ref o0), .val (.ref o1), .val (.int (2 : Int32)), .val (.int (0 : Int32))] [])) _
    refine XS.aloadN X0.here hx rfl (hb hby d11_54) rfl rfl ?_
    show Steps p.tables e below (s₁.setTop (mkF m 55 #[.val (.ref o0), .val (.ref o1), .val (.int (2 : Int32)), .val (.int (0 : Int32))] [(.ref o0)])) _
    refine XS.iloadN X0.here hx rfl (hb hby d11_55) rfl ?_
    show Steps p.tables e below (s₁.setTop (mkF m 56 #[.val (.ref o0), .val (.ref o1), .val (.int (2 : Int32)), .val (.int (0 : Int32))] [(.int (0 : Int32)), (.ref o0)])) _
    exact k
  obtain ⟨cl3, Arcl3, qcl3, Scl3, Mcl3, Hcl3, Gcl3⟩ := id V
  have hincl3 : ¬ ((0 : Int32) < 0 ∨ cl3.slots.size ≤ ((0 : Int32)).toNatClampNeg) := inb_of Scl3 ⟨by decide, by decide⟩
  have hatcl3 : cl3.slots[((0 : Int32)).toNatClampNeg]? = some (.int c0) := Hcl3.at hincl3 rfl
  refine own_step (T' := s₁) (g' := (mkF m 59 #[.val (.ref o0), .val (.ref o1), .val (.int (2 : Int32)), .val (.int (0 : Int32))] [(.int (0 : Int32)), (.ref o1), (.int c0)])) (fun t k => ?_) ?_
  · show Steps p.tables e below (s₁.setTop (mkF m 56 #[.val (.ref o0), .val (.ref o1), .val (.int (2 : Int32)), .val (.int (0 : Int32))] [(.int (0 : Int32)), (.ref o0)])) _
    refine X0.baloadBytes hx (j := (0 : Int32)) (v := (.int c0)) (by rw [e0]; exact Arcl3.1) (State.isArrayOf_alike hZ.alike Arcl3.2.1) Arcl3.2.2 hincl3 hatcl3 (g := (mkF m 56 #[.val (.ref o0), .val (.ref o1), .val (.int (2 : Int32)), .val (.int (0 : Int32))] [(.int (0 : Int32)), (.ref o0)])) rfl rfl (hb hby d11_56) _ ?_
    show Steps p.tables e below (s₁.setTop (mkF m 57 #[.val (.ref o0), .val (.ref o1), .val (.int (2 : Int32)), .val (.int (0 : Int32))] [(.int c0)])) _
    refine XS.aloadN X0.here hx rfl (hb hby d11_57) rfl rfl ?_
    show Steps p.tables e below (s₁.setTop (mkF m 58 #[.val (.ref o0), .val (.ref o1), .val (.int (2 : Int32)), .val (.int (0 : Int32))] [(.ref o1), (.int c0)])) _
    refine XS.iloadN X0.here hx rfl (hb hby d11_58) rfl ?_
    show Steps p.tables e below (s₁.setTop (mkF m 59 #[.val (.ref o0), .val (.ref o1), .val (.int (2 : Int32)), .val (.int (0 : Int32))] [(.int (0 : Int32)), (.ref o1), (.int c0)])) _
    exact k
  obtain ⟨cl4, Arcl4, qcl4, Scl4, Mcl4, Hcl4, Gcl4⟩ := id V1
  have hincl4 : ¬ ((0 : Int32) < 0 ∨ cl4.slots.size ≤ ((0 : Int32)).toNatClampNeg) := inb_of Scl4 ⟨by decide, by decide⟩
  have hatcl4 : cl4.slots[((0 : Int32)).toNatClampNeg]? = some (.int d0) := Hcl4.at hincl4 rfl
  refine own_step (T' := s₁) (g' := (mkF m 60 #[.val (.ref o0), .val (.ref o1), .val (.int (2 : Int32)), .val (.int (0 : Int32))] [(.int d0), (.int c0)])) (fun t k => ?_) ?_
  · show Steps p.tables e below (s₁.setTop (mkF m 59 #[.val (.ref o0), .val (.ref o1), .val (.int (2 : Int32)), .val (.int (0 : Int32))] [(.int (0 : Int32)), (.ref o1), (.int c0)])) _
    refine X0.baloadBytes hx (j := (0 : Int32)) (v := (.int d0)) (by rw [e0]; exact Arcl4.1) (State.isArrayOf_alike hZ.alike Arcl4.2.1) Arcl4.2.2 hincl4 hatcl4 (g := (mkF m 59 #[.val (.ref o0), .val (.ref o1), .val (.int (2 : Int32)), .val (.int (0 : Int32))] [(.int (0 : Int32)), (.ref o1), (.int c0)])) rfl rfl (hb hby d11_59) _ ?_
    show Steps p.tables e below (s₁.setTop (mkF m 60 #[.val (.ref o0), .val (.ref o1), .val (.int (2 : Int32)), .val (.int (0 : Int32))] [(.int d0), (.int c0)])) _
    exact k
  by_cases hc5 : c0 = d0
  · skip
    refine own_step (T' := s₁) (g' := (mkF m 56 #[.val (.ref o0), .val (.ref o1), .val (.int (2 : Int32)), .val (.int (1 : Int32))] [(.int (1 : Int32)), (.ref o0)])) (fun t k => ?_) ?_
    · show Steps p.tables e below (s₁.setTop (mkF m 60 #[.val (.ref o0), .val (.ref o1), .val (.int (2 : Int32)), .val (.int (0 : Int32))] [(.int d0), (.int c0)])) _
      refine XS.icmpYes X0.here hx rfl (pc0 := 60) (pc' := 65) rfl (hb hby d11_60) rfl (teq hc5).1 (by decide) (by decide) ?_
      show Steps p.tables e below (s₁.setTop (mkF m 65 #[.val (.ref o0), .val (.ref o1), .val (.int (2 : Int32)), .val (.int (0 : Int32))] [])) _
      refine XS.iinc X0.here hx rfl (hb hby d11_65) rfl (l' := #[.val (.ref o0), .val (.ref o1), .val (.int (2 : Int32)), .val (.int (1 : Int32))]) rfl ?_
      show Steps p.tables e below (s₁.setTop (mkF m 68 #[.val (.ref o0), .val (.ref o1), .val (.int (2 : Int32)), .val (.int (1 : Int32))] [])) _
      refine XS.goto X0.here hx rfl (pc0 := 68) (pc' := 49) rfl (hb hby d11_68) (by decide) (by decide) ?_
      show Steps p.tables e below (s₁.setTop (mkF m 49 #[.val (.ref o0), .val (.ref o1), .val (.int (2 : Int32)), .val (.int (1 : Int32))] [])) _
      refine XS.iloadN X0.here hx rfl (hb hby d11_49) rfl ?_
      show Steps p.tables e below (s₁.setTop (mkF m 50 #[.val (.ref o0), .val (.ref o1), .val (.int (2 : Int32)), .val (.int (1 : Int32))] [(.int (1 : Int32))])) _
      refine XS.iloadN X0.here hx rfl (hb hby d11_50) rfl ?_
      show Steps p.tables e below (s₁.setTop (mkF m 51 #[.val (.ref o0), .val (.ref o1), .val (.int (2 : Int32)), .val (.int (1 : Int32))] [(.int (2 : Int32)), (.int (1 : Int32))])) _
      refine XS.icmpNo X0.here hx rfl (hb hby d11_51) rfl (tlt (by decide)).2.1 ?_
      show Steps p.tables e below (s₁.setTop (mkF m 54 #[.val (.ref o0), .val (.ref o1), .val (.int (2 : Int32)), .val (.int (1 : Int32))] [])) _
      refine XS.aloadN X0.here hx rfl (hb hby d11_54) rfl rfl ?_
      show Steps p.tables e below (s₁.setTop (mkF m 55 #[.val (.ref o0), .val (.ref o1), .val (.int (2 : Int32)), .val (.int (1 : Int32))] [(.ref o0)])) _
      refine XS.iloadN X0.here hx rfl (hb hby d11_55) rfl ?_
      show Steps p.tables e below (s₁.setTop (mkF m 56 #[.val (.ref o0), .val (.ref o1), .val (.int (2 : Int32)), .val (.int (1 : Int32))] [(.int (1 : Int32)), (.ref o0)])) _
      exact k
    obtain ⟨cl7, Arcl7, qcl7, Scl7, Mcl7, Hcl7, Gcl7⟩ := id V
    have hincl7 : ¬ ((1 : Int32) < 0 ∨ cl7.slots.size ≤ ((1 : Int32)).toNatClampNeg) := inb_of Scl7 ⟨by decide, by decide⟩
    have hatcl7 : cl7.slots[((1 : Int32)).toNatClampNeg]? = some (.int c1) := Hcl7.at hincl7 rfl
    refine own_step (T' := s₁) (g' := (mkF m 59 #[.val (.ref o0), .val (.ref o1), .val (.int (2 : Int32)), .val (.int (1 : Int32))] [(.int (1 : Int32)), (.ref o1), (.int c1)])) (fun t k => ?_) ?_
    · show Steps p.tables e below (s₁.setTop (mkF m 56 #[.val (.ref o0), .val (.ref o1), .val (.int (2 : Int32)), .val (.int (1 : Int32))] [(.int (1 : Int32)), (.ref o0)])) _
      refine X0.baloadBytes hx (j := (1 : Int32)) (v := (.int c1)) (by rw [e0]; exact Arcl7.1) (State.isArrayOf_alike hZ.alike Arcl7.2.1) Arcl7.2.2 hincl7 hatcl7 (g := (mkF m 56 #[.val (.ref o0), .val (.ref o1), .val (.int (2 : Int32)), .val (.int (1 : Int32))] [(.int (1 : Int32)), (.ref o0)])) rfl rfl (hb hby d11_56) _ ?_
      show Steps p.tables e below (s₁.setTop (mkF m 57 #[.val (.ref o0), .val (.ref o1), .val (.int (2 : Int32)), .val (.int (1 : Int32))] [(.int c1)])) _
      refine XS.aloadN X0.here hx rfl (hb hby d11_57) rfl rfl ?_
      show Steps p.tables e below (s₁.setTop (mkF m 58 #[.val (.ref o0), .val (.ref o1), .val (.int (2 : Int32)), .val (.int (1 : Int32))] [(.ref o1), (.int c1)])) _
      refine XS.iloadN X0.here hx rfl (hb hby d11_58) rfl ?_
      show Steps p.tables e below (s₁.setTop (mkF m 59 #[.val (.ref o0), .val (.ref o1), .val (.int (2 : Int32)), .val (.int (1 : Int32))] [(.int (1 : Int32)), (.ref o1), (.int c1)])) _
      exact k
    obtain ⟨cl8, Arcl8, qcl8, Scl8, Mcl8, Hcl8, Gcl8⟩ := id V1
    have hincl8 : ¬ ((1 : Int32) < 0 ∨ cl8.slots.size ≤ ((1 : Int32)).toNatClampNeg) := inb_of Scl8 ⟨by decide, by decide⟩
    have hatcl8 : cl8.slots[((1 : Int32)).toNatClampNeg]? = some (.int d1) := Hcl8.at hincl8 rfl
    refine own_step (T' := s₁) (g' := (mkF m 60 #[.val (.ref o0), .val (.ref o1), .val (.int (2 : Int32)), .val (.int (1 : Int32))] [(.int d1), (.int c1)])) (fun t k => ?_) ?_
    · show Steps p.tables e below (s₁.setTop (mkF m 59 #[.val (.ref o0), .val (.ref o1), .val (.int (2 : Int32)), .val (.int (1 : Int32))] [(.int (1 : Int32)), (.ref o1), (.int c1)])) _
      refine X0.baloadBytes hx (j := (1 : Int32)) (v := (.int d1)) (by rw [e0]; exact Arcl8.1) (State.isArrayOf_alike hZ.alike Arcl8.2.1) Arcl8.2.2 hincl8 hatcl8 (g := (mkF m 59 #[.val (.ref o0), .val (.ref o1), .val (.int (2 : Int32)), .val (.int (1 : Int32))] [(.int (1 : Int32)), (.ref o1), (.int c1)])) rfl rfl (hb hby d11_59) _ ?_
      show Steps p.tables e below (s₁.setTop (mkF m 60 #[.val (.ref o0), .val (.ref o1), .val (.int (2 : Int32)), .val (.int (1 : Int32))] [(.int d1), (.int c1)])) _
      exact k
    by_cases hc9 : c1 = d1
    · skip
      refine own_step (T' := s₁) (g' := (mkF m 72 #[.val (.ref o0), .val (.ref o1), .val (.int (2 : Int32)), .val (.int (2 : Int32))] [(.int (-1 : Int32))])) (fun t k => ?_) ?_
      · show Steps p.tables e below (s₁.setTop (mkF m 60 #[.val (.ref o0), .val (.ref o1), .val (.int (2 : Int32)), .val (.int (1 : Int32))] [(.int d1), (.int c1)])) _
        refine XS.icmpYes X0.here hx rfl (pc0 := 60) (pc' := 65) rfl (hb hby d11_60) rfl (teq hc9).1 (by decide) (by decide) ?_
        show Steps p.tables e below (s₁.setTop (mkF m 65 #[.val (.ref o0), .val (.ref o1), .val (.int (2 : Int32)), .val (.int (1 : Int32))] [])) _
        refine XS.iinc X0.here hx rfl (hb hby d11_65) rfl (l' := #[.val (.ref o0), .val (.ref o1), .val (.int (2 : Int32)), .val (.int (2 : Int32))]) rfl ?_
        show Steps p.tables e below (s₁.setTop (mkF m 68 #[.val (.ref o0), .val (.ref o1), .val (.int (2 : Int32)), .val (.int (2 : Int32))] [])) _
        refine XS.goto X0.here hx rfl (pc0 := 68) (pc' := 49) rfl (hb hby d11_68) (by decide) (by decide) ?_
        show Steps p.tables e below (s₁.setTop (mkF m 49 #[.val (.ref o0), .val (.ref o1), .val (.int (2 : Int32)), .val (.int (2 : Int32))] [])) _
        refine XS.iloadN X0.here hx rfl (hb hby d11_49) rfl ?_
        show Steps p.tables e below (s₁.setTop (mkF m 50 #[.val (.ref o0), .val (.ref o1), .val (.int (2 : Int32)), .val (.int (2 : Int32))] [(.int (2 : Int32))])) _
        refine XS.iloadN X0.here hx rfl (hb hby d11_50) rfl ?_
        show Steps p.tables e below (s₁.setTop (mkF m 51 #[.val (.ref o0), .val (.ref o1), .val (.int (2 : Int32)), .val (.int (2 : Int32))] [(.int (2 : Int32)), (.int (2 : Int32))])) _
        refine XS.icmpYes X0.here hx rfl (pc0 := 51) (pc' := 71) rfl (hb hby d11_51) rfl (flt (by decide)).2.1 (by decide) (by decide) ?_
        show Steps p.tables e below (s₁.setTop (mkF m 71 #[.val (.ref o0), .val (.ref o1), .val (.int (2 : Int32)), .val (.int (2 : Int32))] [])) _
        refine XS.iconst X0.here hx rfl (hb hby d11_71) ?_
        show Steps p.tables e below (s₁.setTop (mkF m 72 #[.val (.ref o0), .val (.ref o1), .val (.int (2 : Int32)), .val (.int (2 : Int32))] [(.int (-1 : Int32))])) _
        exact k
      refine own_retI X0 hx Bd.returns (hb hby d11_72) (BodyLoose.notSynchronized Bd) (by decide) (by decide) ?_
      rw [show s₁.heap = h0 from e0]
      exact ⟨by simp [own_mm, hc5, hc9], N0, rfl⟩
    · skip
      refine own_step (T' := s₁) (g' := (mkF m 64 #[.val (.ref o0), .val (.ref o1), .val (.int (2 : Int32)), .val (.int (1 : Int32))] [(.int (1 : Int32))])) (fun t k => ?_) ?_
      · show Steps p.tables e below (s₁.setTop (mkF m 60 #[.val (.ref o0), .val (.ref o1), .val (.int (2 : Int32)), .val (.int (1 : Int32))] [(.int d1), (.int c1)])) _
        refine XS.icmpNo X0.here hx rfl (hb hby d11_60) rfl (feq hc9).1 ?_
        show Steps p.tables e below (s₁.setTop (mkF m 63 #[.val (.ref o0), .val (.ref o1), .val (.int (2 : Int32)), .val (.int (1 : Int32))] [])) _
        refine XS.iloadN X0.here hx rfl (hb hby d11_63) rfl ?_
        show Steps p.tables e below (s₁.setTop (mkF m 64 #[.val (.ref o0), .val (.ref o1), .val (.int (2 : Int32)), .val (.int (1 : Int32))] [(.int (1 : Int32))])) _
        exact k
      refine own_retI X0 hx Bd.returns (hb hby d11_64) (BodyLoose.notSynchronized Bd) (by decide) (by decide) ?_
      rw [show s₁.heap = h0 from e0]
      exact ⟨by simp [own_mm, hc5, hc9], N0, rfl⟩
  · skip
    refine own_step (T' := s₁) (g' := (mkF m 64 #[.val (.ref o0), .val (.ref o1), .val (.int (2 : Int32)), .val (.int (0 : Int32))] [(.int (0 : Int32))])) (fun t k => ?_) ?_
    · show Steps p.tables e below (s₁.setTop (mkF m 60 #[.val (.ref o0), .val (.ref o1), .val (.int (2 : Int32)), .val (.int (0 : Int32))] [(.int d0), (.int c0)])) _
      refine XS.icmpNo X0.here hx rfl (hb hby d11_60) rfl (feq hc5).1 ?_
      show Steps p.tables e below (s₁.setTop (mkF m 63 #[.val (.ref o0), .val (.ref o1), .val (.int (2 : Int32)), .val (.int (0 : Int32))] [])) _
      refine XS.iloadN X0.here hx rfl (hb hby d11_63) rfl ?_
      show Steps p.tables e below (s₁.setTop (mkF m 64 #[.val (.ref o0), .val (.ref o1), .val (.int (2 : Int32)), .val (.int (0 : Int32))] [(.int (0 : Int32))])) _
      exact k
    refine own_retI X0 hx Bd.returns (hb hby d11_64) (BodyLoose.notSynchronized Bd) (by decide) (by decide) ?_
    rw [show s₁.heap = h0 from e0]
    exact ⟨by simp [own_mm, hc5], N0, rfl⟩
theorem d10_0 : decode jdk_65_method_89_code 0 = .ok (.aload_n 0, 1) := by decide +kernel
theorem d10_1 : decode jdk_65_method_89_code 1 = .ok (.aload_n 1, 1) := by decide +kernel
theorem d10_2 : decode jdk_65_method_89_code 2 = .ok (.if_acmp .ne 5, 3) := by decide +kernel
theorem d10_7 : decode jdk_65_method_89_code 7 = .ok (.aload_n 0, 1) := by decide +kernel
theorem d10_8 : decode jdk_65_method_89_code 8 = .ok (.ifnull 7, 3) := by decide +kernel
theorem d10_11 : decode jdk_65_method_89_code 11 = .ok (.aload_n 1, 1) := by decide +kernel
theorem d10_12 : decode jdk_65_method_89_code 12 = .ok (.ifnonnull 5, 3) := by decide +kernel
theorem d10_17 : decode jdk_65_method_89_code 17 = .ok (.aload_n 0, 1) := by decide +kernel
theorem d10_18 : decode jdk_65_method_89_code 18 = .ok (.arraylength, 1) := by decide +kernel
theorem d10_19 : decode jdk_65_method_89_code 19 = .ok (.istore_n 2, 1) := by decide +kernel
theorem d10_20 : decode jdk_65_method_89_code 20 = .ok (.aload_n 1, 1) := by decide +kernel
theorem d10_21 : decode jdk_65_method_89_code 21 = .ok (.arraylength, 1) := by decide +kernel
theorem d10_22 : decode jdk_65_method_89_code 22 = .ok (.iload_n 2, 1) := by decide +kernel
theorem d10_23 : decode jdk_65_method_89_code 23 = .ok (.if_icmp .eq 5, 3) := by decide +kernel
theorem d10_28 : decode jdk_65_method_89_code 28 = .ok (.aload_n 0, 1) := by decide +kernel
theorem d10_29 : decode jdk_65_method_89_code 29 = .ok (.aload_n 1, 1) := by decide +kernel
theorem d10_30 : decode jdk_65_method_89_code 30 = .ok (.iload_n 2, 1) := by decide +kernel
theorem d10_31 : decode jdk_65_method_89_code 31 = .ok (.invokestatic 272, 3) := by decide +kernel
theorem d10_34 : decode jdk_65_method_89_code 34 = .ok (.ifCond .ge 7, 3) := by decide +kernel
theorem d10_37 : decode jdk_65_method_89_code 37 = .ok (.iconst 1, 1) := by decide +kernel
theorem d10_38 : decode jdk_65_method_89_code 38 = .ok (.goto 4, 3) := by decide +kernel
theorem d10_42 : decode jdk_65_method_89_code 42 = .ok (.ireturn, 1) := by decide +kernel
theorem pn_rm10e : plainName "java/util/Arrays" = true := by first | (simp [plainName, overriddenIn]; done) | decide +kernel
theorem ef_rm10e (m : MethodId) (o0 : Addr) (o1 : Addr) : entryFrame m #[(.ref o0), (.ref o1)] 3 = mkF m 0 #[.val (.ref o0), .val (.ref o1), .unset] [] := by first | (simp [entryFrame, mkF, argsToLocals, Value.category, maxLocals]; done) | rfl
def rm10e_Q (Z : State) (o0 : Addr) (o1 : Addr) (k : ClassId) (k1 : ClassId) (h0 : Heap) (n0 : Nat) (v : Option Value) (h : Heap) (L : List Loc) : Prop := v = some (.int (1 : Int32)) ∧ Fr n0 L ∧ h = h0
set_option maxRecDepth 65536 in
set_option maxHeartbeats 40000000 in
theorem rm10e (l : Launch) (Z : State) (a0 : Array Value) (hw : ∀ d ∈ tables_1, d.before a0 Z = true) (ws : List Jvm.Cond) (o0 : Addr) (o1 : Addr) (k : ClassId) (k1 : ClassId) (h0 : Heap) (n0 : Nat) (Z0 : n0 ≤ h0.size) (V : Arv Z h0 o0 k .byte (0 : Int32) [] (.int (0 : Int32))) (V1 : Arv Z h0 o1 k1 .byte (0 : Int32) [] (.int (0 : Int32))) (hne : ¬ o0 = o1) :
    MetFree l (⟨"java/util/Arrays", "equals", "([B[B)Z"⟩ : MethodName) (head1 (Jvm.Cond.code (⟨"java/util/Arrays", "equals", "([B[B)Z"⟩ : MethodName) jdk_65_method_89_code 3 (some .boolean) :: ws) ({ frames := 1, cells := 0, slots := 0, locals := 15 } : Room)) (fun a U => a = #[(.ref o0), (.ref o1)] ∧ Z.Warmed39 U.vm ∧ U.heap = h0) (fun _ _ _ _ _ => True) (fun _ U o U' => ∃ v L, o = .returned v ∧ rm10e_Q Z o0 o1 k k1 h0 n0 v U'.heap L ∧ FrameEnd U o U' L ({ frames := 1, cells := 0, slots := 0, locals := 15 } : Room).cells ({ frames := 1, cells := 0, slots := 0, locals := 15 } : Room).slots) := by
  refine MetFree.of_bodySF (plainFor_of_name pn_rm10e) hisR ?_
  intro p e s m args below meth c s₁ Bd hml0 hP hK
  obtain ⟨rfl, hZ, hh⟩ := hP
  have hx := Bd.exec
  have hby := Bd.bytes
  have hml : c.maxLocals = 3 := hml0
  have hown : s.vm.findClass "java/util/Arrays" = some m.cls := findClass_of_methodNamed Bd.named
  have hnm := (name_of_methodNamed Bd.named Bd.method).1
  have X0 : Stand p l e ({ frames := 1, cells := 0, slots := 0, locals := 15 } : Room) s m #[(.ref o0), (.ref o1)] below meth c s₁ [] 0 0 := Stand.of_body Bd
  have e0 : s₁.heap = h0 := by rw [← hh, Bd.state]; rfl
  have N0 := Fr.nil n0
  refine own_enter (QQ := rm10e_Q Z o0 o1 k k1 h0 n0) (ef_rm10e m o0 o1) ?_
  show own_Run p e below s _ _ _ s₁ (mkF m 0 #[.val (.ref o0), .val (.ref o1), .unset] [])
  refine own_step (T' := s₁) (g' := (mkF m 18 #[.val (.ref o0), .val (.ref o1), .unset] [(.ref o0)])) (fun t k => ?_) ?_
  · show Steps p.tables e below (s₁.setTop (mkF m 0 #[.val (.ref o0), .val (.ref o1), .unset] [])) _
    refine XS.aloadN X0.here hx rfl (hb hby d10_0) rfl rfl ?_
    show Steps p.tables e below (s₁.setTop (mkF m 1 #[.val (.ref o0), .val (.ref o1), .unset] [(.ref o0)])) _
    refine XS.aloadN X0.here hx rfl (hb hby d10_1) rfl rfl ?_
    show Steps p.tables e below (s₁.setTop (mkF m 2 #[.val (.ref o0), .val (.ref o1), .unset] [(.ref o1), (.ref o0)])) _
    refine Jvm.RoadKit.acmp (g := (mkF m 2 #[.val (.ref o0), .val (.ref o1), .unset] [(.ref o1), (.ref o0)])) X0 hx rfl rfl rfl (pc0 := 2) (pc' := 7) (same := false) rfl (hb hby d10_2) rfl (decide_eq_false fun q => hne (Value.ref.inj q)) (by decide) (by decide) ?_
    show Steps p.tables e below (s₁.setTop (mkF m 7 #[.val (.ref o0), .val (.ref o1), .unset] [])) _
    refine XS.aloadN X0.here hx rfl (hb hby d10_7) rfl rfl ?_
    show Steps p.tables e below (s₁.setTop (mkF m 8 #[.val (.ref o0), .val (.ref o1), .unset] [(.ref o0)])) _
    refine XS.ifnullNo X0.here hx rfl (hb hby d10_8) rfl ?_
    show Steps p.tables e below (s₁.setTop (mkF m 11 #[.val (.ref o0), .val (.ref o1), .unset] [])) _
    refine XS.aloadN X0.here hx rfl (hb hby d10_11) rfl rfl ?_
    show Steps p.tables e below (s₁.setTop (mkF m 12 #[.val (.ref o0), .val (.ref o1), .unset] [(.ref o1)])) _
    refine XS.ifnonnullYes X0.here hx rfl (pc0 := 12) (pc' := 17) rfl (hb hby d10_12) rfl (by decide) (by decide) ?_
    show Steps p.tables e below (s₁.setTop (mkF m 17 #[.val (.ref o0), .val (.ref o1), .unset] [])) _
    refine XS.aloadN X0.here hx rfl (hb hby d10_17) rfl rfl ?_
    show Steps p.tables e below (s₁.setTop (mkF m 18 #[.val (.ref o0), .val (.ref o1), .unset] [(.ref o0)])) _
    exact k
  obtain ⟨cl1, Arcl1, -, Scl1, Mcl1, -, -⟩ := id V
  refine own_step (T' := s₁) (g' := (mkF m 21 #[.val (.ref o0), .val (.ref o1), .val (.int (0 : Int32))] [(.ref o1)])) (fun t k => ?_) ?_
  · show Steps p.tables e below (s₁.setTop (mkF m 18 #[.val (.ref o0), .val (.ref o1), .unset] [(.ref o0)])) _
    refine X0.arraylength hx (by rw [e0]; exact Arcl1.1) (State.isArrayOf_alike hZ.alike Arcl1.2.1) (g := (mkF m 18 #[.val (.ref o0), .val (.ref o1), .unset] [(.ref o0)])) rfl rfl (hb hby d10_18) _ ?_
    rw [len_of Scl1 Mcl1]
    show Steps p.tables e below (s₁.setTop (mkF m 19 #[.val (.ref o0), .val (.ref o1), .unset] [(.int (0 : Int32))])) _
    refine XS.istoreN X0.here hx rfl (hb hby d10_19) rfl (l' := #[.val (.ref o0), .val (.ref o1), .val (.int (0 : Int32))]) rfl ?_
    show Steps p.tables e below (s₁.setTop (mkF m 20 #[.val (.ref o0), .val (.ref o1), .val (.int (0 : Int32))] [])) _
    refine XS.aloadN X0.here hx rfl (hb hby d10_20) rfl rfl ?_
    show Steps p.tables e below (s₁.setTop (mkF m 21 #[.val (.ref o0), .val (.ref o1), .val (.int (0 : Int32))] [(.ref o1)])) _
    exact k
  obtain ⟨cl2, Arcl2, -, Scl2, Mcl2, -, -⟩ := id V1
  refine own_step (T' := s₁) (g' := (mkF m 31 #[.val (.ref o0), .val (.ref o1), .val (.int (0 : Int32))] [(.int (0 : Int32)), (.ref o1), (.ref o0)])) (fun t k => ?_) ?_
  · show Steps p.tables e below (s₁.setTop (mkF m 21 #[.val (.ref o0), .val (.ref o1), .val (.int (0 : Int32))] [(.ref o1)])) _
    refine X0.arraylength hx (by rw [e0]; exact Arcl2.1) (State.isArrayOf_alike hZ.alike Arcl2.2.1) (g := (mkF m 21 #[.val (.ref o0), .val (.ref o1), .val (.int (0 : Int32))] [(.ref o1)])) rfl rfl (hb hby d10_21) _ ?_
    rw [len_of Scl2 Mcl2]
    show Steps p.tables e below (s₁.setTop (mkF m 22 #[.val (.ref o0), .val (.ref o1), .val (.int (0 : Int32))] [(.int (0 : Int32))])) _
    refine XS.iloadN X0.here hx rfl (hb hby d10_22) rfl ?_
    show Steps p.tables e below (s₁.setTop (mkF m 23 #[.val (.ref o0), .val (.ref o1), .val (.int (0 : Int32))] [(.int (0 : Int32)), (.int (0 : Int32))])) _
    refine XS.icmpYes X0.here hx rfl (pc0 := 23) (pc' := 28) rfl (hb hby d10_23) rfl (teq rfl).1 (by decide) (by decide) ?_
    show Steps p.tables e below (s₁.setTop (mkF m 28 #[.val (.ref o0), .val (.ref o1), .val (.int (0 : Int32))] [])) _
    refine XS.aloadN X0.here hx rfl (hb hby d10_28) rfl rfl ?_
    show Steps p.tables e below (s₁.setTop (mkF m 29 #[.val (.ref o0), .val (.ref o1), .val (.int (0 : Int32))] [(.ref o0)])) _
    refine XS.aloadN X0.here hx rfl (hb hby d10_29) rfl rfl ?_
    show Steps p.tables e below (s₁.setTop (mkF m 30 #[.val (.ref o0), .val (.ref o1), .val (.int (0 : Int32))] [(.ref o1), (.ref o0)])) _
    refine XS.iloadN X0.here hx rfl (hb hby d10_30) rfl ?_
    show Steps p.tables e below (s₁.setTop (mkF m 31 #[.val (.ref o0), .val (.ref o1), .val (.int (0 : Int32))] [(.int (0 : Int32)), (.ref o1), (.ref o0)])) _
    exact k
  obtain ⟨_, _, ⟨T4, L4, k4, n4⟩, -, X4, ⟨Lc4, hQ4, l4, y4, z4⟩, st4⟩ := Jvm.LawKit.callS X0 hx (y := (⟨"jdk/internal/util/ArraysSupport", "mismatch", "([B[BI)I"⟩ : MethodName)) hown (mvT hZ (hw _ (List.mem_of_getElem? (i := 58) rfl))) (mvT hZ (hw _ (List.mem_of_getElem? (i := 59) rfl))) (mvT hZ (hw _ (List.mem_of_getElem? (i := 38) rfl))) (mvT hZ (hw _ (List.mem_of_getElem? (i := 60) rfl))) (by decide) (backOf (W := 0) (rm11e l Z a0 hw [] o0 o1  h0 n0 Z0) hZ (hw _ (List.mem_of_getElem? (i := 60) rfl)) (hw _ (List.mem_of_getElem? (i := 38) rfl)) (by decide) (by decide)) (g := (mkF m 31 #[.val (.ref o0), .val (.ref o1), .val (.int (0 : Int32))] [(.int (0 : Int32)), (.ref o1), (.ref o0)])) rfl (by rw [hml]; rfl) (argsL := [(.ref o0), (.ref o1), (.int (0 : Int32))]) (rest := []) (lenOf pd_4 rfl) rfl (by show 2 * 0 + _ ≤ _; exact Nat.le_of_eq rfl) (hb hby d10_31) (fun _ _ => ⟨rfl, e0, (by decide : 0 + 0 ≤ _), (by decide : 0 + 0 ≤ _)⟩)
  dsimp only [Pt.U, Pt.locs, Pt.cells, Pt.slots] at X4 l4 y4 z4 st4 hQ4
  subst l4 y4 z4
  obtain ⟨rfl, N4q, eq4⟩ := hQ4
  have N4 := Fr.app N0 N4q
  refine own_step st4 ?_
  show own_Run p e below s _ _ _ T4 (mkF m 34 #[.val (.ref o0), .val (.ref o1), .val (.int (0 : Int32))] [(.int (-1 : Int32))])
  refine own_step (T' := T4) (g' := (mkF m 42 #[.val (.ref o0), .val (.ref o1), .val (.int (0 : Int32))] [(.int (1 : Int32))])) (fun t k => ?_) ?_
  · show Steps p.tables e below (T4.setTop (mkF m 34 #[.val (.ref o0), .val (.ref o1), .val (.int (0 : Int32))] [(.int (-1 : Int32))])) _
    refine XS.ifNo X4.here hx rfl (hb hby d10_34) rfl ((if0 _ _).trans (tlt (by decide)).2.1) ?_
    show Steps p.tables e below (T4.setTop (mkF m 37 #[.val (.ref o0), .val (.ref o1), .val (.int (0 : Int32))] [])) _
    refine XS.iconst X4.here hx rfl (hb hby d10_37) ?_
    show Steps p.tables e below (T4.setTop (mkF m 38 #[.val (.ref o0), .val (.ref o1), .val (.int (0 : Int32))] [(.int (1 : Int32))])) _
    refine XS.goto X4.here hx rfl (pc0 := 38) (pc' := 42) rfl (hb hby d10_38) (by decide) (by decide) ?_
    show Steps p.tables e below (T4.setTop (mkF m 42 #[.val (.ref o0), .val (.ref o1), .val (.int (0 : Int32))] [(.int (1 : Int32))])) _
    exact k
  refine own_retN X4 hx (t := .boolean) Bd.returns (by simp) (hb hby d10_42) (BodyLoose.notSynchronized Bd) (by decide) (by decide) ?_
  rw [show T4.heap = h0 from eq4]
  exact ⟨rfl, N4, rfl⟩
def own_aeq (c0 c1 d0 d1 : Int32) : Int32 := if c0 = d0 ∧ c1 = d1 then 1 else 0
theorem own_aeq_of (c0 c1 d0 d1 : Int32) : nar .boolean (own_pick (own_mm c0 c1 d0 d1 < (0 : Int32)) (1 : Int32) (0 : Int32)) = own_aeq c0 c1 d0 d1 := by
  unfold own_aeq own_mm own_pick
  by_cases h1 : c0 = d0 <;> by_cases h2 : c1 = d1 <;> simp [h1, h2] <;> rfl
theorem d10_41 : decode jdk_65_method_89_code 41 = .ok (.iconst 0, 1) := by decide +kernel
theorem pn_rm10n : plainName "java/util/Arrays" = true := by first | (simp [plainName, overriddenIn]; done) | decide +kernel
theorem ef_rm10n (m : MethodId) (o0 : Addr) (o1 : Addr) : entryFrame m #[(.ref o0), (.ref o1)] 3 = mkF m 0 #[.val (.ref o0), .val (.ref o1), .unset] [] := by first | (simp [entryFrame, mkF, argsToLocals, Value.category, maxLocals]; done) | rfl
def rm10n_Q (Z : State) (o0 : Addr) (o1 : Addr) (k : ClassId) (k1 : ClassId) (c0 : Int32) (c1 : Int32) (d0 : Int32) (d1 : Int32) (h0 : Heap) (n0 : Nat) (v : Option Value) (h : Heap) (L : List Loc) : Prop := v = some (.int (own_aeq c0 c1 d0 d1)) ∧ Fr n0 L ∧ h = h0
set_option maxRecDepth 65536 in
set_option maxHeartbeats 40000000 in
theorem rm10n (l : Launch) (Z : State) (a0 : Array Value) (hw : ∀ d ∈ tables_1, d.before a0 Z = true) (ws : List Jvm.Cond) (o0 : Addr) (o1 : Addr) (k : ClassId) (k1 : ClassId) (c0 : Int32) (c1 : Int32) (d0 : Int32) (d1 : Int32) (h0 : Heap) (n0 : Nat) (Z0 : n0 ≤ h0.size) (V : Arv Z h0 o0 k .byte (2 : Int32) [(.int c0), (.int c1)] (.int (0 : Int32))) (V1 : Arv Z h0 o1 k1 .byte (2 : Int32) [(.int d0), (.int d1)] (.int (0 : Int32))) (hne : ¬ o0 = o1) :
    MetFree l (⟨"java/util/Arrays", "equals", "([B[B)Z"⟩ : MethodName) (head1 (Jvm.Cond.code (⟨"java/util/Arrays", "equals", "([B[B)Z"⟩ : MethodName) jdk_65_method_89_code 3 (some .boolean) :: ws) ({ frames := 1, cells := 0, slots := 0, locals := 15 } : Room)) (fun a U => a = #[(.ref o0), (.ref o1)] ∧ Z.Warmed39 U.vm ∧ U.heap = h0) (fun _ _ _ _ _ => True) (fun _ U o U' => ∃ v L, o = .returned v ∧ rm10n_Q Z o0 o1 k k1 c0 c1 d0 d1 h0 n0 v U'.heap L ∧ FrameEnd U o U' L ({ frames := 1, cells := 0, slots := 0, locals := 15 } : Room).cells ({ frames := 1, cells := 0, slots := 0, locals := 15 } : Room).slots) := by
  refine MetFree.of_bodySF (plainFor_of_name pn_rm10n) hisR ?_
  intro p e s m args below meth c s₁ Bd hml0 hP hK
  obtain ⟨rfl, hZ, hh⟩ := hP
  have hx := Bd.exec
  have hby := Bd.bytes
  have hml : c.maxLocals = 3 := hml0
  have hown : s.vm.findClass "java/util/Arrays" = some m.cls := findClass_of_methodNamed Bd.named
  have hnm := (name_of_methodNamed Bd.named Bd.method).1
  have X0 : Stand p l e ({ frames := 1, cells := 0, slots := 0, locals := 15 } : Room) s m #[(.ref o0), (.ref o1)] below meth c s₁ [] 0 0 := Stand.of_body Bd
  have e0 : s₁.heap = h0 := by rw [← hh, Bd.state]; rfl
  have N0 := Fr.nil n0
  refine own_enter (QQ := rm10n_Q Z o0 o1 k k1 c0 c1 d0 d1 h0 n0) (ef_rm10n m o0 o1) ?_
  show own_Run p e below s _ _ _ s₁ (mkF m 0 #[.val (.ref o0), .val (.ref o1), .unset] [])
  refine own_step (T' := s₁) (g' := (mkF m 18 #[.val (.ref o0), .val (.ref o1), .unset] [(.ref o0)])) (fun t k => ?_) ?_
  · show Steps p.tables e below (s₁.setTop (mkF m 0 #[.val (.ref o0), .val (.ref o1), .unset] [])) _
    refine XS.aloadN X0.here hx rfl (hb hby d10_0) rfl rfl ?_
    show Steps p.tables e below (s₁.setTop (mkF m 1 #[.val (.ref o0), .val (.ref o1), .unset] [(.ref o0)])) _
    refine XS.aloadN X0.here hx rfl (hb hby d10_1) rfl rfl ?_
    show Steps p.tables e below (s₁.setTop (mkF m 2 #[.val (.ref o0), .val (.ref o1), .unset] [(.ref o1), (.ref o0)])) _
    refine Jvm.RoadKit.acmp (g := (mkF m 2 #[.val (.ref o0), .val (.ref o1), .unset] [(.ref o1), (.ref o0)])) X0 hx rfl rfl rfl (pc0 := 2) (pc' := 7) (same := false) rfl (hb hby d10_2) rfl (decide_eq_false fun q => hne (Value.ref.inj q)) (by decide) (by decide) ?_
    show Steps p.tables e below (s₁.setTop (mkF m 7 #[.val (.ref o0), .val (.ref o1), .unset] [])) _
    refine XS.aloadN X0.here hx rfl (hb hby d10_7) rfl rfl ?_
    show Steps p.tables e below (s₁.setTop (mkF m 8 #[.val (.ref o0), .val (.ref o1), .unset] [(.ref o0)])) _
    refine XS.ifnullNo X0.here hx rfl (hb hby d10_8) rfl ?_
    show Steps p.tables e below (s₁.setTop (mkF m 11 #[.val (.ref o0), .val (.ref o1), .unset] [])) _
    refine XS.aloadN X0.here hx rfl (hb hby d10_11) rfl rfl ?_
    show Steps p.tables e below (s₁.setTop (mkF m 12 #[.val (.ref o0), .val (.ref o1), .unset] [(.ref o1)])) _
    refine XS.ifnonnullYes X0.here hx rfl (pc0 := 12) (pc' := 17) rfl (hb hby d10_12) rfl (by decide) (by decide) ?_
    show Steps p.tables e below (s₁.setTop (mkF m 17 #[.val (.ref o0), .val (.ref o1), .unset] [])) _
    refine XS.aloadN X0.here hx rfl (hb hby d10_17) rfl rfl ?_
    show Steps p.tables e below (s₁.setTop (mkF m 18 #[.val (.ref o0), .val (.ref o1), .unset] [(.ref o0)])) _
    exact k
  obtain ⟨cl1, Arcl1, -, Scl1, Mcl1, -, -⟩ := id V
  refine own_step (T' := s₁) (g' := (mkF m 21 #[.val (.ref o0), .val (.ref o1), .val (.int (2 : Int32))] [(.ref o1)])) (fun t k => ?_) ?_
  · show Steps p.tables e below (s₁.setTop (mkF m 18 #[.val (.ref o0), .val (.ref o1), .unset] [(.ref o0)])) _
    refine X0.arraylength hx (by rw [e0]; exact Arcl1.1) (State.isArrayOf_alike hZ.alike Arcl1.2.1) (g := (mkF m 18 #[.val (.ref o0), .val (.ref o1), .unset] [(.ref o0)])) rfl rfl (hb hby d10_18) _ ?_
    rw [len_of Scl1 Mcl1]
    show Steps p.tables e below (s₁.setTop (mkF m 19 #[.val (.ref o0), .val (.ref o1), .unset] [(.int (2 : Int32))])) _
    refine XS.istoreN X0.here hx rfl (hb hby d10_19) rfl (l' := #[.val (.ref o0), .val (.ref o1), .val (.int (2 : Int32))]) rfl ?_
    show Steps p.tables e below (s₁.setTop (mkF m 20 #[.val (.ref o0), .val (.ref o1), .val (.int (2 : Int32))] [])) _
    refine XS.aloadN X0.here hx rfl (hb hby d10_20) rfl rfl ?_
    show Steps p.tables e below (s₁.setTop (mkF m 21 #[.val (.ref o0), .val (.ref o1), .val (.int (2 : Int32))] [(.ref o1)])) _
    exact k
  obtain ⟨cl2, Arcl2, -, Scl2, Mcl2, -, -⟩ := id V1
  refine own_step (T' := s₁) (g' := (mkF m 31 #[.val (.ref o0), .val (.ref o1), .val (.int (2 : Int32))] [(.int (2 : Int32)), (.ref o1), (.ref o0)])) (fun t k => ?_) ?_
  · show Steps p.tables e below (s₁.setTop (mkF m 21 #[.val (.ref o0), .val (.ref o1), .val (.int (2 : Int32))] [(.ref o1)])) _
    refine X0.arraylength hx (by rw [e0]; exact Arcl2.1) (State.isArrayOf_alike hZ.alike Arcl2.2.1) (g := (mkF m 21 #[.val (.ref o0), .val (.ref o1), .val (.int (2 : Int32))] [(.ref o1)])) rfl rfl (hb hby d10_21) _ ?_
    rw [len_of Scl2 Mcl2]
    show Steps p.tables e below (s₁.setTop (mkF m 22 #[.val (.ref o0), .val (.ref o1), .val (.int (2 : Int32))] [(.int (2 : Int32))])) _
    refine XS.iloadN X0.here hx rfl (hb hby d10_22) rfl ?_
    show Steps p.tables e below (s₁.setTop (mkF m 23 #[.val (.ref o0), .val (.ref o1), .val (.int (2 : Int32))] [(.int (2 : Int32)), (.int (2 : Int32))])) _
    refine XS.icmpYes X0.here hx rfl (pc0 := 23) (pc' := 28) rfl (hb hby d10_23) rfl (teq rfl).1 (by decide) (by decide) ?_
    show Steps p.tables e below (s₁.setTop (mkF m 28 #[.val (.ref o0), .val (.ref o1), .val (.int (2 : Int32))] [])) _
    refine XS.aloadN X0.here hx rfl (hb hby d10_28) rfl rfl ?_
    show Steps p.tables e below (s₁.setTop (mkF m 29 #[.val (.ref o0), .val (.ref o1), .val (.int (2 : Int32))] [(.ref o0)])) _
    refine XS.aloadN X0.here hx rfl (hb hby d10_29) rfl rfl ?_
    show Steps p.tables e below (s₁.setTop (mkF m 30 #[.val (.ref o0), .val (.ref o1), .val (.int (2 : Int32))] [(.ref o1), (.ref o0)])) _
    refine XS.iloadN X0.here hx rfl (hb hby d10_30) rfl ?_
    show Steps p.tables e below (s₁.setTop (mkF m 31 #[.val (.ref o0), .val (.ref o1), .val (.int (2 : Int32))] [(.int (2 : Int32)), (.ref o1), (.ref o0)])) _
    exact k
  obtain ⟨_, _, ⟨T4, L4, k4, n4⟩, -, X4, ⟨Lc4, hQ4, l4, y4, z4⟩, st4⟩ := Jvm.LawKit.callS X0 hx (y := (⟨"jdk/internal/util/ArraysSupport", "mismatch", "([B[BI)I"⟩ : MethodName)) hown (mvT hZ (hw _ (List.mem_of_getElem? (i := 58) rfl))) (mvT hZ (hw _ (List.mem_of_getElem? (i := 59) rfl))) (mvT hZ (hw _ (List.mem_of_getElem? (i := 38) rfl))) (mvT hZ (hw _ (List.mem_of_getElem? (i := 60) rfl))) (by decide) (backOf (W := 0) (rm11n l Z a0 hw [] o0 o1 k k1 c0 c1 d0 d1 h0 n0 Z0 V V1) hZ (hw _ (List.mem_of_getElem? (i := 60) rfl)) (hw _ (List.mem_of_getElem? (i := 38) rfl)) (by decide) (by decide)) (g := (mkF m 31 #[.val (.ref o0), .val (.ref o1), .val (.int (2 : Int32))] [(.int (2 : Int32)), (.ref o1), (.ref o0)])) rfl (by rw [hml]; rfl) (argsL := [(.ref o0), (.ref o1), (.int (2 : Int32))]) (rest := []) (lenOf pd_4 rfl) rfl (by show 2 * 0 + _ ≤ _; exact Nat.le_of_eq rfl) (hb hby d10_31) (fun _ _ => ⟨rfl, e0, (by decide : 0 + 0 ≤ _), (by decide : 0 + 0 ≤ _)⟩)
  dsimp only [Pt.U, Pt.locs, Pt.cells, Pt.slots] at X4 l4 y4 z4 st4 hQ4
  subst l4 y4 z4
  obtain ⟨rfl, N4q, eq4⟩ := hQ4
  have N4 := Fr.app N0 N4q
  refine own_step st4 ?_
  show own_Run p e below s _ _ _ T4 (mkF m 34 #[.val (.ref o0), .val (.ref o1), .val (.int (2 : Int32))] [(.int (own_mm c0 c1 d0 d1))])
  refine own_step (T' := T4) (g' := (mkF m 42 #[.val (.ref o0), .val (.ref o1), .val (.int (2 : Int32))] [(.int (own_pick ((own_mm c0 c1 d0 d1) < (0 : Int32)) (1 : Int32) (0 : Int32)))])) (fun t k => ?_) ?_
  · show Steps p.tables e below (T4.setTop (mkF m 34 #[.val (.ref o0), .val (.ref o1), .val (.int (2 : Int32))] [(.int (own_mm c0 c1 d0 d1))])) _
    refine own_mat_c_ge X4.here hx rfl (hb hby d10_34) (hb hby d10_37) (hb hby d10_38) (hb hby d10_41) ?_
    show Steps p.tables e below (T4.setTop (mkF m 42 #[.val (.ref o0), .val (.ref o1), .val (.int (2 : Int32))] [(.int (own_pick ((own_mm c0 c1 d0 d1) < (0 : Int32)) (1 : Int32) (0 : Int32)))])) _
    exact k
  refine own_retN X4 hx (t := .boolean) Bd.returns (by simp) (hb hby d10_42) (BodyLoose.notSynchronized Bd) (by decide) (by decide) ?_
  rw [show T4.heap = h0 from eq4]
  exact ⟨congrArg (fun z => some (Value.int z)) (own_aeq_of c0 c1 d0 d1), N4, rfl⟩
theorem own_eq1 {w0 w1 : Int64} (A : Int32) (h : lcmpW w0 w1 = (0 : Int32)) : nar .boolean (own_pick (A = (0 : Int32)) (0 : Int32) (1 : Int32)) = 0 ∨ (w0 = w1 ∧ ¬ A = (0 : Int32)) := by
  by_cases q : A = (0 : Int32)
  · left; rw [own_pick_pos q]; rfl
  · right; exact ⟨(lw_eq _ _).mp h, q⟩
theorem d8_0 : decode prog_13_method_8_code 0 = .ok (.aload_n 1, 1) := by decide +kernel
theorem d8_1 : decode prog_13_method_8_code 1 = .ok (.instanceof 8, 3) := by decide +kernel
theorem d8_4 : decode prog_13_method_8_code 4 = .ok (.ifCond .eq 38, 3) := by decide +kernel
theorem d8_7 : decode prog_13_method_8_code 7 = .ok (.aload_n 1, 1) := by decide +kernel
theorem d8_8 : decode prog_13_method_8_code 8 = .ok (.checkcast 8, 3) := by decide +kernel
theorem d8_11 : decode prog_13_method_8_code 11 = .ok (.astore_n 2, 1) := by decide +kernel
theorem d8_12 : decode prog_13_method_8_code 12 = .ok (.aload_n 0, 1) := by decide +kernel
theorem d8_13 : decode prog_13_method_8_code 13 = .ok (.getfield 7, 3) := by decide +kernel
theorem d8_16 : decode prog_13_method_8_code 16 = .ok (.aload_n 2, 1) := by decide +kernel
theorem d8_17 : decode prog_13_method_8_code 17 = .ok (.getfield 7, 3) := by decide +kernel
theorem d8_20 : decode prog_13_method_8_code 20 = .ok (.lcmp, 1) := by decide +kernel
theorem d8_21 : decode prog_13_method_8_code 21 = .ok (.ifCond .ne 21, 3) := by decide +kernel
theorem d8_24 : decode prog_13_method_8_code 24 = .ok (.aload_n 0, 1) := by decide +kernel
theorem d8_25 : decode prog_13_method_8_code 25 = .ok (.getfield 19, 3) := by decide +kernel
theorem d8_28 : decode prog_13_method_8_code 28 = .ok (.aload_n 2, 1) := by decide +kernel
theorem d8_29 : decode prog_13_method_8_code 29 = .ok (.getfield 19, 3) := by decide +kernel
theorem d8_32 : decode prog_13_method_8_code 32 = .ok (.invokestatic 113, 3) := by decide +kernel
theorem d8_35 : decode prog_13_method_8_code 35 = .ok (.ifCond .eq 7, 3) := by decide +kernel
theorem d8_38 : decode prog_13_method_8_code 38 = .ok (.iconst 1, 1) := by decide +kernel
theorem d8_39 : decode prog_13_method_8_code 39 = .ok (.goto 4, 3) := by decide +kernel
theorem d8_42 : decode prog_13_method_8_code 42 = .ok (.iconst 0, 1) := by decide +kernel
theorem d8_43 : decode prog_13_method_8_code 43 = .ok (.ireturn, 1) := by decide +kernel
theorem pn_rm8e : plainName "com/example/bevaka/bevaka/store/Checkpoint" = true := by first | (simp [plainName, overriddenIn]; done) | decide +kernel
theorem ef_rm8e (m : MethodId) (o0 : Addr) (o1 : Addr) : entryFrame m #[(.ref o0), (.ref o1)] 3 = mkF m 0 #[.val (.ref o0), .val (.ref o1), .unset] [] := by first | (simp [entryFrame, mkF, argsToLocals, Value.category, maxLocals]; done) | rfl
def rm8e_Q (Z : State) (o0 : Addr) (o1 : Addr) (w0 : Int64) (w1 : Int64) (x0 : Addr) (x1 : Addr) (k : ClassId) (k1 : ClassId) (h0 : Heap) (n0 : Nat) (v : Option Value) (h : Heap) (L : List Loc) : Prop := ∃ r, v = some (.int r) ∧ Fr n0 L ∧ h = h0 ∧ (r = 0 ∨ (w0 = w1 ∧ ¬ (1 : Int32) = (0 : Int32)))
set_option maxRecDepth 65536 in
set_option maxHeartbeats 40000000 in
theorem rm8e (l : Launch) (Z : State) (a0 : Array Value) (hw : ∀ d ∈ tables_1, d.before a0 Z = true) (ws : List Jvm.Cond) (o0 : Addr) (o1 : Addr) (w0 : Int64) (w1 : Int64) (x0 : Addr) (x1 : Addr) (k : ClassId) (k1 : ClassId) (h0 : Heap) (n0 : Nat) (Z0 : n0 ≤ h0.size) (E_o1 : Exa Z h0 o1 "com/example/bevaka/bevaka/store/Checkpoint") (F_r0 : Fld Z h0 o0 "com/example/bevaka/bevaka/store/Checkpoint" "records" "J" (.long w0)) (F_c0 : Fld Z h0 o0 "com/example/bevaka/bevaka/store/Checkpoint" "chain" "[B" (.ref x0)) (F_r1 : Fld Z h0 o1 "com/example/bevaka/bevaka/store/Checkpoint" "records" "J" (.long w1)) (F_c1 : Fld Z h0 o1 "com/example/bevaka/bevaka/store/Checkpoint" "chain" "[B" (.ref x1)) (V : Arv Z h0 x0 k .byte (0 : Int32) [] (.int (0 : Int32))) (V1 : Arv Z h0 x1 k1 .byte (0 : Int32) [] (.int (0 : Int32))) (hne : ¬ x0 = x1) :
    MetFree l (⟨"com/example/bevaka/bevaka/store/Checkpoint", "equals", "(Ljava/lang/Object;)Z"⟩ : MethodName) (head1 (Jvm.Cond.code (⟨"com/example/bevaka/bevaka/store/Checkpoint", "equals", "(Ljava/lang/Object;)Z"⟩ : MethodName) prog_13_method_8_code 3 (some .boolean) :: ws) ({ frames := 2, cells := 0, slots := 0, locals := 29 } : Room)) (fun a U => a = #[(.ref o0), (.ref o1)] ∧ Z.Warmed39 U.vm ∧ U.heap = h0) (fun _ _ _ _ _ => True) (fun _ U o U' => ∃ v L, o = .returned v ∧ rm8e_Q Z o0 o1 w0 w1 x0 x1 k k1 h0 n0 v U'.heap L ∧ FrameEnd U o U' L ({ frames := 2, cells := 0, slots := 0, locals := 29 } : Room).cells ({ frames := 2, cells := 0, slots := 0, locals := 29 } : Room).slots) := by
  refine MetFree.of_bodySF (plainFor_of_name pn_rm8e) hisR ?_
  intro p e s m args below meth c s₁ Bd hml0 hP hK
  obtain ⟨rfl, hZ, hh⟩ := hP
  have hx := Bd.exec
  have hby := Bd.bytes
  have hml : c.maxLocals = 3 := hml0
  have hown : s.vm.findClass "com/example/bevaka/bevaka/store/Checkpoint" = some m.cls := findClass_of_methodNamed Bd.named
  have hnm := (name_of_methodNamed Bd.named Bd.method).1
  have X0 : Stand p l e ({ frames := 2, cells := 0, slots := 0, locals := 29 } : Room) s m #[(.ref o0), (.ref o1)] below meth c s₁ [] 0 0 := Stand.of_body Bd
  have e0 : s₁.heap = h0 := by rw [← hh, Bd.state]; rfl
  have N0 := Fr.nil n0
  refine own_enter (QQ := rm8e_Q Z o0 o1 w0 w1 x0 x1 k k1 h0 n0) (ef_rm8e m o0 o1) ?_
  show own_Run p e below s _ _ _ s₁ (mkF m 0 #[.val (.ref o0), .val (.ref o1), .unset] [])
  refine own_step (T' := s₁) (g' := (mkF m 1 #[.val (.ref o0), .val (.ref o1), .unset] [(.ref o1)])) (fun t k => ?_) ?_
  · show Steps p.tables e below (s₁.setTop (mkF m 0 #[.val (.ref o0), .val (.ref o1), .unset] [])) _
    refine XS.aloadN X0.here hx rfl (hb hby d8_0) rfl rfl ?_
    show Steps p.tables e below (s₁.setTop (mkF m 1 #[.val (.ref o0), .val (.ref o1), .unset] [(.ref o1)])) _
    exact k
  obtain ⟨T1, X1, e1, st1⟩ := instY X0 hx hZ hown (hw _ (List.mem_of_getElem? (i := 49) rfl)) e0 (Ins.self E_o1) (g := (mkF m 1 #[.val (.ref o0), .val (.ref o1), .unset] [(.ref o1)])) rfl rfl (hb hby d8_1)
  refine own_step st1 ?_
  show own_Run p e below s _ _ _ T1 (mkF m 4 #[.val (.ref o0), .val (.ref o1), .unset] [(.int (1 : Int32))])
  refine own_step (T' := T1) (g' := (mkF m 8 #[.val (.ref o0), .val (.ref o1), .unset] [(.ref o1)])) (fun t k => ?_) ?_
  · show Steps p.tables e below (T1.setTop (mkF m 4 #[.val (.ref o0), .val (.ref o1), .unset] [(.int (1 : Int32))])) _
    refine XS.ifNo X1.here hx rfl (hb hby d8_4) rfl ((if0 _ _).trans (feq (by decide)).1) ?_
    show Steps p.tables e below (T1.setTop (mkF m 7 #[.val (.ref o0), .val (.ref o1), .unset] [])) _
    refine XS.aloadN X1.here hx rfl (hb hby d8_7) rfl rfl ?_
    show Steps p.tables e below (T1.setTop (mkF m 8 #[.val (.ref o0), .val (.ref o1), .unset] [(.ref o1)])) _
    exact k
  obtain ⟨T3, X3, e3, st3⟩ := castY X1 hx hZ hown (hw _ (List.mem_of_getElem? (i := 49) rfl)) e1 (Ins.self E_o1) (g := (mkF m 8 #[.val (.ref o0), .val (.ref o1), .unset] [(.ref o1)])) rfl rfl (hb hby d8_8)
  refine own_step st3 ?_
  show own_Run p e below s _ _ _ T3 (mkF m 11 #[.val (.ref o0), .val (.ref o1), .unset] [(.ref o1)])
  refine own_step (T' := T3) (g' := (mkF m 13 #[.val (.ref o0), .val (.ref o1), .val (.ref o1)] [(.ref o0)])) (fun t k => ?_) ?_
  · show Steps p.tables e below (T3.setTop (mkF m 11 #[.val (.ref o0), .val (.ref o1), .unset] [(.ref o1)])) _
    refine XS.astoreN X3.here hx rfl (hb hby d8_11) rfl rfl (l' := #[.val (.ref o0), .val (.ref o1), .val (.ref o1)]) rfl ?_
    show Steps p.tables e below (T3.setTop (mkF m 12 #[.val (.ref o0), .val (.ref o1), .val (.ref o1)] [])) _
    refine XS.aloadN X3.here hx rfl (hb hby d8_12) rfl rfl ?_
    show Steps p.tables e below (T3.setTop (mkF m 13 #[.val (.ref o0), .val (.ref o1), .val (.ref o1)] [(.ref o0)])) _
    exact k
  obtain ⟨T4, X4, e4, st4⟩ := getF X3 hx hZ hown (host := "") (Or.inl (hw _ (List.mem_of_getElem? (i := 10) rfl))) Via.refl e3 F_r0 (g := (mkF m 13 #[.val (.ref o0), .val (.ref o1), .val (.ref o1)] [(.ref o0)])) rfl rfl (hb hby d8_13)
  refine own_step st4 ?_
  show own_Run p e below s _ _ _ T4 (mkF m 16 #[.val (.ref o0), .val (.ref o1), .val (.ref o1)] [(.long w0)])
  refine own_step (T' := T4) (g' := (mkF m 17 #[.val (.ref o0), .val (.ref o1), .val (.ref o1)] [(.ref o1), (.long w0)])) (fun t k => ?_) ?_
  · show Steps p.tables e below (T4.setTop (mkF m 16 #[.val (.ref o0), .val (.ref o1), .val (.ref o1)] [(.long w0)])) _
    refine XS.aloadN X4.here hx rfl (hb hby d8_16) rfl rfl ?_
    show Steps p.tables e below (T4.setTop (mkF m 17 #[.val (.ref o0), .val (.ref o1), .val (.ref o1)] [(.ref o1), (.long w0)])) _
    exact k
  obtain ⟨T5, X5, e5, st5⟩ := getF X4 hx hZ hown (host := "") (Or.inl (hw _ (List.mem_of_getElem? (i := 10) rfl))) Via.refl e4 F_r1 (g := (mkF m 17 #[.val (.ref o0), .val (.ref o1), .val (.ref o1)] [(.ref o1), (.long w0)])) rfl rfl (hb hby d8_17)
  refine own_step st5 ?_
  show own_Run p e below s _ _ _ T5 (mkF m 20 #[.val (.ref o0), .val (.ref o1), .val (.ref o1)] [(.long w1), (.long w0)])
  refine own_step (T' := T5) (g' := (mkF m 21 #[.val (.ref o0), .val (.ref o1), .val (.ref o1)] [(.int (lcmpW w0 w1))])) (fun t k => ?_) ?_
  · show Steps p.tables e below (T5.setTop (mkF m 20 #[.val (.ref o0), .val (.ref o1), .val (.ref o1)] [(.long w1), (.long w0)])) _
    refine XS.lcmp X5.here hx rfl (hb hby d8_20) rfl ?_
    show Steps p.tables e below (T5.setTop (mkF m 21 #[.val (.ref o0), .val (.ref o1), .val (.ref o1)] [(.int (lcmpW w0 w1))])) _
    exact k
  by_cases hc6 : (lcmpW w0 w1) = (0 : Int32)
  · skip
    refine own_step (T' := T5) (g' := (mkF m 25 #[.val (.ref o0), .val (.ref o1), .val (.ref o1)] [(.ref o0)])) (fun t k => ?_) ?_
    · show Steps p.tables e below (T5.setTop (mkF m 21 #[.val (.ref o0), .val (.ref o1), .val (.ref o1)] [(.int (lcmpW w0 w1))])) _
      refine XS.ifNo X5.here hx rfl (hb hby d8_21) rfl ((if0 _ _).trans (teq hc6).2) ?_
      show Steps p.tables e below (T5.setTop (mkF m 24 #[.val (.ref o0), .val (.ref o1), .val (.ref o1)] [])) _
      refine XS.aloadN X5.here hx rfl (hb hby d8_24) rfl rfl ?_
      show Steps p.tables e below (T5.setTop (mkF m 25 #[.val (.ref o0), .val (.ref o1), .val (.ref o1)] [(.ref o0)])) _
      exact k
    obtain ⟨T7, X7, e7, st7⟩ := getF X5 hx hZ hown (host := "") (Or.inl (hw _ (List.mem_of_getElem? (i := 21) rfl))) Via.refl e5 F_c0 (g := (mkF m 25 #[.val (.ref o0), .val (.ref o1), .val (.ref o1)] [(.ref o0)])) rfl rfl (hb hby d8_25)
    refine own_step st7 ?_
    show own_Run p e below s _ _ _ T7 (mkF m 28 #[.val (.ref o0), .val (.ref o1), .val (.ref o1)] [(.ref x0)])
    refine own_step (T' := T7) (g' := (mkF m 29 #[.val (.ref o0), .val (.ref o1), .val (.ref o1)] [(.ref o1), (.ref x0)])) (fun t k => ?_) ?_
    · show Steps p.tables e below (T7.setTop (mkF m 28 #[.val (.ref o0), .val (.ref o1), .val (.ref o1)] [(.ref x0)])) _
      refine XS.aloadN X7.here hx rfl (hb hby d8_28) rfl rfl ?_
      show Steps p.tables e below (T7.setTop (mkF m 29 #[.val (.ref o0), .val (.ref o1), .val (.ref o1)] [(.ref o1), (.ref x0)])) _
      exact k
    obtain ⟨T8, X8, e8, st8⟩ := getF X7 hx hZ hown (host := "") (Or.inl (hw _ (List.mem_of_getElem? (i := 21) rfl))) Via.refl e7 F_c1 (g := (mkF m 29 #[.val (.ref o0), .val (.ref o1), .val (.ref o1)] [(.ref o1), (.ref x0)])) rfl rfl (hb hby d8_29)
    refine own_step st8 ?_
    show own_Run p e below s _ _ _ T8 (mkF m 32 #[.val (.ref o0), .val (.ref o1), .val (.ref o1)] [(.ref x1), (.ref x0)])
    obtain ⟨_, _, ⟨T9, L9, k9, n9⟩, -, X9, ⟨Lc9, hQ9, l9, y9, z9⟩, st9⟩ := Jvm.LawKit.callS X8 hx (y := (⟨"java/util/Arrays", "equals", "([B[B)Z"⟩ : MethodName)) hown (mvT hZ (hw _ (List.mem_of_getElem? (i := 55) rfl))) (mvT hZ (hw _ (List.mem_of_getElem? (i := 56) rfl))) (mvT hZ (hw _ (List.mem_of_getElem? (i := 34) rfl))) (mvT hZ (hw _ (List.mem_of_getElem? (i := 57) rfl))) (by decide) (backOf (W := 0) (rm10e l Z a0 hw [] x0 x1 k k1 h0 n0 Z0 V V1 hne) hZ (hw _ (List.mem_of_getElem? (i := 57) rfl)) (hw _ (List.mem_of_getElem? (i := 34) rfl)) (by decide) (by decide)) (g := (mkF m 32 #[.val (.ref o0), .val (.ref o1), .val (.ref o1)] [(.ref x1), (.ref x0)])) rfl (by rw [hml]; rfl) (argsL := [(.ref x0), (.ref x1)]) (rest := []) (lenOf pd_5 rfl) rfl (by show 2 * 0 + _ ≤ _; exact Nat.le_of_eq rfl) (hb hby d8_32) (fun _ _ => ⟨rfl, e8, (by decide : 0 + 0 ≤ _), (by decide : 0 + 0 ≤ _)⟩)
    dsimp only [Pt.U, Pt.locs, Pt.cells, Pt.slots] at X9 l9 y9 z9 st9 hQ9
    subst l9 y9 z9
    obtain ⟨rfl, N9q, eq9⟩ := hQ9
    have N9 := Fr.app N0 N9q
    refine own_step st9 ?_
    show own_Run p e below s _ _ _ T9 (mkF m 35 #[.val (.ref o0), .val (.ref o1), .val (.ref o1)] [(.int (1 : Int32))])
    refine own_step (T' := T9) (g' := (mkF m 43 #[.val (.ref o0), .val (.ref o1), .val (.ref o1)] [(.int (1 : Int32))])) (fun t k => ?_) ?_
    · show Steps p.tables e below (T9.setTop (mkF m 35 #[.val (.ref o0), .val (.ref o1), .val (.ref o1)] [(.int (1 : Int32))])) _
      refine XS.ifNo X9.here hx rfl (hb hby d8_35) rfl ((if0 _ _).trans (feq (by decide)).1) ?_
      show Steps p.tables e below (T9.setTop (mkF m 38 #[.val (.ref o0), .val (.ref o1), .val (.ref o1)] [])) _
      refine XS.iconst X9.here hx rfl (hb hby d8_38) ?_
      show Steps p.tables e below (T9.setTop (mkF m 39 #[.val (.ref o0), .val (.ref o1), .val (.ref o1)] [(.int (1 : Int32))])) _
      refine XS.goto X9.here hx rfl (pc0 := 39) (pc' := 43) rfl (hb hby d8_39) (by decide) (by decide) ?_
      show Steps p.tables e below (T9.setTop (mkF m 43 #[.val (.ref o0), .val (.ref o1), .val (.ref o1)] [(.int (1 : Int32))])) _
      exact k
    refine own_retN X9 hx (t := .boolean) Bd.returns (by simp) (hb hby d8_43) (BodyLoose.notSynchronized Bd) (by decide) (by decide) ?_
    rw [show T9.heap = h0 from eq9]
    exact ⟨_, rfl, N9, rfl, Or.inr ⟨(lw_eq _ _).mp hc6, by decide⟩⟩
  · skip
    refine own_step (T' := T5) (g' := (mkF m 43 #[.val (.ref o0), .val (.ref o1), .val (.ref o1)] [(.int (0 : Int32))])) (fun t k => ?_) ?_
    · show Steps p.tables e below (T5.setTop (mkF m 21 #[.val (.ref o0), .val (.ref o1), .val (.ref o1)] [(.int (lcmpW w0 w1))])) _
      refine XS.ifYes X5.here hx rfl (pc0 := 21) (pc' := 42) rfl (hb hby d8_21) rfl ((if0 _ _).trans (feq hc6).2) (by decide) (by decide) ?_
      show Steps p.tables e below (T5.setTop (mkF m 42 #[.val (.ref o0), .val (.ref o1), .val (.ref o1)] [])) _
      refine XS.iconst X5.here hx rfl (hb hby d8_42) ?_
      show Steps p.tables e below (T5.setTop (mkF m 43 #[.val (.ref o0), .val (.ref o1), .val (.ref o1)] [(.int (0 : Int32))])) _
      exact k
    refine own_retN X5 hx (t := .boolean) Bd.returns (by simp) (hb hby d8_43) (BodyLoose.notSynchronized Bd) (by decide) (by decide) ?_
    rw [show T5.heap = h0 from e5]
    exact ⟨_, rfl, N0, rfl, Or.inl rfl⟩
theorem pn_rm8n : plainName "com/example/bevaka/bevaka/store/Checkpoint" = true := by first | (simp [plainName, overriddenIn]; done) | decide +kernel
theorem ef_rm8n (m : MethodId) (o0 : Addr) (o1 : Addr) : entryFrame m #[(.ref o0), (.ref o1)] 3 = mkF m 0 #[.val (.ref o0), .val (.ref o1), .unset] [] := by first | (simp [entryFrame, mkF, argsToLocals, Value.category, maxLocals]; done) | rfl
def rm8n_Q (Z : State) (o0 : Addr) (o1 : Addr) (w0 : Int64) (w1 : Int64) (x0 : Addr) (x1 : Addr) (k : ClassId) (k1 : ClassId) (c0 : Int32) (c1 : Int32) (d0 : Int32) (d1 : Int32) (h0 : Heap) (n0 : Nat) (v : Option Value) (h : Heap) (L : List Loc) : Prop := ∃ r, v = some (.int r) ∧ Fr n0 L ∧ h = h0 ∧ (r = 0 ∨ (w0 = w1 ∧ ¬ (own_aeq c0 c1 d0 d1) = (0 : Int32)))
set_option maxRecDepth 65536 in
set_option maxHeartbeats 40000000 in
theorem rm8n (l : Launch) (Z : State) (a0 : Array Value) (hw : ∀ d ∈ tables_1, d.before a0 Z = true) (ws : List Jvm.Cond) (o0 : Addr) (o1 : Addr) (w0 : Int64) (w1 : Int64) (x0 : Addr) (x1 : Addr) (k : ClassId) (k1 : ClassId) (c0 : Int32) (c1 : Int32) (d0 : Int32) (d1 : Int32) (h0 : Heap) (n0 : Nat) (Z0 : n0 ≤ h0.size) (E_o1 : Exa Z h0 o1 "com/example/bevaka/bevaka/store/Checkpoint") (F_r0 : Fld Z h0 o0 "com/example/bevaka/bevaka/store/Checkpoint" "records" "J" (.long w0)) (F_c0 : Fld Z h0 o0 "com/example/bevaka/bevaka/store/Checkpoint" "chain" "[B" (.ref x0)) (F_r1 : Fld Z h0 o1 "com/example/bevaka/bevaka/store/Checkpoint" "records" "J" (.long w1)) (F_c1 : Fld Z h0 o1 "com/example/bevaka/bevaka/store/Checkpoint" "chain" "[B" (.ref x1)) (V : Arv Z h0 x0 k .byte (2 : Int32) [(.int c0), (.int c1)] (.int (0 : Int32))) (V1 : Arv Z h0 x1 k1 .byte (2 : Int32) [(.int d0), (.int d1)] (.int (0 : Int32))) (hne : ¬ x0 = x1) :
    MetFree l (⟨"com/example/bevaka/bevaka/store/Checkpoint", "equals", "(Ljava/lang/Object;)Z"⟩ : MethodName) (head1 (Jvm.Cond.code (⟨"com/example/bevaka/bevaka/store/Checkpoint", "equals", "(Ljava/lang/Object;)Z"⟩ : MethodName) prog_13_method_8_code 3 (some .boolean) :: ws) ({ frames := 2, cells := 0, slots := 0, locals := 29 } : Room)) (fun a U => a = #[(.ref o0), (.ref o1)] ∧ Z.Warmed39 U.vm ∧ U.heap = h0) (fun _ _ _ _ _ => True) (fun _ U o U' => ∃ v L, o = .returned v ∧ rm8n_Q Z o0 o1 w0 w1 x0 x1 k k1 c0 c1 d0 d1 h0 n0 v U'.heap L ∧ FrameEnd U o U' L ({ frames := 2, cells := 0, slots := 0, locals := 29 } : Room).cells ({ frames := 2, cells := 0, slots := 0, locals := 29 } : Room).slots) := by
  refine MetFree.of_bodySF (plainFor_of_name pn_rm8n) hisR ?_
  intro p e s m args below meth c s₁ Bd hml0 hP hK
  obtain ⟨rfl, hZ, hh⟩ := hP
  have hx := Bd.exec
  have hby := Bd.bytes
  have hml : c.maxLocals = 3 := hml0
  have hown : s.vm.findClass "com/example/bevaka/bevaka/store/Checkpoint" = some m.cls := findClass_of_methodNamed Bd.named
  have hnm := (name_of_methodNamed Bd.named Bd.method).1
  have X0 : Stand p l e ({ frames := 2, cells := 0, slots := 0, locals := 29 } : Room) s m #[(.ref o0), (.ref o1)] below meth c s₁ [] 0 0 := Stand.of_body Bd
  have e0 : s₁.heap = h0 := by rw [← hh, Bd.state]; rfl
  have N0 := Fr.nil n0
  refine own_enter (QQ := rm8n_Q Z o0 o1 w0 w1 x0 x1 k k1 c0 c1 d0 d1 h0 n0) (ef_rm8n m o0 o1) ?_
  show own_Run p e below s _ _ _ s₁ (mkF m 0 #[.val (.ref o0), .val (.ref o1), .unset] [])
  refine own_step (T' := s₁) (g' := (mkF m 1 #[.val (.ref o0), .val (.ref o1), .unset] [(.ref o1)])) (fun t k => ?_) ?_
  · show Steps p.tables e below (s₁.setTop (mkF m 0 #[.val (.ref o0), .val (.ref o1), .unset] [])) _
    refine XS.aloadN X0.here hx rfl (hb hby d8_0) rfl rfl ?_
    show Steps p.tables e below (s₁.setTop (mkF m 1 #[.val (.ref o0), .val (.ref o1), .unset] [(.ref o1)])) _
    exact k
  obtain ⟨T1, X1, e1, st1⟩ := instY X0 hx hZ hown (hw _ (List.mem_of_getElem? (i := 49) rfl)) e0 (Ins.self E_o1) (g := (mkF m 1 #[.val (.ref o0), .val (.ref o1), .unset] [(.ref o1)])) rfl rfl (hb hby d8_1)
  refine own_step st1 ?_
  show own_Run p e below s _ _ _ T1 (mkF m 4 #[.val (.ref o0), .val (.ref o1), .unset] [(.int (1 : Int32))])
  refine own_step (T' := T1) (g' := (mkF m 8 #[.val (.ref o0), .val (.ref o1), .unset] [(.ref o1)])) (fun t k => ?_) ?_
  · show Steps p.tables e below (T1.setTop (mkF m 4 #[.val (.ref o0), .val (.ref o1), .unset] [(.int (1 : Int32))])) _
    refine XS.ifNo X1.here hx rfl (hb hby d8_4) rfl ((if0 _ _).trans (feq (by decide)).1) ?_
    show Steps p.tables e below (T1.setTop (mkF m 7 #[.val (.ref o0), .val (.ref o1), .unset] [])) _
    refine XS.aloadN X1.here hx rfl (hb hby d8_7) rfl rfl ?_
    show Steps p.tables e below (T1.setTop (mkF m 8 #[.val (.ref o0), .val (.ref o1), .unset] [(.ref o1)])) _
    exact k
  obtain ⟨T3, X3, e3, st3⟩ := castY X1 hx hZ hown (hw _ (List.mem_of_getElem? (i := 49) rfl)) e1 (Ins.self E_o1) (g := (mkF m 8 #[.val (.ref o0), .val (.ref o1), .unset] [(.ref o1)])) rfl rfl (hb hby d8_8)
  refine own_step st3 ?_
  show own_Run p e below s _ _ _ T3 (mkF m 11 #[.val (.ref o0), .val (.ref o1), .unset] [(.ref o1)])
  refine own_step (T' := T3) (g' := (mkF m 13 #[.val (.ref o0), .val (.ref o1), .val (.ref o1)] [(.ref o0)])) (fun t k => ?_) ?_
  · show Steps p.tables e below (T3.setTop (mkF m 11 #[.val (.ref o0), .val (.ref o1), .unset] [(.ref o1)])) _
    refine XS.astoreN X3.here hx rfl (hb hby d8_11) rfl rfl (l' := #[.val (.ref o0), .val (.ref o1), .val (.ref o1)]) rfl ?_
    show Steps p.tables e below (T3.setTop (mkF m 12 #[.val (.ref o0), .val (.ref o1), .val (.ref o1)] [])) _
    refine XS.aloadN X3.here hx rfl (hb hby d8_12) rfl rfl ?_
    show Steps p.tables e below (T3.setTop (mkF m 13 #[.val (.ref o0), .val (.ref o1), .val (.ref o1)] [(.ref o0)])) _
    exact k
  obtain ⟨T4, X4, e4, st4⟩ := getF X3 hx hZ hown (host := "") (Or.inl (hw _ (List.mem_of_getElem? (i := 10) rfl))) Via.refl e3 F_r0 (g := (mkF m 13 #[.val (.ref o0), .val (.ref o1), .val (.ref o1)] [(.ref o0)])) rfl rfl (hb hby d8_13)
  refine own_step st4 ?_
  show own_Run p e below s _ _ _ T4 (mkF m 16 #[.val (.ref o0), .val (.ref o1), .val (.ref o1)] [(.long w0)])
  refine own_step (T' := T4) (g' := (mkF m 17 #[.val (.ref o0), .val (.ref o1), .val (.ref o1)] [(.ref o1), (.long w0)])) (fun t k => ?_) ?_
  · show Steps p.tables e below (T4.setTop (mkF m 16 #[.val (.ref o0), .val (.ref o1), .val (.ref o1)] [(.long w0)])) _
    refine XS.aloadN X4.here hx rfl (hb hby d8_16) rfl rfl ?_
    show Steps p.tables e below (T4.setTop (mkF m 17 #[.val (.ref o0), .val (.ref o1), .val (.ref o1)] [(.ref o1), (.long w0)])) _
    exact k
  obtain ⟨T5, X5, e5, st5⟩ := getF X4 hx hZ hown (host := "") (Or.inl (hw _ (List.mem_of_getElem? (i := 10) rfl))) Via.refl e4 F_r1 (g := (mkF m 17 #[.val (.ref o0), .val (.ref o1), .val (.ref o1)] [(.ref o1), (.long w0)])) rfl rfl (hb hby d8_17)
  refine own_step st5 ?_
  show own_Run p e below s _ _ _ T5 (mkF m 20 #[.val (.ref o0), .val (.ref o1), .val (.ref o1)] [(.long w1), (.long w0)])
  refine own_step (T' := T5) (g' := (mkF m 21 #[.val (.ref o0), .val (.ref o1), .val (.ref o1)] [(.int (lcmpW w0 w1))])) (fun t k => ?_) ?_
  · show Steps p.tables e below (T5.setTop (mkF m 20 #[.val (.ref o0), .val (.ref o1), .val (.ref o1)] [(.long w1), (.long w0)])) _
    refine XS.lcmp X5.here hx rfl (hb hby d8_20) rfl ?_
    show Steps p.tables e below (T5.setTop (mkF m 21 #[.val (.ref o0), .val (.ref o1), .val (.ref o1)] [(.int (lcmpW w0 w1))])) _
    exact k
  by_cases hc6 : (lcmpW w0 w1) = (0 : Int32)
  · skip
    refine own_step (T' := T5) (g' := (mkF m 25 #[.val (.ref o0), .val (.ref o1), .val (.ref o1)] [(.ref o0)])) (fun t k => ?_) ?_
    · show Steps p.tables e below (T5.setTop (mkF m 21 #[.val (.ref o0), .val (.ref o1), .val (.ref o1)] [(.int (lcmpW w0 w1))])) _
      refine XS.ifNo X5.here hx rfl (hb hby d8_21) rfl ((if0 _ _).trans (teq hc6).2) ?_
      show Steps p.tables e below (T5.setTop (mkF m 24 #[.val (.ref o0), .val (.ref o1), .val (.ref o1)] [])) _
      refine XS.aloadN X5.here hx rfl (hb hby d8_24) rfl rfl ?_
      show Steps p.tables e below (T5.setTop (mkF m 25 #[.val (.ref o0), .val (.ref o1), .val (.ref o1)] [(.ref o0)])) _
      exact k
    obtain ⟨T7, X7, e7, st7⟩ := getF X5 hx hZ hown (host := "") (Or.inl (hw _ (List.mem_of_getElem? (i := 21) rfl))) Via.refl e5 F_c0 (g := (mkF m 25 #[.val (.ref o0), .val (.ref o1), .val (.ref o1)] [(.ref o0)])) rfl rfl (hb hby d8_25)
    refine own_step st7 ?_
    show own_Run p e below s _ _ _ T7 (mkF m 28 #[.val (.ref o0), .val (.ref o1), .val (.ref o1)] [(.ref x0)])
    refine own_step (T' := T7) (g' := (mkF m 29 #[.val (.ref o0), .val (.ref o1), .val (.ref o1)] [(.ref o1), (.ref x0)])) (fun t k => ?_) ?_
    · show Steps p.tables e below (T7.setTop (mkF m 28 #[.val (.ref o0), .val (.ref o1), .val (.ref o1)] [(.ref x0)])) _
      refine XS.aloadN X7.here hx rfl (hb hby d8_28) rfl rfl ?_
      show Steps p.tables e below (T7.setTop (mkF m 29 #[.val (.ref o0), .val (.ref o1), .val (.ref o1)] [(.ref o1), (.ref x0)])) _
      exact k
    obtain ⟨T8, X8, e8, st8⟩ := getF X7 hx hZ hown (host := "") (Or.inl (hw _ (List.mem_of_getElem? (i := 21) rfl))) Via.refl e7 F_c1 (g := (mkF m 29 #[.val (.ref o0), .val (.ref o1), .val (.ref o1)] [(.ref o1), (.ref x0)])) rfl rfl (hb hby d8_29)
    refine own_step st8 ?_
    show own_Run p e below s _ _ _ T8 (mkF m 32 #[.val (.ref o0), .val (.ref o1), .val (.ref o1)] [(.ref x1), (.ref x0)])
    obtain ⟨_, _, ⟨T9, L9, k9, n9⟩, -, X9, ⟨Lc9, hQ9, l9, y9, z9⟩, st9⟩ := Jvm.LawKit.callS X8 hx (y := (⟨"java/util/Arrays", "equals", "([B[B)Z"⟩ : MethodName)) hown (mvT hZ (hw _ (List.mem_of_getElem? (i := 55) rfl))) (mvT hZ (hw _ (List.mem_of_getElem? (i := 56) rfl))) (mvT hZ (hw _ (List.mem_of_getElem? (i := 34) rfl))) (mvT hZ (hw _ (List.mem_of_getElem? (i := 57) rfl))) (by decide) (backOf (W := 0) (rm10n l Z a0 hw [] x0 x1 k k1 c0 c1 d0 d1 h0 n0 Z0 V V1 hne) hZ (hw _ (List.mem_of_getElem? (i := 57) rfl)) (hw _ (List.mem_of_getElem? (i := 34) rfl)) (by decide) (by decide)) (g := (mkF m 32 #[.val (.ref o0), .val (.ref o1), .val (.ref o1)] [(.ref x1), (.ref x0)])) rfl (by rw [hml]; rfl) (argsL := [(.ref x0), (.ref x1)]) (rest := []) (lenOf pd_5 rfl) rfl (by show 2 * 0 + _ ≤ _; exact Nat.le_of_eq rfl) (hb hby d8_32) (fun _ _ => ⟨rfl, e8, (by decide : 0 + 0 ≤ _), (by decide : 0 + 0 ≤ _)⟩)
    dsimp only [Pt.U, Pt.locs, Pt.cells, Pt.slots] at X9 l9 y9 z9 st9 hQ9
    subst l9 y9 z9
    obtain ⟨rfl, N9q, eq9⟩ := hQ9
    have N9 := Fr.app N0 N9q
    refine own_step st9 ?_
    show own_Run p e below s _ _ _ T9 (mkF m 35 #[.val (.ref o0), .val (.ref o1), .val (.ref o1)] [(.int (own_aeq c0 c1 d0 d1))])
    refine own_step (T' := T9) (g' := (mkF m 43 #[.val (.ref o0), .val (.ref o1), .val (.ref o1)] [(.int (own_pick ((own_aeq c0 c1 d0 d1) = (0 : Int32)) (0 : Int32) (1 : Int32)))])) (fun t k => ?_) ?_
    · show Steps p.tables e below (T9.setTop (mkF m 35 #[.val (.ref o0), .val (.ref o1), .val (.ref o1)] [(.int (own_aeq c0 c1 d0 d1))])) _
      refine own_mat_c_eq X9.here hx rfl (hb hby d8_35) (hb hby d8_38) (hb hby d8_39) (hb hby d8_42) ?_
      show Steps p.tables e below (T9.setTop (mkF m 43 #[.val (.ref o0), .val (.ref o1), .val (.ref o1)] [(.int (own_pick ((own_aeq c0 c1 d0 d1) = (0 : Int32)) (0 : Int32) (1 : Int32)))])) _
      exact k
    refine own_retN X9 hx (t := .boolean) Bd.returns (by simp) (hb hby d8_43) (BodyLoose.notSynchronized Bd) (by decide) (by decide) ?_
    rw [show T9.heap = h0 from eq9]
    exact ⟨_, rfl, N9, rfl, own_eq1 _ hc6⟩
  · skip
    refine own_step (T' := T5) (g' := (mkF m 43 #[.val (.ref o0), .val (.ref o1), .val (.ref o1)] [(.int (0 : Int32))])) (fun t k => ?_) ?_
    · show Steps p.tables e below (T5.setTop (mkF m 21 #[.val (.ref o0), .val (.ref o1), .val (.ref o1)] [(.int (lcmpW w0 w1))])) _
      refine XS.ifYes X5.here hx rfl (pc0 := 21) (pc' := 42) rfl (hb hby d8_21) rfl ((if0 _ _).trans (feq hc6).2) (by decide) (by decide) ?_
      show Steps p.tables e below (T5.setTop (mkF m 42 #[.val (.ref o0), .val (.ref o1), .val (.ref o1)] [])) _
      refine XS.iconst X5.here hx rfl (hb hby d8_42) ?_
      show Steps p.tables e below (T5.setTop (mkF m 43 #[.val (.ref o0), .val (.ref o1), .val (.ref o1)] [(.int (0 : Int32))])) _
      exact k
    refine own_retN X5 hx (t := .boolean) Bd.returns (by simp) (hb hby d8_43) (BodyLoose.notSynchronized Bd) (by decide) (by decide) ?_
    rw [show T5.heap = h0 from e5]
    exact ⟨_, rfl, N0, rfl, Or.inl rfl⟩
def own_ex (q0 : Int64) (p1 p2 p3 : Int32) : Int32 := ((((q0 ^^^ ((q0.toUInt64 >>> ((32 : Int32) &&& 0x3f).toInt64.toUInt64).toInt64)).toInt32) * (31 : Int32)) + (own_pick (p1 = (0 : Int32)) (((961 : Int32) + ((31 : Int32) * p2)) + p3) (1 : Int32)))
theorem d9_0 : decode method_2_code 0 = .ok (.lload_n 0, 1) := by decide +kernel
theorem d9_1 : decode method_2_code 1 = .ok (.lload_n 0, 1) := by decide +kernel
theorem d9_2 : decode method_2_code 2 = .ok (.bipush 32, 2) := by decide +kernel
theorem d9_4 : decode method_2_code 4 = .ok (.lushr, 1) := by decide +kernel
theorem d9_5 : decode method_2_code 5 = .ok (.lxor, 1) := by decide +kernel
theorem d9_6 : decode method_2_code 6 = .ok (.l2i, 1) := by decide +kernel
theorem d9_7 : decode method_2_code 7 = .ok (.istore 5, 2) := by decide +kernel
theorem d9_9 : decode method_2_code 9 = .ok (.iload_n 2, 1) := by decide +kernel
theorem d9_10 : decode method_2_code 10 = .ok (.ifCond .eq 7, 3) := by decide +kernel
theorem d9_13 : decode method_2_code 13 = .ok (.iconst 1, 1) := by decide +kernel
theorem d9_14 : decode method_2_code 14 = .ok (.goto 14, 3) := by decide +kernel
theorem d9_17 : decode method_2_code 17 = .ok (.sipush 961, 3) := by decide +kernel
theorem d9_20 : decode method_2_code 20 = .ok (.bipush 31, 2) := by decide +kernel
theorem d9_22 : decode method_2_code 22 = .ok (.iload_n 3, 1) := by decide +kernel
theorem d9_23 : decode method_2_code 23 = .ok (.imul, 1) := by decide +kernel
theorem d9_24 : decode method_2_code 24 = .ok (.iadd, 1) := by decide +kernel
theorem d9_25 : decode method_2_code 25 = .ok (.iload 4, 2) := by decide +kernel
theorem d9_27 : decode method_2_code 27 = .ok (.iadd, 1) := by decide +kernel
theorem d9_28 : decode method_2_code 28 = .ok (.istore 6, 2) := by decide +kernel
theorem d9_30 : decode method_2_code 30 = .ok (.iload 5, 2) := by decide +kernel
theorem d9_32 : decode method_2_code 32 = .ok (.bipush 31, 2) := by decide +kernel
theorem d9_34 : decode method_2_code 34 = .ok (.imul, 1) := by decide +kernel
theorem d9_35 : decode method_2_code 35 = .ok (.iload 6, 2) := by decide +kernel
theorem d9_37 : decode method_2_code 37 = .ok (.iadd, 1) := by decide +kernel
theorem d9_38 : decode method_2_code 38 = .ok (.ireturn, 1) := by decide +kernel
theorem pn_rm9 : plainName "com/example/bevaka/bevaka/store/CheckpointHashCodePinLaw" = true := by first | (simp [plainName, overriddenIn]; done) | decide +kernel
theorem ef_rm9 (m : MethodId) (q0 : Int64) (p1 : Int32) (p2 : Int32) (p3 : Int32) : entryFrame m #[(.long q0), (.int p1), (.int p2), (.int p3)] 7 = mkF m 0 #[.val (.long q0), .second, .val (.int p1), .val (.int p2), .val (.int p3), .unset, .unset] [] := by first | (simp [entryFrame, mkF, argsToLocals, Value.category, maxLocals]; done) | rfl
def rm9_Q (Z : State) (q0 : Int64) (p1 : Int32) (p2 : Int32) (p3 : Int32)  (h0 : Heap) (n0 : Nat) (v : Option Value) (h : Heap) (L : List Loc) : Prop := v = some (.int (own_ex q0 p1 p2 p3)) ∧ Fr n0 L ∧ h = h0
set_option maxRecDepth 65536 in
set_option maxHeartbeats 40000000 in
theorem rm9 (l : Launch) (Z : State) (a0 : Array Value) (hw : ∀ d ∈ tables_1, d.before a0 Z = true) (ws : List Jvm.Cond) (q0 : Int64) (p1 : Int32) (p2 : Int32) (p3 : Int32)  (h0 : Heap) (n0 : Nat) (Z0 : n0 ≤ h0.size)  :
    MetFree l (⟨"com/example/bevaka/bevaka/store/CheckpointHashCodePinLaw", "expected", "(JZBB)I"⟩ : MethodName) (head1 (Jvm.Cond.code (⟨"com/example/bevaka/bevaka/store/CheckpointHashCodePinLaw", "expected", "(JZBB)I"⟩ : MethodName) method_2_code 7 (some .int) :: ws) ({ frames := 0, cells := 0, slots := 0, locals := 0 } : Room)) (fun a U => a = #[(.long q0), (.int p1), (.int p2), (.int p3)] ∧ Z.Warmed39 U.vm ∧ U.heap = h0) (fun _ _ _ _ _ => True) (fun _ U o U' => ∃ v L, o = .returned v ∧ rm9_Q Z q0 p1 p2 p3 h0 n0 v U'.heap L ∧ FrameEnd U o U' L ({ frames := 0, cells := 0, slots := 0, locals := 0 } : Room).cells ({ frames := 0, cells := 0, slots := 0, locals := 0 } : Room).slots) := by
  refine MetFree.of_bodySF (plainFor_of_name pn_rm9) hisR ?_
  intro p e s m args below meth c s₁ Bd hml0 hP hK
  obtain ⟨rfl, hZ, hh⟩ := hP
  have hx := Bd.exec
  have hby := Bd.bytes
  have hml : c.maxLocals = 7 := hml0
  have hown : s.vm.findClass "com/example/bevaka/bevaka/store/CheckpointHashCodePinLaw" = some m.cls := findClass_of_methodNamed Bd.named
  have hnm := (name_of_methodNamed Bd.named Bd.method).1
  have X0 : Stand p l e ({ frames := 0, cells := 0, slots := 0, locals := 0 } : Room) s m #[(.long q0), (.int p1), (.int p2), (.int p3)] below meth c s₁ [] 0 0 := Stand.of_body Bd
  have e0 : s₁.heap = h0 := by rw [← hh, Bd.state]; rfl
  have N0 := Fr.nil n0
  refine own_enter (QQ := rm9_Q Z q0 p1 p2 p3 h0 n0) (ef_rm9 m q0 p1 p2 p3) ?_
  show own_Run p e below s _ _ _ s₁ (mkF m 0 #[.val (.long q0), .second, .val (.int p1), .val (.int p2), .val (.int p3), .unset, .unset] [])
  refine own_step (T' := s₁) (g' := (mkF m 10 #[.val (.long q0), .second, .val (.int p1), .val (.int p2), .val (.int p3), .val (.int ((q0 ^^^ ((q0.toUInt64 >>> ((32 : Int32) &&& 0x3f).toInt64.toUInt64).toInt64)).toInt32)), .unset] [(.int p1)])) (fun t k => ?_) ?_
  · show Steps p.tables e below (s₁.setTop (mkF m 0 #[.val (.long q0), .second, .val (.int p1), .val (.int p2), .val (.int p3), .unset, .unset] [])) _
    refine XS.lloadN X0.here hx rfl (hb hby d9_0) rfl ?_
    show Steps p.tables e below (s₁.setTop (mkF m 1 #[.val (.long q0), .second, .val (.int p1), .val (.int p2), .val (.int p3), .unset, .unset] [(.long q0)])) _
    refine XS.lloadN X0.here hx rfl (hb hby d9_1) rfl ?_
    show Steps p.tables e below (s₁.setTop (mkF m 2 #[.val (.long q0), .second, .val (.int p1), .val (.int p2), .val (.int p3), .unset, .unset] [(.long q0), (.long q0)])) _
    refine XS.bipush X0.here hx rfl (hb hby d9_2) ?_
    show Steps p.tables e below (s₁.setTop (mkF m 4 #[.val (.long q0), .second, .val (.int p1), .val (.int p2), .val (.int p3), .unset, .unset] [(.int (32 : Int32)), (.long q0), (.long q0)])) _
    refine XS.lushr X0.here hx rfl (hb hby d9_4) rfl ?_
    show Steps p.tables e below (s₁.setTop (mkF m 5 #[.val (.long q0), .second, .val (.int p1), .val (.int p2), .val (.int p3), .unset, .unset] [(.long ((q0.toUInt64 >>> ((32 : Int32) &&& 0x3f).toInt64.toUInt64).toInt64)), (.long q0)])) _
    refine XS.lxor X0.here hx rfl (hb hby d9_5) rfl ?_
    show Steps p.tables e below (s₁.setTop (mkF m 6 #[.val (.long q0), .second, .val (.int p1), .val (.int p2), .val (.int p3), .unset, .unset] [(.long (q0 ^^^ ((q0.toUInt64 >>> ((32 : Int32) &&& 0x3f).toInt64.toUInt64).toInt64)))])) _
    refine XS.l2i X0.here hx rfl (hb hby d9_6) rfl ?_
    show Steps p.tables e below (s₁.setTop (mkF m 7 #[.val (.long q0), .second, .val (.int p1), .val (.int p2), .val (.int p3), .unset, .unset] [(.int ((q0 ^^^ ((q0.toUInt64 >>> ((32 : Int32) &&& 0x3f).toInt64.toUInt64).toInt64)).toInt32))])) _
    refine XS.istore X0.here hx rfl (hb hby d9_7) rfl (l' := #[.val (.long q0), .second, .val (.int p1), .val (.int p2), .val (.int p3), .val (.int ((q0 ^^^ ((q0.toUInt64 >>> ((32 : Int32) &&& 0x3f).toInt64.toUInt64).toInt64)).toInt32)), .unset]) rfl ?_
    show Steps p.tables e below (s₁.setTop (mkF m 9 #[.val (.long q0), .second, .val (.int p1), .val (.int p2), .val (.int p3), .val (.int ((q0 ^^^ ((q0.toUInt64 >>> ((32 : Int32) &&& 0x3f).toInt64.toUInt64).toInt64)).toInt32)), .unset] [])) _
    refine XS.iloadN X0.here hx rfl (hb hby d9_9) rfl ?_
    show Steps p.tables e below (s₁.setTop (mkF m 10 #[.val (.long q0), .second, .val (.int p1), .val (.int p2), .val (.int p3), .val (.int ((q0 ^^^ ((q0.toUInt64 >>> ((32 : Int32) &&& 0x3f).toInt64.toUInt64).toInt64)).toInt32)), .unset] [(.int p1)])) _
    exact k
  refine own_step (T' := s₁) (g' := (mkF m 28 #[.val (.long q0), .second, .val (.int p1), .val (.int p2), .val (.int p3), .val (.int ((q0 ^^^ ((q0.toUInt64 >>> ((32 : Int32) &&& 0x3f).toInt64.toUInt64).toInt64)).toInt32)), .unset] [(.int (own_pick (p1 = (0 : Int32)) (((961 : Int32) + ((31 : Int32) * p2)) + p3) (1 : Int32)))])) (fun t k => ?_) ?_
  · show Steps p.tables e below (s₁.setTop (mkF m 10 #[.val (.long q0), .second, .val (.int p1), .val (.int p2), .val (.int p3), .val (.int ((q0 ^^^ ((q0.toUInt64 >>> ((32 : Int32) &&& 0x3f).toInt64.toUInt64).toInt64)).toInt32)), .unset] [(.int p1)])) _
    by_cases hq : p1 = (0 : Int32)
    · simp only [own_pick_pos hq, own_pickJ_pos hq] at k
      refine XS.ifYes X0.here hx rfl (pc0 := 10) (pc' := 17) rfl (hb hby d9_10) rfl ((if0 _ _).trans (teq hq).1) (by decide) (by decide) ?_
      show Steps p.tables e below (s₁.setTop (mkF m 17 #[.val (.long q0), .second, .val (.int p1), .val (.int p2), .val (.int p3), .val (.int ((q0 ^^^ ((q0.toUInt64 >>> ((32 : Int32) &&& 0x3f).toInt64.toUInt64).toInt64)).toInt32)), .unset] [])) _
      refine XS.sipush X0.here hx rfl (hb hby d9_17) ?_
      show Steps p.tables e below (s₁.setTop (mkF m 20 #[.val (.long q0), .second, .val (.int p1), .val (.int p2), .val (.int p3), .val (.int ((q0 ^^^ ((q0.toUInt64 >>> ((32 : Int32) &&& 0x3f).toInt64.toUInt64).toInt64)).toInt32)), .unset] [(.int (961 : Int32))])) _
      refine XS.bipush X0.here hx rfl (hb hby d9_20) ?_
      show Steps p.tables e below (s₁.setTop (mkF m 22 #[.val (.long q0), .second, .val (.int p1), .val (.int p2), .val (.int p3), .val (.int ((q0 ^^^ ((q0.toUInt64 >>> ((32 : Int32) &&& 0x3f).toInt64.toUInt64).toInt64)).toInt32)), .unset] [(.int (31 : Int32)), (.int (961 : Int32))])) _
      refine XS.iloadN X0.here hx rfl (hb hby d9_22) rfl ?_
      show Steps p.tables e below (s₁.setTop (mkF m 23 #[.val (.long q0), .second, .val (.int p1), .val (.int p2), .val (.int p3), .val (.int ((q0 ^^^ ((q0.toUInt64 >>> ((32 : Int32) &&& 0x3f).toInt64.toUInt64).toInt64)).toInt32)), .unset] [(.int p2), (.int (31 : Int32)), (.int (961 : Int32))])) _
      refine XS.imul X0.here hx rfl (hb hby d9_23) rfl ?_
      show Steps p.tables e below (s₁.setTop (mkF m 24 #[.val (.long q0), .second, .val (.int p1), .val (.int p2), .val (.int p3), .val (.int ((q0 ^^^ ((q0.toUInt64 >>> ((32 : Int32) &&& 0x3f).toInt64.toUInt64).toInt64)).toInt32)), .unset] [(.int ((31 : Int32) * p2)), (.int (961 : Int32))])) _
      refine XS.iadd X0.here hx rfl (hb hby d9_24) rfl ?_
      show Steps p.tables e below (s₁.setTop (mkF m 25 #[.val (.long q0), .second, .val (.int p1), .val (.int p2), .val (.int p3), .val (.int ((q0 ^^^ ((q0.toUInt64 >>> ((32 : Int32) &&& 0x3f).toInt64.toUInt64).toInt64)).toInt32)), .unset] [(.int ((961 : Int32) + ((31 : Int32) * p2)))])) _
      refine XS.iload X0.here hx rfl (hb hby d9_25) rfl ?_
      show Steps p.tables e below (s₁.setTop (mkF m 27 #[.val (.long q0), .second, .val (.int p1), .val (.int p2), .val (.int p3), .val (.int ((q0 ^^^ ((q0.toUInt64 >>> ((32 : Int32) &&& 0x3f).toInt64.toUInt64).toInt64)).toInt32)), .unset] [(.int p3), (.int ((961 : Int32) + ((31 : Int32) * p2)))])) _
      refine XS.iadd X0.here hx rfl (hb hby d9_27) rfl ?_
      show Steps p.tables e below (s₁.setTop (mkF m 28 #[.val (.long q0), .second, .val (.int p1), .val (.int p2), .val (.int p3), .val (.int ((q0 ^^^ ((q0.toUInt64 >>> ((32 : Int32) &&& 0x3f).toInt64.toUInt64).toInt64)).toInt32)), .unset] [(.int (((961 : Int32) + ((31 : Int32) * p2)) + p3))])) _
      exact k
    · simp only [own_pick_neg hq, own_pickJ_neg hq] at k
      refine XS.ifNo X0.here hx rfl (hb hby d9_10) rfl ((if0 _ _).trans (feq hq).1) ?_
      show Steps p.tables e below (s₁.setTop (mkF m 13 #[.val (.long q0), .second, .val (.int p1), .val (.int p2), .val (.int p3), .val (.int ((q0 ^^^ ((q0.toUInt64 >>> ((32 : Int32) &&& 0x3f).toInt64.toUInt64).toInt64)).toInt32)), .unset] [])) _
      refine XS.iconst X0.here hx rfl (hb hby d9_13) ?_
      show Steps p.tables e below (s₁.setTop (mkF m 14 #[.val (.long q0), .second, .val (.int p1), .val (.int p2), .val (.int p3), .val (.int ((q0 ^^^ ((q0.toUInt64 >>> ((32 : Int32) &&& 0x3f).toInt64.toUInt64).toInt64)).toInt32)), .unset] [(.int (1 : Int32))])) _
      refine XS.goto X0.here hx rfl (pc0 := 14) (pc' := 28) rfl (hb hby d9_14) (by decide) (by decide) ?_
      show Steps p.tables e below (s₁.setTop (mkF m 28 #[.val (.long q0), .second, .val (.int p1), .val (.int p2), .val (.int p3), .val (.int ((q0 ^^^ ((q0.toUInt64 >>> ((32 : Int32) &&& 0x3f).toInt64.toUInt64).toInt64)).toInt32)), .unset] [(.int (1 : Int32))])) _
      exact k
  show own_Run p e below s _ _ _ s₁ (mkF m 28 #[.val (.long q0), .second, .val (.int p1), .val (.int p2), .val (.int p3), .val (.int ((q0 ^^^ ((q0.toUInt64 >>> ((32 : Int32) &&& 0x3f).toInt64.toUInt64).toInt64)).toInt32)), .unset] [(.int (own_pick (p1 = (0 : Int32)) (((961 : Int32) + ((31 : Int32) * p2)) + p3) (1 : Int32)))])
  refine own_step (T' := s₁) (g' := (mkF m 38 #[.val (.long q0), .second, .val (.int p1), .val (.int p2), .val (.int p3), .val (.int ((q0 ^^^ ((q0.toUInt64 >>> ((32 : Int32) &&& 0x3f).toInt64.toUInt64).toInt64)).toInt32)), .val (.int (own_pick (p1 = (0 : Int32)) (((961 : Int32) + ((31 : Int32) * p2)) + p3) (1 : Int32)))] [(.int ((((q0 ^^^ ((q0.toUInt64 >>> ((32 : Int32) &&& 0x3f).toInt64.toUInt64).toInt64)).toInt32) * (31 : Int32)) + (own_pick (p1 = (0 : Int32)) (((961 : Int32) + ((31 : Int32) * p2)) + p3) (1 : Int32))))])) (fun t k => ?_) ?_
  · show Steps p.tables e below (s₁.setTop (mkF m 28 #[.val (.long q0), .second, .val (.int p1), .val (.int p2), .val (.int p3), .val (.int ((q0 ^^^ ((q0.toUInt64 >>> ((32 : Int32) &&& 0x3f).toInt64.toUInt64).toInt64)).toInt32)), .unset] [(.int (own_pick (p1 = (0 : Int32)) (((961 : Int32) + ((31 : Int32) * p2)) + p3) (1 : Int32)))])) _
    refine XS.istore X0.here hx rfl (hb hby d9_28) rfl (l' := #[.val (.long q0), .second, .val (.int p1), .val (.int p2), .val (.int p3), .val (.int ((q0 ^^^ ((q0.toUInt64 >>> ((32 : Int32) &&& 0x3f).toInt64.toUInt64).toInt64)).toInt32)), .val (.int (own_pick (p1 = (0 : Int32)) (((961 : Int32) + ((31 : Int32) * p2)) + p3) (1 : Int32)))]) rfl ?_
    show Steps p.tables e below (s₁.setTop (mkF m 30 #[.val (.long q0), .second, .val (.int p1), .val (.int p2), .val (.int p3), .val (.int ((q0 ^^^ ((q0.toUInt64 >>> ((32 : Int32) &&& 0x3f).toInt64.toUInt64).toInt64)).toInt32)), .val (.int (own_pick (p1 = (0 : Int32)) (((961 : Int32) + ((31 : Int32) * p2)) + p3) (1 : Int32)))] [])) _
    refine XS.iload X0.here hx rfl (hb hby d9_30) rfl ?_
    show Steps p.tables e below (s₁.setTop (mkF m 32 #[.val (.long q0), .second, .val (.int p1), .val (.int p2), .val (.int p3), .val (.int ((q0 ^^^ ((q0.toUInt64 >>> ((32 : Int32) &&& 0x3f).toInt64.toUInt64).toInt64)).toInt32)), .val (.int (own_pick (p1 = (0 : Int32)) (((961 : Int32) + ((31 : Int32) * p2)) + p3) (1 : Int32)))] [(.int ((q0 ^^^ ((q0.toUInt64 >>> ((32 : Int32) &&& 0x3f).toInt64.toUInt64).toInt64)).toInt32))])) _
    refine XS.bipush X0.here hx rfl (hb hby d9_32) ?_
    show Steps p.tables e below (s₁.setTop (mkF m 34 #[.val (.long q0), .second, .val (.int p1), .val (.int p2), .val (.int p3), .val (.int ((q0 ^^^ ((q0.toUInt64 >>> ((32 : Int32) &&& 0x3f).toInt64.toUInt64).toInt64)).toInt32)), .val (.int (own_pick (p1 = (0 : Int32)) (((961 : Int32) + ((31 : Int32) * p2)) + p3) (1 : Int32)))] [(.int (31 : Int32)), (.int ((q0 ^^^ ((q0.toUInt64 >>> ((32 : Int32) &&& 0x3f).toInt64.toUInt64).toInt64)).toInt32))])) _
    refine XS.imul X0.here hx rfl (hb hby d9_34) rfl ?_
    show Steps p.tables e below (s₁.setTop (mkF m 35 #[.val (.long q0), .second, .val (.int p1), .val (.int p2), .val (.int p3), .val (.int ((q0 ^^^ ((q0.toUInt64 >>> ((32 : Int32) &&& 0x3f).toInt64.toUInt64).toInt64)).toInt32)), .val (.int (own_pick (p1 = (0 : Int32)) (((961 : Int32) + ((31 : Int32) * p2)) + p3) (1 : Int32)))] [(.int (((q0 ^^^ ((q0.toUInt64 >>> ((32 : Int32) &&& 0x3f).toInt64.toUInt64).toInt64)).toInt32) * (31 : Int32)))])) _
    refine XS.iload X0.here hx rfl (hb hby d9_35) rfl ?_
    show Steps p.tables e below (s₁.setTop (mkF m 37 #[.val (.long q0), .second, .val (.int p1), .val (.int p2), .val (.int p3), .val (.int ((q0 ^^^ ((q0.toUInt64 >>> ((32 : Int32) &&& 0x3f).toInt64.toUInt64).toInt64)).toInt32)), .val (.int (own_pick (p1 = (0 : Int32)) (((961 : Int32) + ((31 : Int32) * p2)) + p3) (1 : Int32)))] [(.int (own_pick (p1 = (0 : Int32)) (((961 : Int32) + ((31 : Int32) * p2)) + p3) (1 : Int32))), (.int (((q0 ^^^ ((q0.toUInt64 >>> ((32 : Int32) &&& 0x3f).toInt64.toUInt64).toInt64)).toInt32) * (31 : Int32)))])) _
    refine XS.iadd X0.here hx rfl (hb hby d9_37) rfl ?_
    show Steps p.tables e below (s₁.setTop (mkF m 38 #[.val (.long q0), .second, .val (.int p1), .val (.int p2), .val (.int p3), .val (.int ((q0 ^^^ ((q0.toUInt64 >>> ((32 : Int32) &&& 0x3f).toInt64.toUInt64).toInt64)).toInt32)), .val (.int (own_pick (p1 = (0 : Int32)) (((961 : Int32) + ((31 : Int32) * p2)) + p3) (1 : Int32)))] [(.int ((((q0 ^^^ ((q0.toUInt64 >>> ((32 : Int32) &&& 0x3f).toInt64.toUInt64).toInt64)).toInt32) * (31 : Int32)) + (own_pick (p1 = (0 : Int32)) (((961 : Int32) + ((31 : Int32) * p2)) + p3) (1 : Int32))))])) _
    exact k
  refine own_retI X0 hx Bd.returns (hb hby d9_38) (BodyLoose.notSynchronized Bd) (by decide) (by decide) ?_
  rw [show s₁.heap = h0 from e0]
  exact ⟨rfl, N0, rfl⟩
theorem own_nb (z : Int32) : nar .byte (z.toInt8.toInt32) = z.toInt8.toInt32 := by
  show (z.toInt8.toInt32).toInt8.toInt32 = z.toInt8.toInt32
  simp
theorem own_nbp {P : Prop} [Decidable P] {a z : Int32} (h : nar .byte a = a) : nar .byte (own_pick P (z.toInt8.toInt32) a) = own_pick P (z.toInt8.toInt32) a := by
  by_cases q : P
  · rw [own_pick_pos q]; exact own_nb z
  · rw [own_pick_neg q]; exact h
theorem own_hn {q : Int64} {b c d : Int32} (hb : b = (0 : Int32)) (hc : nar .byte c = c) (hd : nar .byte d = d) : ((own_lh q) * (31 : Int32)) + (own_ah (nar .byte c) (nar .byte d)) = own_ex q b c d := by
  subst hb
  rw [hc, hd]
  unfold own_ex own_ah
  rw [own_pick_pos rfl]
  show _ = own_lh q * 31 + _
  congr 1
  congr 1
  rw [Int32.mul_add]
  rfl
theorem own_he {q : Int64} {b c d : Int32} (hb : ¬ b = (0 : Int32)) : ((own_lh q) * (31 : Int32)) + (1 : Int32) = own_ex q b c d := by
  unfold own_ex
  rw [own_pick_neg hb]
  rfl
theorem own_sn {q1 q2 : Int64} {r c0 c1 d0 d1 : Int32} (h : r = 0 ∨ (q1 = q2 ∧ ¬ own_aeq c0 c1 d0 d1 = (0 : Int32))) (hr : ¬ r = (0 : Int32)) : ((own_lh q1) * (31 : Int32)) + (own_ah c0 c1) = ((own_lh q2) * (31 : Int32)) + (own_ah d0 d1) := by
  rcases h with h | ⟨h1, h2⟩
  · exact absurd h hr
  · have h3 : c0 = d0 ∧ c1 = d1 := by
      apply Classical.byContradiction
      intro q
      exact h2 (by simp [own_aeq, q])
    rw [h1, h3.1, h3.2]
theorem own_se {q1 q2 : Int64} {r A : Int32} (h : r = 0 ∨ (q1 = q2 ∧ ¬ A = (0 : Int32))) (hr : ¬ r = (0 : Int32)) : ((own_lh q1) * (31 : Int32)) + (1 : Int32) = ((own_lh q2) * (31 : Int32)) + (1 : Int32) := by
  rcases h with h | ⟨h1, h2⟩
  · exact absurd h hr
  · rw [h1]
theorem pn_rm0 : plainName "com/example/bevaka/bevaka/store/CheckpointHashCodePinLaw" = true := by first | (simp [plainName, overriddenIn]; done) | decide +kernel
theorem ef_rm0 (m : MethodId) (q0 : Int64) (q1 : Int64) (p2 : Int32) (p3 : Int32) (p4 : Int32) : entryFrame m #[(.long q0), (.long q1), (.int p2), (.int p3), (.int p4)] maxLocals = mkF m 0 #[.val (.long q0), .second, .val (.long q1), .second, .val (.int p2), .val (.int p3), .val (.int p4), .unset, .unset, .unset, .unset, .unset, .unset, .unset, .unset, .unset, .unset, .unset, .unset, .unset, .unset] [] := by first | (simp [entryFrame, mkF, argsToLocals, Value.category, maxLocals]; done) | rfl
def rm0_Q (Z : State) (q0 : Int64) (q1 : Int64) (p2 : Int32) (p3 : Int32) (p4 : Int32)  (h0 : Heap) (n0 : Nat) (v : Option Value) (h : Heap) (L : List Loc) : Prop := v = some (.int (1 : Int32)) ∧ Fr n0 L
set_option maxRecDepth 65536 in
set_option maxHeartbeats 40000000 in
theorem rm0 (l : Launch) (Z : State) (a0 : Array Value) (hw : ∀ d ∈ tables_1, d.before a0 Z = true) (ws : List Jvm.Cond) (q0 : Int64) (q1 : Int64) (p2 : Int32) (p3 : Int32) (p4 : Int32)  (h0 : Heap) (n0 : Nat) (Z0 : n0 ≤ h0.size)  :
    MetFree l x (head1 (Jvm.Cond.code x code maxLocals ret :: ws) room_1) (fun a U => a = #[(.long q0), (.long q1), (.int p2), (.int p3), (.int p4)] ∧ Z.Warmed39 U.vm ∧ U.heap = h0) (fun _ _ _ _ _ => True) (fun _ U o U' => ∃ v L, o = .returned v ∧ rm0_Q Z q0 q1 p2 p3 p4 h0 n0 v U'.heap L ∧ FrameEnd U o U' L room_1.cells room_1.slots) := by
  refine MetFree.of_bodySF (plainFor_of_name pn_rm0) hisR ?_
  intro p e s m args below meth c s₁ Bd hml0 hP hK
  obtain ⟨rfl, hZ, hh⟩ := hP
  have hx := Bd.exec
  have hby := Bd.bytes
  have hml : c.maxLocals = 21 := hml0
  have hown : s.vm.findClass "com/example/bevaka/bevaka/store/CheckpointHashCodePinLaw" = some m.cls := findClass_of_methodNamed Bd.named
  have hnm := (name_of_methodNamed Bd.named Bd.method).1
  have X0 : Stand p l e room_1 s m #[(.long q0), (.long q1), (.int p2), (.int p3), (.int p4)] below meth c s₁ [] 0 0 := Stand.of_body Bd
  have e0 : s₁.heap = h0 := by rw [← hh, Bd.state]; rfl
  have N0 := Fr.nil n0
  refine own_enter (QQ := rm0_Q Z q0 q1 p2 p3 p4 h0 n0) (ef_rm0 m q0 q1 p2 p3 p4) ?_
  show own_Run p e below s _ _ _ s₁ (mkF m 0 #[.val (.long q0), .second, .val (.long q1), .second, .val (.int p2), .val (.int p3), .val (.int p4), .unset, .unset, .unset, .unset, .unset, .unset, .unset, .unset, .unset, .unset, .unset, .unset, .unset, .unset] [])
  refine own_step (T' := s₁) (g' := (mkF m 15 #[.val (.long q0), .second, .val (.long q1), .second, .val (.int p2), .val (.int p3), .val (.int p4), .val (.int (own_pick ((p4 &&& (8 : Int32)) = (0 : Int32)) (0 : Int32) (1 : Int32))), .unset, .unset, .unset, .unset, .unset, .unset, .unset, .unset, .unset, .unset, .unset, .unset, .unset] [])) (fun t k => ?_) ?_
  · show Steps p.tables e below (s₁.setTop (mkF m 0 #[.val (.long q0), .second, .val (.long q1), .second, .val (.int p2), .val (.int p3), .val (.int p4), .unset, .unset, .unset, .unset, .unset, .unset, .unset, .unset, .unset, .unset, .unset, .unset, .unset, .unset] [])) _
    refine XS.iload X0.here hx rfl (hb hby at_0) rfl ?_
    show Steps p.tables e below (s₁.setTop (mkF m 2 #[.val (.long q0), .second, .val (.long q1), .second, .val (.int p2), .val (.int p3), .val (.int p4), .unset, .unset, .unset, .unset, .unset, .unset, .unset, .unset, .unset, .unset, .unset, .unset, .unset, .unset] [(.int p4)])) _
    refine XS.bipush X0.here hx rfl (hb hby at_2) ?_
    show Steps p.tables e below (s₁.setTop (mkF m 4 #[.val (.long q0), .second, .val (.long q1), .second, .val (.int p2), .val (.int p3), .val (.int p4), .unset, .unset, .unset, .unset, .unset, .unset, .unset, .unset, .unset, .unset, .unset, .unset, .unset, .unset] [(.int (8 : Int32)), (.int p4)])) _
    refine XS.iand X0.here hx rfl (hb hby at_4) rfl ?_
    show Steps p.tables e below (s₁.setTop (mkF m 5 #[.val (.long q0), .second, .val (.long q1), .second, .val (.int p2), .val (.int p3), .val (.int p4), .unset, .unset, .unset, .unset, .unset, .unset, .unset, .unset, .unset, .unset, .unset, .unset, .unset, .unset] [(.int (p4 &&& (8 : Int32)))])) _
    refine own_mat_c_eq X0.here hx rfl (hb hby at_5) (hb hby at_8) (hb hby at_9) (hb hby at_12) ?_
    show Steps p.tables e below (s₁.setTop (mkF m 13 #[.val (.long q0), .second, .val (.long q1), .second, .val (.int p2), .val (.int p3), .val (.int p4), .unset, .unset, .unset, .unset, .unset, .unset, .unset, .unset, .unset, .unset, .unset, .unset, .unset, .unset] [(.int (own_pick ((p4 &&& (8 : Int32)) = (0 : Int32)) (0 : Int32) (1 : Int32)))])) _
    refine XS.istore X0.here hx rfl (hb hby at_13) rfl (l' := #[.val (.long q0), .second, .val (.long q1), .second, .val (.int p2), .val (.int p3), .val (.int p4), .val (.int (own_pick ((p4 &&& (8 : Int32)) = (0 : Int32)) (0 : Int32) (1 : Int32))), .unset, .unset, .unset, .unset, .unset, .unset, .unset, .unset, .unset, .unset, .unset, .unset, .unset]) rfl ?_
    show Steps p.tables e below (s₁.setTop (mkF m 15 #[.val (.long q0), .second, .val (.long q1), .second, .val (.int p2), .val (.int p3), .val (.int p4), .val (.int (own_pick ((p4 &&& (8 : Int32)) = (0 : Int32)) (0 : Int32) (1 : Int32))), .unset, .unset, .unset, .unset, .unset, .unset, .unset, .unset, .unset, .unset, .unset, .unset, .unset] [])) _
    exact k
  generalize e_fl : (own_pick ((p4 &&& (8 : Int32)) = (0 : Int32)) (0 : Int32) (1 : Int32)) = fl
  show own_Run p e below s _ _ _ s₁ (mkF m 15 #[.val (.long q0), .second, .val (.long q1), .second, .val (.int p2), .val (.int p3), .val (.int p4), .val (.int fl), .unset, .unset, .unset, .unset, .unset, .unset, .unset, .unset, .unset, .unset, .unset, .unset, .unset] [])
  refine own_step (T' := s₁) (g' := (mkF m 20 #[.val (.long q0), .second, .val (.long q1), .second, .val (.int p2), .val (.int p3), .val (.int p4), .val (.int fl), .val (.int (p2.toInt8.toInt32)), .unset, .unset, .unset, .unset, .unset, .unset, .unset, .unset, .unset, .unset, .unset, .unset] [])) (fun t k => ?_) ?_
  · show Steps p.tables e below (s₁.setTop (mkF m 15 #[.val (.long q0), .second, .val (.long q1), .second, .val (.int p2), .val (.int p3), .val (.int p4), .val (.int fl), .unset, .unset, .unset, .unset, .unset, .unset, .unset, .unset, .unset, .unset, .unset, .unset, .unset] [])) _
    refine XS.iload X0.here hx rfl (hb hby at_15) rfl ?_
    show Steps p.tables e below (s₁.setTop (mkF m 17 #[.val (.long q0), .second, .val (.long q1), .second, .val (.int p2), .val (.int p3), .val (.int p4), .val (.int fl), .unset, .unset, .unset, .unset, .unset, .unset, .unset, .unset, .unset, .unset, .unset, .unset, .unset] [(.int p2)])) _
    refine XS.i2b X0.here hx rfl (hb hby at_17) rfl ?_
    show Steps p.tables e below (s₁.setTop (mkF m 18 #[.val (.long q0), .second, .val (.long q1), .second, .val (.int p2), .val (.int p3), .val (.int p4), .val (.int fl), .unset, .unset, .unset, .unset, .unset, .unset, .unset, .unset, .unset, .unset, .unset, .unset, .unset] [(.int (p2.toInt8.toInt32))])) _
    refine XS.istore X0.here hx rfl (hb hby at_18) rfl (l' := #[.val (.long q0), .second, .val (.long q1), .second, .val (.int p2), .val (.int p3), .val (.int p4), .val (.int fl), .val (.int (p2.toInt8.toInt32)), .unset, .unset, .unset, .unset, .unset, .unset, .unset, .unset, .unset, .unset, .unset, .unset]) rfl ?_
    show Steps p.tables e below (s₁.setTop (mkF m 20 #[.val (.long q0), .second, .val (.long q1), .second, .val (.int p2), .val (.int p3), .val (.int p4), .val (.int fl), .val (.int (p2.toInt8.toInt32)), .unset, .unset, .unset, .unset, .unset, .unset, .unset, .unset, .unset, .unset, .unset, .unset] [])) _
    exact k
  have htx8 : nar .byte (p2.toInt8.toInt32) = (p2.toInt8.toInt32) := own_nb _
  generalize e_x8 : (p2.toInt8.toInt32) = x8 at htx8 ⊢
  show own_Run p e below s _ _ _ s₁ (mkF m 20 #[.val (.long q0), .second, .val (.long q1), .second, .val (.int p2), .val (.int p3), .val (.int p4), .val (.int fl), .val (.int x8), .unset, .unset, .unset, .unset, .unset, .unset, .unset, .unset, .unset, .unset, .unset, .unset] [])
  refine own_step (T' := s₁) (g' := (mkF m 28 #[.val (.long q0), .second, .val (.long q1), .second, .val (.int p2), .val (.int p3), .val (.int p4), .val (.int fl), .val (.int x8), .val (.int (((p2.toUInt32 >>> ((8 : Int32) &&& 31).toUInt32).toInt32).toInt8.toInt32)), .unset, .unset, .unset, .unset, .unset, .unset, .unset, .unset, .unset, .unset, .unset] [])) (fun t k => ?_) ?_
  · show Steps p.tables e below (s₁.setTop (mkF m 20 #[.val (.long q0), .second, .val (.long q1), .second, .val (.int p2), .val (.int p3), .val (.int p4), .val (.int fl), .val (.int x8), .unset, .unset, .unset, .unset, .unset, .unset, .unset, .unset, .unset, .unset, .unset, .unset] [])) _
    refine XS.iload X0.here hx rfl (hb hby at_20) rfl ?_
    show Steps p.tables e below (s₁.setTop (mkF m 22 #[.val (.long q0), .second, .val (.long q1), .second, .val (.int p2), .val (.int p3), .val (.int p4), .val (.int fl), .val (.int x8), .unset, .unset, .unset, .unset, .unset, .unset, .unset, .unset, .unset, .unset, .unset, .unset] [(.int p2)])) _
    refine XS.bipush X0.here hx rfl (hb hby at_22) ?_
    show Steps p.tables e below (s₁.setTop (mkF m 24 #[.val (.long q0), .second, .val (.long q1), .second, .val (.int p2), .val (.int p3), .val (.int p4), .val (.int fl), .val (.int x8), .unset, .unset, .unset, .unset, .unset, .unset, .unset, .unset, .unset, .unset, .unset, .unset] [(.int (8 : Int32)), (.int p2)])) _
    refine XS.iushr X0.here hx rfl (hb hby at_24) rfl ?_
    show Steps p.tables e below (s₁.setTop (mkF m 25 #[.val (.long q0), .second, .val (.long q1), .second, .val (.int p2), .val (.int p3), .val (.int p4), .val (.int fl), .val (.int x8), .unset, .unset, .unset, .unset, .unset, .unset, .unset, .unset, .unset, .unset, .unset, .unset] [(.int ((p2.toUInt32 >>> ((8 : Int32) &&& 31).toUInt32).toInt32))])) _
    refine XS.i2b X0.here hx rfl (hb hby at_25) rfl ?_
    show Steps p.tables e below (s₁.setTop (mkF m 26 #[.val (.long q0), .second, .val (.long q1), .second, .val (.int p2), .val (.int p3), .val (.int p4), .val (.int fl), .val (.int x8), .unset, .unset, .unset, .unset, .unset, .unset, .unset, .unset, .unset, .unset, .unset, .unset] [(.int (((p2.toUInt32 >>> ((8 : Int32) &&& 31).toUInt32).toInt32).toInt8.toInt32))])) _
    refine XS.istore X0.here hx rfl (hb hby at_26) rfl (l' := #[.val (.long q0), .second, .val (.long q1), .second, .val (.int p2), .val (.int p3), .val (.int p4), .val (.int fl), .val (.int x8), .val (.int (((p2.toUInt32 >>> ((8 : Int32) &&& 31).toUInt32).toInt32).toInt8.toInt32)), .unset, .unset, .unset, .unset, .unset, .unset, .unset, .unset, .unset, .unset, .unset]) rfl ?_
    show Steps p.tables e below (s₁.setTop (mkF m 28 #[.val (.long q0), .second, .val (.long q1), .second, .val (.int p2), .val (.int p3), .val (.int p4), .val (.int fl), .val (.int x8), .val (.int (((p2.toUInt32 >>> ((8 : Int32) &&& 31).toUInt32).toInt32).toInt8.toInt32)), .unset, .unset, .unset, .unset, .unset, .unset, .unset, .unset, .unset, .unset, .unset] [])) _
    exact k
  have htx9 : nar .byte (((p2.toUInt32 >>> ((8 : Int32) &&& 31).toUInt32).toInt32).toInt8.toInt32) = (((p2.toUInt32 >>> ((8 : Int32) &&& 31).toUInt32).toInt32).toInt8.toInt32) := own_nb _
  generalize e_x9 : (((p2.toUInt32 >>> ((8 : Int32) &&& 31).toUInt32).toInt32).toInt8.toInt32) = x9 at htx9 ⊢
  show own_Run p e below s _ _ _ s₁ (mkF m 28 #[.val (.long q0), .second, .val (.long q1), .second, .val (.int p2), .val (.int p3), .val (.int p4), .val (.int fl), .val (.int x8), .val (.int x9), .unset, .unset, .unset, .unset, .unset, .unset, .unset, .unset, .unset, .unset, .unset] [])
  refine own_step (T' := s₁) (g' := (mkF m 32 #[.val (.long q0), .second, .val (.long q1), .second, .val (.int p2), .val (.int p3), .val (.int p4), .val (.int fl), .val (.int x8), .val (.int x9), .unset, .unset, .unset, .unset, .unset, .unset, .unset, .unset, .unset, .unset, .unset] [(.int (p4 &&& (1 : Int32)))])) (fun t k => ?_) ?_
  · show Steps p.tables e below (s₁.setTop (mkF m 28 #[.val (.long q0), .second, .val (.long q1), .second, .val (.int p2), .val (.int p3), .val (.int p4), .val (.int fl), .val (.int x8), .val (.int x9), .unset, .unset, .unset, .unset, .unset, .unset, .unset, .unset, .unset, .unset, .unset] [])) _
    refine XS.iload X0.here hx rfl (hb hby at_28) rfl ?_
    show Steps p.tables e below (s₁.setTop (mkF m 30 #[.val (.long q0), .second, .val (.long q1), .second, .val (.int p2), .val (.int p3), .val (.int p4), .val (.int fl), .val (.int x8), .val (.int x9), .unset, .unset, .unset, .unset, .unset, .unset, .unset, .unset, .unset, .unset, .unset] [(.int p4)])) _
    refine XS.iconst X0.here hx rfl (hb hby at_30) ?_
    show Steps p.tables e below (s₁.setTop (mkF m 31 #[.val (.long q0), .second, .val (.long q1), .second, .val (.int p2), .val (.int p3), .val (.int p4), .val (.int fl), .val (.int x8), .val (.int x9), .unset, .unset, .unset, .unset, .unset, .unset, .unset, .unset, .unset, .unset, .unset] [(.int (1 : Int32)), (.int p4)])) _
    refine XS.iand X0.here hx rfl (hb hby at_31) rfl ?_
    show Steps p.tables e below (s₁.setTop (mkF m 32 #[.val (.long q0), .second, .val (.long q1), .second, .val (.int p2), .val (.int p3), .val (.int p4), .val (.int fl), .val (.int x8), .val (.int x9), .unset, .unset, .unset, .unset, .unset, .unset, .unset, .unset, .unset, .unset, .unset] [(.int (p4 &&& (1 : Int32)))])) _
    exact k
  refine own_step (T' := s₁) (g' := (mkF m 40 #[.val (.long q0), .second, .val (.long q1), .second, .val (.int p2), .val (.int p3), .val (.int p4), .val (.int fl), .val (.int x8), .val (.int x9), .unset, .unset, .unset, .unset, .unset, .unset, .unset, .unset, .unset, .unset, .unset] [(.long (own_pickJ ((p4 &&& (1 : Int32)) = (0 : Int32)) q1 q0))])) (fun t k => ?_) ?_
  · show Steps p.tables e below (s₁.setTop (mkF m 32 #[.val (.long q0), .second, .val (.long q1), .second, .val (.int p2), .val (.int p3), .val (.int p4), .val (.int fl), .val (.int x8), .val (.int x9), .unset, .unset, .unset, .unset, .unset, .unset, .unset, .unset, .unset, .unset, .unset] [(.int (p4 &&& (1 : Int32)))])) _
    by_cases hq : (p4 &&& (1 : Int32)) = (0 : Int32)
    · simp only [own_pick_pos hq, own_pickJ_pos hq] at k
      refine XS.ifYes X0.here hx rfl (pc0 := 32) (pc' := 39) rfl (hb hby at_32) rfl ((if0 _ _).trans (teq hq).1) (by decide) (by decide) ?_
      show Steps p.tables e below (s₁.setTop (mkF m 39 #[.val (.long q0), .second, .val (.long q1), .second, .val (.int p2), .val (.int p3), .val (.int p4), .val (.int fl), .val (.int x8), .val (.int x9), .unset, .unset, .unset, .unset, .unset, .unset, .unset, .unset, .unset, .unset, .unset] [])) _
      refine XS.lloadN X0.here hx rfl (hb hby at_39) rfl ?_
      show Steps p.tables e below (s₁.setTop (mkF m 40 #[.val (.long q0), .second, .val (.long q1), .second, .val (.int p2), .val (.int p3), .val (.int p4), .val (.int fl), .val (.int x8), .val (.int x9), .unset, .unset, .unset, .unset, .unset, .unset, .unset, .unset, .unset, .unset, .unset] [(.long q1)])) _
      exact k
    · simp only [own_pick_neg hq, own_pickJ_neg hq] at k
      refine XS.ifNo X0.here hx rfl (hb hby at_32) rfl ((if0 _ _).trans (feq hq).1) ?_
      show Steps p.tables e below (s₁.setTop (mkF m 35 #[.val (.long q0), .second, .val (.long q1), .second, .val (.int p2), .val (.int p3), .val (.int p4), .val (.int fl), .val (.int x8), .val (.int x9), .unset, .unset, .unset, .unset, .unset, .unset, .unset, .unset, .unset, .unset, .unset] [])) _
      refine XS.lloadN X0.here hx rfl (hb hby at_35) rfl ?_
      show Steps p.tables e below (s₁.setTop (mkF m 36 #[.val (.long q0), .second, .val (.long q1), .second, .val (.int p2), .val (.int p3), .val (.int p4), .val (.int fl), .val (.int x8), .val (.int x9), .unset, .unset, .unset, .unset, .unset, .unset, .unset, .unset, .unset, .unset, .unset] [(.long q0)])) _
      refine XS.goto X0.here hx rfl (pc0 := 36) (pc' := 40) rfl (hb hby at_36) (by decide) (by decide) ?_
      show Steps p.tables e below (s₁.setTop (mkF m 40 #[.val (.long q0), .second, .val (.long q1), .second, .val (.int p2), .val (.int p3), .val (.int p4), .val (.int fl), .val (.int x8), .val (.int x9), .unset, .unset, .unset, .unset, .unset, .unset, .unset, .unset, .unset, .unset, .unset] [(.long q0)])) _
      exact k
  show own_Run p e below s _ _ _ s₁ (mkF m 40 #[.val (.long q0), .second, .val (.long q1), .second, .val (.int p2), .val (.int p3), .val (.int p4), .val (.int fl), .val (.int x8), .val (.int x9), .unset, .unset, .unset, .unset, .unset, .unset, .unset, .unset, .unset, .unset, .unset] [(.long (own_pickJ ((p4 &&& (1 : Int32)) = (0 : Int32)) q1 q0))])
  refine own_step (T' := s₁) (g' := (mkF m 42 #[.val (.long q0), .second, .val (.long q1), .second, .val (.int p2), .val (.int p3), .val (.int p4), .val (.int fl), .val (.int x8), .val (.int x9), .val (.long (own_pickJ ((p4 &&& (1 : Int32)) = (0 : Int32)) q1 q0)), .second, .unset, .unset, .unset, .unset, .unset, .unset, .unset, .unset, .unset] [])) (fun t k => ?_) ?_
  · show Steps p.tables e below (s₁.setTop (mkF m 40 #[.val (.long q0), .second, .val (.long q1), .second, .val (.int p2), .val (.int p3), .val (.int p4), .val (.int fl), .val (.int x8), .val (.int x9), .unset, .unset, .unset, .unset, .unset, .unset, .unset, .unset, .unset, .unset, .unset] [(.long (own_pickJ ((p4 &&& (1 : Int32)) = (0 : Int32)) q1 q0))])) _
    refine XS.lstore X0.here hx rfl (hb hby at_40) rfl (l' := #[.val (.long q0), .second, .val (.long q1), .second, .val (.int p2), .val (.int p3), .val (.int p4), .val (.int fl), .val (.int x8), .val (.int x9), .val (.long (own_pickJ ((p4 &&& (1 : Int32)) = (0 : Int32)) q1 q0)), .second, .unset, .unset, .unset, .unset, .unset, .unset, .unset, .unset, .unset]) rfl ?_
    show Steps p.tables e below (s₁.setTop (mkF m 42 #[.val (.long q0), .second, .val (.long q1), .second, .val (.int p2), .val (.int p3), .val (.int p4), .val (.int fl), .val (.int x8), .val (.int x9), .val (.long (own_pickJ ((p4 &&& (1 : Int32)) = (0 : Int32)) q1 q0)), .second, .unset, .unset, .unset, .unset, .unset, .unset, .unset, .unset, .unset] [])) _
    exact k
  generalize e_rr : (own_pickJ ((p4 &&& (1 : Int32)) = (0 : Int32)) q1 q0) = rr
  show own_Run p e below s _ _ _ s₁ (mkF m 42 #[.val (.long q0), .second, .val (.long q1), .second, .val (.int p2), .val (.int p3), .val (.int p4), .val (.int fl), .val (.int x8), .val (.int x9), .val (.long rr), .second, .unset, .unset, .unset, .unset, .unset, .unset, .unset, .unset, .unset] [])
  refine own_step (T' := s₁) (g' := (mkF m 46 #[.val (.long q0), .second, .val (.long q1), .second, .val (.int p2), .val (.int p3), .val (.int p4), .val (.int fl), .val (.int x8), .val (.int x9), .val (.long rr), .second, .unset, .unset, .unset, .unset, .unset, .unset, .unset, .unset, .unset] [(.int (p4 &&& (2 : Int32)))])) (fun t k => ?_) ?_
  · show Steps p.tables e below (s₁.setTop (mkF m 42 #[.val (.long q0), .second, .val (.long q1), .second, .val (.int p2), .val (.int p3), .val (.int p4), .val (.int fl), .val (.int x8), .val (.int x9), .val (.long rr), .second, .unset, .unset, .unset, .unset, .unset, .unset, .unset, .unset, .unset] [])) _
    refine XS.iload X0.here hx rfl (hb hby at_42) rfl ?_
    show Steps p.tables e below (s₁.setTop (mkF m 44 #[.val (.long q0), .second, .val (.long q1), .second, .val (.int p2), .val (.int p3), .val (.int p4), .val (.int fl), .val (.int x8), .val (.int x9), .val (.long rr), .second, .unset, .unset, .unset, .unset, .unset, .unset, .unset, .unset, .unset] [(.int p4)])) _
    refine XS.iconst X0.here hx rfl (hb hby at_44) ?_
    show Steps p.tables e below (s₁.setTop (mkF m 45 #[.val (.long q0), .second, .val (.long q1), .second, .val (.int p2), .val (.int p3), .val (.int p4), .val (.int fl), .val (.int x8), .val (.int x9), .val (.long rr), .second, .unset, .unset, .unset, .unset, .unset, .unset, .unset, .unset, .unset] [(.int (2 : Int32)), (.int p4)])) _
    refine XS.iand X0.here hx rfl (hb hby at_45) rfl ?_
    show Steps p.tables e below (s₁.setTop (mkF m 46 #[.val (.long q0), .second, .val (.long q1), .second, .val (.int p2), .val (.int p3), .val (.int p4), .val (.int fl), .val (.int x8), .val (.int x9), .val (.long rr), .second, .unset, .unset, .unset, .unset, .unset, .unset, .unset, .unset, .unset] [(.int (p4 &&& (2 : Int32)))])) _
    exact k
  refine own_step (T' := s₁) (g' := (mkF m 57 #[.val (.long q0), .second, .val (.long q1), .second, .val (.int p2), .val (.int p3), .val (.int p4), .val (.int fl), .val (.int x8), .val (.int x9), .val (.long rr), .second, .unset, .unset, .unset, .unset, .unset, .unset, .unset, .unset, .unset] [(.int (own_pick ((p4 &&& (2 : Int32)) = (0 : Int32)) (p3.toInt8.toInt32) x8))])) (fun t k => ?_) ?_
  · show Steps p.tables e below (s₁.setTop (mkF m 46 #[.val (.long q0), .second, .val (.long q1), .second, .val (.int p2), .val (.int p3), .val (.int p4), .val (.int fl), .val (.int x8), .val (.int x9), .val (.long rr), .second, .unset, .unset, .unset, .unset, .unset, .unset, .unset, .unset, .unset] [(.int (p4 &&& (2 : Int32)))])) _
    by_cases hq : (p4 &&& (2 : Int32)) = (0 : Int32)
    · simp only [own_pick_pos hq, own_pickJ_pos hq] at k
      refine XS.ifYes X0.here hx rfl (pc0 := 46) (pc' := 54) rfl (hb hby at_46) rfl ((if0 _ _).trans (teq hq).1) (by decide) (by decide) ?_
      show Steps p.tables e below (s₁.setTop (mkF m 54 #[.val (.long q0), .second, .val (.long q1), .second, .val (.int p2), .val (.int p3), .val (.int p4), .val (.int fl), .val (.int x8), .val (.int x9), .val (.long rr), .second, .unset, .unset, .unset, .unset, .unset, .unset, .unset, .unset, .unset] [])) _
      refine XS.iload X0.here hx rfl (hb hby at_54) rfl ?_
      show Steps p.tables e below (s₁.setTop (mkF m 56 #[.val (.long q0), .second, .val (.long q1), .second, .val (.int p2), .val (.int p3), .val (.int p4), .val (.int fl), .val (.int x8), .val (.int x9), .val (.long rr), .second, .unset, .unset, .unset, .unset, .unset, .unset, .unset, .unset, .unset] [(.int p3)])) _
      refine XS.i2b X0.here hx rfl (hb hby at_56) rfl ?_
      show Steps p.tables e below (s₁.setTop (mkF m 57 #[.val (.long q0), .second, .val (.long q1), .second, .val (.int p2), .val (.int p3), .val (.int p4), .val (.int fl), .val (.int x8), .val (.int x9), .val (.long rr), .second, .unset, .unset, .unset, .unset, .unset, .unset, .unset, .unset, .unset] [(.int (p3.toInt8.toInt32))])) _
      exact k
    · simp only [own_pick_neg hq, own_pickJ_neg hq] at k
      refine XS.ifNo X0.here hx rfl (hb hby at_46) rfl ((if0 _ _).trans (feq hq).1) ?_
      show Steps p.tables e below (s₁.setTop (mkF m 49 #[.val (.long q0), .second, .val (.long q1), .second, .val (.int p2), .val (.int p3), .val (.int p4), .val (.int fl), .val (.int x8), .val (.int x9), .val (.long rr), .second, .unset, .unset, .unset, .unset, .unset, .unset, .unset, .unset, .unset] [])) _
      refine XS.iload X0.here hx rfl (hb hby at_49) rfl ?_
      show Steps p.tables e below (s₁.setTop (mkF m 51 #[.val (.long q0), .second, .val (.long q1), .second, .val (.int p2), .val (.int p3), .val (.int p4), .val (.int fl), .val (.int x8), .val (.int x9), .val (.long rr), .second, .unset, .unset, .unset, .unset, .unset, .unset, .unset, .unset, .unset] [(.int x8)])) _
      refine XS.goto X0.here hx rfl (pc0 := 51) (pc' := 57) rfl (hb hby at_51) (by decide) (by decide) ?_
      show Steps p.tables e below (s₁.setTop (mkF m 57 #[.val (.long q0), .second, .val (.long q1), .second, .val (.int p2), .val (.int p3), .val (.int p4), .val (.int fl), .val (.int x8), .val (.int x9), .val (.long rr), .second, .unset, .unset, .unset, .unset, .unset, .unset, .unset, .unset, .unset] [(.int x8)])) _
      exact k
  show own_Run p e below s _ _ _ s₁ (mkF m 57 #[.val (.long q0), .second, .val (.long q1), .second, .val (.int p2), .val (.int p3), .val (.int p4), .val (.int fl), .val (.int x8), .val (.int x9), .val (.long rr), .second, .unset, .unset, .unset, .unset, .unset, .unset, .unset, .unset, .unset] [(.int (own_pick ((p4 &&& (2 : Int32)) = (0 : Int32)) (p3.toInt8.toInt32) x8))])
  refine own_step (T' := s₁) (g' := (mkF m 59 #[.val (.long q0), .second, .val (.long q1), .second, .val (.int p2), .val (.int p3), .val (.int p4), .val (.int fl), .val (.int x8), .val (.int x9), .val (.long rr), .second, .val (.int (own_pick ((p4 &&& (2 : Int32)) = (0 : Int32)) (p3.toInt8.toInt32) x8)), .unset, .unset, .unset, .unset, .unset, .unset, .unset, .unset] [])) (fun t k => ?_) ?_
  · show Steps p.tables e below (s₁.setTop (mkF m 57 #[.val (.long q0), .second, .val (.long q1), .second, .val (.int p2), .val (.int p3), .val (.int p4), .val (.int fl), .val (.int x8), .val (.int x9), .val (.long rr), .second, .unset, .unset, .unset, .unset, .unset, .unset, .unset, .unset, .unset] [(.int (own_pick ((p4 &&& (2 : Int32)) = (0 : Int32)) (p3.toInt8.toInt32) x8))])) _
    refine XS.istore X0.here hx rfl (hb hby at_57) rfl (l' := #[.val (.long q0), .second, .val (.long q1), .second, .val (.int p2), .val (.int p3), .val (.int p4), .val (.int fl), .val (.int x8), .val (.int x9), .val (.long rr), .second, .val (.int (own_pick ((p4 &&& (2 : Int32)) = (0 : Int32)) (p3.toInt8.toInt32) x8)), .unset, .unset, .unset, .unset, .unset, .unset, .unset, .unset]) rfl ?_
    show Steps p.tables e below (s₁.setTop (mkF m 59 #[.val (.long q0), .second, .val (.long q1), .second, .val (.int p2), .val (.int p3), .val (.int p4), .val (.int fl), .val (.int x8), .val (.int x9), .val (.long rr), .second, .val (.int (own_pick ((p4 &&& (2 : Int32)) = (0 : Int32)) (p3.toInt8.toInt32) x8)), .unset, .unset, .unset, .unset, .unset, .unset, .unset, .unset] [])) _
    exact k
  have hty0 : nar .byte (own_pick ((p4 &&& (2 : Int32)) = (0 : Int32)) (p3.toInt8.toInt32) x8) = (own_pick ((p4 &&& (2 : Int32)) = (0 : Int32)) (p3.toInt8.toInt32) x8) := own_nbp htx8
  generalize e_y0 : (own_pick ((p4 &&& (2 : Int32)) = (0 : Int32)) (p3.toInt8.toInt32) x8) = y0 at hty0 ⊢
  show own_Run p e below s _ _ _ s₁ (mkF m 59 #[.val (.long q0), .second, .val (.long q1), .second, .val (.int p2), .val (.int p3), .val (.int p4), .val (.int fl), .val (.int x8), .val (.int x9), .val (.long rr), .second, .val (.int y0), .unset, .unset, .unset, .unset, .unset, .unset, .unset, .unset] [])
  refine own_step (T' := s₁) (g' := (mkF m 63 #[.val (.long q0), .second, .val (.long q1), .second, .val (.int p2), .val (.int p3), .val (.int p4), .val (.int fl), .val (.int x8), .val (.int x9), .val (.long rr), .second, .val (.int y0), .unset, .unset, .unset, .unset, .unset, .unset, .unset, .unset] [(.int (p4 &&& (4 : Int32)))])) (fun t k => ?_) ?_
  · show Steps p.tables e below (s₁.setTop (mkF m 59 #[.val (.long q0), .second, .val (.long q1), .second, .val (.int p2), .val (.int p3), .val (.int p4), .val (.int fl), .val (.int x8), .val (.int x9), .val (.long rr), .second, .val (.int y0), .unset, .unset, .unset, .unset, .unset, .unset, .unset, .unset] [])) _
    refine XS.iload X0.here hx rfl (hb hby at_59) rfl ?_
    show Steps p.tables e below (s₁.setTop (mkF m 61 #[.val (.long q0), .second, .val (.long q1), .second, .val (.int p2), .val (.int p3), .val (.int p4), .val (.int fl), .val (.int x8), .val (.int x9), .val (.long rr), .second, .val (.int y0), .unset, .unset, .unset, .unset, .unset, .unset, .unset, .unset] [(.int p4)])) _
    refine XS.iconst X0.here hx rfl (hb hby at_61) ?_
    show Steps p.tables e below (s₁.setTop (mkF m 62 #[.val (.long q0), .second, .val (.long q1), .second, .val (.int p2), .val (.int p3), .val (.int p4), .val (.int fl), .val (.int x8), .val (.int x9), .val (.long rr), .second, .val (.int y0), .unset, .unset, .unset, .unset, .unset, .unset, .unset, .unset] [(.int (4 : Int32)), (.int p4)])) _
    refine XS.iand X0.here hx rfl (hb hby at_62) rfl ?_
    show Steps p.tables e below (s₁.setTop (mkF m 63 #[.val (.long q0), .second, .val (.long q1), .second, .val (.int p2), .val (.int p3), .val (.int p4), .val (.int fl), .val (.int x8), .val (.int x9), .val (.long rr), .second, .val (.int y0), .unset, .unset, .unset, .unset, .unset, .unset, .unset, .unset] [(.int (p4 &&& (4 : Int32)))])) _
    exact k
  refine own_step (T' := s₁) (g' := (mkF m 77 #[.val (.long q0), .second, .val (.long q1), .second, .val (.int p2), .val (.int p3), .val (.int p4), .val (.int fl), .val (.int x8), .val (.int x9), .val (.long rr), .second, .val (.int y0), .unset, .unset, .unset, .unset, .unset, .unset, .unset, .unset] [(.int (own_pick ((p4 &&& (4 : Int32)) = (0 : Int32)) (((p3.toUInt32 >>> ((8 : Int32) &&& 31).toUInt32).toInt32).toInt8.toInt32) x9))])) (fun t k => ?_) ?_
  · show Steps p.tables e below (s₁.setTop (mkF m 63 #[.val (.long q0), .second, .val (.long q1), .second, .val (.int p2), .val (.int p3), .val (.int p4), .val (.int fl), .val (.int x8), .val (.int x9), .val (.long rr), .second, .val (.int y0), .unset, .unset, .unset, .unset, .unset, .unset, .unset, .unset] [(.int (p4 &&& (4 : Int32)))])) _
    by_cases hq : (p4 &&& (4 : Int32)) = (0 : Int32)
    · simp only [own_pick_pos hq, own_pickJ_pos hq] at k
      refine XS.ifYes X0.here hx rfl (pc0 := 63) (pc' := 71) rfl (hb hby at_63) rfl ((if0 _ _).trans (teq hq).1) (by decide) (by decide) ?_
      show Steps p.tables e below (s₁.setTop (mkF m 71 #[.val (.long q0), .second, .val (.long q1), .second, .val (.int p2), .val (.int p3), .val (.int p4), .val (.int fl), .val (.int x8), .val (.int x9), .val (.long rr), .second, .val (.int y0), .unset, .unset, .unset, .unset, .unset, .unset, .unset, .unset] [])) _
      refine XS.iload X0.here hx rfl (hb hby at_71) rfl ?_
      show Steps p.tables e below (s₁.setTop (mkF m 73 #[.val (.long q0), .second, .val (.long q1), .second, .val (.int p2), .val (.int p3), .val (.int p4), .val (.int fl), .val (.int x8), .val (.int x9), .val (.long rr), .second, .val (.int y0), .unset, .unset, .unset, .unset, .unset, .unset, .unset, .unset] [(.int p3)])) _
      refine XS.bipush X0.here hx rfl (hb hby at_73) ?_
      show Steps p.tables e below (s₁.setTop (mkF m 75 #[.val (.long q0), .second, .val (.long q1), .second, .val (.int p2), .val (.int p3), .val (.int p4), .val (.int fl), .val (.int x8), .val (.int x9), .val (.long rr), .second, .val (.int y0), .unset, .unset, .unset, .unset, .unset, .unset, .unset, .unset] [(.int (8 : Int32)), (.int p3)])) _
      refine XS.iushr X0.here hx rfl (hb hby at_75) rfl ?_
      show Steps p.tables e below (s₁.setTop (mkF m 76 #[.val (.long q0), .second, .val (.long q1), .second, .val (.int p2), .val (.int p3), .val (.int p4), .val (.int fl), .val (.int x8), .val (.int x9), .val (.long rr), .second, .val (.int y0), .unset, .unset, .unset, .unset, .unset, .unset, .unset, .unset] [(.int ((p3.toUInt32 >>> ((8 : Int32) &&& 31).toUInt32).toInt32))])) _
      refine XS.i2b X0.here hx rfl (hb hby at_76) rfl ?_
      show Steps p.tables e below (s₁.setTop (mkF m 77 #[.val (.long q0), .second, .val (.long q1), .second, .val (.int p2), .val (.int p3), .val (.int p4), .val (.int fl), .val (.int x8), .val (.int x9), .val (.long rr), .second, .val (.int y0), .unset, .unset, .unset, .unset, .unset, .unset, .unset, .unset] [(.int (((p3.toUInt32 >>> ((8 : Int32) &&& 31).toUInt32).toInt32).toInt8.toInt32))])) _
      exact k
    · simp only [own_pick_neg hq, own_pickJ_neg hq] at k
      refine XS.ifNo X0.here hx rfl (hb hby at_63) rfl ((if0 _ _).trans (feq hq).1) ?_
      show Steps p.tables e below (s₁.setTop (mkF m 66 #[.val (.long q0), .second, .val (.long q1), .second, .val (.int p2), .val (.int p3), .val (.int p4), .val (.int fl), .val (.int x8), .val (.int x9), .val (.long rr), .second, .val (.int y0), .unset, .unset, .unset, .unset, .unset, .unset, .unset, .unset] [])) _
      refine XS.iload X0.here hx rfl (hb hby at_66) rfl ?_
      show Steps p.tables e below (s₁.setTop (mkF m 68 #[.val (.long q0), .second, .val (.long q1), .second, .val (.int p2), .val (.int p3), .val (.int p4), .val (.int fl), .val (.int x8), .val (.int x9), .val (.long rr), .second, .val (.int y0), .unset, .unset, .unset, .unset, .unset, .unset, .unset, .unset] [(.int x9)])) _
      refine XS.goto X0.here hx rfl (pc0 := 68) (pc' := 77) rfl (hb hby at_68) (by decide) (by decide) ?_
      show Steps p.tables e below (s₁.setTop (mkF m 77 #[.val (.long q0), .second, .val (.long q1), .second, .val (.int p2), .val (.int p3), .val (.int p4), .val (.int fl), .val (.int x8), .val (.int x9), .val (.long rr), .second, .val (.int y0), .unset, .unset, .unset, .unset, .unset, .unset, .unset, .unset] [(.int x9)])) _
      exact k
  show own_Run p e below s _ _ _ s₁ (mkF m 77 #[.val (.long q0), .second, .val (.long q1), .second, .val (.int p2), .val (.int p3), .val (.int p4), .val (.int fl), .val (.int x8), .val (.int x9), .val (.long rr), .second, .val (.int y0), .unset, .unset, .unset, .unset, .unset, .unset, .unset, .unset] [(.int (own_pick ((p4 &&& (4 : Int32)) = (0 : Int32)) (((p3.toUInt32 >>> ((8 : Int32) &&& 31).toUInt32).toInt32).toInt8.toInt32) x9))])
  refine own_step (T' := s₁) (g' := (mkF m 79 #[.val (.long q0), .second, .val (.long q1), .second, .val (.int p2), .val (.int p3), .val (.int p4), .val (.int fl), .val (.int x8), .val (.int x9), .val (.long rr), .second, .val (.int y0), .val (.int (own_pick ((p4 &&& (4 : Int32)) = (0 : Int32)) (((p3.toUInt32 >>> ((8 : Int32) &&& 31).toUInt32).toInt32).toInt8.toInt32) x9)), .unset, .unset, .unset, .unset, .unset, .unset, .unset] [])) (fun t k => ?_) ?_
  · show Steps p.tables e below (s₁.setTop (mkF m 77 #[.val (.long q0), .second, .val (.long q1), .second, .val (.int p2), .val (.int p3), .val (.int p4), .val (.int fl), .val (.int x8), .val (.int x9), .val (.long rr), .second, .val (.int y0), .unset, .unset, .unset, .unset, .unset, .unset, .unset, .unset] [(.int (own_pick ((p4 &&& (4 : Int32)) = (0 : Int32)) (((p3.toUInt32 >>> ((8 : Int32) &&& 31).toUInt32).toInt32).toInt8.toInt32) x9))])) _
    refine XS.istore X0.here hx rfl (hb hby at_77) rfl (l' := #[.val (.long q0), .second, .val (.long q1), .second, .val (.int p2), .val (.int p3), .val (.int p4), .val (.int fl), .val (.int x8), .val (.int x9), .val (.long rr), .second, .val (.int y0), .val (.int (own_pick ((p4 &&& (4 : Int32)) = (0 : Int32)) (((p3.toUInt32 >>> ((8 : Int32) &&& 31).toUInt32).toInt32).toInt8.toInt32) x9)), .unset, .unset, .unset, .unset, .unset, .unset, .unset]) rfl ?_
    show Steps p.tables e below (s₁.setTop (mkF m 79 #[.val (.long q0), .second, .val (.long q1), .second, .val (.int p2), .val (.int p3), .val (.int p4), .val (.int fl), .val (.int x8), .val (.int x9), .val (.long rr), .second, .val (.int y0), .val (.int (own_pick ((p4 &&& (4 : Int32)) = (0 : Int32)) (((p3.toUInt32 >>> ((8 : Int32) &&& 31).toUInt32).toInt32).toInt8.toInt32) x9)), .unset, .unset, .unset, .unset, .unset, .unset, .unset] [])) _
    exact k
  have hty1 : nar .byte (own_pick ((p4 &&& (4 : Int32)) = (0 : Int32)) (((p3.toUInt32 >>> ((8 : Int32) &&& 31).toUInt32).toInt32).toInt8.toInt32) x9) = (own_pick ((p4 &&& (4 : Int32)) = (0 : Int32)) (((p3.toUInt32 >>> ((8 : Int32) &&& 31).toUInt32).toInt32).toInt8.toInt32) x9) := own_nbp htx9
  generalize e_y1 : (own_pick ((p4 &&& (4 : Int32)) = (0 : Int32)) (((p3.toUInt32 >>> ((8 : Int32) &&& 31).toUInt32).toInt32).toInt8.toInt32) x9) = y1 at hty1 ⊢
  show own_Run p e below s _ _ _ s₁ (mkF m 79 #[.val (.long q0), .second, .val (.long q1), .second, .val (.int p2), .val (.int p3), .val (.int p4), .val (.int fl), .val (.int x8), .val (.int x9), .val (.long rr), .second, .val (.int y0), .val (.int y1), .unset, .unset, .unset, .unset, .unset, .unset, .unset] [])
  refine own_step (T' := s₁) (g' := (mkF m 81 #[.val (.long q0), .second, .val (.long q1), .second, .val (.int p2), .val (.int p3), .val (.int p4), .val (.int fl), .val (.int x8), .val (.int x9), .val (.long rr), .second, .val (.int y0), .val (.int y1), .unset, .unset, .unset, .unset, .unset, .unset, .unset] [(.int fl)])) (fun t k => ?_) ?_
  · show Steps p.tables e below (s₁.setTop (mkF m 79 #[.val (.long q0), .second, .val (.long q1), .second, .val (.int p2), .val (.int p3), .val (.int p4), .val (.int fl), .val (.int x8), .val (.int x9), .val (.long rr), .second, .val (.int y0), .val (.int y1), .unset, .unset, .unset, .unset, .unset, .unset, .unset] [])) _
    refine XS.iload X0.here hx rfl (hb hby at_79) rfl ?_
    show Steps p.tables e below (s₁.setTop (mkF m 81 #[.val (.long q0), .second, .val (.long q1), .second, .val (.int p2), .val (.int p3), .val (.int p4), .val (.int fl), .val (.int x8), .val (.int x9), .val (.long rr), .second, .val (.int y0), .val (.int y1), .unset, .unset, .unset, .unset, .unset, .unset, .unset] [(.int fl)])) _
    exact k
  by_cases hc5 : fl = (0 : Int32)
  · skip
    refine own_step (T' := s₁) (g' := (mkF m 91 #[.val (.long q0), .second, .val (.long q1), .second, .val (.int p2), .val (.int p3), .val (.int p4), .val (.int fl), .val (.int x8), .val (.int x9), .val (.long rr), .second, .val (.int y0), .val (.int y1), .unset, .unset, .unset, .unset, .unset, .unset, .unset] [(.int (2 : Int32))])) (fun t k => ?_) ?_
    · show Steps p.tables e below (s₁.setTop (mkF m 81 #[.val (.long q0), .second, .val (.long q1), .second, .val (.int p2), .val (.int p3), .val (.int p4), .val (.int fl), .val (.int x8), .val (.int x9), .val (.long rr), .second, .val (.int y0), .val (.int y1), .unset, .unset, .unset, .unset, .unset, .unset, .unset] [(.int fl)])) _
      refine XS.ifYes X0.here hx rfl (pc0 := 81) (pc' := 90) rfl (hb hby at_81) rfl ((if0 _ _).trans (teq hc5).1) (by decide) (by decide) ?_
      show Steps p.tables e below (s₁.setTop (mkF m 90 #[.val (.long q0), .second, .val (.long q1), .second, .val (.int p2), .val (.int p3), .val (.int p4), .val (.int fl), .val (.int x8), .val (.int x9), .val (.long rr), .second, .val (.int y0), .val (.int y1), .unset, .unset, .unset, .unset, .unset, .unset, .unset] [])) _
      refine XS.iconst X0.here hx rfl (hb hby at_90) ?_
      show Steps p.tables e below (s₁.setTop (mkF m 91 #[.val (.long q0), .second, .val (.long q1), .second, .val (.int p2), .val (.int p3), .val (.int p4), .val (.int fl), .val (.int x8), .val (.int x9), .val (.long rr), .second, .val (.int y0), .val (.int y1), .unset, .unset, .unset, .unset, .unset, .unset, .unset] [(.int (2 : Int32))])) _
      exact k
    obtain ⟨T6, h6, k6, X6, e6, E6, B6, A6, st6⟩ := newPE X0 hx hZ (hw _ (List.mem_of_getElem? (i := 0) rfl)) e0 (g := (mkF m 91 #[.val (.long q0), .second, .val (.long q1), .second, .val (.int p2), .val (.int p3), .val (.int p4), .val (.int fl), .val (.int x8), .val (.int x9), .val (.long rr), .second, .val (.int y0), .val (.int y1), .unset, .unset, .unset, .unset, .unset, .unset, .unset] [(.int (2 : Int32))])) rfl (hb hby at_91) rfl (by decide) (cap := 2) (by decide) (by decide) (by decide) (by decide) (ad := "[B") (by decide)
    obtain ⟨b6, g6⟩ : ∃ z, z = h0.size := ⟨_, rfl⟩
    have g_b6 : n0 ≤ b6 := Nat.le_trans Z0 (Nat.le_of_eq g6.symm)
    rw [← g6] at A6 B6 st6
    have V7 : Arv Z h6 b6 k6 .byte (2 : Int32) [(.int (0 : Int32)), (.int (0 : Int32))] (.int (0 : Int32)) := (Arv.new B6 (by decide)).pad (pad_rep [] (.int (0 : Int32)) 2)
    have Z8 := Nat.le_trans Z0 E6.1
    refine own_step st6 ?_
    show own_Run p e below s _ _ _ T6 (mkF m 93 #[.val (.long q0), .second, .val (.long q1), .second, .val (.int p2), .val (.int p3), .val (.int p4), .val (.int fl), .val (.int x8), .val (.int x9), .val (.long rr), .second, .val (.int y0), .val (.int y1), .unset, .unset, .unset, .unset, .unset, .unset, .unset] [(.ref b6)])
    refine own_step (T' := T6) (g' := (mkF m 107 #[.val (.long q0), .second, .val (.long q1), .second, .val (.int p2), .val (.int p3), .val (.int p4), .val (.int fl), .val (.int x8), .val (.int x9), .val (.long rr), .second, .val (.int y0), .val (.int y1), .val (.ref b6), .unset, .unset, .unset, .unset, .unset, .unset] [(.int (2 : Int32))])) (fun t k => ?_) ?_
    · show Steps p.tables e below (T6.setTop (mkF m 93 #[.val (.long q0), .second, .val (.long q1), .second, .val (.int p2), .val (.int p3), .val (.int p4), .val (.int fl), .val (.int x8), .val (.int x9), .val (.long rr), .second, .val (.int y0), .val (.int y1), .unset, .unset, .unset, .unset, .unset, .unset, .unset] [(.ref b6)])) _
      refine XS.astore X6.here hx rfl (hb hby at_93) rfl rfl (l' := #[.val (.long q0), .second, .val (.long q1), .second, .val (.int p2), .val (.int p3), .val (.int p4), .val (.int fl), .val (.int x8), .val (.int x9), .val (.long rr), .second, .val (.int y0), .val (.int y1), .val (.ref b6), .unset, .unset, .unset, .unset, .unset, .unset]) rfl ?_
      show Steps p.tables e below (T6.setTop (mkF m 95 #[.val (.long q0), .second, .val (.long q1), .second, .val (.int p2), .val (.int p3), .val (.int p4), .val (.int fl), .val (.int x8), .val (.int x9), .val (.long rr), .second, .val (.int y0), .val (.int y1), .val (.ref b6), .unset, .unset, .unset, .unset, .unset, .unset] [])) _
      refine XS.iload X6.here hx rfl (hb hby at_95) rfl ?_
      show Steps p.tables e below (T6.setTop (mkF m 97 #[.val (.long q0), .second, .val (.long q1), .second, .val (.int p2), .val (.int p3), .val (.int p4), .val (.int fl), .val (.int x8), .val (.int x9), .val (.long rr), .second, .val (.int y0), .val (.int y1), .val (.ref b6), .unset, .unset, .unset, .unset, .unset, .unset] [(.int fl)])) _
      refine XS.ifYes X6.here hx rfl (pc0 := 97) (pc' := 106) rfl (hb hby at_97) rfl ((if0 _ _).trans (teq hc5).1) (by decide) (by decide) ?_
      show Steps p.tables e below (T6.setTop (mkF m 106 #[.val (.long q0), .second, .val (.long q1), .second, .val (.int p2), .val (.int p3), .val (.int p4), .val (.int fl), .val (.int x8), .val (.int x9), .val (.long rr), .second, .val (.int y0), .val (.int y1), .val (.ref b6), .unset, .unset, .unset, .unset, .unset, .unset] [])) _
      refine XS.iconst X6.here hx rfl (hb hby at_106) ?_
      show Steps p.tables e below (T6.setTop (mkF m 107 #[.val (.long q0), .second, .val (.long q1), .second, .val (.int p2), .val (.int p3), .val (.int p4), .val (.int fl), .val (.int x8), .val (.int x9), .val (.long rr), .second, .val (.int y0), .val (.int y1), .val (.ref b6), .unset, .unset, .unset, .unset, .unset, .unset] [(.int (2 : Int32))])) _
      exact k
    obtain ⟨T10, h10, k10, X10, e10, E10, B10, A10, st10⟩ := newPE X6 hx hZ (hw _ (List.mem_of_getElem? (i := 0) rfl)) e6 (g := (mkF m 107 #[.val (.long q0), .second, .val (.long q1), .second, .val (.int p2), .val (.int p3), .val (.int p4), .val (.int fl), .val (.int x8), .val (.int x9), .val (.long rr), .second, .val (.int y0), .val (.int y1), .val (.ref b6), .unset, .unset, .unset, .unset, .unset, .unset] [(.int (2 : Int32))])) rfl (hb hby at_107) rfl (by decide) (cap := 2) (by decide) (by decide) (by decide) (by decide) (ad := "[B") (by decide)
    obtain ⟨b10, g10⟩ : ∃ z, z = h6.size := ⟨_, rfl⟩
    have ne11 : b6 ≠ b10 := Nat.ne_of_lt (Nat.lt_of_lt_of_le A6.lt (Nat.le_of_eq g10.symm))
    have g_b10 : n0 ≤ b10 := Nat.le_trans Z8 (Nat.le_of_eq g10.symm)
    rw [← g10] at A10 B10 st10
    have A12 := A6.ext E10
    have V13 := V7.ext E10
    have V14 : Arv Z h10 b10 k10 .byte (2 : Int32) [(.int (0 : Int32)), (.int (0 : Int32))] (.int (0 : Int32)) := (Arv.new B10 (by decide)).pad (pad_rep [] (.int (0 : Int32)) 2)
    have Z15 := Nat.le_trans Z8 E10.1
    refine own_step st10 ?_
    show own_Run p e below s _ _ _ T10 (mkF m 109 #[.val (.long q0), .second, .val (.long q1), .second, .val (.int p2), .val (.int p3), .val (.int p4), .val (.int fl), .val (.int x8), .val (.int x9), .val (.long rr), .second, .val (.int y0), .val (.int y1), .val (.ref b6), .unset, .unset, .unset, .unset, .unset, .unset] [(.ref b10)])
    refine own_step (T' := T10) (g' := (mkF m 121 #[.val (.long q0), .second, .val (.long q1), .second, .val (.int p2), .val (.int p3), .val (.int p4), .val (.int fl), .val (.int x8), .val (.int x9), .val (.long rr), .second, .val (.int y0), .val (.int y1), .val (.ref b6), .val (.ref b10), .unset, .unset, .unset, .unset, .unset] [(.int x8), (.int (0 : Int32)), (.ref b6)])) (fun t k => ?_) ?_
    · show Steps p.tables e below (T10.setTop (mkF m 109 #[.val (.long q0), .second, .val (.long q1), .second, .val (.int p2), .val (.int p3), .val (.int p4), .val (.int fl), .val (.int x8), .val (.int x9), .val (.long rr), .second, .val (.int y0), .val (.int y1), .val (.ref b6), .unset, .unset, .unset, .unset, .unset, .unset] [(.ref b10)])) _
      refine XS.astore X10.here hx rfl (hb hby at_109) rfl rfl (l' := #[.val (.long q0), .second, .val (.long q1), .second, .val (.int p2), .val (.int p3), .val (.int p4), .val (.int fl), .val (.int x8), .val (.int x9), .val (.long rr), .second, .val (.int y0), .val (.int y1), .val (.ref b6), .val (.ref b10), .unset, .unset, .unset, .unset, .unset]) rfl ?_
      show Steps p.tables e below (T10.setTop (mkF m 111 #[.val (.long q0), .second, .val (.long q1), .second, .val (.int p2), .val (.int p3), .val (.int p4), .val (.int fl), .val (.int x8), .val (.int x9), .val (.long rr), .second, .val (.int y0), .val (.int y1), .val (.ref b6), .val (.ref b10), .unset, .unset, .unset, .unset, .unset] [])) _
      refine XS.iload X10.here hx rfl (hb hby at_111) rfl ?_
      show Steps p.tables e below (T10.setTop (mkF m 113 #[.val (.long q0), .second, .val (.long q1), .second, .val (.int p2), .val (.int p3), .val (.int p4), .val (.int fl), .val (.int x8), .val (.int x9), .val (.long rr), .second, .val (.int y0), .val (.int y1), .val (.ref b6), .val (.ref b10), .unset, .unset, .unset, .unset, .unset] [(.int fl)])) _
      refine XS.ifNo X10.here hx rfl (hb hby at_113) rfl ((if0 _ _).trans (teq hc5).2) ?_
      show Steps p.tables e below (T10.setTop (mkF m 116 #[.val (.long q0), .second, .val (.long q1), .second, .val (.int p2), .val (.int p3), .val (.int p4), .val (.int fl), .val (.int x8), .val (.int x9), .val (.long rr), .second, .val (.int y0), .val (.int y1), .val (.ref b6), .val (.ref b10), .unset, .unset, .unset, .unset, .unset] [])) _
      refine XS.aload X10.here hx rfl (hb hby at_116) rfl rfl ?_
      show Steps p.tables e below (T10.setTop (mkF m 118 #[.val (.long q0), .second, .val (.long q1), .second, .val (.int p2), .val (.int p3), .val (.int p4), .val (.int fl), .val (.int x8), .val (.int x9), .val (.long rr), .second, .val (.int y0), .val (.int y1), .val (.ref b6), .val (.ref b10), .unset, .unset, .unset, .unset, .unset] [(.ref b6)])) _
      refine XS.iconst X10.here hx rfl (hb hby at_118) ?_
      show Steps p.tables e below (T10.setTop (mkF m 119 #[.val (.long q0), .second, .val (.long q1), .second, .val (.int p2), .val (.int p3), .val (.int p4), .val (.int fl), .val (.int x8), .val (.int x9), .val (.long rr), .second, .val (.int y0), .val (.int y1), .val (.ref b6), .val (.ref b10), .unset, .unset, .unset, .unset, .unset] [(.int (0 : Int32)), (.ref b6)])) _
      refine XS.iload X10.here hx rfl (hb hby at_119) rfl ?_
      show Steps p.tables e below (T10.setTop (mkF m 121 #[.val (.long q0), .second, .val (.long q1), .second, .val (.int p2), .val (.int p3), .val (.int p4), .val (.int fl), .val (.int x8), .val (.int x9), .val (.long rr), .second, .val (.int y0), .val (.int y1), .val (.ref b6), .val (.ref b10), .unset, .unset, .unset, .unset, .unset] [(.int x8), (.int (0 : Int32)), (.ref b6)])) _
      exact k
    obtain ⟨cl17, Arcl17, qcl17, Scl17, Mcl17, Hcl17, Gcl17⟩ := V13
    have hincl17 : ¬ ((0 : Int32) < 0 ∨ cl17.slots.size ≤ ((0 : Int32)).toNatClampNeg) := inb_of Scl17 ⟨by decide, by decide⟩
    obtain ⟨T18, h18, X18, e18, W18, st18⟩ := stB X10 hx hZ e10 Arcl17 (j := (0 : Int32)) hincl17 (g := (mkF m 121 #[.val (.long q0), .second, .val (.long q1), .second, .val (.int p2), .val (.int p3), .val (.int p4), .val (.int fl), .val (.int x8), .val (.int x9), .val (.long rr), .second, .val (.int y0), .val (.int y1), .val (.ref b6), .val (.ref b10), .unset, .unset, .unset, .unset, .unset] [(.int x8), (.int (0 : Int32)), (.ref b6)])) rfl rfl (hb hby at_121)
    have V19 := Arv.set Arcl17 qcl17 Scl17 Mcl17 Hcl17 Gcl17 (fits_nar_byte _) W18 0 rfl (Nat.le_of_ble_eq_true rfl)
    have V19l : Arv Z h18 b6 k6 .byte (2 : Int32) [(.int (nar .byte x8)), (.int (0 : Int32))] (.int (0 : Int32)) := V19
    have A20 := A12.wr W18
    have A21 := A10.wr W18
    have V22 := V14.other W18 (Ne.symm ne11)
    have Z23 := Nat.le_trans Z15 (Keep.of_wr W18).1
    have N18 := Fr.snoc X18 N0 g_b6
    refine own_step st18 ?_
    show own_Run p e below s _ _ _ T18 (mkF m 122 #[.val (.long q0), .second, .val (.long q1), .second, .val (.int p2), .val (.int p3), .val (.int p4), .val (.int fl), .val (.int x8), .val (.int x9), .val (.long rr), .second, .val (.int y0), .val (.int y1), .val (.ref b6), .val (.ref b10), .unset, .unset, .unset, .unset, .unset] [])
    refine own_step (T' := T18) (g' := (mkF m 127 #[.val (.long q0), .second, .val (.long q1), .second, .val (.int p2), .val (.int p3), .val (.int p4), .val (.int fl), .val (.int x8), .val (.int x9), .val (.long rr), .second, .val (.int y0), .val (.int y1), .val (.ref b6), .val (.ref b10), .unset, .unset, .unset, .unset, .unset] [(.int x9), (.int (1 : Int32)), (.ref b6)])) (fun t k => ?_) ?_
    · show Steps p.tables e below (T18.setTop (mkF m 122 #[.val (.long q0), .second, .val (.long q1), .second, .val (.int p2), .val (.int p3), .val (.int p4), .val (.int fl), .val (.int x8), .val (.int x9), .val (.long rr), .second, .val (.int y0), .val (.int y1), .val (.ref b6), .val (.ref b10), .unset, .unset, .unset, .unset, .unset] [])) _
      refine XS.aload X18.here hx rfl (hb hby at_122) rfl rfl ?_
      show Steps p.tables e below (T18.setTop (mkF m 124 #[.val (.long q0), .second, .val (.long q1), .second, .val (.int p2), .val (.int p3), .val (.int p4), .val (.int fl), .val (.int x8), .val (.int x9), .val (.long rr), .second, .val (.int y0), .val (.int y1), .val (.ref b6), .val (.ref b10), .unset, .unset, .unset, .unset, .unset] [(.ref b6)])) _
      refine XS.iconst X18.here hx rfl (hb hby at_124) ?_
      show Steps p.tables e below (T18.setTop (mkF m 125 #[.val (.long q0), .second, .val (.long q1), .second, .val (.int p2), .val (.int p3), .val (.int p4), .val (.int fl), .val (.int x8), .val (.int x9), .val (.long rr), .second, .val (.int y0), .val (.int y1), .val (.ref b6), .val (.ref b10), .unset, .unset, .unset, .unset, .unset] [(.int (1 : Int32)), (.ref b6)])) _
      refine XS.iload X18.here hx rfl (hb hby at_125) rfl ?_
      show Steps p.tables e below (T18.setTop (mkF m 127 #[.val (.long q0), .second, .val (.long q1), .second, .val (.int p2), .val (.int p3), .val (.int p4), .val (.int fl), .val (.int x8), .val (.int x9), .val (.long rr), .second, .val (.int y0), .val (.int y1), .val (.ref b6), .val (.ref b10), .unset, .unset, .unset, .unset, .unset] [(.int x9), (.int (1 : Int32)), (.ref b6)])) _
      exact k
    obtain ⟨cl24, Arcl24, qcl24, Scl24, Mcl24, Hcl24, Gcl24⟩ := V19l
    have hincl24 : ¬ ((1 : Int32) < 0 ∨ cl24.slots.size ≤ ((1 : Int32)).toNatClampNeg) := inb_of Scl24 ⟨by decide, by decide⟩
    obtain ⟨T25, h25, X25, e25, W25, st25⟩ := stB X18 hx hZ e18 Arcl24 (j := (1 : Int32)) hincl24 (g := (mkF m 127 #[.val (.long q0), .second, .val (.long q1), .second, .val (.int p2), .val (.int p3), .val (.int p4), .val (.int fl), .val (.int x8), .val (.int x9), .val (.long rr), .second, .val (.int y0), .val (.int y1), .val (.ref b6), .val (.ref b10), .unset, .unset, .unset, .unset, .unset] [(.int x9), (.int (1 : Int32)), (.ref b6)])) rfl rfl (hb hby at_127)
    have V26 := Arv.set Arcl24 qcl24 Scl24 Mcl24 Hcl24 Gcl24 (fits_nar_byte _) W25 1 rfl (Nat.le_of_ble_eq_true rfl)
    have V26l : Arv Z h25 b6 k6 .byte (2 : Int32) [(.int (nar .byte x8)), (.int (nar .byte x9))] (.int (0 : Int32)) := V26
    have A27 := A20.wr W25
    have A28 := A21.wr W25
    have V29 := V22.other W25 (Ne.symm ne11)
    have Z30 := Nat.le_trans Z23 (Keep.of_wr W25).1
    have N25 := Fr.snoc X25 N18 g_b6
    refine own_step st25 ?_
    show own_Run p e below s _ _ _ T25 (mkF m 128 #[.val (.long q0), .second, .val (.long q1), .second, .val (.int p2), .val (.int p3), .val (.int p4), .val (.int fl), .val (.int x8), .val (.int x9), .val (.long rr), .second, .val (.int y0), .val (.int y1), .val (.ref b6), .val (.ref b10), .unset, .unset, .unset, .unset, .unset] [])
    refine own_step (T' := T25) (g' := (mkF m 133 #[.val (.long q0), .second, .val (.long q1), .second, .val (.int p2), .val (.int p3), .val (.int p4), .val (.int fl), .val (.int x8), .val (.int x9), .val (.long rr), .second, .val (.int y0), .val (.int y1), .val (.ref b6), .val (.ref b10), .unset, .unset, .unset, .unset, .unset] [(.int y0), (.int (0 : Int32)), (.ref b10)])) (fun t k => ?_) ?_
    · show Steps p.tables e below (T25.setTop (mkF m 128 #[.val (.long q0), .second, .val (.long q1), .second, .val (.int p2), .val (.int p3), .val (.int p4), .val (.int fl), .val (.int x8), .val (.int x9), .val (.long rr), .second, .val (.int y0), .val (.int y1), .val (.ref b6), .val (.ref b10), .unset, .unset, .unset, .unset, .unset] [])) _
      refine XS.aload X25.here hx rfl (hb hby at_128) rfl rfl ?_
      show Steps p.tables e below (T25.setTop (mkF m 130 #[.val (.long q0), .second, .val (.long q1), .second, .val (.int p2), .val (.int p3), .val (.int p4), .val (.int fl), .val (.int x8), .val (.int x9), .val (.long rr), .second, .val (.int y0), .val (.int y1), .val (.ref b6), .val (.ref b10), .unset, .unset, .unset, .unset, .unset] [(.ref b10)])) _
      refine XS.iconst X25.here hx rfl (hb hby at_130) ?_
      show Steps p.tables e below (T25.setTop (mkF m 131 #[.val (.long q0), .second, .val (.long q1), .second, .val (.int p2), .val (.int p3), .val (.int p4), .val (.int fl), .val (.int x8), .val (.int x9), .val (.long rr), .second, .val (.int y0), .val (.int y1), .val (.ref b6), .val (.ref b10), .unset, .unset, .unset, .unset, .unset] [(.int (0 : Int32)), (.ref b10)])) _
      refine XS.iload X25.here hx rfl (hb hby at_131) rfl ?_
      show Steps p.tables e below (T25.setTop (mkF m 133 #[.val (.long q0), .second, .val (.long q1), .second, .val (.int p2), .val (.int p3), .val (.int p4), .val (.int fl), .val (.int x8), .val (.int x9), .val (.long rr), .second, .val (.int y0), .val (.int y1), .val (.ref b6), .val (.ref b10), .unset, .unset, .unset, .unset, .unset] [(.int y0), (.int (0 : Int32)), (.ref b10)])) _
      exact k
    obtain ⟨cl31, Arcl31, qcl31, Scl31, Mcl31, Hcl31, Gcl31⟩ := V29
    have hincl31 : ¬ ((0 : Int32) < 0 ∨ cl31.slots.size ≤ ((0 : Int32)).toNatClampNeg) := inb_of Scl31 ⟨by decide, by decide⟩
    obtain ⟨T32, h32, X32, e32, W32, st32⟩ := stB X25 hx hZ e25 Arcl31 (j := (0 : Int32)) hincl31 (g := (mkF m 133 #[.val (.long q0), .second, .val (.long q1), .second, .val (.int p2), .val (.int p3), .val (.int p4), .val (.int fl), .val (.int x8), .val (.int x9), .val (.long rr), .second, .val (.int y0), .val (.int y1), .val (.ref b6), .val (.ref b10), .unset, .unset, .unset, .unset, .unset] [(.int y0), (.int (0 : Int32)), (.ref b10)])) rfl rfl (hb hby at_133)
    have V33 := Arv.set Arcl31 qcl31 Scl31 Mcl31 Hcl31 Gcl31 (fits_nar_byte _) W32 0 rfl (Nat.le_of_ble_eq_true rfl)
    have V33l : Arv Z h32 b10 k10 .byte (2 : Int32) [(.int (nar .byte y0)), (.int (0 : Int32))] (.int (0 : Int32)) := V33
    have A34 := A27.wr W32
    have A35 := A28.wr W32
    have V36 := V26l.other W32 ne11
    have Z37 := Nat.le_trans Z30 (Keep.of_wr W32).1
    have N32 := Fr.snoc X32 N25 g_b10
    refine own_step st32 ?_
    show own_Run p e below s _ _ _ T32 (mkF m 134 #[.val (.long q0), .second, .val (.long q1), .second, .val (.int p2), .val (.int p3), .val (.int p4), .val (.int fl), .val (.int x8), .val (.int x9), .val (.long rr), .second, .val (.int y0), .val (.int y1), .val (.ref b6), .val (.ref b10), .unset, .unset, .unset, .unset, .unset] [])
    refine own_step (T' := T32) (g' := (mkF m 139 #[.val (.long q0), .second, .val (.long q1), .second, .val (.int p2), .val (.int p3), .val (.int p4), .val (.int fl), .val (.int x8), .val (.int x9), .val (.long rr), .second, .val (.int y0), .val (.int y1), .val (.ref b6), .val (.ref b10), .unset, .unset, .unset, .unset, .unset] [(.int y1), (.int (1 : Int32)), (.ref b10)])) (fun t k => ?_) ?_
    · show Steps p.tables e below (T32.setTop (mkF m 134 #[.val (.long q0), .second, .val (.long q1), .second, .val (.int p2), .val (.int p3), .val (.int p4), .val (.int fl), .val (.int x8), .val (.int x9), .val (.long rr), .second, .val (.int y0), .val (.int y1), .val (.ref b6), .val (.ref b10), .unset, .unset, .unset, .unset, .unset] [])) _
      refine XS.aload X32.here hx rfl (hb hby at_134) rfl rfl ?_
      show Steps p.tables e below (T32.setTop (mkF m 136 #[.val (.long q0), .second, .val (.long q1), .second, .val (.int p2), .val (.int p3), .val (.int p4), .val (.int fl), .val (.int x8), .val (.int x9), .val (.long rr), .second, .val (.int y0), .val (.int y1), .val (.ref b6), .val (.ref b10), .unset, .unset, .unset, .unset, .unset] [(.ref b10)])) _
      refine XS.iconst X32.here hx rfl (hb hby at_136) ?_
      show Steps p.tables e below (T32.setTop (mkF m 137 #[.val (.long q0), .second, .val (.long q1), .second, .val (.int p2), .val (.int p3), .val (.int p4), .val (.int fl), .val (.int x8), .val (.int x9), .val (.long rr), .second, .val (.int y0), .val (.int y1), .val (.ref b6), .val (.ref b10), .unset, .unset, .unset, .unset, .unset] [(.int (1 : Int32)), (.ref b10)])) _
      refine XS.iload X32.here hx rfl (hb hby at_137) rfl ?_
      show Steps p.tables e below (T32.setTop (mkF m 139 #[.val (.long q0), .second, .val (.long q1), .second, .val (.int p2), .val (.int p3), .val (.int p4), .val (.int fl), .val (.int x8), .val (.int x9), .val (.long rr), .second, .val (.int y0), .val (.int y1), .val (.ref b6), .val (.ref b10), .unset, .unset, .unset, .unset, .unset] [(.int y1), (.int (1 : Int32)), (.ref b10)])) _
      exact k
    obtain ⟨cl38, Arcl38, qcl38, Scl38, Mcl38, Hcl38, Gcl38⟩ := V33l
    have hincl38 : ¬ ((1 : Int32) < 0 ∨ cl38.slots.size ≤ ((1 : Int32)).toNatClampNeg) := inb_of Scl38 ⟨by decide, by decide⟩
    obtain ⟨T39, h39, X39, e39, W39, st39⟩ := stB X32 hx hZ e32 Arcl38 (j := (1 : Int32)) hincl38 (g := (mkF m 139 #[.val (.long q0), .second, .val (.long q1), .second, .val (.int p2), .val (.int p3), .val (.int p4), .val (.int fl), .val (.int x8), .val (.int x9), .val (.long rr), .second, .val (.int y0), .val (.int y1), .val (.ref b6), .val (.ref b10), .unset, .unset, .unset, .unset, .unset] [(.int y1), (.int (1 : Int32)), (.ref b10)])) rfl rfl (hb hby at_139)
    have V40 := Arv.set Arcl38 qcl38 Scl38 Mcl38 Hcl38 Gcl38 (fits_nar_byte _) W39 1 rfl (Nat.le_of_ble_eq_true rfl)
    have V40l : Arv Z h39 b10 k10 .byte (2 : Int32) [(.int (nar .byte y0)), (.int (nar .byte y1))] (.int (0 : Int32)) := V40
    have A41 := A34.wr W39
    have A42 := A35.wr W39
    have V43 := V36.other W39 ne11
    have Z44 := Nat.le_trans Z37 (Keep.of_wr W39).1
    have N39 := Fr.snoc X39 N32 g_b10
    refine own_step st39 ?_
    show own_Run p e below s _ _ _ T39 (mkF m 140 #[.val (.long q0), .second, .val (.long q1), .second, .val (.int p2), .val (.int p3), .val (.int p4), .val (.int fl), .val (.int x8), .val (.int x9), .val (.long rr), .second, .val (.int y0), .val (.int y1), .val (.ref b6), .val (.ref b10), .unset, .unset, .unset, .unset, .unset] [])
    obtain ⟨T45, h45, X45, e45, E45, A45, D45, -, st45⟩ := newO X39 hx hZ hown (hw _ (List.mem_of_getElem? (i := 1) rfl)) (hw _ (List.mem_of_getElem? (i := 2) rfl)) (hw _ (List.mem_of_getElem? (i := 3) rfl)) e39 (g := (mkF m 140 #[.val (.long q0), .second, .val (.long q1), .second, .val (.int p2), .val (.int p3), .val (.int p4), .val (.int fl), .val (.int x8), .val (.int x9), .val (.long rr), .second, .val (.int y0), .val (.int y1), .val (.ref b6), .val (.ref b10), .unset, .unset, .unset, .unset, .unset] [])) rfl (hb hby at_140) (by decide) (by decide)
    obtain ⟨b45, g45⟩ : ∃ z, z = h39.size := ⟨_, rfl⟩
    have ne46 : b6 ≠ b45 := Nat.ne_of_lt (Nat.lt_of_lt_of_le A41.lt (Nat.le_of_eq g45.symm))
    have ne47 : b10 ≠ b45 := Nat.ne_of_lt (Nat.lt_of_lt_of_le A42.lt (Nat.le_of_eq g45.symm))
    have g_b45 : n0 ≤ b45 := Nat.le_trans Z44 (Nat.le_of_eq g45.symm)
    rw [← g45] at A45 D45 st45
    have A48 := A41.ext E45
    have A49 := A42.ext E45
    have V50 := V43.ext E45
    have V51 := V40l.ext E45
    have F52 : Fld Z h45 b45 "com/example/bevaka/bevaka/store/Checkpoint" "records" "J" (.long (0 : Int64)) := D45 (Or.inr (hw _ (List.mem_of_getElem? (i := 11) rfl))) (ty := .long) (by decide)
    have F53 : Fld Z h45 b45 "com/example/bevaka/bevaka/store/Checkpoint" "chain" "[B" .null := D45 (Or.inr (hw _ (List.mem_of_getElem? (i := 22) rfl))) (ty := (.array .byte)) (by decide)
    have Z54 := Nat.le_trans Z44 E45.1
    refine own_step st45 ?_
    show own_Run p e below s _ _ _ T45 (mkF m 143 #[.val (.long q0), .second, .val (.long q1), .second, .val (.int p2), .val (.int p3), .val (.int p4), .val (.int fl), .val (.int x8), .val (.int x9), .val (.long rr), .second, .val (.int y0), .val (.int y1), .val (.ref b6), .val (.ref b10), .unset, .unset, .unset, .unset, .unset] [(.ref b45)])
    refine own_step (T' := T45) (g' := (mkF m 147 #[.val (.long q0), .second, .val (.long q1), .second, .val (.int p2), .val (.int p3), .val (.int p4), .val (.int fl), .val (.int x8), .val (.int x9), .val (.long rr), .second, .val (.int y0), .val (.int y1), .val (.ref b6), .val (.ref b10), .unset, .unset, .unset, .unset, .unset] [(.ref b6), (.long q0), (.ref b45), (.ref b45)])) (fun t k => ?_) ?_
    · show Steps p.tables e below (T45.setTop (mkF m 143 #[.val (.long q0), .second, .val (.long q1), .second, .val (.int p2), .val (.int p3), .val (.int p4), .val (.int fl), .val (.int x8), .val (.int x9), .val (.long rr), .second, .val (.int y0), .val (.int y1), .val (.ref b6), .val (.ref b10), .unset, .unset, .unset, .unset, .unset] [(.ref b45)])) _
      refine XS.dup X45.here hx rfl (hb hby at_143) rfl rfl ?_
      show Steps p.tables e below (T45.setTop (mkF m 144 #[.val (.long q0), .second, .val (.long q1), .second, .val (.int p2), .val (.int p3), .val (.int p4), .val (.int fl), .val (.int x8), .val (.int x9), .val (.long rr), .second, .val (.int y0), .val (.int y1), .val (.ref b6), .val (.ref b10), .unset, .unset, .unset, .unset, .unset] [(.ref b45), (.ref b45)])) _
      refine XS.lloadN X45.here hx rfl (hb hby at_144) rfl ?_
      show Steps p.tables e below (T45.setTop (mkF m 145 #[.val (.long q0), .second, .val (.long q1), .second, .val (.int p2), .val (.int p3), .val (.int p4), .val (.int fl), .val (.int x8), .val (.int x9), .val (.long rr), .second, .val (.int y0), .val (.int y1), .val (.ref b6), .val (.ref b10), .unset, .unset, .unset, .unset, .unset] [(.long q0), (.ref b45), (.ref b45)])) _
      refine XS.aload X45.here hx rfl (hb hby at_145) rfl rfl ?_
      show Steps p.tables e below (T45.setTop (mkF m 147 #[.val (.long q0), .second, .val (.long q1), .second, .val (.int p2), .val (.int p3), .val (.int p4), .val (.int fl), .val (.int x8), .val (.int x9), .val (.long rr), .second, .val (.int y0), .val (.int y1), .val (.ref b6), .val (.ref b10), .unset, .unset, .unset, .unset, .unset] [(.ref b6), (.long q0), (.ref b45), (.ref b45)])) _
      exact k
    obtain ⟨_, _, ⟨T55, L55, k55, n55⟩, -, X55, ⟨Lc55, hQ55, l55, y55, z55⟩, st55⟩ := X45.specialBack hx (y := (⟨"com/example/bevaka/bevaka/store/Checkpoint", "<init>", "(J[B)V"⟩ : MethodName)) rfl hown (mvT hZ (hw _ (List.mem_of_getElem? (i := 4) rfl))) (mvT hZ (hw _ (List.mem_of_getElem? (i := 5) rfl))) (mvT hZ (hw _ (List.mem_of_getElem? (i := 6) rfl))) (by decide) (backOf (W := 1) (rm1 l Z a0 hw [] b45 q0 b6 k6 (2 : Int32) [(.int (nar .byte x8)), (.int (nar .byte x9))] h45 n0 Z54 A45 F52 F53 g_b45 V50 A48 (by decide) ne46) hZ (hw _ (List.mem_of_getElem? (i := 6) rfl)) (hw _ (List.mem_of_getElem? (i := 3) rfl)) (by decide) (by decide)) (g := (mkF m 147 #[.val (.long q0), .second, .val (.long q1), .second, .val (.int p2), .val (.int p3), .val (.int p4), .val (.int fl), .val (.int x8), .val (.int x9), .val (.long rr), .second, .val (.int y0), .val (.int y1), .val (.ref b6), .val (.ref b10), .unset, .unset, .unset, .unset, .unset] [(.ref b6), (.long q0), (.ref b45), (.ref b45)])) rfl (by rw [hml]; rfl) (Steps.refl _) (a := b45) (argsL := [(.long q0), (.ref b6)]) (rest := [(.ref b45)]) (lenOf pd_6 rfl) rfl (by show 2 * 0 + _ ≤ _; exact Nat.le_of_eq rfl) (hb hby at_147) (fun _ _ => ⟨rfl, e45, (by decide : 3 + 1 ≤ _), (by decide : 6 + 2 ≤ _)⟩)
    dsimp only [Pt.U, Pt.locs, Pt.cells, Pt.slots] at X55 l55 y55 z55 st55 hQ55
    subst l55 y55 z55
    obtain ⟨ch55, rfl, N55q, Kq55, sz55, Fr55, Fc55, Vc55, Ac55, Ec55⟩ := hQ55
    have N55 := Fr.app N39 N55q
    refine own_step (fun t k => st55.trans k) ?_
    show own_Run p e below s _ _ _ T55 (mkF m 150 #[.val (.long q0), .second, .val (.long q1), .second, .val (.int p2), .val (.int p3), .val (.int p4), .val (.int fl), .val (.int x8), .val (.int x9), .val (.long rr), .second, .val (.int y0), .val (.int y1), .val (.ref b6), .val (.ref b10), .unset, .unset, .unset, .unset, .unset] [(.ref b45)])
    have A56 := A48.keep Kq55
    have A57 := A49.keep Kq55
    have A58 := A45.keep Kq55
    have V59 := V50.keep Kq55 (ninS ne46 nin0)
    have V60 := V51.keep Kq55 (ninS ne47 nin0)
    have ne61 : b45 ≠ ch55 := Nat.ne_of_lt (Nat.lt_of_lt_of_le F52.lt sz55)
    have ne62 : b6 ≠ ch55 := Nat.ne_of_lt (Nat.lt_of_lt_of_le A48.lt sz55)
    have ne63 : b10 ≠ ch55 := Nat.ne_of_lt (Nat.lt_of_lt_of_le A49.lt sz55)
    have Z64 := Nat.le_trans Z54 Kq55.1
    refine own_step (T' := T55) (g' := (mkF m 152 #[.val (.long q0), .second, .val (.long q1), .second, .val (.int p2), .val (.int p3), .val (.int p4), .val (.int fl), .val (.int x8), .val (.int x9), .val (.long rr), .second, .val (.int y0), .val (.int y1), .val (.ref b6), .val (.ref b10), .val (.ref b45), .unset, .unset, .unset, .unset] [])) (fun t k => ?_) ?_
    · show Steps p.tables e below (T55.setTop (mkF m 150 #[.val (.long q0), .second, .val (.long q1), .second, .val (.int p2), .val (.int p3), .val (.int p4), .val (.int fl), .val (.int x8), .val (.int x9), .val (.long rr), .second, .val (.int y0), .val (.int y1), .val (.ref b6), .val (.ref b10), .unset, .unset, .unset, .unset, .unset] [(.ref b45)])) _
      refine XS.astore X55.here hx rfl (hb hby at_150) rfl rfl (l' := #[.val (.long q0), .second, .val (.long q1), .second, .val (.int p2), .val (.int p3), .val (.int p4), .val (.int fl), .val (.int x8), .val (.int x9), .val (.long rr), .second, .val (.int y0), .val (.int y1), .val (.ref b6), .val (.ref b10), .val (.ref b45), .unset, .unset, .unset, .unset]) rfl ?_
      show Steps p.tables e below (T55.setTop (mkF m 152 #[.val (.long q0), .second, .val (.long q1), .second, .val (.int p2), .val (.int p3), .val (.int p4), .val (.int fl), .val (.int x8), .val (.int x9), .val (.long rr), .second, .val (.int y0), .val (.int y1), .val (.ref b6), .val (.ref b10), .val (.ref b45), .unset, .unset, .unset, .unset] [])) _
      exact k
    obtain ⟨T65, h65, X65, e65, E65, A65, D65, -, st65⟩ := newO X55 hx hZ hown (hw _ (List.mem_of_getElem? (i := 1) rfl)) (hw _ (List.mem_of_getElem? (i := 2) rfl)) (hw _ (List.mem_of_getElem? (i := 3) rfl)) rfl (g := (mkF m 152 #[.val (.long q0), .second, .val (.long q1), .second, .val (.int p2), .val (.int p3), .val (.int p4), .val (.int fl), .val (.int x8), .val (.int x9), .val (.long rr), .second, .val (.int y0), .val (.int y1), .val (.ref b6), .val (.ref b10), .val (.ref b45), .unset, .unset, .unset, .unset] [])) rfl (hb hby at_152) (by decide) (by decide)
    obtain ⟨b65, g65⟩ : ∃ z, z = T55.heap.size := ⟨_, rfl⟩
    have ne66 : b45 ≠ b65 := Nat.ne_of_lt (Nat.lt_of_lt_of_le Fr55.lt (Nat.le_of_eq g65.symm))
    have ne67 : b6 ≠ b65 := Nat.ne_of_lt (Nat.lt_of_lt_of_le A56.lt (Nat.le_of_eq g65.symm))
    have ne68 : b10 ≠ b65 := Nat.ne_of_lt (Nat.lt_of_lt_of_le A57.lt (Nat.le_of_eq g65.symm))
    have ne69 : ch55 ≠ b65 := Nat.ne_of_lt (Nat.lt_of_lt_of_le Ac55.lt (Nat.le_of_eq g65.symm))
    have g_b65 : n0 ≤ b65 := Nat.le_trans Z64 (Nat.le_of_eq g65.symm)
    rw [← g65] at A65 D65 st65
    have F70 := Fr55.ext E65
    have F71 := Fc55.ext E65
    have A72 := A56.ext E65
    have A73 := A57.ext E65
    have A74 := Ec55.ext E65
    have A75 := Ac55.ext E65
    have V76 := V59.ext E65
    have V77 := V60.ext E65
    have V78 := Vc55.ext E65
    have F79 : Fld Z h65 b65 "com/example/bevaka/bevaka/store/Checkpoint" "records" "J" (.long (0 : Int64)) := D65 (Or.inr (hw _ (List.mem_of_getElem? (i := 11) rfl))) (ty := .long) (by decide)
    have F80 : Fld Z h65 b65 "com/example/bevaka/bevaka/store/Checkpoint" "chain" "[B" .null := D65 (Or.inr (hw _ (List.mem_of_getElem? (i := 22) rfl))) (ty := (.array .byte)) (by decide)
    have Z81 := Nat.le_trans Z64 E65.1
    refine own_step st65 ?_
    show own_Run p e below s _ _ _ T65 (mkF m 155 #[.val (.long q0), .second, .val (.long q1), .second, .val (.int p2), .val (.int p3), .val (.int p4), .val (.int fl), .val (.int x8), .val (.int x9), .val (.long rr), .second, .val (.int y0), .val (.int y1), .val (.ref b6), .val (.ref b10), .val (.ref b45), .unset, .unset, .unset, .unset] [(.ref b65)])
    refine own_step (T' := T65) (g' := (mkF m 160 #[.val (.long q0), .second, .val (.long q1), .second, .val (.int p2), .val (.int p3), .val (.int p4), .val (.int fl), .val (.int x8), .val (.int x9), .val (.long rr), .second, .val (.int y0), .val (.int y1), .val (.ref b6), .val (.ref b10), .val (.ref b45), .unset, .unset, .unset, .unset] [(.ref b10), (.long rr), (.ref b65), (.ref b65)])) (fun t k => ?_) ?_
    · show Steps p.tables e below (T65.setTop (mkF m 155 #[.val (.long q0), .second, .val (.long q1), .second, .val (.int p2), .val (.int p3), .val (.int p4), .val (.int fl), .val (.int x8), .val (.int x9), .val (.long rr), .second, .val (.int y0), .val (.int y1), .val (.ref b6), .val (.ref b10), .val (.ref b45), .unset, .unset, .unset, .unset] [(.ref b65)])) _
      refine XS.dup X65.here hx rfl (hb hby at_155) rfl rfl ?_
      show Steps p.tables e below (T65.setTop (mkF m 156 #[.val (.long q0), .second, .val (.long q1), .second, .val (.int p2), .val (.int p3), .val (.int p4), .val (.int fl), .val (.int x8), .val (.int x9), .val (.long rr), .second, .val (.int y0), .val (.int y1), .val (.ref b6), .val (.ref b10), .val (.ref b45), .unset, .unset, .unset, .unset] [(.ref b65), (.ref b65)])) _
      refine XS.lload X65.here hx rfl (hb hby at_156) rfl ?_
      show Steps p.tables e below (T65.setTop (mkF m 158 #[.val (.long q0), .second, .val (.long q1), .second, .val (.int p2), .val (.int p3), .val (.int p4), .val (.int fl), .val (.int x8), .val (.int x9), .val (.long rr), .second, .val (.int y0), .val (.int y1), .val (.ref b6), .val (.ref b10), .val (.ref b45), .unset, .unset, .unset, .unset] [(.long rr), (.ref b65), (.ref b65)])) _
      refine XS.aload X65.here hx rfl (hb hby at_158) rfl rfl ?_
      show Steps p.tables e below (T65.setTop (mkF m 160 #[.val (.long q0), .second, .val (.long q1), .second, .val (.int p2), .val (.int p3), .val (.int p4), .val (.int fl), .val (.int x8), .val (.int x9), .val (.long rr), .second, .val (.int y0), .val (.int y1), .val (.ref b6), .val (.ref b10), .val (.ref b45), .unset, .unset, .unset, .unset] [(.ref b10), (.long rr), (.ref b65), (.ref b65)])) _
      exact k
    obtain ⟨_, _, ⟨T82, L82, k82, n82⟩, -, X82, ⟨Lc82, hQ82, l82, y82, z82⟩, st82⟩ := X65.specialBack hx (y := (⟨"com/example/bevaka/bevaka/store/Checkpoint", "<init>", "(J[B)V"⟩ : MethodName)) rfl hown (mvT hZ (hw _ (List.mem_of_getElem? (i := 4) rfl))) (mvT hZ (hw _ (List.mem_of_getElem? (i := 5) rfl))) (mvT hZ (hw _ (List.mem_of_getElem? (i := 6) rfl))) (by decide) (backOf (W := 1) (rm1 l Z a0 hw [] b65 rr b10 k10 (2 : Int32) [(.int (nar .byte y0)), (.int (nar .byte y1))] h65 n0 Z81 A65 F79 F80 g_b65 V77 A73 (by decide) ne68) hZ (hw _ (List.mem_of_getElem? (i := 6) rfl)) (hw _ (List.mem_of_getElem? (i := 3) rfl)) (by decide) (by decide)) (g := (mkF m 160 #[.val (.long q0), .second, .val (.long q1), .second, .val (.int p2), .val (.int p3), .val (.int p4), .val (.int fl), .val (.int x8), .val (.int x9), .val (.long rr), .second, .val (.int y0), .val (.int y1), .val (.ref b6), .val (.ref b10), .val (.ref b45), .unset, .unset, .unset, .unset] [(.ref b10), (.long rr), (.ref b65), (.ref b65)])) rfl (by rw [hml]; rfl) (Steps.refl _) (a := b65) (argsL := [(.long rr), (.ref b10)]) (rest := [(.ref b65)]) (lenOf pd_6 rfl) rfl (by show 2 * 0 + _ ≤ _; exact Nat.le_of_eq rfl) (hb hby at_160) (fun _ _ => ⟨rfl, e65, (by decide : 5 + 1 ≤ _), (by decide : 10 + 2 ≤ _)⟩)
    dsimp only [Pt.U, Pt.locs, Pt.cells, Pt.slots] at X82 l82 y82 z82 st82 hQ82
    subst l82 y82 z82
    obtain ⟨ch82, rfl, N82q, Kq82, sz82, Fr82, Fc82, Vc82, Ac82, Ec82⟩ := hQ82
    have N82 := Fr.app N55 N82q
    refine own_step (fun t k => st82.trans k) ?_
    show own_Run p e below s _ _ _ T82 (mkF m 163 #[.val (.long q0), .second, .val (.long q1), .second, .val (.int p2), .val (.int p3), .val (.int p4), .val (.int fl), .val (.int x8), .val (.int x9), .val (.long rr), .second, .val (.int y0), .val (.int y1), .val (.ref b6), .val (.ref b10), .val (.ref b45), .unset, .unset, .unset, .unset] [(.ref b65)])
    have F83 := F70.keep Kq82 (ninS ne66 nin0)
    have F84 := F71.keep Kq82 (ninS ne66 nin0)
    have A85 := A72.keep Kq82
    have A86 := A73.keep Kq82
    have A87 := A74.keep Kq82
    have A88 := A75.keep Kq82
    have A89 := A65.keep Kq82
    have V90 := V76.keep Kq82 (ninS ne67 nin0)
    have V91 := V77.keep Kq82 (ninS ne68 nin0)
    have V92 := V78.keep Kq82 (ninS ne69 nin0)
    have ne93 : b45 ≠ ch82 := Nat.ne_of_lt (Nat.lt_of_lt_of_le F70.lt sz82)
    have ne94 : b65 ≠ ch82 := Nat.ne_of_lt (Nat.lt_of_lt_of_le F79.lt sz82)
    have ne95 : b6 ≠ ch82 := Nat.ne_of_lt (Nat.lt_of_lt_of_le A72.lt sz82)
    have ne96 : b10 ≠ ch82 := Nat.ne_of_lt (Nat.lt_of_lt_of_le A73.lt sz82)
    have ne97 : ch55 ≠ ch82 := Nat.ne_of_lt (Nat.lt_of_lt_of_le A75.lt sz82)
    have Z98 := Nat.le_trans Z81 Kq82.1
    refine own_step (T' := T82) (g' := (mkF m 178 #[.val (.long q0), .second, .val (.long q1), .second, .val (.int p2), .val (.int p3), .val (.int p4), .val (.int fl), .val (.int x8), .val (.int x9), .val (.long rr), .second, .val (.int y0), .val (.int y1), .val (.ref b6), .val (.ref b10), .val (.ref b45), .val (.ref b65), .unset, .unset, .unset] [(.int ((x8 + (1 : Int32)).toInt8.toInt32)), (.int (0 : Int32)), (.ref b6)])) (fun t k => ?_) ?_
    · show Steps p.tables e below (T82.setTop (mkF m 163 #[.val (.long q0), .second, .val (.long q1), .second, .val (.int p2), .val (.int p3), .val (.int p4), .val (.int fl), .val (.int x8), .val (.int x9), .val (.long rr), .second, .val (.int y0), .val (.int y1), .val (.ref b6), .val (.ref b10), .val (.ref b45), .unset, .unset, .unset, .unset] [(.ref b65)])) _
      refine XS.astore X82.here hx rfl (hb hby at_163) rfl rfl (l' := #[.val (.long q0), .second, .val (.long q1), .second, .val (.int p2), .val (.int p3), .val (.int p4), .val (.int fl), .val (.int x8), .val (.int x9), .val (.long rr), .second, .val (.int y0), .val (.int y1), .val (.ref b6), .val (.ref b10), .val (.ref b45), .val (.ref b65), .unset, .unset, .unset]) rfl ?_
      show Steps p.tables e below (T82.setTop (mkF m 165 #[.val (.long q0), .second, .val (.long q1), .second, .val (.int p2), .val (.int p3), .val (.int p4), .val (.int fl), .val (.int x8), .val (.int x9), .val (.long rr), .second, .val (.int y0), .val (.int y1), .val (.ref b6), .val (.ref b10), .val (.ref b45), .val (.ref b65), .unset, .unset, .unset] [])) _
      refine XS.iload X82.here hx rfl (hb hby at_165) rfl ?_
      show Steps p.tables e below (T82.setTop (mkF m 167 #[.val (.long q0), .second, .val (.long q1), .second, .val (.int p2), .val (.int p3), .val (.int p4), .val (.int fl), .val (.int x8), .val (.int x9), .val (.long rr), .second, .val (.int y0), .val (.int y1), .val (.ref b6), .val (.ref b10), .val (.ref b45), .val (.ref b65), .unset, .unset, .unset] [(.int fl)])) _
      refine XS.ifNo X82.here hx rfl (hb hby at_167) rfl ((if0 _ _).trans (teq hc5).2) ?_
      show Steps p.tables e below (T82.setTop (mkF m 170 #[.val (.long q0), .second, .val (.long q1), .second, .val (.int p2), .val (.int p3), .val (.int p4), .val (.int fl), .val (.int x8), .val (.int x9), .val (.long rr), .second, .val (.int y0), .val (.int y1), .val (.ref b6), .val (.ref b10), .val (.ref b45), .val (.ref b65), .unset, .unset, .unset] [])) _
      refine XS.aload X82.here hx rfl (hb hby at_170) rfl rfl ?_
      show Steps p.tables e below (T82.setTop (mkF m 172 #[.val (.long q0), .second, .val (.long q1), .second, .val (.int p2), .val (.int p3), .val (.int p4), .val (.int fl), .val (.int x8), .val (.int x9), .val (.long rr), .second, .val (.int y0), .val (.int y1), .val (.ref b6), .val (.ref b10), .val (.ref b45), .val (.ref b65), .unset, .unset, .unset] [(.ref b6)])) _
      refine XS.iconst X82.here hx rfl (hb hby at_172) ?_
      show Steps p.tables e below (T82.setTop (mkF m 173 #[.val (.long q0), .second, .val (.long q1), .second, .val (.int p2), .val (.int p3), .val (.int p4), .val (.int fl), .val (.int x8), .val (.int x9), .val (.long rr), .second, .val (.int y0), .val (.int y1), .val (.ref b6), .val (.ref b10), .val (.ref b45), .val (.ref b65), .unset, .unset, .unset] [(.int (0 : Int32)), (.ref b6)])) _
      refine XS.iload X82.here hx rfl (hb hby at_173) rfl ?_
      show Steps p.tables e below (T82.setTop (mkF m 175 #[.val (.long q0), .second, .val (.long q1), .second, .val (.int p2), .val (.int p3), .val (.int p4), .val (.int fl), .val (.int x8), .val (.int x9), .val (.long rr), .second, .val (.int y0), .val (.int y1), .val (.ref b6), .val (.ref b10), .val (.ref b45), .val (.ref b65), .unset, .unset, .unset] [(.int x8), (.int (0 : Int32)), (.ref b6)])) _
      refine XS.iconst X82.here hx rfl (hb hby at_175) ?_
      show Steps p.tables e below (T82.setTop (mkF m 176 #[.val (.long q0), .second, .val (.long q1), .second, .val (.int p2), .val (.int p3), .val (.int p4), .val (.int fl), .val (.int x8), .val (.int x9), .val (.long rr), .second, .val (.int y0), .val (.int y1), .val (.ref b6), .val (.ref b10), .val (.ref b45), .val (.ref b65), .unset, .unset, .unset] [(.int (1 : Int32)), (.int x8), (.int (0 : Int32)), (.ref b6)])) _
      refine XS.iadd X82.here hx rfl (hb hby at_176) rfl ?_
      show Steps p.tables e below (T82.setTop (mkF m 177 #[.val (.long q0), .second, .val (.long q1), .second, .val (.int p2), .val (.int p3), .val (.int p4), .val (.int fl), .val (.int x8), .val (.int x9), .val (.long rr), .second, .val (.int y0), .val (.int y1), .val (.ref b6), .val (.ref b10), .val (.ref b45), .val (.ref b65), .unset, .unset, .unset] [(.int (x8 + (1 : Int32))), (.int (0 : Int32)), (.ref b6)])) _
      refine XS.i2b X82.here hx rfl (hb hby at_177) rfl ?_
      show Steps p.tables e below (T82.setTop (mkF m 178 #[.val (.long q0), .second, .val (.long q1), .second, .val (.int p2), .val (.int p3), .val (.int p4), .val (.int fl), .val (.int x8), .val (.int x9), .val (.long rr), .second, .val (.int y0), .val (.int y1), .val (.ref b6), .val (.ref b10), .val (.ref b45), .val (.ref b65), .unset, .unset, .unset] [(.int ((x8 + (1 : Int32)).toInt8.toInt32)), (.int (0 : Int32)), (.ref b6)])) _
      exact k
    obtain ⟨cl100, Arcl100, qcl100, Scl100, Mcl100, Hcl100, Gcl100⟩ := V90
    have hincl100 : ¬ ((0 : Int32) < 0 ∨ cl100.slots.size ≤ ((0 : Int32)).toNatClampNeg) := inb_of Scl100 ⟨by decide, by decide⟩
    obtain ⟨T101, h101, X101, e101, W101, st101⟩ := stB X82 hx hZ rfl Arcl100 (j := (0 : Int32)) hincl100 (g := (mkF m 178 #[.val (.long q0), .second, .val (.long q1), .second, .val (.int p2), .val (.int p3), .val (.int p4), .val (.int fl), .val (.int x8), .val (.int x9), .val (.long rr), .second, .val (.int y0), .val (.int y1), .val (.ref b6), .val (.ref b10), .val (.ref b45), .val (.ref b65), .unset, .unset, .unset] [(.int ((x8 + (1 : Int32)).toInt8.toInt32)), (.int (0 : Int32)), (.ref b6)])) rfl rfl (hb hby at_178)
    have V102 := Arv.set Arcl100 qcl100 Scl100 Mcl100 Hcl100 Gcl100 (fits_nar_byte _) W101 0 rfl (Nat.le_of_ble_eq_true rfl)
    have V102l : Arv Z h101 b6 k6 .byte (2 : Int32) [(.int (nar .byte ((x8 + (1 : Int32)).toInt8.toInt32))), (.int (nar .byte x9))] (.int (0 : Int32)) := V102
    have F103 := F83.other W101 (Or.inl (Ne.symm ne46))
    have F104 := F84.other W101 (Or.inl (Ne.symm ne46))
    have F105 := Fr82.other W101 (Or.inl (Ne.symm ne67))
    have F106 := Fc82.other W101 (Or.inl (Ne.symm ne67))
    have A107 := A85.wr W101
    have A108 := A86.wr W101
    have A109 := A87.wr W101
    have A110 := A88.wr W101
    have A111 := Ec82.wr W101
    have A112 := Ac82.wr W101
    have V113 := V91.other W101 (Ne.symm ne11)
    have V114 := V92.other W101 (Ne.symm ne62)
    have V115 := Vc82.other W101 (Ne.symm ne95)
    have Z116 := Nat.le_trans Z98 (Keep.of_wr W101).1
    have N101 := Fr.snoc X101 N82 g_b6
    refine own_step st101 ?_
    show own_Run p e below s _ _ _ T101 (mkF m 179 #[.val (.long q0), .second, .val (.long q1), .second, .val (.int p2), .val (.int p3), .val (.int p4), .val (.int fl), .val (.int x8), .val (.int x9), .val (.long rr), .second, .val (.int y0), .val (.int y1), .val (.ref b6), .val (.ref b10), .val (.ref b45), .val (.ref b65), .unset, .unset, .unset] [])
    refine own_step (T' := T101) (g' := (mkF m 187 #[.val (.long q0), .second, .val (.long q1), .second, .val (.int p2), .val (.int p3), .val (.int p4), .val (.int fl), .val (.int x8), .val (.int x9), .val (.long rr), .second, .val (.int y0), .val (.int y1), .val (.ref b6), .val (.ref b10), .val (.ref b45), .val (.ref b65), .unset, .unset, .unset] [(.int ((x9 + (3 : Int32)).toInt8.toInt32)), (.int (1 : Int32)), (.ref b6)])) (fun t k => ?_) ?_
    · show Steps p.tables e below (T101.setTop (mkF m 179 #[.val (.long q0), .second, .val (.long q1), .second, .val (.int p2), .val (.int p3), .val (.int p4), .val (.int fl), .val (.int x8), .val (.int x9), .val (.long rr), .second, .val (.int y0), .val (.int y1), .val (.ref b6), .val (.ref b10), .val (.ref b45), .val (.ref b65), .unset, .unset, .unset] [])) _
      refine XS.aload X101.here hx rfl (hb hby at_179) rfl rfl ?_
      show Steps p.tables e below (T101.setTop (mkF m 181 #[.val (.long q0), .second, .val (.long q1), .second, .val (.int p2), .val (.int p3), .val (.int p4), .val (.int fl), .val (.int x8), .val (.int x9), .val (.long rr), .second, .val (.int y0), .val (.int y1), .val (.ref b6), .val (.ref b10), .val (.ref b45), .val (.ref b65), .unset, .unset, .unset] [(.ref b6)])) _
      refine XS.iconst X101.here hx rfl (hb hby at_181) ?_
      show Steps p.tables e below (T101.setTop (mkF m 182 #[.val (.long q0), .second, .val (.long q1), .second, .val (.int p2), .val (.int p3), .val (.int p4), .val (.int fl), .val (.int x8), .val (.int x9), .val (.long rr), .second, .val (.int y0), .val (.int y1), .val (.ref b6), .val (.ref b10), .val (.ref b45), .val (.ref b65), .unset, .unset, .unset] [(.int (1 : Int32)), (.ref b6)])) _
      refine XS.iload X101.here hx rfl (hb hby at_182) rfl ?_
      show Steps p.tables e below (T101.setTop (mkF m 184 #[.val (.long q0), .second, .val (.long q1), .second, .val (.int p2), .val (.int p3), .val (.int p4), .val (.int fl), .val (.int x8), .val (.int x9), .val (.long rr), .second, .val (.int y0), .val (.int y1), .val (.ref b6), .val (.ref b10), .val (.ref b45), .val (.ref b65), .unset, .unset, .unset] [(.int x9), (.int (1 : Int32)), (.ref b6)])) _
      refine XS.iconst X101.here hx rfl (hb hby at_184) ?_
      show Steps p.tables e below (T101.setTop (mkF m 185 #[.val (.long q0), .second, .val (.long q1), .second, .val (.int p2), .val (.int p3), .val (.int p4), .val (.int fl), .val (.int x8), .val (.int x9), .val (.long rr), .second, .val (.int y0), .val (.int y1), .val (.ref b6), .val (.ref b10), .val (.ref b45), .val (.ref b65), .unset, .unset, .unset] [(.int (3 : Int32)), (.int x9), (.int (1 : Int32)), (.ref b6)])) _
      refine XS.iadd X101.here hx rfl (hb hby at_185) rfl ?_
      show Steps p.tables e below (T101.setTop (mkF m 186 #[.val (.long q0), .second, .val (.long q1), .second, .val (.int p2), .val (.int p3), .val (.int p4), .val (.int fl), .val (.int x8), .val (.int x9), .val (.long rr), .second, .val (.int y0), .val (.int y1), .val (.ref b6), .val (.ref b10), .val (.ref b45), .val (.ref b65), .unset, .unset, .unset] [(.int (x9 + (3 : Int32))), (.int (1 : Int32)), (.ref b6)])) _
      refine XS.i2b X101.here hx rfl (hb hby at_186) rfl ?_
      show Steps p.tables e below (T101.setTop (mkF m 187 #[.val (.long q0), .second, .val (.long q1), .second, .val (.int p2), .val (.int p3), .val (.int p4), .val (.int fl), .val (.int x8), .val (.int x9), .val (.long rr), .second, .val (.int y0), .val (.int y1), .val (.ref b6), .val (.ref b10), .val (.ref b45), .val (.ref b65), .unset, .unset, .unset] [(.int ((x9 + (3 : Int32)).toInt8.toInt32)), (.int (1 : Int32)), (.ref b6)])) _
      exact k
    obtain ⟨cl117, Arcl117, qcl117, Scl117, Mcl117, Hcl117, Gcl117⟩ := V102l
    have hincl117 : ¬ ((1 : Int32) < 0 ∨ cl117.slots.size ≤ ((1 : Int32)).toNatClampNeg) := inb_of Scl117 ⟨by decide, by decide⟩
    obtain ⟨T118, h118, X118, e118, W118, st118⟩ := stB X101 hx hZ e101 Arcl117 (j := (1 : Int32)) hincl117 (g := (mkF m 187 #[.val (.long q0), .second, .val (.long q1), .second, .val (.int p2), .val (.int p3), .val (.int p4), .val (.int fl), .val (.int x8), .val (.int x9), .val (.long rr), .second, .val (.int y0), .val (.int y1), .val (.ref b6), .val (.ref b10), .val (.ref b45), .val (.ref b65), .unset, .unset, .unset] [(.int ((x9 + (3 : Int32)).toInt8.toInt32)), (.int (1 : Int32)), (.ref b6)])) rfl rfl (hb hby at_187)
    have V119 := Arv.set Arcl117 qcl117 Scl117 Mcl117 Hcl117 Gcl117 (fits_nar_byte _) W118 1 rfl (Nat.le_of_ble_eq_true rfl)
    have V119l : Arv Z h118 b6 k6 .byte (2 : Int32) [(.int (nar .byte ((x8 + (1 : Int32)).toInt8.toInt32))), (.int (nar .byte ((x9 + (3 : Int32)).toInt8.toInt32)))] (.int (0 : Int32)) := V119
    have F120 := F103.other W118 (Or.inl (Ne.symm ne46))
    have F121 := F104.other W118 (Or.inl (Ne.symm ne46))
    have F122 := F105.other W118 (Or.inl (Ne.symm ne67))
    have F123 := F106.other W118 (Or.inl (Ne.symm ne67))
    have A124 := A107.wr W118
    have A125 := A108.wr W118
    have A126 := A109.wr W118
    have A127 := A110.wr W118
    have A128 := A111.wr W118
    have A129 := A112.wr W118
    have V130 := V113.other W118 (Ne.symm ne11)
    have V131 := V114.other W118 (Ne.symm ne62)
    have V132 := V115.other W118 (Ne.symm ne95)
    have Z133 := Nat.le_trans Z116 (Keep.of_wr W118).1
    have N118 := Fr.snoc X118 N101 g_b6
    refine own_step st118 ?_
    show own_Run p e below s _ _ _ T118 (mkF m 188 #[.val (.long q0), .second, .val (.long q1), .second, .val (.int p2), .val (.int p3), .val (.int p4), .val (.int fl), .val (.int x8), .val (.int x9), .val (.long rr), .second, .val (.int y0), .val (.int y1), .val (.ref b6), .val (.ref b10), .val (.ref b45), .val (.ref b65), .unset, .unset, .unset] [])
    refine own_step (T' := T118) (g' := (mkF m 190 #[.val (.long q0), .second, .val (.long q1), .second, .val (.int p2), .val (.int p3), .val (.int p4), .val (.int fl), .val (.int x8), .val (.int x9), .val (.long rr), .second, .val (.int y0), .val (.int y1), .val (.ref b6), .val (.ref b10), .val (.ref b45), .val (.ref b65), .unset, .unset, .unset] [(.ref b45)])) (fun t k => ?_) ?_
    · show Steps p.tables e below (T118.setTop (mkF m 188 #[.val (.long q0), .second, .val (.long q1), .second, .val (.int p2), .val (.int p3), .val (.int p4), .val (.int fl), .val (.int x8), .val (.int x9), .val (.long rr), .second, .val (.int y0), .val (.int y1), .val (.ref b6), .val (.ref b10), .val (.ref b45), .val (.ref b65), .unset, .unset, .unset] [])) _
      refine XS.aload X118.here hx rfl (hb hby at_188) rfl rfl ?_
      show Steps p.tables e below (T118.setTop (mkF m 190 #[.val (.long q0), .second, .val (.long q1), .second, .val (.int p2), .val (.int p3), .val (.int p4), .val (.int fl), .val (.int x8), .val (.int x9), .val (.long rr), .second, .val (.int y0), .val (.int y1), .val (.ref b6), .val (.ref b10), .val (.ref b45), .val (.ref b65), .unset, .unset, .unset] [(.ref b45)])) _
      exact k
    obtain ⟨cq134, kq134, q134a, q134b, q134c⟩ := isOf hZ e118 A126
    obtain ⟨_, _, ⟨T134, L134, k134, n134⟩, -, X134, ⟨Lc134, hQ134, l134, y134, z134⟩, st134⟩ := X118.virtualBack hx (y := (⟨"com/example/bevaka/bevaka/store/Checkpoint", "hashCode", "()I"⟩ : MethodName)) (z := (⟨"com/example/bevaka/bevaka/store/Checkpoint", "hashCode", "()I"⟩ : MethodName)) hown (mvT hZ (hw _ (List.mem_of_getElem? (i := 23) rfl))) (mvT hZ (hw _ (List.mem_of_getElem? (i := 24) rfl))) (notFace_of_selects (args := #[]) (mvT hZ (hw _ (List.mem_of_getElem? (i := 26) rfl)))) (mvT hZ (hw _ (List.mem_of_getElem? (i := 26) rfl))) (mvT hZ (hw _ (List.mem_of_getElem? (i := 25) rfl))) (by decide) (backOf (W := 0) (rm3n l Z a0 hw [] b45 q0 ch55 k6 (nar .byte x8) (nar .byte x9) h118 n0 Z133 F120 F121 V131 A127) hZ (hw _ (List.mem_of_getElem? (i := 27) rfl)) (hw _ (List.mem_of_getElem? (i := 3) rfl)) (by decide) (by decide)) q134a q134c (g := (mkF m 190 #[.val (.long q0), .second, .val (.long q1), .second, .val (.int p2), .val (.int p3), .val (.int p4), .val (.int fl), .val (.int x8), .val (.int x9), .val (.long rr), .second, .val (.int y0), .val (.int y1), .val (.ref b6), .val (.ref b10), .val (.ref b45), .val (.ref b65), .unset, .unset, .unset] [(.ref b45)])) rfl (by rw [hml]; rfl) (Steps.refl _) (argsL := []) (rest := []) (lenOf pd_7 rfl) rfl (by show 2 * 0 + _ ≤ _; exact Nat.le_of_eq rfl) (hb hby at_190) (fun _ _ => ⟨rfl, e118, (by decide : 6 + 0 ≤ _), (by decide : 12 + 0 ≤ _)⟩)
    dsimp only [Pt.U, Pt.locs, Pt.cells, Pt.slots] at X134 l134 y134 z134 st134 hQ134
    subst l134 y134 z134
    obtain ⟨rfl, N134q, eq134⟩ := hQ134
    have N134 := Fr.app N118 N134q
    refine own_step (fun t k => st134.trans k) ?_
    show own_Run p e below s _ _ _ T134 (mkF m 193 #[.val (.long q0), .second, .val (.long q1), .second, .val (.int p2), .val (.int p3), .val (.int p4), .val (.int fl), .val (.int x8), .val (.int x9), .val (.long rr), .second, .val (.int y0), .val (.int y1), .val (.ref b6), .val (.ref b10), .val (.ref b45), .val (.ref b65), .unset, .unset, .unset] [(.int (((own_lh q0) * (31 : Int32)) + (own_ah (nar .byte x8) (nar .byte x9))))])
    refine own_step (T' := T134) (g' := (mkF m 197 #[.val (.long q0), .second, .val (.long q1), .second, .val (.int p2), .val (.int p3), .val (.int p4), .val (.int fl), .val (.int x8), .val (.int x9), .val (.long rr), .second, .val (.int y0), .val (.int y1), .val (.ref b6), .val (.ref b10), .val (.ref b45), .val (.ref b65), .val (.int (((own_lh q0) * (31 : Int32)) + (own_ah (nar .byte x8) (nar .byte x9)))), .unset, .unset] [(.ref b65)])) (fun t k => ?_) ?_
    · show Steps p.tables e below (T134.setTop (mkF m 193 #[.val (.long q0), .second, .val (.long q1), .second, .val (.int p2), .val (.int p3), .val (.int p4), .val (.int fl), .val (.int x8), .val (.int x9), .val (.long rr), .second, .val (.int y0), .val (.int y1), .val (.ref b6), .val (.ref b10), .val (.ref b45), .val (.ref b65), .unset, .unset, .unset] [(.int (((own_lh q0) * (31 : Int32)) + (own_ah (nar .byte x8) (nar .byte x9))))])) _
      refine XS.istore X134.here hx rfl (hb hby at_193) rfl (l' := #[.val (.long q0), .second, .val (.long q1), .second, .val (.int p2), .val (.int p3), .val (.int p4), .val (.int fl), .val (.int x8), .val (.int x9), .val (.long rr), .second, .val (.int y0), .val (.int y1), .val (.ref b6), .val (.ref b10), .val (.ref b45), .val (.ref b65), .val (.int (((own_lh q0) * (31 : Int32)) + (own_ah (nar .byte x8) (nar .byte x9)))), .unset, .unset]) rfl ?_
      show Steps p.tables e below (T134.setTop (mkF m 195 #[.val (.long q0), .second, .val (.long q1), .second, .val (.int p2), .val (.int p3), .val (.int p4), .val (.int fl), .val (.int x8), .val (.int x9), .val (.long rr), .second, .val (.int y0), .val (.int y1), .val (.ref b6), .val (.ref b10), .val (.ref b45), .val (.ref b65), .val (.int (((own_lh q0) * (31 : Int32)) + (own_ah (nar .byte x8) (nar .byte x9)))), .unset, .unset] [])) _
      refine XS.aload X134.here hx rfl (hb hby at_195) rfl rfl ?_
      show Steps p.tables e below (T134.setTop (mkF m 197 #[.val (.long q0), .second, .val (.long q1), .second, .val (.int p2), .val (.int p3), .val (.int p4), .val (.int fl), .val (.int x8), .val (.int x9), .val (.long rr), .second, .val (.int y0), .val (.int y1), .val (.ref b6), .val (.ref b10), .val (.ref b45), .val (.ref b65), .val (.int (((own_lh q0) * (31 : Int32)) + (own_ah (nar .byte x8) (nar .byte x9)))), .unset, .unset] [(.ref b65)])) _
      exact k
    obtain ⟨cq135, kq135, q135a, q135b, q135c⟩ := isOf hZ eq134 A128
    obtain ⟨_, _, ⟨T135, L135, k135, n135⟩, -, X135, ⟨Lc135, hQ135, l135, y135, z135⟩, st135⟩ := X134.virtualBack hx (y := (⟨"com/example/bevaka/bevaka/store/Checkpoint", "hashCode", "()I"⟩ : MethodName)) (z := (⟨"com/example/bevaka/bevaka/store/Checkpoint", "hashCode", "()I"⟩ : MethodName)) hown (mvT hZ (hw _ (List.mem_of_getElem? (i := 23) rfl))) (mvT hZ (hw _ (List.mem_of_getElem? (i := 24) rfl))) (notFace_of_selects (args := #[]) (mvT hZ (hw _ (List.mem_of_getElem? (i := 26) rfl)))) (mvT hZ (hw _ (List.mem_of_getElem? (i := 26) rfl))) (mvT hZ (hw _ (List.mem_of_getElem? (i := 25) rfl))) (by decide) (backOf (W := 0) (rm3n l Z a0 hw [] b65 rr ch82 k10 (nar .byte y0) (nar .byte y1) h118 n0 Z133 F122 F123 V132 A129) hZ (hw _ (List.mem_of_getElem? (i := 27) rfl)) (hw _ (List.mem_of_getElem? (i := 3) rfl)) (by decide) (by decide)) q135a q135c (g := (mkF m 197 #[.val (.long q0), .second, .val (.long q1), .second, .val (.int p2), .val (.int p3), .val (.int p4), .val (.int fl), .val (.int x8), .val (.int x9), .val (.long rr), .second, .val (.int y0), .val (.int y1), .val (.ref b6), .val (.ref b10), .val (.ref b45), .val (.ref b65), .val (.int (((own_lh q0) * (31 : Int32)) + (own_ah (nar .byte x8) (nar .byte x9)))), .unset, .unset] [(.ref b65)])) rfl (by rw [hml]; rfl) (Steps.refl _) (argsL := []) (rest := []) (lenOf pd_7 rfl) rfl (by show 2 * 0 + _ ≤ _; exact Nat.le_of_eq rfl) (hb hby at_197) (fun _ _ => ⟨rfl, eq134, (by decide : 6 + 0 ≤ _), (by decide : 12 + 0 ≤ _)⟩)
    dsimp only [Pt.U, Pt.locs, Pt.cells, Pt.slots] at X135 l135 y135 z135 st135 hQ135
    subst l135 y135 z135
    obtain ⟨rfl, N135q, eq135⟩ := hQ135
    have N135 := Fr.app N134 N135q
    refine own_step (fun t k => st135.trans k) ?_
    show own_Run p e below s _ _ _ T135 (mkF m 200 #[.val (.long q0), .second, .val (.long q1), .second, .val (.int p2), .val (.int p3), .val (.int p4), .val (.int fl), .val (.int x8), .val (.int x9), .val (.long rr), .second, .val (.int y0), .val (.int y1), .val (.ref b6), .val (.ref b10), .val (.ref b45), .val (.ref b65), .val (.int (((own_lh q0) * (31 : Int32)) + (own_ah (nar .byte x8) (nar .byte x9)))), .unset, .unset] [(.int (((own_lh rr) * (31 : Int32)) + (own_ah (nar .byte y0) (nar .byte y1))))])
    refine own_step (T' := T135) (g' := (mkF m 206 #[.val (.long q0), .second, .val (.long q1), .second, .val (.int p2), .val (.int p3), .val (.int p4), .val (.int fl), .val (.int x8), .val (.int x9), .val (.long rr), .second, .val (.int y0), .val (.int y1), .val (.ref b6), .val (.ref b10), .val (.ref b45), .val (.ref b65), .val (.int (((own_lh q0) * (31 : Int32)) + (own_ah (nar .byte x8) (nar .byte x9)))), .val (.int (((own_lh rr) * (31 : Int32)) + (own_ah (nar .byte y0) (nar .byte y1)))), .unset] [(.ref b65), (.ref b45)])) (fun t k => ?_) ?_
    · show Steps p.tables e below (T135.setTop (mkF m 200 #[.val (.long q0), .second, .val (.long q1), .second, .val (.int p2), .val (.int p3), .val (.int p4), .val (.int fl), .val (.int x8), .val (.int x9), .val (.long rr), .second, .val (.int y0), .val (.int y1), .val (.ref b6), .val (.ref b10), .val (.ref b45), .val (.ref b65), .val (.int (((own_lh q0) * (31 : Int32)) + (own_ah (nar .byte x8) (nar .byte x9)))), .unset, .unset] [(.int (((own_lh rr) * (31 : Int32)) + (own_ah (nar .byte y0) (nar .byte y1))))])) _
      refine XS.istore X135.here hx rfl (hb hby at_200) rfl (l' := #[.val (.long q0), .second, .val (.long q1), .second, .val (.int p2), .val (.int p3), .val (.int p4), .val (.int fl), .val (.int x8), .val (.int x9), .val (.long rr), .second, .val (.int y0), .val (.int y1), .val (.ref b6), .val (.ref b10), .val (.ref b45), .val (.ref b65), .val (.int (((own_lh q0) * (31 : Int32)) + (own_ah (nar .byte x8) (nar .byte x9)))), .val (.int (((own_lh rr) * (31 : Int32)) + (own_ah (nar .byte y0) (nar .byte y1)))), .unset]) rfl ?_
      show Steps p.tables e below (T135.setTop (mkF m 202 #[.val (.long q0), .second, .val (.long q1), .second, .val (.int p2), .val (.int p3), .val (.int p4), .val (.int fl), .val (.int x8), .val (.int x9), .val (.long rr), .second, .val (.int y0), .val (.int y1), .val (.ref b6), .val (.ref b10), .val (.ref b45), .val (.ref b65), .val (.int (((own_lh q0) * (31 : Int32)) + (own_ah (nar .byte x8) (nar .byte x9)))), .val (.int (((own_lh rr) * (31 : Int32)) + (own_ah (nar .byte y0) (nar .byte y1)))), .unset] [])) _
      refine XS.aload X135.here hx rfl (hb hby at_202) rfl rfl ?_
      show Steps p.tables e below (T135.setTop (mkF m 204 #[.val (.long q0), .second, .val (.long q1), .second, .val (.int p2), .val (.int p3), .val (.int p4), .val (.int fl), .val (.int x8), .val (.int x9), .val (.long rr), .second, .val (.int y0), .val (.int y1), .val (.ref b6), .val (.ref b10), .val (.ref b45), .val (.ref b65), .val (.int (((own_lh q0) * (31 : Int32)) + (own_ah (nar .byte x8) (nar .byte x9)))), .val (.int (((own_lh rr) * (31 : Int32)) + (own_ah (nar .byte y0) (nar .byte y1)))), .unset] [(.ref b45)])) _
      refine XS.aload X135.here hx rfl (hb hby at_204) rfl rfl ?_
      show Steps p.tables e below (T135.setTop (mkF m 206 #[.val (.long q0), .second, .val (.long q1), .second, .val (.int p2), .val (.int p3), .val (.int p4), .val (.int fl), .val (.int x8), .val (.int x9), .val (.long rr), .second, .val (.int y0), .val (.int y1), .val (.ref b6), .val (.ref b10), .val (.ref b45), .val (.ref b65), .val (.int (((own_lh q0) * (31 : Int32)) + (own_ah (nar .byte x8) (nar .byte x9)))), .val (.int (((own_lh rr) * (31 : Int32)) + (own_ah (nar .byte y0) (nar .byte y1)))), .unset] [(.ref b65), (.ref b45)])) _
      exact k
    obtain ⟨cq136, kq136, q136a, q136b, q136c⟩ := isOf hZ eq135 A126
    obtain ⟨_, _, ⟨T136, L136, k136, n136⟩, -, X136, ⟨Lc136, hQ136, l136, y136, z136⟩, st136⟩ := X135.virtualBack hx (y := (⟨"com/example/bevaka/bevaka/store/Checkpoint", "equals", "(Ljava/lang/Object;)Z"⟩ : MethodName)) (z := (⟨"com/example/bevaka/bevaka/store/Checkpoint", "equals", "(Ljava/lang/Object;)Z"⟩ : MethodName)) hown (mvT hZ (hw _ (List.mem_of_getElem? (i := 44) rfl))) (mvT hZ (hw _ (List.mem_of_getElem? (i := 45) rfl))) (notFace_of_selects (args := #[]) (mvT hZ (hw _ (List.mem_of_getElem? (i := 47) rfl)))) (mvT hZ (hw _ (List.mem_of_getElem? (i := 47) rfl))) (mvT hZ (hw _ (List.mem_of_getElem? (i := 46) rfl))) (by decide) (backOf (W := 0) (rm8n l Z a0 hw [] b45 b65 q0 rr ch55 ch82 k6 k10 (nar .byte x8) (nar .byte x9) (nar .byte y0) (nar .byte y1) h118 n0 Z133 A128 F120 F121 F122 F123 V131 V132 ne97) hZ (hw _ (List.mem_of_getElem? (i := 48) rfl)) (hw _ (List.mem_of_getElem? (i := 3) rfl)) (by decide) (by decide)) q136a q136c (g := (mkF m 206 #[.val (.long q0), .second, .val (.long q1), .second, .val (.int p2), .val (.int p3), .val (.int p4), .val (.int fl), .val (.int x8), .val (.int x9), .val (.long rr), .second, .val (.int y0), .val (.int y1), .val (.ref b6), .val (.ref b10), .val (.ref b45), .val (.ref b65), .val (.int (((own_lh q0) * (31 : Int32)) + (own_ah (nar .byte x8) (nar .byte x9)))), .val (.int (((own_lh rr) * (31 : Int32)) + (own_ah (nar .byte y0) (nar .byte y1)))), .unset] [(.ref b65), (.ref b45)])) rfl (by rw [hml]; rfl) (Steps.refl _) (argsL := [(.ref b65)]) (rest := []) (lenOf pd_8 rfl) rfl (by show 2 * 0 + _ ≤ _; exact Nat.le_of_eq rfl) (hb hby at_206) (fun _ _ => ⟨rfl, eq135, (by decide : 6 + 0 ≤ _), (by decide : 12 + 0 ≤ _)⟩)
    dsimp only [Pt.U, Pt.locs, Pt.cells, Pt.slots] at X136 l136 y136 z136 st136 hQ136
    subst l136 y136 z136
    obtain ⟨rq136, rfl, N136q, eq136, hr136⟩ := hQ136
    have N136 := Fr.app N135 N136q
    refine own_step (fun t k => st136.trans k) ?_
    show own_Run p e below s _ _ _ T136 (mkF m 209 #[.val (.long q0), .second, .val (.long q1), .second, .val (.int p2), .val (.int p3), .val (.int p4), .val (.int fl), .val (.int x8), .val (.int x9), .val (.long rr), .second, .val (.int y0), .val (.int y1), .val (.ref b6), .val (.ref b10), .val (.ref b45), .val (.ref b65), .val (.int (((own_lh q0) * (31 : Int32)) + (own_ah (nar .byte x8) (nar .byte x9)))), .val (.int (((own_lh rr) * (31 : Int32)) + (own_ah (nar .byte y0) (nar .byte y1)))), .unset] [(.int rq136)])
    refine own_step (T' := T136) (g' := (mkF m 220 #[.val (.long q0), .second, .val (.long q1), .second, .val (.int p2), .val (.int p3), .val (.int p4), .val (.int fl), .val (.int x8), .val (.int x9), .val (.long rr), .second, .val (.int y0), .val (.int y1), .val (.ref b6), .val (.ref b10), .val (.ref b45), .val (.ref b65), .val (.int (((own_lh q0) * (31 : Int32)) + (own_ah (nar .byte x8) (nar .byte x9)))), .val (.int (((own_lh rr) * (31 : Int32)) + (own_ah (nar .byte y0) (nar .byte y1)))), .val (.int rq136)] [(.int x9), (.int x8), (.int fl), (.long q0), (.int (((own_lh q0) * (31 : Int32)) + (own_ah (nar .byte x8) (nar .byte x9))))])) (fun t k => ?_) ?_
    · show Steps p.tables e below (T136.setTop (mkF m 209 #[.val (.long q0), .second, .val (.long q1), .second, .val (.int p2), .val (.int p3), .val (.int p4), .val (.int fl), .val (.int x8), .val (.int x9), .val (.long rr), .second, .val (.int y0), .val (.int y1), .val (.ref b6), .val (.ref b10), .val (.ref b45), .val (.ref b65), .val (.int (((own_lh q0) * (31 : Int32)) + (own_ah (nar .byte x8) (nar .byte x9)))), .val (.int (((own_lh rr) * (31 : Int32)) + (own_ah (nar .byte y0) (nar .byte y1)))), .unset] [(.int rq136)])) _
      refine XS.istore X136.here hx rfl (hb hby at_209) rfl (l' := #[.val (.long q0), .second, .val (.long q1), .second, .val (.int p2), .val (.int p3), .val (.int p4), .val (.int fl), .val (.int x8), .val (.int x9), .val (.long rr), .second, .val (.int y0), .val (.int y1), .val (.ref b6), .val (.ref b10), .val (.ref b45), .val (.ref b65), .val (.int (((own_lh q0) * (31 : Int32)) + (own_ah (nar .byte x8) (nar .byte x9)))), .val (.int (((own_lh rr) * (31 : Int32)) + (own_ah (nar .byte y0) (nar .byte y1)))), .val (.int rq136)]) rfl ?_
      show Steps p.tables e below (T136.setTop (mkF m 211 #[.val (.long q0), .second, .val (.long q1), .second, .val (.int p2), .val (.int p3), .val (.int p4), .val (.int fl), .val (.int x8), .val (.int x9), .val (.long rr), .second, .val (.int y0), .val (.int y1), .val (.ref b6), .val (.ref b10), .val (.ref b45), .val (.ref b65), .val (.int (((own_lh q0) * (31 : Int32)) + (own_ah (nar .byte x8) (nar .byte x9)))), .val (.int (((own_lh rr) * (31 : Int32)) + (own_ah (nar .byte y0) (nar .byte y1)))), .val (.int rq136)] [])) _
      refine XS.iload X136.here hx rfl (hb hby at_211) rfl ?_
      show Steps p.tables e below (T136.setTop (mkF m 213 #[.val (.long q0), .second, .val (.long q1), .second, .val (.int p2), .val (.int p3), .val (.int p4), .val (.int fl), .val (.int x8), .val (.int x9), .val (.long rr), .second, .val (.int y0), .val (.int y1), .val (.ref b6), .val (.ref b10), .val (.ref b45), .val (.ref b65), .val (.int (((own_lh q0) * (31 : Int32)) + (own_ah (nar .byte x8) (nar .byte x9)))), .val (.int (((own_lh rr) * (31 : Int32)) + (own_ah (nar .byte y0) (nar .byte y1)))), .val (.int rq136)] [(.int (((own_lh q0) * (31 : Int32)) + (own_ah (nar .byte x8) (nar .byte x9))))])) _
      refine XS.lloadN X136.here hx rfl (hb hby at_213) rfl ?_
      show Steps p.tables e below (T136.setTop (mkF m 214 #[.val (.long q0), .second, .val (.long q1), .second, .val (.int p2), .val (.int p3), .val (.int p4), .val (.int fl), .val (.int x8), .val (.int x9), .val (.long rr), .second, .val (.int y0), .val (.int y1), .val (.ref b6), .val (.ref b10), .val (.ref b45), .val (.ref b65), .val (.int (((own_lh q0) * (31 : Int32)) + (own_ah (nar .byte x8) (nar .byte x9)))), .val (.int (((own_lh rr) * (31 : Int32)) + (own_ah (nar .byte y0) (nar .byte y1)))), .val (.int rq136)] [(.long q0), (.int (((own_lh q0) * (31 : Int32)) + (own_ah (nar .byte x8) (nar .byte x9))))])) _
      refine XS.iload X136.here hx rfl (hb hby at_214) rfl ?_
      show Steps p.tables e below (T136.setTop (mkF m 216 #[.val (.long q0), .second, .val (.long q1), .second, .val (.int p2), .val (.int p3), .val (.int p4), .val (.int fl), .val (.int x8), .val (.int x9), .val (.long rr), .second, .val (.int y0), .val (.int y1), .val (.ref b6), .val (.ref b10), .val (.ref b45), .val (.ref b65), .val (.int (((own_lh q0) * (31 : Int32)) + (own_ah (nar .byte x8) (nar .byte x9)))), .val (.int (((own_lh rr) * (31 : Int32)) + (own_ah (nar .byte y0) (nar .byte y1)))), .val (.int rq136)] [(.int fl), (.long q0), (.int (((own_lh q0) * (31 : Int32)) + (own_ah (nar .byte x8) (nar .byte x9))))])) _
      refine XS.iload X136.here hx rfl (hb hby at_216) rfl ?_
      show Steps p.tables e below (T136.setTop (mkF m 218 #[.val (.long q0), .second, .val (.long q1), .second, .val (.int p2), .val (.int p3), .val (.int p4), .val (.int fl), .val (.int x8), .val (.int x9), .val (.long rr), .second, .val (.int y0), .val (.int y1), .val (.ref b6), .val (.ref b10), .val (.ref b45), .val (.ref b65), .val (.int (((own_lh q0) * (31 : Int32)) + (own_ah (nar .byte x8) (nar .byte x9)))), .val (.int (((own_lh rr) * (31 : Int32)) + (own_ah (nar .byte y0) (nar .byte y1)))), .val (.int rq136)] [(.int x8), (.int fl), (.long q0), (.int (((own_lh q0) * (31 : Int32)) + (own_ah (nar .byte x8) (nar .byte x9))))])) _
      refine XS.iload X136.here hx rfl (hb hby at_218) rfl ?_
      show Steps p.tables e below (T136.setTop (mkF m 220 #[.val (.long q0), .second, .val (.long q1), .second, .val (.int p2), .val (.int p3), .val (.int p4), .val (.int fl), .val (.int x8), .val (.int x9), .val (.long rr), .second, .val (.int y0), .val (.int y1), .val (.ref b6), .val (.ref b10), .val (.ref b45), .val (.ref b65), .val (.int (((own_lh q0) * (31 : Int32)) + (own_ah (nar .byte x8) (nar .byte x9)))), .val (.int (((own_lh rr) * (31 : Int32)) + (own_ah (nar .byte y0) (nar .byte y1)))), .val (.int rq136)] [(.int x9), (.int x8), (.int fl), (.long q0), (.int (((own_lh q0) * (31 : Int32)) + (own_ah (nar .byte x8) (nar .byte x9))))])) _
      exact k
    obtain ⟨_, _, ⟨T137, L137, k137, n137⟩, -, X137, ⟨Lc137, hQ137, l137, y137, z137⟩, st137⟩ := Jvm.LawKit.callS X136 hx (y := (⟨"com/example/bevaka/bevaka/store/CheckpointHashCodePinLaw", "expected", "(JZBB)I"⟩ : MethodName)) hown (mvT hZ (hw _ (List.mem_of_getElem? (i := 51) rfl))) (mvT hZ (hw _ (List.mem_of_getElem? (i := 52) rfl))) (mvT hZ (hw _ (List.mem_of_getElem? (i := 53) rfl))) (mvT hZ (hw _ (List.mem_of_getElem? (i := 54) rfl))) (by decide) (backOf (W := 1) (rm9 l Z a0 hw [] q0 fl x8 x9  h118 n0 Z133) hZ (hw _ (List.mem_of_getElem? (i := 54) rfl)) (hw _ (List.mem_of_getElem? (i := 53) rfl)) (by decide) (by decide)) (g := (mkF m 220 #[.val (.long q0), .second, .val (.long q1), .second, .val (.int p2), .val (.int p3), .val (.int p4), .val (.int fl), .val (.int x8), .val (.int x9), .val (.long rr), .second, .val (.int y0), .val (.int y1), .val (.ref b6), .val (.ref b10), .val (.ref b45), .val (.ref b65), .val (.int (((own_lh q0) * (31 : Int32)) + (own_ah (nar .byte x8) (nar .byte x9)))), .val (.int (((own_lh rr) * (31 : Int32)) + (own_ah (nar .byte y0) (nar .byte y1)))), .val (.int rq136)] [(.int x9), (.int x8), (.int fl), (.long q0), (.int (((own_lh q0) * (31 : Int32)) + (own_ah (nar .byte x8) (nar .byte x9))))])) rfl (by rw [hml]; rfl) (argsL := [(.long q0), (.int fl), (.int x8), (.int x9)]) (rest := [(.int (((own_lh q0) * (31 : Int32)) + (own_ah (nar .byte x8) (nar .byte x9))))]) (lenOf pd_9 rfl) rfl (by show 2 * 0 + _ ≤ _; exact Nat.le_of_eq rfl) (hb hby at_220) (fun _ _ => ⟨rfl, eq136, (by decide : 6 + 0 ≤ _), (by decide : 12 + 0 ≤ _)⟩)
    dsimp only [Pt.U, Pt.locs, Pt.cells, Pt.slots] at X137 l137 y137 z137 st137 hQ137
    subst l137 y137 z137
    obtain ⟨rfl, N137q, eq137⟩ := hQ137
    have N137 := Fr.app N136 N137q
    refine own_step st137 ?_
    show own_Run p e below s _ _ _ T137 (mkF m 223 #[.val (.long q0), .second, .val (.long q1), .second, .val (.int p2), .val (.int p3), .val (.int p4), .val (.int fl), .val (.int x8), .val (.int x9), .val (.long rr), .second, .val (.int y0), .val (.int y1), .val (.ref b6), .val (.ref b10), .val (.ref b45), .val (.ref b65), .val (.int (((own_lh q0) * (31 : Int32)) + (own_ah (nar .byte x8) (nar .byte x9)))), .val (.int (((own_lh rr) * (31 : Int32)) + (own_ah (nar .byte y0) (nar .byte y1)))), .val (.int rq136)] [(.int (own_ex q0 fl x8 x9)), (.int (((own_lh q0) * (31 : Int32)) + (own_ah (nar .byte x8) (nar .byte x9))))])
    refine own_step (T' := T137) (g' := (mkF m 236 #[.val (.long q0), .second, .val (.long q1), .second, .val (.int p2), .val (.int p3), .val (.int p4), .val (.int fl), .val (.int x8), .val (.int x9), .val (.long rr), .second, .val (.int y0), .val (.int y1), .val (.ref b6), .val (.ref b10), .val (.ref b45), .val (.ref b65), .val (.int (((own_lh q0) * (31 : Int32)) + (own_ah (nar .byte x8) (nar .byte x9)))), .val (.int (((own_lh rr) * (31 : Int32)) + (own_ah (nar .byte y0) (nar .byte y1)))), .val (.int rq136)] [(.int y1), (.int y0), (.int fl), (.long rr), (.int (((own_lh rr) * (31 : Int32)) + (own_ah (nar .byte y0) (nar .byte y1))))])) (fun t k => ?_) ?_
    · show Steps p.tables e below (T137.setTop (mkF m 223 #[.val (.long q0), .second, .val (.long q1), .second, .val (.int p2), .val (.int p3), .val (.int p4), .val (.int fl), .val (.int x8), .val (.int x9), .val (.long rr), .second, .val (.int y0), .val (.int y1), .val (.ref b6), .val (.ref b10), .val (.ref b45), .val (.ref b65), .val (.int (((own_lh q0) * (31 : Int32)) + (own_ah (nar .byte x8) (nar .byte x9)))), .val (.int (((own_lh rr) * (31 : Int32)) + (own_ah (nar .byte y0) (nar .byte y1)))), .val (.int rq136)] [(.int (own_ex q0 fl x8 x9)), (.int (((own_lh q0) * (31 : Int32)) + (own_ah (nar .byte x8) (nar .byte x9))))])) _
      refine XS.icmpNo X137.here hx rfl (hb hby at_223) rfl (teq (own_hn hc5 htx8 htx9 : (((own_lh q0) * (31 : Int32)) + (own_ah (nar .byte x8) (nar .byte x9))) = (own_ex q0 fl x8 x9))).2 ?_
      show Steps p.tables e below (T137.setTop (mkF m 226 #[.val (.long q0), .second, .val (.long q1), .second, .val (.int p2), .val (.int p3), .val (.int p4), .val (.int fl), .val (.int x8), .val (.int x9), .val (.long rr), .second, .val (.int y0), .val (.int y1), .val (.ref b6), .val (.ref b10), .val (.ref b45), .val (.ref b65), .val (.int (((own_lh q0) * (31 : Int32)) + (own_ah (nar .byte x8) (nar .byte x9)))), .val (.int (((own_lh rr) * (31 : Int32)) + (own_ah (nar .byte y0) (nar .byte y1)))), .val (.int rq136)] [])) _
      refine XS.iload X137.here hx rfl (hb hby at_226) rfl ?_
      show Steps p.tables e below (T137.setTop (mkF m 228 #[.val (.long q0), .second, .val (.long q1), .second, .val (.int p2), .val (.int p3), .val (.int p4), .val (.int fl), .val (.int x8), .val (.int x9), .val (.long rr), .second, .val (.int y0), .val (.int y1), .val (.ref b6), .val (.ref b10), .val (.ref b45), .val (.ref b65), .val (.int (((own_lh q0) * (31 : Int32)) + (own_ah (nar .byte x8) (nar .byte x9)))), .val (.int (((own_lh rr) * (31 : Int32)) + (own_ah (nar .byte y0) (nar .byte y1)))), .val (.int rq136)] [(.int (((own_lh rr) * (31 : Int32)) + (own_ah (nar .byte y0) (nar .byte y1))))])) _
      refine XS.lload X137.here hx rfl (hb hby at_228) rfl ?_
      show Steps p.tables e below (T137.setTop (mkF m 230 #[.val (.long q0), .second, .val (.long q1), .second, .val (.int p2), .val (.int p3), .val (.int p4), .val (.int fl), .val (.int x8), .val (.int x9), .val (.long rr), .second, .val (.int y0), .val (.int y1), .val (.ref b6), .val (.ref b10), .val (.ref b45), .val (.ref b65), .val (.int (((own_lh q0) * (31 : Int32)) + (own_ah (nar .byte x8) (nar .byte x9)))), .val (.int (((own_lh rr) * (31 : Int32)) + (own_ah (nar .byte y0) (nar .byte y1)))), .val (.int rq136)] [(.long rr), (.int (((own_lh rr) * (31 : Int32)) + (own_ah (nar .byte y0) (nar .byte y1))))])) _
      refine XS.iload X137.here hx rfl (hb hby at_230) rfl ?_
      show Steps p.tables e below (T137.setTop (mkF m 232 #[.val (.long q0), .second, .val (.long q1), .second, .val (.int p2), .val (.int p3), .val (.int p4), .val (.int fl), .val (.int x8), .val (.int x9), .val (.long rr), .second, .val (.int y0), .val (.int y1), .val (.ref b6), .val (.ref b10), .val (.ref b45), .val (.ref b65), .val (.int (((own_lh q0) * (31 : Int32)) + (own_ah (nar .byte x8) (nar .byte x9)))), .val (.int (((own_lh rr) * (31 : Int32)) + (own_ah (nar .byte y0) (nar .byte y1)))), .val (.int rq136)] [(.int fl), (.long rr), (.int (((own_lh rr) * (31 : Int32)) + (own_ah (nar .byte y0) (nar .byte y1))))])) _
      refine XS.iload X137.here hx rfl (hb hby at_232) rfl ?_
      show Steps p.tables e below (T137.setTop (mkF m 234 #[.val (.long q0), .second, .val (.long q1), .second, .val (.int p2), .val (.int p3), .val (.int p4), .val (.int fl), .val (.int x8), .val (.int x9), .val (.long rr), .second, .val (.int y0), .val (.int y1), .val (.ref b6), .val (.ref b10), .val (.ref b45), .val (.ref b65), .val (.int (((own_lh q0) * (31 : Int32)) + (own_ah (nar .byte x8) (nar .byte x9)))), .val (.int (((own_lh rr) * (31 : Int32)) + (own_ah (nar .byte y0) (nar .byte y1)))), .val (.int rq136)] [(.int y0), (.int fl), (.long rr), (.int (((own_lh rr) * (31 : Int32)) + (own_ah (nar .byte y0) (nar .byte y1))))])) _
      refine XS.iload X137.here hx rfl (hb hby at_234) rfl ?_
      show Steps p.tables e below (T137.setTop (mkF m 236 #[.val (.long q0), .second, .val (.long q1), .second, .val (.int p2), .val (.int p3), .val (.int p4), .val (.int fl), .val (.int x8), .val (.int x9), .val (.long rr), .second, .val (.int y0), .val (.int y1), .val (.ref b6), .val (.ref b10), .val (.ref b45), .val (.ref b65), .val (.int (((own_lh q0) * (31 : Int32)) + (own_ah (nar .byte x8) (nar .byte x9)))), .val (.int (((own_lh rr) * (31 : Int32)) + (own_ah (nar .byte y0) (nar .byte y1)))), .val (.int rq136)] [(.int y1), (.int y0), (.int fl), (.long rr), (.int (((own_lh rr) * (31 : Int32)) + (own_ah (nar .byte y0) (nar .byte y1))))])) _
      exact k
    obtain ⟨_, _, ⟨T139, L139, k139, n139⟩, -, X139, ⟨Lc139, hQ139, l139, y139, z139⟩, st139⟩ := Jvm.LawKit.callS X137 hx (y := (⟨"com/example/bevaka/bevaka/store/CheckpointHashCodePinLaw", "expected", "(JZBB)I"⟩ : MethodName)) hown (mvT hZ (hw _ (List.mem_of_getElem? (i := 51) rfl))) (mvT hZ (hw _ (List.mem_of_getElem? (i := 52) rfl))) (mvT hZ (hw _ (List.mem_of_getElem? (i := 53) rfl))) (mvT hZ (hw _ (List.mem_of_getElem? (i := 54) rfl))) (by decide) (backOf (W := 1) (rm9 l Z a0 hw [] rr fl y0 y1  h118 n0 Z133) hZ (hw _ (List.mem_of_getElem? (i := 54) rfl)) (hw _ (List.mem_of_getElem? (i := 53) rfl)) (by decide) (by decide)) (g := (mkF m 236 #[.val (.long q0), .second, .val (.long q1), .second, .val (.int p2), .val (.int p3), .val (.int p4), .val (.int fl), .val (.int x8), .val (.int x9), .val (.long rr), .second, .val (.int y0), .val (.int y1), .val (.ref b6), .val (.ref b10), .val (.ref b45), .val (.ref b65), .val (.int (((own_lh q0) * (31 : Int32)) + (own_ah (nar .byte x8) (nar .byte x9)))), .val (.int (((own_lh rr) * (31 : Int32)) + (own_ah (nar .byte y0) (nar .byte y1)))), .val (.int rq136)] [(.int y1), (.int y0), (.int fl), (.long rr), (.int (((own_lh rr) * (31 : Int32)) + (own_ah (nar .byte y0) (nar .byte y1))))])) rfl (by rw [hml]; rfl) (argsL := [(.long rr), (.int fl), (.int y0), (.int y1)]) (rest := [(.int (((own_lh rr) * (31 : Int32)) + (own_ah (nar .byte y0) (nar .byte y1))))]) (lenOf pd_9 rfl) rfl (by show 2 * 0 + _ ≤ _; exact Nat.le_of_eq rfl) (hb hby at_236) (fun _ _ => ⟨rfl, eq137, (by decide : 6 + 0 ≤ _), (by decide : 12 + 0 ≤ _)⟩)
    dsimp only [Pt.U, Pt.locs, Pt.cells, Pt.slots] at X139 l139 y139 z139 st139 hQ139
    subst l139 y139 z139
    obtain ⟨rfl, N139q, eq139⟩ := hQ139
    have N139 := Fr.app N137 N139q
    refine own_step st139 ?_
    show own_Run p e below s _ _ _ T139 (mkF m 239 #[.val (.long q0), .second, .val (.long q1), .second, .val (.int p2), .val (.int p3), .val (.int p4), .val (.int fl), .val (.int x8), .val (.int x9), .val (.long rr), .second, .val (.int y0), .val (.int y1), .val (.ref b6), .val (.ref b10), .val (.ref b45), .val (.ref b65), .val (.int (((own_lh q0) * (31 : Int32)) + (own_ah (nar .byte x8) (nar .byte x9)))), .val (.int (((own_lh rr) * (31 : Int32)) + (own_ah (nar .byte y0) (nar .byte y1)))), .val (.int rq136)] [(.int (own_ex rr fl y0 y1)), (.int (((own_lh rr) * (31 : Int32)) + (own_ah (nar .byte y0) (nar .byte y1))))])
    refine own_step (T' := T139) (g' := (mkF m 244 #[.val (.long q0), .second, .val (.long q1), .second, .val (.int p2), .val (.int p3), .val (.int p4), .val (.int fl), .val (.int x8), .val (.int x9), .val (.long rr), .second, .val (.int y0), .val (.int y1), .val (.ref b6), .val (.ref b10), .val (.ref b45), .val (.ref b65), .val (.int (((own_lh q0) * (31 : Int32)) + (own_ah (nar .byte x8) (nar .byte x9)))), .val (.int (((own_lh rr) * (31 : Int32)) + (own_ah (nar .byte y0) (nar .byte y1)))), .val (.int rq136)] [(.int rq136)])) (fun t k => ?_) ?_
    · show Steps p.tables e below (T139.setTop (mkF m 239 #[.val (.long q0), .second, .val (.long q1), .second, .val (.int p2), .val (.int p3), .val (.int p4), .val (.int fl), .val (.int x8), .val (.int x9), .val (.long rr), .second, .val (.int y0), .val (.int y1), .val (.ref b6), .val (.ref b10), .val (.ref b45), .val (.ref b65), .val (.int (((own_lh q0) * (31 : Int32)) + (own_ah (nar .byte x8) (nar .byte x9)))), .val (.int (((own_lh rr) * (31 : Int32)) + (own_ah (nar .byte y0) (nar .byte y1)))), .val (.int rq136)] [(.int (own_ex rr fl y0 y1)), (.int (((own_lh rr) * (31 : Int32)) + (own_ah (nar .byte y0) (nar .byte y1))))])) _
      refine XS.icmpNo X139.here hx rfl (hb hby at_239) rfl (teq (own_hn hc5 hty0 hty1 : (((own_lh rr) * (31 : Int32)) + (own_ah (nar .byte y0) (nar .byte y1))) = (own_ex rr fl y0 y1))).2 ?_
      show Steps p.tables e below (T139.setTop (mkF m 242 #[.val (.long q0), .second, .val (.long q1), .second, .val (.int p2), .val (.int p3), .val (.int p4), .val (.int fl), .val (.int x8), .val (.int x9), .val (.long rr), .second, .val (.int y0), .val (.int y1), .val (.ref b6), .val (.ref b10), .val (.ref b45), .val (.ref b65), .val (.int (((own_lh q0) * (31 : Int32)) + (own_ah (nar .byte x8) (nar .byte x9)))), .val (.int (((own_lh rr) * (31 : Int32)) + (own_ah (nar .byte y0) (nar .byte y1)))), .val (.int rq136)] [])) _
      refine XS.iload X139.here hx rfl (hb hby at_242) rfl ?_
      show Steps p.tables e below (T139.setTop (mkF m 244 #[.val (.long q0), .second, .val (.long q1), .second, .val (.int p2), .val (.int p3), .val (.int p4), .val (.int fl), .val (.int x8), .val (.int x9), .val (.long rr), .second, .val (.int y0), .val (.int y1), .val (.ref b6), .val (.ref b10), .val (.ref b45), .val (.ref b65), .val (.int (((own_lh q0) * (31 : Int32)) + (own_ah (nar .byte x8) (nar .byte x9)))), .val (.int (((own_lh rr) * (31 : Int32)) + (own_ah (nar .byte y0) (nar .byte y1)))), .val (.int rq136)] [(.int rq136)])) _
      exact k
    by_cases hc141 : rq136 = (0 : Int32)
    · skip
      refine own_step (T' := T139) (g' := (mkF m 259 #[.val (.long q0), .second, .val (.long q1), .second, .val (.int p2), .val (.int p3), .val (.int p4), .val (.int fl), .val (.int x8), .val (.int x9), .val (.long rr), .second, .val (.int y0), .val (.int y1), .val (.ref b6), .val (.ref b10), .val (.ref b45), .val (.ref b65), .val (.int (((own_lh q0) * (31 : Int32)) + (own_ah (nar .byte x8) (nar .byte x9)))), .val (.int (((own_lh rr) * (31 : Int32)) + (own_ah (nar .byte y0) (nar .byte y1)))), .val (.int rq136)] [(.int (1 : Int32))])) (fun t k => ?_) ?_
      · show Steps p.tables e below (T139.setTop (mkF m 244 #[.val (.long q0), .second, .val (.long q1), .second, .val (.int p2), .val (.int p3), .val (.int p4), .val (.int fl), .val (.int x8), .val (.int x9), .val (.long rr), .second, .val (.int y0), .val (.int y1), .val (.ref b6), .val (.ref b10), .val (.ref b45), .val (.ref b65), .val (.int (((own_lh q0) * (31 : Int32)) + (own_ah (nar .byte x8) (nar .byte x9)))), .val (.int (((own_lh rr) * (31 : Int32)) + (own_ah (nar .byte y0) (nar .byte y1)))), .val (.int rq136)] [(.int rq136)])) _
        refine XS.ifYes X139.here hx rfl (pc0 := 244) (pc' := 254) rfl (hb hby at_244) rfl ((if0 _ _).trans (teq hc141).1) (by decide) (by decide) ?_
        show Steps p.tables e below (T139.setTop (mkF m 254 #[.val (.long q0), .second, .val (.long q1), .second, .val (.int p2), .val (.int p3), .val (.int p4), .val (.int fl), .val (.int x8), .val (.int x9), .val (.long rr), .second, .val (.int y0), .val (.int y1), .val (.ref b6), .val (.ref b10), .val (.ref b45), .val (.ref b65), .val (.int (((own_lh q0) * (31 : Int32)) + (own_ah (nar .byte x8) (nar .byte x9)))), .val (.int (((own_lh rr) * (31 : Int32)) + (own_ah (nar .byte y0) (nar .byte y1)))), .val (.int rq136)] [])) _
        refine XS.iconst X139.here hx rfl (hb hby at_254) ?_
        show Steps p.tables e below (T139.setTop (mkF m 255 #[.val (.long q0), .second, .val (.long q1), .second, .val (.int p2), .val (.int p3), .val (.int p4), .val (.int fl), .val (.int x8), .val (.int x9), .val (.long rr), .second, .val (.int y0), .val (.int y1), .val (.ref b6), .val (.ref b10), .val (.ref b45), .val (.ref b65), .val (.int (((own_lh q0) * (31 : Int32)) + (own_ah (nar .byte x8) (nar .byte x9)))), .val (.int (((own_lh rr) * (31 : Int32)) + (own_ah (nar .byte y0) (nar .byte y1)))), .val (.int rq136)] [(.int (1 : Int32))])) _
        refine XS.goto X139.here hx rfl (pc0 := 255) (pc' := 259) rfl (hb hby at_255) (by decide) (by decide) ?_
        show Steps p.tables e below (T139.setTop (mkF m 259 #[.val (.long q0), .second, .val (.long q1), .second, .val (.int p2), .val (.int p3), .val (.int p4), .val (.int fl), .val (.int x8), .val (.int x9), .val (.long rr), .second, .val (.int y0), .val (.int y1), .val (.ref b6), .val (.ref b10), .val (.ref b45), .val (.ref b65), .val (.int (((own_lh q0) * (31 : Int32)) + (own_ah (nar .byte x8) (nar .byte x9)))), .val (.int (((own_lh rr) * (31 : Int32)) + (own_ah (nar .byte y0) (nar .byte y1)))), .val (.int rq136)] [(.int (1 : Int32))])) _
        exact k
      refine own_retN X139 hx (t := .boolean) Bd.returns (by simp) (hb hby at_259) (BodyLoose.notSynchronized Bd) (by decide) (by decide) ?_
      rw [show T139.heap = h118 from eq139]
      exact ⟨rfl, N139⟩
    · skip
      refine own_step (T' := T139) (g' := (mkF m 259 #[.val (.long q0), .second, .val (.long q1), .second, .val (.int p2), .val (.int p3), .val (.int p4), .val (.int fl), .val (.int x8), .val (.int x9), .val (.long rr), .second, .val (.int y0), .val (.int y1), .val (.ref b6), .val (.ref b10), .val (.ref b45), .val (.ref b65), .val (.int (((own_lh q0) * (31 : Int32)) + (own_ah (nar .byte x8) (nar .byte x9)))), .val (.int (((own_lh rr) * (31 : Int32)) + (own_ah (nar .byte y0) (nar .byte y1)))), .val (.int rq136)] [(.int (1 : Int32))])) (fun t k => ?_) ?_
      · show Steps p.tables e below (T139.setTop (mkF m 244 #[.val (.long q0), .second, .val (.long q1), .second, .val (.int p2), .val (.int p3), .val (.int p4), .val (.int fl), .val (.int x8), .val (.int x9), .val (.long rr), .second, .val (.int y0), .val (.int y1), .val (.ref b6), .val (.ref b10), .val (.ref b45), .val (.ref b65), .val (.int (((own_lh q0) * (31 : Int32)) + (own_ah (nar .byte x8) (nar .byte x9)))), .val (.int (((own_lh rr) * (31 : Int32)) + (own_ah (nar .byte y0) (nar .byte y1)))), .val (.int rq136)] [(.int rq136)])) _
        refine XS.ifNo X139.here hx rfl (hb hby at_244) rfl ((if0 _ _).trans (feq hc141).1) ?_
        show Steps p.tables e below (T139.setTop (mkF m 247 #[.val (.long q0), .second, .val (.long q1), .second, .val (.int p2), .val (.int p3), .val (.int p4), .val (.int fl), .val (.int x8), .val (.int x9), .val (.long rr), .second, .val (.int y0), .val (.int y1), .val (.ref b6), .val (.ref b10), .val (.ref b45), .val (.ref b65), .val (.int (((own_lh q0) * (31 : Int32)) + (own_ah (nar .byte x8) (nar .byte x9)))), .val (.int (((own_lh rr) * (31 : Int32)) + (own_ah (nar .byte y0) (nar .byte y1)))), .val (.int rq136)] [])) _
        refine XS.iload X139.here hx rfl (hb hby at_247) rfl ?_
        show Steps p.tables e below (T139.setTop (mkF m 249 #[.val (.long q0), .second, .val (.long q1), .second, .val (.int p2), .val (.int p3), .val (.int p4), .val (.int fl), .val (.int x8), .val (.int x9), .val (.long rr), .second, .val (.int y0), .val (.int y1), .val (.ref b6), .val (.ref b10), .val (.ref b45), .val (.ref b65), .val (.int (((own_lh q0) * (31 : Int32)) + (own_ah (nar .byte x8) (nar .byte x9)))), .val (.int (((own_lh rr) * (31 : Int32)) + (own_ah (nar .byte y0) (nar .byte y1)))), .val (.int rq136)] [(.int (((own_lh q0) * (31 : Int32)) + (own_ah (nar .byte x8) (nar .byte x9))))])) _
        refine XS.iload X139.here hx rfl (hb hby at_249) rfl ?_
        show Steps p.tables e below (T139.setTop (mkF m 251 #[.val (.long q0), .second, .val (.long q1), .second, .val (.int p2), .val (.int p3), .val (.int p4), .val (.int fl), .val (.int x8), .val (.int x9), .val (.long rr), .second, .val (.int y0), .val (.int y1), .val (.ref b6), .val (.ref b10), .val (.ref b45), .val (.ref b65), .val (.int (((own_lh q0) * (31 : Int32)) + (own_ah (nar .byte x8) (nar .byte x9)))), .val (.int (((own_lh rr) * (31 : Int32)) + (own_ah (nar .byte y0) (nar .byte y1)))), .val (.int rq136)] [(.int (((own_lh rr) * (31 : Int32)) + (own_ah (nar .byte y0) (nar .byte y1)))), (.int (((own_lh q0) * (31 : Int32)) + (own_ah (nar .byte x8) (nar .byte x9))))])) _
        refine XS.icmpNo X139.here hx rfl (hb hby at_251) rfl (teq (own_sn hr136 hc141 : (((own_lh q0) * (31 : Int32)) + (own_ah (nar .byte x8) (nar .byte x9))) = (((own_lh rr) * (31 : Int32)) + (own_ah (nar .byte y0) (nar .byte y1))))).2 ?_
        show Steps p.tables e below (T139.setTop (mkF m 254 #[.val (.long q0), .second, .val (.long q1), .second, .val (.int p2), .val (.int p3), .val (.int p4), .val (.int fl), .val (.int x8), .val (.int x9), .val (.long rr), .second, .val (.int y0), .val (.int y1), .val (.ref b6), .val (.ref b10), .val (.ref b45), .val (.ref b65), .val (.int (((own_lh q0) * (31 : Int32)) + (own_ah (nar .byte x8) (nar .byte x9)))), .val (.int (((own_lh rr) * (31 : Int32)) + (own_ah (nar .byte y0) (nar .byte y1)))), .val (.int rq136)] [])) _
        refine XS.iconst X139.here hx rfl (hb hby at_254) ?_
        show Steps p.tables e below (T139.setTop (mkF m 255 #[.val (.long q0), .second, .val (.long q1), .second, .val (.int p2), .val (.int p3), .val (.int p4), .val (.int fl), .val (.int x8), .val (.int x9), .val (.long rr), .second, .val (.int y0), .val (.int y1), .val (.ref b6), .val (.ref b10), .val (.ref b45), .val (.ref b65), .val (.int (((own_lh q0) * (31 : Int32)) + (own_ah (nar .byte x8) (nar .byte x9)))), .val (.int (((own_lh rr) * (31 : Int32)) + (own_ah (nar .byte y0) (nar .byte y1)))), .val (.int rq136)] [(.int (1 : Int32))])) _
        refine XS.goto X139.here hx rfl (pc0 := 255) (pc' := 259) rfl (hb hby at_255) (by decide) (by decide) ?_
        show Steps p.tables e below (T139.setTop (mkF m 259 #[.val (.long q0), .second, .val (.long q1), .second, .val (.int p2), .val (.int p3), .val (.int p4), .val (.int fl), .val (.int x8), .val (.int x9), .val (.long rr), .second, .val (.int y0), .val (.int y1), .val (.ref b6), .val (.ref b10), .val (.ref b45), .val (.ref b65), .val (.int (((own_lh q0) * (31 : Int32)) + (own_ah (nar .byte x8) (nar .byte x9)))), .val (.int (((own_lh rr) * (31 : Int32)) + (own_ah (nar .byte y0) (nar .byte y1)))), .val (.int rq136)] [(.int (1 : Int32))])) _
        exact k
      refine own_retN X139 hx (t := .boolean) Bd.returns (by simp) (hb hby at_259) (BodyLoose.notSynchronized Bd) (by decide) (by decide) ?_
      rw [show T139.heap = h118 from eq139]
      exact ⟨rfl, N139⟩
  · skip
    refine own_step (T' := s₁) (g' := (mkF m 85 #[.val (.long q0), .second, .val (.long q1), .second, .val (.int p2), .val (.int p3), .val (.int p4), .val (.int fl), .val (.int x8), .val (.int x9), .val (.long rr), .second, .val (.int y0), .val (.int y1), .unset, .unset, .unset, .unset, .unset, .unset, .unset] [(.int (0 : Int32))])) (fun t k => ?_) ?_
    · show Steps p.tables e below (s₁.setTop (mkF m 81 #[.val (.long q0), .second, .val (.long q1), .second, .val (.int p2), .val (.int p3), .val (.int p4), .val (.int fl), .val (.int x8), .val (.int x9), .val (.long rr), .second, .val (.int y0), .val (.int y1), .unset, .unset, .unset, .unset, .unset, .unset, .unset] [(.int fl)])) _
      refine XS.ifNo X0.here hx rfl (hb hby at_81) rfl ((if0 _ _).trans (feq hc5).1) ?_
      show Steps p.tables e below (s₁.setTop (mkF m 84 #[.val (.long q0), .second, .val (.long q1), .second, .val (.int p2), .val (.int p3), .val (.int p4), .val (.int fl), .val (.int x8), .val (.int x9), .val (.long rr), .second, .val (.int y0), .val (.int y1), .unset, .unset, .unset, .unset, .unset, .unset, .unset] [])) _
      refine XS.iconst X0.here hx rfl (hb hby at_84) ?_
      show Steps p.tables e below (s₁.setTop (mkF m 85 #[.val (.long q0), .second, .val (.long q1), .second, .val (.int p2), .val (.int p3), .val (.int p4), .val (.int fl), .val (.int x8), .val (.int x9), .val (.long rr), .second, .val (.int y0), .val (.int y1), .unset, .unset, .unset, .unset, .unset, .unset, .unset] [(.int (0 : Int32))])) _
      exact k
    obtain ⟨T143, h143, k143, X143, e143, E143, B143, A143, st143⟩ := newPE X0 hx hZ (hw _ (List.mem_of_getElem? (i := 0) rfl)) e0 (g := (mkF m 85 #[.val (.long q0), .second, .val (.long q1), .second, .val (.int p2), .val (.int p3), .val (.int p4), .val (.int fl), .val (.int x8), .val (.int x9), .val (.long rr), .second, .val (.int y0), .val (.int y1), .unset, .unset, .unset, .unset, .unset, .unset, .unset] [(.int (0 : Int32))])) rfl (hb hby at_85) rfl (by decide) (cap := 0) (by decide) (by decide) (by decide) (by decide) (ad := "[B") (by decide)
    obtain ⟨b143, g143⟩ : ∃ z, z = h0.size := ⟨_, rfl⟩
    have g_b143 : n0 ≤ b143 := Nat.le_trans Z0 (Nat.le_of_eq g143.symm)
    rw [← g143] at A143 B143 st143
    have V144 : Arv Z h143 b143 k143 .byte (0 : Int32) [] (.int (0 : Int32)) := (Arv.new B143 (by decide)).pad (pad_rep [] (.int (0 : Int32)) 0)
    have Z145 := Nat.le_trans Z0 E143.1
    refine own_step st143 ?_
    show own_Run p e below s _ _ _ T143 (mkF m 87 #[.val (.long q0), .second, .val (.long q1), .second, .val (.int p2), .val (.int p3), .val (.int p4), .val (.int fl), .val (.int x8), .val (.int x9), .val (.long rr), .second, .val (.int y0), .val (.int y1), .unset, .unset, .unset, .unset, .unset, .unset, .unset] [(.ref b143)])
    refine own_step (T' := T143) (g' := (mkF m 101 #[.val (.long q0), .second, .val (.long q1), .second, .val (.int p2), .val (.int p3), .val (.int p4), .val (.int fl), .val (.int x8), .val (.int x9), .val (.long rr), .second, .val (.int y0), .val (.int y1), .val (.ref b143), .unset, .unset, .unset, .unset, .unset, .unset] [(.int (0 : Int32))])) (fun t k => ?_) ?_
    · show Steps p.tables e below (T143.setTop (mkF m 87 #[.val (.long q0), .second, .val (.long q1), .second, .val (.int p2), .val (.int p3), .val (.int p4), .val (.int fl), .val (.int x8), .val (.int x9), .val (.long rr), .second, .val (.int y0), .val (.int y1), .unset, .unset, .unset, .unset, .unset, .unset, .unset] [(.ref b143)])) _
      refine XS.goto X143.here hx rfl (pc0 := 87) (pc' := 93) rfl (hb hby at_87) (by decide) (by decide) ?_
      show Steps p.tables e below (T143.setTop (mkF m 93 #[.val (.long q0), .second, .val (.long q1), .second, .val (.int p2), .val (.int p3), .val (.int p4), .val (.int fl), .val (.int x8), .val (.int x9), .val (.long rr), .second, .val (.int y0), .val (.int y1), .unset, .unset, .unset, .unset, .unset, .unset, .unset] [(.ref b143)])) _
      refine XS.astore X143.here hx rfl (hb hby at_93) rfl rfl (l' := #[.val (.long q0), .second, .val (.long q1), .second, .val (.int p2), .val (.int p3), .val (.int p4), .val (.int fl), .val (.int x8), .val (.int x9), .val (.long rr), .second, .val (.int y0), .val (.int y1), .val (.ref b143), .unset, .unset, .unset, .unset, .unset, .unset]) rfl ?_
      show Steps p.tables e below (T143.setTop (mkF m 95 #[.val (.long q0), .second, .val (.long q1), .second, .val (.int p2), .val (.int p3), .val (.int p4), .val (.int fl), .val (.int x8), .val (.int x9), .val (.long rr), .second, .val (.int y0), .val (.int y1), .val (.ref b143), .unset, .unset, .unset, .unset, .unset, .unset] [])) _
      refine XS.iload X143.here hx rfl (hb hby at_95) rfl ?_
      show Steps p.tables e below (T143.setTop (mkF m 97 #[.val (.long q0), .second, .val (.long q1), .second, .val (.int p2), .val (.int p3), .val (.int p4), .val (.int fl), .val (.int x8), .val (.int x9), .val (.long rr), .second, .val (.int y0), .val (.int y1), .val (.ref b143), .unset, .unset, .unset, .unset, .unset, .unset] [(.int fl)])) _
      refine XS.ifNo X143.here hx rfl (hb hby at_97) rfl ((if0 _ _).trans (feq hc5).1) ?_
      show Steps p.tables e below (T143.setTop (mkF m 100 #[.val (.long q0), .second, .val (.long q1), .second, .val (.int p2), .val (.int p3), .val (.int p4), .val (.int fl), .val (.int x8), .val (.int x9), .val (.long rr), .second, .val (.int y0), .val (.int y1), .val (.ref b143), .unset, .unset, .unset, .unset, .unset, .unset] [])) _
      refine XS.iconst X143.here hx rfl (hb hby at_100) ?_
      show Steps p.tables e below (T143.setTop (mkF m 101 #[.val (.long q0), .second, .val (.long q1), .second, .val (.int p2), .val (.int p3), .val (.int p4), .val (.int fl), .val (.int x8), .val (.int x9), .val (.long rr), .second, .val (.int y0), .val (.int y1), .val (.ref b143), .unset, .unset, .unset, .unset, .unset, .unset] [(.int (0 : Int32))])) _
      exact k
    obtain ⟨T147, h147, k147, X147, e147, E147, B147, A147, st147⟩ := newPE X143 hx hZ (hw _ (List.mem_of_getElem? (i := 0) rfl)) e143 (g := (mkF m 101 #[.val (.long q0), .second, .val (.long q1), .second, .val (.int p2), .val (.int p3), .val (.int p4), .val (.int fl), .val (.int x8), .val (.int x9), .val (.long rr), .second, .val (.int y0), .val (.int y1), .val (.ref b143), .unset, .unset, .unset, .unset, .unset, .unset] [(.int (0 : Int32))])) rfl (hb hby at_101) rfl (by decide) (cap := 0) (by decide) (by decide) (by decide) (by decide) (ad := "[B") (by decide)
    obtain ⟨b147, g147⟩ : ∃ z, z = h143.size := ⟨_, rfl⟩
    have ne148 : b143 ≠ b147 := Nat.ne_of_lt (Nat.lt_of_lt_of_le A143.lt (Nat.le_of_eq g147.symm))
    have g_b147 : n0 ≤ b147 := Nat.le_trans Z145 (Nat.le_of_eq g147.symm)
    rw [← g147] at A147 B147 st147
    have A149 := A143.ext E147
    have V150 := V144.ext E147
    have V151 : Arv Z h147 b147 k147 .byte (0 : Int32) [] (.int (0 : Int32)) := (Arv.new B147 (by decide)).pad (pad_rep [] (.int (0 : Int32)) 0)
    have Z152 := Nat.le_trans Z145 E147.1
    refine own_step st147 ?_
    show own_Run p e below s _ _ _ T147 (mkF m 103 #[.val (.long q0), .second, .val (.long q1), .second, .val (.int p2), .val (.int p3), .val (.int p4), .val (.int fl), .val (.int x8), .val (.int x9), .val (.long rr), .second, .val (.int y0), .val (.int y1), .val (.ref b143), .unset, .unset, .unset, .unset, .unset, .unset] [(.ref b147)])
    refine own_step (T' := T147) (g' := (mkF m 140 #[.val (.long q0), .second, .val (.long q1), .second, .val (.int p2), .val (.int p3), .val (.int p4), .val (.int fl), .val (.int x8), .val (.int x9), .val (.long rr), .second, .val (.int y0), .val (.int y1), .val (.ref b143), .val (.ref b147), .unset, .unset, .unset, .unset, .unset] [])) (fun t k => ?_) ?_
    · show Steps p.tables e below (T147.setTop (mkF m 103 #[.val (.long q0), .second, .val (.long q1), .second, .val (.int p2), .val (.int p3), .val (.int p4), .val (.int fl), .val (.int x8), .val (.int x9), .val (.long rr), .second, .val (.int y0), .val (.int y1), .val (.ref b143), .unset, .unset, .unset, .unset, .unset, .unset] [(.ref b147)])) _
      refine XS.goto X147.here hx rfl (pc0 := 103) (pc' := 109) rfl (hb hby at_103) (by decide) (by decide) ?_
      show Steps p.tables e below (T147.setTop (mkF m 109 #[.val (.long q0), .second, .val (.long q1), .second, .val (.int p2), .val (.int p3), .val (.int p4), .val (.int fl), .val (.int x8), .val (.int x9), .val (.long rr), .second, .val (.int y0), .val (.int y1), .val (.ref b143), .unset, .unset, .unset, .unset, .unset, .unset] [(.ref b147)])) _
      refine XS.astore X147.here hx rfl (hb hby at_109) rfl rfl (l' := #[.val (.long q0), .second, .val (.long q1), .second, .val (.int p2), .val (.int p3), .val (.int p4), .val (.int fl), .val (.int x8), .val (.int x9), .val (.long rr), .second, .val (.int y0), .val (.int y1), .val (.ref b143), .val (.ref b147), .unset, .unset, .unset, .unset, .unset]) rfl ?_
      show Steps p.tables e below (T147.setTop (mkF m 111 #[.val (.long q0), .second, .val (.long q1), .second, .val (.int p2), .val (.int p3), .val (.int p4), .val (.int fl), .val (.int x8), .val (.int x9), .val (.long rr), .second, .val (.int y0), .val (.int y1), .val (.ref b143), .val (.ref b147), .unset, .unset, .unset, .unset, .unset] [])) _
      refine XS.iload X147.here hx rfl (hb hby at_111) rfl ?_
      show Steps p.tables e below (T147.setTop (mkF m 113 #[.val (.long q0), .second, .val (.long q1), .second, .val (.int p2), .val (.int p3), .val (.int p4), .val (.int fl), .val (.int x8), .val (.int x9), .val (.long rr), .second, .val (.int y0), .val (.int y1), .val (.ref b143), .val (.ref b147), .unset, .unset, .unset, .unset, .unset] [(.int fl)])) _
      refine XS.ifYes X147.here hx rfl (pc0 := 113) (pc' := 140) rfl (hb hby at_113) rfl ((if0 _ _).trans (feq hc5).2) (by decide) (by decide) ?_
      show Steps p.tables e below (T147.setTop (mkF m 140 #[.val (.long q0), .second, .val (.long q1), .second, .val (.int p2), .val (.int p3), .val (.int p4), .val (.int fl), .val (.int x8), .val (.int x9), .val (.long rr), .second, .val (.int y0), .val (.int y1), .val (.ref b143), .val (.ref b147), .unset, .unset, .unset, .unset, .unset] [])) _
      exact k
    obtain ⟨T154, h154, X154, e154, E154, A154, D154, -, st154⟩ := newO X147 hx hZ hown (hw _ (List.mem_of_getElem? (i := 1) rfl)) (hw _ (List.mem_of_getElem? (i := 2) rfl)) (hw _ (List.mem_of_getElem? (i := 3) rfl)) e147 (g := (mkF m 140 #[.val (.long q0), .second, .val (.long q1), .second, .val (.int p2), .val (.int p3), .val (.int p4), .val (.int fl), .val (.int x8), .val (.int x9), .val (.long rr), .second, .val (.int y0), .val (.int y1), .val (.ref b143), .val (.ref b147), .unset, .unset, .unset, .unset, .unset] [])) rfl (hb hby at_140) (by decide) (by decide)
    obtain ⟨b154, g154⟩ : ∃ z, z = h147.size := ⟨_, rfl⟩
    have ne155 : b143 ≠ b154 := Nat.ne_of_lt (Nat.lt_of_lt_of_le A149.lt (Nat.le_of_eq g154.symm))
    have ne156 : b147 ≠ b154 := Nat.ne_of_lt (Nat.lt_of_lt_of_le A147.lt (Nat.le_of_eq g154.symm))
    have g_b154 : n0 ≤ b154 := Nat.le_trans Z152 (Nat.le_of_eq g154.symm)
    rw [← g154] at A154 D154 st154
    have A157 := A149.ext E154
    have A158 := A147.ext E154
    have V159 := V150.ext E154
    have V160 := V151.ext E154
    have F161 : Fld Z h154 b154 "com/example/bevaka/bevaka/store/Checkpoint" "records" "J" (.long (0 : Int64)) := D154 (Or.inr (hw _ (List.mem_of_getElem? (i := 11) rfl))) (ty := .long) (by decide)
    have F162 : Fld Z h154 b154 "com/example/bevaka/bevaka/store/Checkpoint" "chain" "[B" .null := D154 (Or.inr (hw _ (List.mem_of_getElem? (i := 22) rfl))) (ty := (.array .byte)) (by decide)
    have Z163 := Nat.le_trans Z152 E154.1
    refine own_step st154 ?_
    show own_Run p e below s _ _ _ T154 (mkF m 143 #[.val (.long q0), .second, .val (.long q1), .second, .val (.int p2), .val (.int p3), .val (.int p4), .val (.int fl), .val (.int x8), .val (.int x9), .val (.long rr), .second, .val (.int y0), .val (.int y1), .val (.ref b143), .val (.ref b147), .unset, .unset, .unset, .unset, .unset] [(.ref b154)])
    refine own_step (T' := T154) (g' := (mkF m 147 #[.val (.long q0), .second, .val (.long q1), .second, .val (.int p2), .val (.int p3), .val (.int p4), .val (.int fl), .val (.int x8), .val (.int x9), .val (.long rr), .second, .val (.int y0), .val (.int y1), .val (.ref b143), .val (.ref b147), .unset, .unset, .unset, .unset, .unset] [(.ref b143), (.long q0), (.ref b154), (.ref b154)])) (fun t k => ?_) ?_
    · show Steps p.tables e below (T154.setTop (mkF m 143 #[.val (.long q0), .second, .val (.long q1), .second, .val (.int p2), .val (.int p3), .val (.int p4), .val (.int fl), .val (.int x8), .val (.int x9), .val (.long rr), .second, .val (.int y0), .val (.int y1), .val (.ref b143), .val (.ref b147), .unset, .unset, .unset, .unset, .unset] [(.ref b154)])) _
      refine XS.dup X154.here hx rfl (hb hby at_143) rfl rfl ?_
      show Steps p.tables e below (T154.setTop (mkF m 144 #[.val (.long q0), .second, .val (.long q1), .second, .val (.int p2), .val (.int p3), .val (.int p4), .val (.int fl), .val (.int x8), .val (.int x9), .val (.long rr), .second, .val (.int y0), .val (.int y1), .val (.ref b143), .val (.ref b147), .unset, .unset, .unset, .unset, .unset] [(.ref b154), (.ref b154)])) _
      refine XS.lloadN X154.here hx rfl (hb hby at_144) rfl ?_
      show Steps p.tables e below (T154.setTop (mkF m 145 #[.val (.long q0), .second, .val (.long q1), .second, .val (.int p2), .val (.int p3), .val (.int p4), .val (.int fl), .val (.int x8), .val (.int x9), .val (.long rr), .second, .val (.int y0), .val (.int y1), .val (.ref b143), .val (.ref b147), .unset, .unset, .unset, .unset, .unset] [(.long q0), (.ref b154), (.ref b154)])) _
      refine XS.aload X154.here hx rfl (hb hby at_145) rfl rfl ?_
      show Steps p.tables e below (T154.setTop (mkF m 147 #[.val (.long q0), .second, .val (.long q1), .second, .val (.int p2), .val (.int p3), .val (.int p4), .val (.int fl), .val (.int x8), .val (.int x9), .val (.long rr), .second, .val (.int y0), .val (.int y1), .val (.ref b143), .val (.ref b147), .unset, .unset, .unset, .unset, .unset] [(.ref b143), (.long q0), (.ref b154), (.ref b154)])) _
      exact k
    obtain ⟨_, _, ⟨T164, L164, k164, n164⟩, -, X164, ⟨Lc164, hQ164, l164, y164, z164⟩, st164⟩ := X154.specialBack hx (y := (⟨"com/example/bevaka/bevaka/store/Checkpoint", "<init>", "(J[B)V"⟩ : MethodName)) rfl hown (mvT hZ (hw _ (List.mem_of_getElem? (i := 4) rfl))) (mvT hZ (hw _ (List.mem_of_getElem? (i := 5) rfl))) (mvT hZ (hw _ (List.mem_of_getElem? (i := 6) rfl))) (by decide) (backOf (W := 1) (rm1 l Z a0 hw [] b154 q0 b143 k143 (0 : Int32) [] h154 n0 Z163 A154 F161 F162 g_b154 V159 A157 (by decide) ne155) hZ (hw _ (List.mem_of_getElem? (i := 6) rfl)) (hw _ (List.mem_of_getElem? (i := 3) rfl)) (by decide) (by decide)) (g := (mkF m 147 #[.val (.long q0), .second, .val (.long q1), .second, .val (.int p2), .val (.int p3), .val (.int p4), .val (.int fl), .val (.int x8), .val (.int x9), .val (.long rr), .second, .val (.int y0), .val (.int y1), .val (.ref b143), .val (.ref b147), .unset, .unset, .unset, .unset, .unset] [(.ref b143), (.long q0), (.ref b154), (.ref b154)])) rfl (by rw [hml]; rfl) (Steps.refl _) (a := b154) (argsL := [(.long q0), (.ref b143)]) (rest := [(.ref b154)]) (lenOf pd_6 rfl) rfl (by show 2 * 0 + _ ≤ _; exact Nat.le_of_eq rfl) (hb hby at_147) (fun _ _ => ⟨rfl, e154, (by decide : 3 + 1 ≤ _), (by decide : 2 + 2 ≤ _)⟩)
    dsimp only [Pt.U, Pt.locs, Pt.cells, Pt.slots] at X164 l164 y164 z164 st164 hQ164
    subst l164 y164 z164
    obtain ⟨ch164, rfl, N164q, Kq164, sz164, Fr164, Fc164, Vc164, Ac164, Ec164⟩ := hQ164
    have N164 := Fr.app N0 N164q
    refine own_step (fun t k => st164.trans k) ?_
    show own_Run p e below s _ _ _ T164 (mkF m 150 #[.val (.long q0), .second, .val (.long q1), .second, .val (.int p2), .val (.int p3), .val (.int p4), .val (.int fl), .val (.int x8), .val (.int x9), .val (.long rr), .second, .val (.int y0), .val (.int y1), .val (.ref b143), .val (.ref b147), .unset, .unset, .unset, .unset, .unset] [(.ref b154)])
    have A165 := A157.keep Kq164
    have A166 := A158.keep Kq164
    have A167 := A154.keep Kq164
    have V168 := V159.keep Kq164 (ninS ne155 nin0)
    have V169 := V160.keep Kq164 (ninS ne156 nin0)
    have ne170 : b154 ≠ ch164 := Nat.ne_of_lt (Nat.lt_of_lt_of_le F161.lt sz164)
    have ne171 : b143 ≠ ch164 := Nat.ne_of_lt (Nat.lt_of_lt_of_le A157.lt sz164)
    have ne172 : b147 ≠ ch164 := Nat.ne_of_lt (Nat.lt_of_lt_of_le A158.lt sz164)
    have Z173 := Nat.le_trans Z163 Kq164.1
    refine own_step (T' := T164) (g' := (mkF m 152 #[.val (.long q0), .second, .val (.long q1), .second, .val (.int p2), .val (.int p3), .val (.int p4), .val (.int fl), .val (.int x8), .val (.int x9), .val (.long rr), .second, .val (.int y0), .val (.int y1), .val (.ref b143), .val (.ref b147), .val (.ref b154), .unset, .unset, .unset, .unset] [])) (fun t k => ?_) ?_
    · show Steps p.tables e below (T164.setTop (mkF m 150 #[.val (.long q0), .second, .val (.long q1), .second, .val (.int p2), .val (.int p3), .val (.int p4), .val (.int fl), .val (.int x8), .val (.int x9), .val (.long rr), .second, .val (.int y0), .val (.int y1), .val (.ref b143), .val (.ref b147), .unset, .unset, .unset, .unset, .unset] [(.ref b154)])) _
      refine XS.astore X164.here hx rfl (hb hby at_150) rfl rfl (l' := #[.val (.long q0), .second, .val (.long q1), .second, .val (.int p2), .val (.int p3), .val (.int p4), .val (.int fl), .val (.int x8), .val (.int x9), .val (.long rr), .second, .val (.int y0), .val (.int y1), .val (.ref b143), .val (.ref b147), .val (.ref b154), .unset, .unset, .unset, .unset]) rfl ?_
      show Steps p.tables e below (T164.setTop (mkF m 152 #[.val (.long q0), .second, .val (.long q1), .second, .val (.int p2), .val (.int p3), .val (.int p4), .val (.int fl), .val (.int x8), .val (.int x9), .val (.long rr), .second, .val (.int y0), .val (.int y1), .val (.ref b143), .val (.ref b147), .val (.ref b154), .unset, .unset, .unset, .unset] [])) _
      exact k
    obtain ⟨T174, h174, X174, e174, E174, A174, D174, -, st174⟩ := newO X164 hx hZ hown (hw _ (List.mem_of_getElem? (i := 1) rfl)) (hw _ (List.mem_of_getElem? (i := 2) rfl)) (hw _ (List.mem_of_getElem? (i := 3) rfl)) rfl (g := (mkF m 152 #[.val (.long q0), .second, .val (.long q1), .second, .val (.int p2), .val (.int p3), .val (.int p4), .val (.int fl), .val (.int x8), .val (.int x9), .val (.long rr), .second, .val (.int y0), .val (.int y1), .val (.ref b143), .val (.ref b147), .val (.ref b154), .unset, .unset, .unset, .unset] [])) rfl (hb hby at_152) (by decide) (by decide)
    obtain ⟨b174, g174⟩ : ∃ z, z = T164.heap.size := ⟨_, rfl⟩
    have ne175 : b154 ≠ b174 := Nat.ne_of_lt (Nat.lt_of_lt_of_le Fr164.lt (Nat.le_of_eq g174.symm))
    have ne176 : b143 ≠ b174 := Nat.ne_of_lt (Nat.lt_of_lt_of_le A165.lt (Nat.le_of_eq g174.symm))
    have ne177 : b147 ≠ b174 := Nat.ne_of_lt (Nat.lt_of_lt_of_le A166.lt (Nat.le_of_eq g174.symm))
    have ne178 : ch164 ≠ b174 := Nat.ne_of_lt (Nat.lt_of_lt_of_le Ac164.lt (Nat.le_of_eq g174.symm))
    have g_b174 : n0 ≤ b174 := Nat.le_trans Z173 (Nat.le_of_eq g174.symm)
    rw [← g174] at A174 D174 st174
    have F179 := Fr164.ext E174
    have F180 := Fc164.ext E174
    have A181 := A165.ext E174
    have A182 := A166.ext E174
    have A183 := Ec164.ext E174
    have A184 := Ac164.ext E174
    have V185 := V168.ext E174
    have V186 := V169.ext E174
    have V187 := Vc164.ext E174
    have F188 : Fld Z h174 b174 "com/example/bevaka/bevaka/store/Checkpoint" "records" "J" (.long (0 : Int64)) := D174 (Or.inr (hw _ (List.mem_of_getElem? (i := 11) rfl))) (ty := .long) (by decide)
    have F189 : Fld Z h174 b174 "com/example/bevaka/bevaka/store/Checkpoint" "chain" "[B" .null := D174 (Or.inr (hw _ (List.mem_of_getElem? (i := 22) rfl))) (ty := (.array .byte)) (by decide)
    have Z190 := Nat.le_trans Z173 E174.1
    refine own_step st174 ?_
    show own_Run p e below s _ _ _ T174 (mkF m 155 #[.val (.long q0), .second, .val (.long q1), .second, .val (.int p2), .val (.int p3), .val (.int p4), .val (.int fl), .val (.int x8), .val (.int x9), .val (.long rr), .second, .val (.int y0), .val (.int y1), .val (.ref b143), .val (.ref b147), .val (.ref b154), .unset, .unset, .unset, .unset] [(.ref b174)])
    refine own_step (T' := T174) (g' := (mkF m 160 #[.val (.long q0), .second, .val (.long q1), .second, .val (.int p2), .val (.int p3), .val (.int p4), .val (.int fl), .val (.int x8), .val (.int x9), .val (.long rr), .second, .val (.int y0), .val (.int y1), .val (.ref b143), .val (.ref b147), .val (.ref b154), .unset, .unset, .unset, .unset] [(.ref b147), (.long rr), (.ref b174), (.ref b174)])) (fun t k => ?_) ?_
    · show Steps p.tables e below (T174.setTop (mkF m 155 #[.val (.long q0), .second, .val (.long q1), .second, .val (.int p2), .val (.int p3), .val (.int p4), .val (.int fl), .val (.int x8), .val (.int x9), .val (.long rr), .second, .val (.int y0), .val (.int y1), .val (.ref b143), .val (.ref b147), .val (.ref b154), .unset, .unset, .unset, .unset] [(.ref b174)])) _
      refine XS.dup X174.here hx rfl (hb hby at_155) rfl rfl ?_
      show Steps p.tables e below (T174.setTop (mkF m 156 #[.val (.long q0), .second, .val (.long q1), .second, .val (.int p2), .val (.int p3), .val (.int p4), .val (.int fl), .val (.int x8), .val (.int x9), .val (.long rr), .second, .val (.int y0), .val (.int y1), .val (.ref b143), .val (.ref b147), .val (.ref b154), .unset, .unset, .unset, .unset] [(.ref b174), (.ref b174)])) _
      refine XS.lload X174.here hx rfl (hb hby at_156) rfl ?_
      show Steps p.tables e below (T174.setTop (mkF m 158 #[.val (.long q0), .second, .val (.long q1), .second, .val (.int p2), .val (.int p3), .val (.int p4), .val (.int fl), .val (.int x8), .val (.int x9), .val (.long rr), .second, .val (.int y0), .val (.int y1), .val (.ref b143), .val (.ref b147), .val (.ref b154), .unset, .unset, .unset, .unset] [(.long rr), (.ref b174), (.ref b174)])) _
      refine XS.aload X174.here hx rfl (hb hby at_158) rfl rfl ?_
      show Steps p.tables e below (T174.setTop (mkF m 160 #[.val (.long q0), .second, .val (.long q1), .second, .val (.int p2), .val (.int p3), .val (.int p4), .val (.int fl), .val (.int x8), .val (.int x9), .val (.long rr), .second, .val (.int y0), .val (.int y1), .val (.ref b143), .val (.ref b147), .val (.ref b154), .unset, .unset, .unset, .unset] [(.ref b147), (.long rr), (.ref b174), (.ref b174)])) _
      exact k
    obtain ⟨_, _, ⟨T191, L191, k191, n191⟩, -, X191, ⟨Lc191, hQ191, l191, y191, z191⟩, st191⟩ := X174.specialBack hx (y := (⟨"com/example/bevaka/bevaka/store/Checkpoint", "<init>", "(J[B)V"⟩ : MethodName)) rfl hown (mvT hZ (hw _ (List.mem_of_getElem? (i := 4) rfl))) (mvT hZ (hw _ (List.mem_of_getElem? (i := 5) rfl))) (mvT hZ (hw _ (List.mem_of_getElem? (i := 6) rfl))) (by decide) (backOf (W := 1) (rm1 l Z a0 hw [] b174 rr b147 k147 (0 : Int32) [] h174 n0 Z190 A174 F188 F189 g_b174 V186 A182 (by decide) ne177) hZ (hw _ (List.mem_of_getElem? (i := 6) rfl)) (hw _ (List.mem_of_getElem? (i := 3) rfl)) (by decide) (by decide)) (g := (mkF m 160 #[.val (.long q0), .second, .val (.long q1), .second, .val (.int p2), .val (.int p3), .val (.int p4), .val (.int fl), .val (.int x8), .val (.int x9), .val (.long rr), .second, .val (.int y0), .val (.int y1), .val (.ref b143), .val (.ref b147), .val (.ref b154), .unset, .unset, .unset, .unset] [(.ref b147), (.long rr), (.ref b174), (.ref b174)])) rfl (by rw [hml]; rfl) (Steps.refl _) (a := b174) (argsL := [(.long rr), (.ref b147)]) (rest := [(.ref b174)]) (lenOf pd_6 rfl) rfl (by show 2 * 0 + _ ≤ _; exact Nat.le_of_eq rfl) (hb hby at_160) (fun _ _ => ⟨rfl, e174, (by decide : 5 + 1 ≤ _), (by decide : 6 + 2 ≤ _)⟩)
    dsimp only [Pt.U, Pt.locs, Pt.cells, Pt.slots] at X191 l191 y191 z191 st191 hQ191
    subst l191 y191 z191
    obtain ⟨ch191, rfl, N191q, Kq191, sz191, Fr191, Fc191, Vc191, Ac191, Ec191⟩ := hQ191
    have N191 := Fr.app N164 N191q
    refine own_step (fun t k => st191.trans k) ?_
    show own_Run p e below s _ _ _ T191 (mkF m 163 #[.val (.long q0), .second, .val (.long q1), .second, .val (.int p2), .val (.int p3), .val (.int p4), .val (.int fl), .val (.int x8), .val (.int x9), .val (.long rr), .second, .val (.int y0), .val (.int y1), .val (.ref b143), .val (.ref b147), .val (.ref b154), .unset, .unset, .unset, .unset] [(.ref b174)])
    have F192 := F179.keep Kq191 (ninS ne175 nin0)
    have F193 := F180.keep Kq191 (ninS ne175 nin0)
    have A194 := A181.keep Kq191
    have A195 := A182.keep Kq191
    have A196 := A183.keep Kq191
    have A197 := A184.keep Kq191
    have A198 := A174.keep Kq191
    have V199 := V185.keep Kq191 (ninS ne176 nin0)
    have V200 := V186.keep Kq191 (ninS ne177 nin0)
    have V201 := V187.keep Kq191 (ninS ne178 nin0)
    have ne202 : b154 ≠ ch191 := Nat.ne_of_lt (Nat.lt_of_lt_of_le F179.lt sz191)
    have ne203 : b174 ≠ ch191 := Nat.ne_of_lt (Nat.lt_of_lt_of_le F188.lt sz191)
    have ne204 : b143 ≠ ch191 := Nat.ne_of_lt (Nat.lt_of_lt_of_le A181.lt sz191)
    have ne205 : b147 ≠ ch191 := Nat.ne_of_lt (Nat.lt_of_lt_of_le A182.lt sz191)
    have ne206 : ch164 ≠ ch191 := Nat.ne_of_lt (Nat.lt_of_lt_of_le A184.lt sz191)
    have Z207 := Nat.le_trans Z190 Kq191.1
    refine own_step (T' := T191) (g' := (mkF m 190 #[.val (.long q0), .second, .val (.long q1), .second, .val (.int p2), .val (.int p3), .val (.int p4), .val (.int fl), .val (.int x8), .val (.int x9), .val (.long rr), .second, .val (.int y0), .val (.int y1), .val (.ref b143), .val (.ref b147), .val (.ref b154), .val (.ref b174), .unset, .unset, .unset] [(.ref b154)])) (fun t k => ?_) ?_
    · show Steps p.tables e below (T191.setTop (mkF m 163 #[.val (.long q0), .second, .val (.long q1), .second, .val (.int p2), .val (.int p3), .val (.int p4), .val (.int fl), .val (.int x8), .val (.int x9), .val (.long rr), .second, .val (.int y0), .val (.int y1), .val (.ref b143), .val (.ref b147), .val (.ref b154), .unset, .unset, .unset, .unset] [(.ref b174)])) _
      refine XS.astore X191.here hx rfl (hb hby at_163) rfl rfl (l' := #[.val (.long q0), .second, .val (.long q1), .second, .val (.int p2), .val (.int p3), .val (.int p4), .val (.int fl), .val (.int x8), .val (.int x9), .val (.long rr), .second, .val (.int y0), .val (.int y1), .val (.ref b143), .val (.ref b147), .val (.ref b154), .val (.ref b174), .unset, .unset, .unset]) rfl ?_
      show Steps p.tables e below (T191.setTop (mkF m 165 #[.val (.long q0), .second, .val (.long q1), .second, .val (.int p2), .val (.int p3), .val (.int p4), .val (.int fl), .val (.int x8), .val (.int x9), .val (.long rr), .second, .val (.int y0), .val (.int y1), .val (.ref b143), .val (.ref b147), .val (.ref b154), .val (.ref b174), .unset, .unset, .unset] [])) _
      refine XS.iload X191.here hx rfl (hb hby at_165) rfl ?_
      show Steps p.tables e below (T191.setTop (mkF m 167 #[.val (.long q0), .second, .val (.long q1), .second, .val (.int p2), .val (.int p3), .val (.int p4), .val (.int fl), .val (.int x8), .val (.int x9), .val (.long rr), .second, .val (.int y0), .val (.int y1), .val (.ref b143), .val (.ref b147), .val (.ref b154), .val (.ref b174), .unset, .unset, .unset] [(.int fl)])) _
      refine XS.ifYes X191.here hx rfl (pc0 := 167) (pc' := 188) rfl (hb hby at_167) rfl ((if0 _ _).trans (feq hc5).2) (by decide) (by decide) ?_
      show Steps p.tables e below (T191.setTop (mkF m 188 #[.val (.long q0), .second, .val (.long q1), .second, .val (.int p2), .val (.int p3), .val (.int p4), .val (.int fl), .val (.int x8), .val (.int x9), .val (.long rr), .second, .val (.int y0), .val (.int y1), .val (.ref b143), .val (.ref b147), .val (.ref b154), .val (.ref b174), .unset, .unset, .unset] [])) _
      refine XS.aload X191.here hx rfl (hb hby at_188) rfl rfl ?_
      show Steps p.tables e below (T191.setTop (mkF m 190 #[.val (.long q0), .second, .val (.long q1), .second, .val (.int p2), .val (.int p3), .val (.int p4), .val (.int fl), .val (.int x8), .val (.int x9), .val (.long rr), .second, .val (.int y0), .val (.int y1), .val (.ref b143), .val (.ref b147), .val (.ref b154), .val (.ref b174), .unset, .unset, .unset] [(.ref b154)])) _
      exact k
    obtain ⟨cq209, kq209, q209a, q209b, q209c⟩ := isOf hZ rfl A196
    obtain ⟨_, _, ⟨T209, L209, k209, n209⟩, -, X209, ⟨Lc209, hQ209, l209, y209, z209⟩, st209⟩ := X191.virtualBack hx (y := (⟨"com/example/bevaka/bevaka/store/Checkpoint", "hashCode", "()I"⟩ : MethodName)) (z := (⟨"com/example/bevaka/bevaka/store/Checkpoint", "hashCode", "()I"⟩ : MethodName)) hown (mvT hZ (hw _ (List.mem_of_getElem? (i := 23) rfl))) (mvT hZ (hw _ (List.mem_of_getElem? (i := 24) rfl))) (notFace_of_selects (args := #[]) (mvT hZ (hw _ (List.mem_of_getElem? (i := 26) rfl)))) (mvT hZ (hw _ (List.mem_of_getElem? (i := 26) rfl))) (mvT hZ (hw _ (List.mem_of_getElem? (i := 25) rfl))) (by decide) (backOf (W := 0) (rm3e l Z a0 hw [] b154 q0 ch164 k143 T191.heap n0 Z207 F192 F193 V201) hZ (hw _ (List.mem_of_getElem? (i := 27) rfl)) (hw _ (List.mem_of_getElem? (i := 3) rfl)) (by decide) (by decide)) q209a q209c (g := (mkF m 190 #[.val (.long q0), .second, .val (.long q1), .second, .val (.int p2), .val (.int p3), .val (.int p4), .val (.int fl), .val (.int x8), .val (.int x9), .val (.long rr), .second, .val (.int y0), .val (.int y1), .val (.ref b143), .val (.ref b147), .val (.ref b154), .val (.ref b174), .unset, .unset, .unset] [(.ref b154)])) rfl (by rw [hml]; rfl) (Steps.refl _) (argsL := []) (rest := []) (lenOf pd_7 rfl) rfl (by show 2 * 0 + _ ≤ _; exact Nat.le_of_eq rfl) (hb hby at_190) (fun _ _ => ⟨rfl, rfl, (by decide : 6 + 0 ≤ _), (by decide : 8 + 0 ≤ _)⟩)
    dsimp only [Pt.U, Pt.locs, Pt.cells, Pt.slots] at X209 l209 y209 z209 st209 hQ209
    subst l209 y209 z209
    obtain ⟨rfl, N209q, eq209⟩ := hQ209
    have N209 := Fr.app N191 N209q
    refine own_step (fun t k => st209.trans k) ?_
    show own_Run p e below s _ _ _ T209 (mkF m 193 #[.val (.long q0), .second, .val (.long q1), .second, .val (.int p2), .val (.int p3), .val (.int p4), .val (.int fl), .val (.int x8), .val (.int x9), .val (.long rr), .second, .val (.int y0), .val (.int y1), .val (.ref b143), .val (.ref b147), .val (.ref b154), .val (.ref b174), .unset, .unset, .unset] [(.int (((own_lh q0) * (31 : Int32)) + (1 : Int32)))])
    refine own_step (T' := T209) (g' := (mkF m 197 #[.val (.long q0), .second, .val (.long q1), .second, .val (.int p2), .val (.int p3), .val (.int p4), .val (.int fl), .val (.int x8), .val (.int x9), .val (.long rr), .second, .val (.int y0), .val (.int y1), .val (.ref b143), .val (.ref b147), .val (.ref b154), .val (.ref b174), .val (.int (((own_lh q0) * (31 : Int32)) + (1 : Int32))), .unset, .unset] [(.ref b174)])) (fun t k => ?_) ?_
    · show Steps p.tables e below (T209.setTop (mkF m 193 #[.val (.long q0), .second, .val (.long q1), .second, .val (.int p2), .val (.int p3), .val (.int p4), .val (.int fl), .val (.int x8), .val (.int x9), .val (.long rr), .second, .val (.int y0), .val (.int y1), .val (.ref b143), .val (.ref b147), .val (.ref b154), .val (.ref b174), .unset, .unset, .unset] [(.int (((own_lh q0) * (31 : Int32)) + (1 : Int32)))])) _
      refine XS.istore X209.here hx rfl (hb hby at_193) rfl (l' := #[.val (.long q0), .second, .val (.long q1), .second, .val (.int p2), .val (.int p3), .val (.int p4), .val (.int fl), .val (.int x8), .val (.int x9), .val (.long rr), .second, .val (.int y0), .val (.int y1), .val (.ref b143), .val (.ref b147), .val (.ref b154), .val (.ref b174), .val (.int (((own_lh q0) * (31 : Int32)) + (1 : Int32))), .unset, .unset]) rfl ?_
      show Steps p.tables e below (T209.setTop (mkF m 195 #[.val (.long q0), .second, .val (.long q1), .second, .val (.int p2), .val (.int p3), .val (.int p4), .val (.int fl), .val (.int x8), .val (.int x9), .val (.long rr), .second, .val (.int y0), .val (.int y1), .val (.ref b143), .val (.ref b147), .val (.ref b154), .val (.ref b174), .val (.int (((own_lh q0) * (31 : Int32)) + (1 : Int32))), .unset, .unset] [])) _
      refine XS.aload X209.here hx rfl (hb hby at_195) rfl rfl ?_
      show Steps p.tables e below (T209.setTop (mkF m 197 #[.val (.long q0), .second, .val (.long q1), .second, .val (.int p2), .val (.int p3), .val (.int p4), .val (.int fl), .val (.int x8), .val (.int x9), .val (.long rr), .second, .val (.int y0), .val (.int y1), .val (.ref b143), .val (.ref b147), .val (.ref b154), .val (.ref b174), .val (.int (((own_lh q0) * (31 : Int32)) + (1 : Int32))), .unset, .unset] [(.ref b174)])) _
      exact k
    obtain ⟨cq210, kq210, q210a, q210b, q210c⟩ := isOf hZ eq209 Ec191
    obtain ⟨_, _, ⟨T210, L210, k210, n210⟩, -, X210, ⟨Lc210, hQ210, l210, y210, z210⟩, st210⟩ := X209.virtualBack hx (y := (⟨"com/example/bevaka/bevaka/store/Checkpoint", "hashCode", "()I"⟩ : MethodName)) (z := (⟨"com/example/bevaka/bevaka/store/Checkpoint", "hashCode", "()I"⟩ : MethodName)) hown (mvT hZ (hw _ (List.mem_of_getElem? (i := 23) rfl))) (mvT hZ (hw _ (List.mem_of_getElem? (i := 24) rfl))) (notFace_of_selects (args := #[]) (mvT hZ (hw _ (List.mem_of_getElem? (i := 26) rfl)))) (mvT hZ (hw _ (List.mem_of_getElem? (i := 26) rfl))) (mvT hZ (hw _ (List.mem_of_getElem? (i := 25) rfl))) (by decide) (backOf (W := 0) (rm3e l Z a0 hw [] b174 rr ch191 k147 T191.heap n0 Z207 Fr191 Fc191 Vc191) hZ (hw _ (List.mem_of_getElem? (i := 27) rfl)) (hw _ (List.mem_of_getElem? (i := 3) rfl)) (by decide) (by decide)) q210a q210c (g := (mkF m 197 #[.val (.long q0), .second, .val (.long q1), .second, .val (.int p2), .val (.int p3), .val (.int p4), .val (.int fl), .val (.int x8), .val (.int x9), .val (.long rr), .second, .val (.int y0), .val (.int y1), .val (.ref b143), .val (.ref b147), .val (.ref b154), .val (.ref b174), .val (.int (((own_lh q0) * (31 : Int32)) + (1 : Int32))), .unset, .unset] [(.ref b174)])) rfl (by rw [hml]; rfl) (Steps.refl _) (argsL := []) (rest := []) (lenOf pd_7 rfl) rfl (by show 2 * 0 + _ ≤ _; exact Nat.le_of_eq rfl) (hb hby at_197) (fun _ _ => ⟨rfl, eq209, (by decide : 6 + 0 ≤ _), (by decide : 8 + 0 ≤ _)⟩)
    dsimp only [Pt.U, Pt.locs, Pt.cells, Pt.slots] at X210 l210 y210 z210 st210 hQ210
    subst l210 y210 z210
    obtain ⟨rfl, N210q, eq210⟩ := hQ210
    have N210 := Fr.app N209 N210q
    refine own_step (fun t k => st210.trans k) ?_
    show own_Run p e below s _ _ _ T210 (mkF m 200 #[.val (.long q0), .second, .val (.long q1), .second, .val (.int p2), .val (.int p3), .val (.int p4), .val (.int fl), .val (.int x8), .val (.int x9), .val (.long rr), .second, .val (.int y0), .val (.int y1), .val (.ref b143), .val (.ref b147), .val (.ref b154), .val (.ref b174), .val (.int (((own_lh q0) * (31 : Int32)) + (1 : Int32))), .unset, .unset] [(.int (((own_lh rr) * (31 : Int32)) + (1 : Int32)))])
    refine own_step (T' := T210) (g' := (mkF m 206 #[.val (.long q0), .second, .val (.long q1), .second, .val (.int p2), .val (.int p3), .val (.int p4), .val (.int fl), .val (.int x8), .val (.int x9), .val (.long rr), .second, .val (.int y0), .val (.int y1), .val (.ref b143), .val (.ref b147), .val (.ref b154), .val (.ref b174), .val (.int (((own_lh q0) * (31 : Int32)) + (1 : Int32))), .val (.int (((own_lh rr) * (31 : Int32)) + (1 : Int32))), .unset] [(.ref b174), (.ref b154)])) (fun t k => ?_) ?_
    · show Steps p.tables e below (T210.setTop (mkF m 200 #[.val (.long q0), .second, .val (.long q1), .second, .val (.int p2), .val (.int p3), .val (.int p4), .val (.int fl), .val (.int x8), .val (.int x9), .val (.long rr), .second, .val (.int y0), .val (.int y1), .val (.ref b143), .val (.ref b147), .val (.ref b154), .val (.ref b174), .val (.int (((own_lh q0) * (31 : Int32)) + (1 : Int32))), .unset, .unset] [(.int (((own_lh rr) * (31 : Int32)) + (1 : Int32)))])) _
      refine XS.istore X210.here hx rfl (hb hby at_200) rfl (l' := #[.val (.long q0), .second, .val (.long q1), .second, .val (.int p2), .val (.int p3), .val (.int p4), .val (.int fl), .val (.int x8), .val (.int x9), .val (.long rr), .second, .val (.int y0), .val (.int y1), .val (.ref b143), .val (.ref b147), .val (.ref b154), .val (.ref b174), .val (.int (((own_lh q0) * (31 : Int32)) + (1 : Int32))), .val (.int (((own_lh rr) * (31 : Int32)) + (1 : Int32))), .unset]) rfl ?_
      show Steps p.tables e below (T210.setTop (mkF m 202 #[.val (.long q0), .second, .val (.long q1), .second, .val (.int p2), .val (.int p3), .val (.int p4), .val (.int fl), .val (.int x8), .val (.int x9), .val (.long rr), .second, .val (.int y0), .val (.int y1), .val (.ref b143), .val (.ref b147), .val (.ref b154), .val (.ref b174), .val (.int (((own_lh q0) * (31 : Int32)) + (1 : Int32))), .val (.int (((own_lh rr) * (31 : Int32)) + (1 : Int32))), .unset] [])) _
      refine XS.aload X210.here hx rfl (hb hby at_202) rfl rfl ?_
      show Steps p.tables e below (T210.setTop (mkF m 204 #[.val (.long q0), .second, .val (.long q1), .second, .val (.int p2), .val (.int p3), .val (.int p4), .val (.int fl), .val (.int x8), .val (.int x9), .val (.long rr), .second, .val (.int y0), .val (.int y1), .val (.ref b143), .val (.ref b147), .val (.ref b154), .val (.ref b174), .val (.int (((own_lh q0) * (31 : Int32)) + (1 : Int32))), .val (.int (((own_lh rr) * (31 : Int32)) + (1 : Int32))), .unset] [(.ref b154)])) _
      refine XS.aload X210.here hx rfl (hb hby at_204) rfl rfl ?_
      show Steps p.tables e below (T210.setTop (mkF m 206 #[.val (.long q0), .second, .val (.long q1), .second, .val (.int p2), .val (.int p3), .val (.int p4), .val (.int fl), .val (.int x8), .val (.int x9), .val (.long rr), .second, .val (.int y0), .val (.int y1), .val (.ref b143), .val (.ref b147), .val (.ref b154), .val (.ref b174), .val (.int (((own_lh q0) * (31 : Int32)) + (1 : Int32))), .val (.int (((own_lh rr) * (31 : Int32)) + (1 : Int32))), .unset] [(.ref b174), (.ref b154)])) _
      exact k
    obtain ⟨cq211, kq211, q211a, q211b, q211c⟩ := isOf hZ eq210 A196
    obtain ⟨_, _, ⟨T211, L211, k211, n211⟩, -, X211, ⟨Lc211, hQ211, l211, y211, z211⟩, st211⟩ := X210.virtualBack hx (y := (⟨"com/example/bevaka/bevaka/store/Checkpoint", "equals", "(Ljava/lang/Object;)Z"⟩ : MethodName)) (z := (⟨"com/example/bevaka/bevaka/store/Checkpoint", "equals", "(Ljava/lang/Object;)Z"⟩ : MethodName)) hown (mvT hZ (hw _ (List.mem_of_getElem? (i := 44) rfl))) (mvT hZ (hw _ (List.mem_of_getElem? (i := 45) rfl))) (notFace_of_selects (args := #[]) (mvT hZ (hw _ (List.mem_of_getElem? (i := 47) rfl)))) (mvT hZ (hw _ (List.mem_of_getElem? (i := 47) rfl))) (mvT hZ (hw _ (List.mem_of_getElem? (i := 46) rfl))) (by decide) (backOf (W := 0) (rm8e l Z a0 hw [] b154 b174 q0 rr ch164 ch191 k143 k147  T191.heap n0 Z207 Ec191 F192 F193 Fr191 Fc191 V201 Vc191 ne206) hZ (hw _ (List.mem_of_getElem? (i := 48) rfl)) (hw _ (List.mem_of_getElem? (i := 3) rfl)) (by decide) (by decide)) q211a q211c (g := (mkF m 206 #[.val (.long q0), .second, .val (.long q1), .second, .val (.int p2), .val (.int p3), .val (.int p4), .val (.int fl), .val (.int x8), .val (.int x9), .val (.long rr), .second, .val (.int y0), .val (.int y1), .val (.ref b143), .val (.ref b147), .val (.ref b154), .val (.ref b174), .val (.int (((own_lh q0) * (31 : Int32)) + (1 : Int32))), .val (.int (((own_lh rr) * (31 : Int32)) + (1 : Int32))), .unset] [(.ref b174), (.ref b154)])) rfl (by rw [hml]; rfl) (Steps.refl _) (argsL := [(.ref b174)]) (rest := []) (lenOf pd_8 rfl) rfl (by show 2 * 0 + _ ≤ _; exact Nat.le_of_eq rfl) (hb hby at_206) (fun _ _ => ⟨rfl, eq210, (by decide : 6 + 0 ≤ _), (by decide : 8 + 0 ≤ _)⟩)
    dsimp only [Pt.U, Pt.locs, Pt.cells, Pt.slots] at X211 l211 y211 z211 st211 hQ211
    subst l211 y211 z211
    obtain ⟨rq211, rfl, N211q, eq211, hr211⟩ := hQ211
    have N211 := Fr.app N210 N211q
    refine own_step (fun t k => st211.trans k) ?_
    show own_Run p e below s _ _ _ T211 (mkF m 209 #[.val (.long q0), .second, .val (.long q1), .second, .val (.int p2), .val (.int p3), .val (.int p4), .val (.int fl), .val (.int x8), .val (.int x9), .val (.long rr), .second, .val (.int y0), .val (.int y1), .val (.ref b143), .val (.ref b147), .val (.ref b154), .val (.ref b174), .val (.int (((own_lh q0) * (31 : Int32)) + (1 : Int32))), .val (.int (((own_lh rr) * (31 : Int32)) + (1 : Int32))), .unset] [(.int rq211)])
    refine own_step (T' := T211) (g' := (mkF m 220 #[.val (.long q0), .second, .val (.long q1), .second, .val (.int p2), .val (.int p3), .val (.int p4), .val (.int fl), .val (.int x8), .val (.int x9), .val (.long rr), .second, .val (.int y0), .val (.int y1), .val (.ref b143), .val (.ref b147), .val (.ref b154), .val (.ref b174), .val (.int (((own_lh q0) * (31 : Int32)) + (1 : Int32))), .val (.int (((own_lh rr) * (31 : Int32)) + (1 : Int32))), .val (.int rq211)] [(.int x9), (.int x8), (.int fl), (.long q0), (.int (((own_lh q0) * (31 : Int32)) + (1 : Int32)))])) (fun t k => ?_) ?_
    · show Steps p.tables e below (T211.setTop (mkF m 209 #[.val (.long q0), .second, .val (.long q1), .second, .val (.int p2), .val (.int p3), .val (.int p4), .val (.int fl), .val (.int x8), .val (.int x9), .val (.long rr), .second, .val (.int y0), .val (.int y1), .val (.ref b143), .val (.ref b147), .val (.ref b154), .val (.ref b174), .val (.int (((own_lh q0) * (31 : Int32)) + (1 : Int32))), .val (.int (((own_lh rr) * (31 : Int32)) + (1 : Int32))), .unset] [(.int rq211)])) _
      refine XS.istore X211.here hx rfl (hb hby at_209) rfl (l' := #[.val (.long q0), .second, .val (.long q1), .second, .val (.int p2), .val (.int p3), .val (.int p4), .val (.int fl), .val (.int x8), .val (.int x9), .val (.long rr), .second, .val (.int y0), .val (.int y1), .val (.ref b143), .val (.ref b147), .val (.ref b154), .val (.ref b174), .val (.int (((own_lh q0) * (31 : Int32)) + (1 : Int32))), .val (.int (((own_lh rr) * (31 : Int32)) + (1 : Int32))), .val (.int rq211)]) rfl ?_
      show Steps p.tables e below (T211.setTop (mkF m 211 #[.val (.long q0), .second, .val (.long q1), .second, .val (.int p2), .val (.int p3), .val (.int p4), .val (.int fl), .val (.int x8), .val (.int x9), .val (.long rr), .second, .val (.int y0), .val (.int y1), .val (.ref b143), .val (.ref b147), .val (.ref b154), .val (.ref b174), .val (.int (((own_lh q0) * (31 : Int32)) + (1 : Int32))), .val (.int (((own_lh rr) * (31 : Int32)) + (1 : Int32))), .val (.int rq211)] [])) _
      refine XS.iload X211.here hx rfl (hb hby at_211) rfl ?_
      show Steps p.tables e below (T211.setTop (mkF m 213 #[.val (.long q0), .second, .val (.long q1), .second, .val (.int p2), .val (.int p3), .val (.int p4), .val (.int fl), .val (.int x8), .val (.int x9), .val (.long rr), .second, .val (.int y0), .val (.int y1), .val (.ref b143), .val (.ref b147), .val (.ref b154), .val (.ref b174), .val (.int (((own_lh q0) * (31 : Int32)) + (1 : Int32))), .val (.int (((own_lh rr) * (31 : Int32)) + (1 : Int32))), .val (.int rq211)] [(.int (((own_lh q0) * (31 : Int32)) + (1 : Int32)))])) _
      refine XS.lloadN X211.here hx rfl (hb hby at_213) rfl ?_
      show Steps p.tables e below (T211.setTop (mkF m 214 #[.val (.long q0), .second, .val (.long q1), .second, .val (.int p2), .val (.int p3), .val (.int p4), .val (.int fl), .val (.int x8), .val (.int x9), .val (.long rr), .second, .val (.int y0), .val (.int y1), .val (.ref b143), .val (.ref b147), .val (.ref b154), .val (.ref b174), .val (.int (((own_lh q0) * (31 : Int32)) + (1 : Int32))), .val (.int (((own_lh rr) * (31 : Int32)) + (1 : Int32))), .val (.int rq211)] [(.long q0), (.int (((own_lh q0) * (31 : Int32)) + (1 : Int32)))])) _
      refine XS.iload X211.here hx rfl (hb hby at_214) rfl ?_
      show Steps p.tables e below (T211.setTop (mkF m 216 #[.val (.long q0), .second, .val (.long q1), .second, .val (.int p2), .val (.int p3), .val (.int p4), .val (.int fl), .val (.int x8), .val (.int x9), .val (.long rr), .second, .val (.int y0), .val (.int y1), .val (.ref b143), .val (.ref b147), .val (.ref b154), .val (.ref b174), .val (.int (((own_lh q0) * (31 : Int32)) + (1 : Int32))), .val (.int (((own_lh rr) * (31 : Int32)) + (1 : Int32))), .val (.int rq211)] [(.int fl), (.long q0), (.int (((own_lh q0) * (31 : Int32)) + (1 : Int32)))])) _
      refine XS.iload X211.here hx rfl (hb hby at_216) rfl ?_
      show Steps p.tables e below (T211.setTop (mkF m 218 #[.val (.long q0), .second, .val (.long q1), .second, .val (.int p2), .val (.int p3), .val (.int p4), .val (.int fl), .val (.int x8), .val (.int x9), .val (.long rr), .second, .val (.int y0), .val (.int y1), .val (.ref b143), .val (.ref b147), .val (.ref b154), .val (.ref b174), .val (.int (((own_lh q0) * (31 : Int32)) + (1 : Int32))), .val (.int (((own_lh rr) * (31 : Int32)) + (1 : Int32))), .val (.int rq211)] [(.int x8), (.int fl), (.long q0), (.int (((own_lh q0) * (31 : Int32)) + (1 : Int32)))])) _
      refine XS.iload X211.here hx rfl (hb hby at_218) rfl ?_
      show Steps p.tables e below (T211.setTop (mkF m 220 #[.val (.long q0), .second, .val (.long q1), .second, .val (.int p2), .val (.int p3), .val (.int p4), .val (.int fl), .val (.int x8), .val (.int x9), .val (.long rr), .second, .val (.int y0), .val (.int y1), .val (.ref b143), .val (.ref b147), .val (.ref b154), .val (.ref b174), .val (.int (((own_lh q0) * (31 : Int32)) + (1 : Int32))), .val (.int (((own_lh rr) * (31 : Int32)) + (1 : Int32))), .val (.int rq211)] [(.int x9), (.int x8), (.int fl), (.long q0), (.int (((own_lh q0) * (31 : Int32)) + (1 : Int32)))])) _
      exact k
    obtain ⟨_, _, ⟨T212, L212, k212, n212⟩, -, X212, ⟨Lc212, hQ212, l212, y212, z212⟩, st212⟩ := Jvm.LawKit.callS X211 hx (y := (⟨"com/example/bevaka/bevaka/store/CheckpointHashCodePinLaw", "expected", "(JZBB)I"⟩ : MethodName)) hown (mvT hZ (hw _ (List.mem_of_getElem? (i := 51) rfl))) (mvT hZ (hw _ (List.mem_of_getElem? (i := 52) rfl))) (mvT hZ (hw _ (List.mem_of_getElem? (i := 53) rfl))) (mvT hZ (hw _ (List.mem_of_getElem? (i := 54) rfl))) (by decide) (backOf (W := 1) (rm9 l Z a0 hw [] q0 fl x8 x9  T191.heap n0 Z207) hZ (hw _ (List.mem_of_getElem? (i := 54) rfl)) (hw _ (List.mem_of_getElem? (i := 53) rfl)) (by decide) (by decide)) (g := (mkF m 220 #[.val (.long q0), .second, .val (.long q1), .second, .val (.int p2), .val (.int p3), .val (.int p4), .val (.int fl), .val (.int x8), .val (.int x9), .val (.long rr), .second, .val (.int y0), .val (.int y1), .val (.ref b143), .val (.ref b147), .val (.ref b154), .val (.ref b174), .val (.int (((own_lh q0) * (31 : Int32)) + (1 : Int32))), .val (.int (((own_lh rr) * (31 : Int32)) + (1 : Int32))), .val (.int rq211)] [(.int x9), (.int x8), (.int fl), (.long q0), (.int (((own_lh q0) * (31 : Int32)) + (1 : Int32)))])) rfl (by rw [hml]; rfl) (argsL := [(.long q0), (.int fl), (.int x8), (.int x9)]) (rest := [(.int (((own_lh q0) * (31 : Int32)) + (1 : Int32)))]) (lenOf pd_9 rfl) rfl (by show 2 * 0 + _ ≤ _; exact Nat.le_of_eq rfl) (hb hby at_220) (fun _ _ => ⟨rfl, eq211, (by decide : 6 + 0 ≤ _), (by decide : 8 + 0 ≤ _)⟩)
    dsimp only [Pt.U, Pt.locs, Pt.cells, Pt.slots] at X212 l212 y212 z212 st212 hQ212
    subst l212 y212 z212
    obtain ⟨rfl, N212q, eq212⟩ := hQ212
    have N212 := Fr.app N211 N212q
    refine own_step st212 ?_
    show own_Run p e below s _ _ _ T212 (mkF m 223 #[.val (.long q0), .second, .val (.long q1), .second, .val (.int p2), .val (.int p3), .val (.int p4), .val (.int fl), .val (.int x8), .val (.int x9), .val (.long rr), .second, .val (.int y0), .val (.int y1), .val (.ref b143), .val (.ref b147), .val (.ref b154), .val (.ref b174), .val (.int (((own_lh q0) * (31 : Int32)) + (1 : Int32))), .val (.int (((own_lh rr) * (31 : Int32)) + (1 : Int32))), .val (.int rq211)] [(.int (own_ex q0 fl x8 x9)), (.int (((own_lh q0) * (31 : Int32)) + (1 : Int32)))])
    refine own_step (T' := T212) (g' := (mkF m 236 #[.val (.long q0), .second, .val (.long q1), .second, .val (.int p2), .val (.int p3), .val (.int p4), .val (.int fl), .val (.int x8), .val (.int x9), .val (.long rr), .second, .val (.int y0), .val (.int y1), .val (.ref b143), .val (.ref b147), .val (.ref b154), .val (.ref b174), .val (.int (((own_lh q0) * (31 : Int32)) + (1 : Int32))), .val (.int (((own_lh rr) * (31 : Int32)) + (1 : Int32))), .val (.int rq211)] [(.int y1), (.int y0), (.int fl), (.long rr), (.int (((own_lh rr) * (31 : Int32)) + (1 : Int32)))])) (fun t k => ?_) ?_
    · show Steps p.tables e below (T212.setTop (mkF m 223 #[.val (.long q0), .second, .val (.long q1), .second, .val (.int p2), .val (.int p3), .val (.int p4), .val (.int fl), .val (.int x8), .val (.int x9), .val (.long rr), .second, .val (.int y0), .val (.int y1), .val (.ref b143), .val (.ref b147), .val (.ref b154), .val (.ref b174), .val (.int (((own_lh q0) * (31 : Int32)) + (1 : Int32))), .val (.int (((own_lh rr) * (31 : Int32)) + (1 : Int32))), .val (.int rq211)] [(.int (own_ex q0 fl x8 x9)), (.int (((own_lh q0) * (31 : Int32)) + (1 : Int32)))])) _
      refine XS.icmpNo X212.here hx rfl (hb hby at_223) rfl (teq (own_he hc5 : (((own_lh q0) * (31 : Int32)) + (1 : Int32)) = (own_ex q0 fl x8 x9))).2 ?_
      show Steps p.tables e below (T212.setTop (mkF m 226 #[.val (.long q0), .second, .val (.long q1), .second, .val (.int p2), .val (.int p3), .val (.int p4), .val (.int fl), .val (.int x8), .val (.int x9), .val (.long rr), .second, .val (.int y0), .val (.int y1), .val (.ref b143), .val (.ref b147), .val (.ref b154), .val (.ref b174), .val (.int (((own_lh q0) * (31 : Int32)) + (1 : Int32))), .val (.int (((own_lh rr) * (31 : Int32)) + (1 : Int32))), .val (.int rq211)] [])) _
      refine XS.iload X212.here hx rfl (hb hby at_226) rfl ?_
      show Steps p.tables e below (T212.setTop (mkF m 228 #[.val (.long q0), .second, .val (.long q1), .second, .val (.int p2), .val (.int p3), .val (.int p4), .val (.int fl), .val (.int x8), .val (.int x9), .val (.long rr), .second, .val (.int y0), .val (.int y1), .val (.ref b143), .val (.ref b147), .val (.ref b154), .val (.ref b174), .val (.int (((own_lh q0) * (31 : Int32)) + (1 : Int32))), .val (.int (((own_lh rr) * (31 : Int32)) + (1 : Int32))), .val (.int rq211)] [(.int (((own_lh rr) * (31 : Int32)) + (1 : Int32)))])) _
      refine XS.lload X212.here hx rfl (hb hby at_228) rfl ?_
      show Steps p.tables e below (T212.setTop (mkF m 230 #[.val (.long q0), .second, .val (.long q1), .second, .val (.int p2), .val (.int p3), .val (.int p4), .val (.int fl), .val (.int x8), .val (.int x9), .val (.long rr), .second, .val (.int y0), .val (.int y1), .val (.ref b143), .val (.ref b147), .val (.ref b154), .val (.ref b174), .val (.int (((own_lh q0) * (31 : Int32)) + (1 : Int32))), .val (.int (((own_lh rr) * (31 : Int32)) + (1 : Int32))), .val (.int rq211)] [(.long rr), (.int (((own_lh rr) * (31 : Int32)) + (1 : Int32)))])) _
      refine XS.iload X212.here hx rfl (hb hby at_230) rfl ?_
      show Steps p.tables e below (T212.setTop (mkF m 232 #[.val (.long q0), .second, .val (.long q1), .second, .val (.int p2), .val (.int p3), .val (.int p4), .val (.int fl), .val (.int x8), .val (.int x9), .val (.long rr), .second, .val (.int y0), .val (.int y1), .val (.ref b143), .val (.ref b147), .val (.ref b154), .val (.ref b174), .val (.int (((own_lh q0) * (31 : Int32)) + (1 : Int32))), .val (.int (((own_lh rr) * (31 : Int32)) + (1 : Int32))), .val (.int rq211)] [(.int fl), (.long rr), (.int (((own_lh rr) * (31 : Int32)) + (1 : Int32)))])) _
      refine XS.iload X212.here hx rfl (hb hby at_232) rfl ?_
      show Steps p.tables e below (T212.setTop (mkF m 234 #[.val (.long q0), .second, .val (.long q1), .second, .val (.int p2), .val (.int p3), .val (.int p4), .val (.int fl), .val (.int x8), .val (.int x9), .val (.long rr), .second, .val (.int y0), .val (.int y1), .val (.ref b143), .val (.ref b147), .val (.ref b154), .val (.ref b174), .val (.int (((own_lh q0) * (31 : Int32)) + (1 : Int32))), .val (.int (((own_lh rr) * (31 : Int32)) + (1 : Int32))), .val (.int rq211)] [(.int y0), (.int fl), (.long rr), (.int (((own_lh rr) * (31 : Int32)) + (1 : Int32)))])) _
      refine XS.iload X212.here hx rfl (hb hby at_234) rfl ?_
      show Steps p.tables e below (T212.setTop (mkF m 236 #[.val (.long q0), .second, .val (.long q1), .second, .val (.int p2), .val (.int p3), .val (.int p4), .val (.int fl), .val (.int x8), .val (.int x9), .val (.long rr), .second, .val (.int y0), .val (.int y1), .val (.ref b143), .val (.ref b147), .val (.ref b154), .val (.ref b174), .val (.int (((own_lh q0) * (31 : Int32)) + (1 : Int32))), .val (.int (((own_lh rr) * (31 : Int32)) + (1 : Int32))), .val (.int rq211)] [(.int y1), (.int y0), (.int fl), (.long rr), (.int (((own_lh rr) * (31 : Int32)) + (1 : Int32)))])) _
      exact k
    obtain ⟨_, _, ⟨T214, L214, k214, n214⟩, -, X214, ⟨Lc214, hQ214, l214, y214, z214⟩, st214⟩ := Jvm.LawKit.callS X212 hx (y := (⟨"com/example/bevaka/bevaka/store/CheckpointHashCodePinLaw", "expected", "(JZBB)I"⟩ : MethodName)) hown (mvT hZ (hw _ (List.mem_of_getElem? (i := 51) rfl))) (mvT hZ (hw _ (List.mem_of_getElem? (i := 52) rfl))) (mvT hZ (hw _ (List.mem_of_getElem? (i := 53) rfl))) (mvT hZ (hw _ (List.mem_of_getElem? (i := 54) rfl))) (by decide) (backOf (W := 1) (rm9 l Z a0 hw [] rr fl y0 y1  T191.heap n0 Z207) hZ (hw _ (List.mem_of_getElem? (i := 54) rfl)) (hw _ (List.mem_of_getElem? (i := 53) rfl)) (by decide) (by decide)) (g := (mkF m 236 #[.val (.long q0), .second, .val (.long q1), .second, .val (.int p2), .val (.int p3), .val (.int p4), .val (.int fl), .val (.int x8), .val (.int x9), .val (.long rr), .second, .val (.int y0), .val (.int y1), .val (.ref b143), .val (.ref b147), .val (.ref b154), .val (.ref b174), .val (.int (((own_lh q0) * (31 : Int32)) + (1 : Int32))), .val (.int (((own_lh rr) * (31 : Int32)) + (1 : Int32))), .val (.int rq211)] [(.int y1), (.int y0), (.int fl), (.long rr), (.int (((own_lh rr) * (31 : Int32)) + (1 : Int32)))])) rfl (by rw [hml]; rfl) (argsL := [(.long rr), (.int fl), (.int y0), (.int y1)]) (rest := [(.int (((own_lh rr) * (31 : Int32)) + (1 : Int32)))]) (lenOf pd_9 rfl) rfl (by show 2 * 0 + _ ≤ _; exact Nat.le_of_eq rfl) (hb hby at_236) (fun _ _ => ⟨rfl, eq212, (by decide : 6 + 0 ≤ _), (by decide : 8 + 0 ≤ _)⟩)
    dsimp only [Pt.U, Pt.locs, Pt.cells, Pt.slots] at X214 l214 y214 z214 st214 hQ214
    subst l214 y214 z214
    obtain ⟨rfl, N214q, eq214⟩ := hQ214
    have N214 := Fr.app N212 N214q
    refine own_step st214 ?_
    show own_Run p e below s _ _ _ T214 (mkF m 239 #[.val (.long q0), .second, .val (.long q1), .second, .val (.int p2), .val (.int p3), .val (.int p4), .val (.int fl), .val (.int x8), .val (.int x9), .val (.long rr), .second, .val (.int y0), .val (.int y1), .val (.ref b143), .val (.ref b147), .val (.ref b154), .val (.ref b174), .val (.int (((own_lh q0) * (31 : Int32)) + (1 : Int32))), .val (.int (((own_lh rr) * (31 : Int32)) + (1 : Int32))), .val (.int rq211)] [(.int (own_ex rr fl y0 y1)), (.int (((own_lh rr) * (31 : Int32)) + (1 : Int32)))])
    refine own_step (T' := T214) (g' := (mkF m 244 #[.val (.long q0), .second, .val (.long q1), .second, .val (.int p2), .val (.int p3), .val (.int p4), .val (.int fl), .val (.int x8), .val (.int x9), .val (.long rr), .second, .val (.int y0), .val (.int y1), .val (.ref b143), .val (.ref b147), .val (.ref b154), .val (.ref b174), .val (.int (((own_lh q0) * (31 : Int32)) + (1 : Int32))), .val (.int (((own_lh rr) * (31 : Int32)) + (1 : Int32))), .val (.int rq211)] [(.int rq211)])) (fun t k => ?_) ?_
    · show Steps p.tables e below (T214.setTop (mkF m 239 #[.val (.long q0), .second, .val (.long q1), .second, .val (.int p2), .val (.int p3), .val (.int p4), .val (.int fl), .val (.int x8), .val (.int x9), .val (.long rr), .second, .val (.int y0), .val (.int y1), .val (.ref b143), .val (.ref b147), .val (.ref b154), .val (.ref b174), .val (.int (((own_lh q0) * (31 : Int32)) + (1 : Int32))), .val (.int (((own_lh rr) * (31 : Int32)) + (1 : Int32))), .val (.int rq211)] [(.int (own_ex rr fl y0 y1)), (.int (((own_lh rr) * (31 : Int32)) + (1 : Int32)))])) _
      refine XS.icmpNo X214.here hx rfl (hb hby at_239) rfl (teq (own_he hc5 : (((own_lh rr) * (31 : Int32)) + (1 : Int32)) = (own_ex rr fl y0 y1))).2 ?_
      show Steps p.tables e below (T214.setTop (mkF m 242 #[.val (.long q0), .second, .val (.long q1), .second, .val (.int p2), .val (.int p3), .val (.int p4), .val (.int fl), .val (.int x8), .val (.int x9), .val (.long rr), .second, .val (.int y0), .val (.int y1), .val (.ref b143), .val (.ref b147), .val (.ref b154), .val (.ref b174), .val (.int (((own_lh q0) * (31 : Int32)) + (1 : Int32))), .val (.int (((own_lh rr) * (31 : Int32)) + (1 : Int32))), .val (.int rq211)] [])) _
      refine XS.iload X214.here hx rfl (hb hby at_242) rfl ?_
      show Steps p.tables e below (T214.setTop (mkF m 244 #[.val (.long q0), .second, .val (.long q1), .second, .val (.int p2), .val (.int p3), .val (.int p4), .val (.int fl), .val (.int x8), .val (.int x9), .val (.long rr), .second, .val (.int y0), .val (.int y1), .val (.ref b143), .val (.ref b147), .val (.ref b154), .val (.ref b174), .val (.int (((own_lh q0) * (31 : Int32)) + (1 : Int32))), .val (.int (((own_lh rr) * (31 : Int32)) + (1 : Int32))), .val (.int rq211)] [(.int rq211)])) _
      exact k
    by_cases hc216 : rq211 = (0 : Int32)
    · skip
      refine own_step (T' := T214) (g' := (mkF m 259 #[.val (.long q0), .second, .val (.long q1), .second, .val (.int p2), .val (.int p3), .val (.int p4), .val (.int fl), .val (.int x8), .val (.int x9), .val (.long rr), .second, .val (.int y0), .val (.int y1), .val (.ref b143), .val (.ref b147), .val (.ref b154), .val (.ref b174), .val (.int (((own_lh q0) * (31 : Int32)) + (1 : Int32))), .val (.int (((own_lh rr) * (31 : Int32)) + (1 : Int32))), .val (.int rq211)] [(.int (1 : Int32))])) (fun t k => ?_) ?_
      · show Steps p.tables e below (T214.setTop (mkF m 244 #[.val (.long q0), .second, .val (.long q1), .second, .val (.int p2), .val (.int p3), .val (.int p4), .val (.int fl), .val (.int x8), .val (.int x9), .val (.long rr), .second, .val (.int y0), .val (.int y1), .val (.ref b143), .val (.ref b147), .val (.ref b154), .val (.ref b174), .val (.int (((own_lh q0) * (31 : Int32)) + (1 : Int32))), .val (.int (((own_lh rr) * (31 : Int32)) + (1 : Int32))), .val (.int rq211)] [(.int rq211)])) _
        refine XS.ifYes X214.here hx rfl (pc0 := 244) (pc' := 254) rfl (hb hby at_244) rfl ((if0 _ _).trans (teq hc216).1) (by decide) (by decide) ?_
        show Steps p.tables e below (T214.setTop (mkF m 254 #[.val (.long q0), .second, .val (.long q1), .second, .val (.int p2), .val (.int p3), .val (.int p4), .val (.int fl), .val (.int x8), .val (.int x9), .val (.long rr), .second, .val (.int y0), .val (.int y1), .val (.ref b143), .val (.ref b147), .val (.ref b154), .val (.ref b174), .val (.int (((own_lh q0) * (31 : Int32)) + (1 : Int32))), .val (.int (((own_lh rr) * (31 : Int32)) + (1 : Int32))), .val (.int rq211)] [])) _
        refine XS.iconst X214.here hx rfl (hb hby at_254) ?_
        show Steps p.tables e below (T214.setTop (mkF m 255 #[.val (.long q0), .second, .val (.long q1), .second, .val (.int p2), .val (.int p3), .val (.int p4), .val (.int fl), .val (.int x8), .val (.int x9), .val (.long rr), .second, .val (.int y0), .val (.int y1), .val (.ref b143), .val (.ref b147), .val (.ref b154), .val (.ref b174), .val (.int (((own_lh q0) * (31 : Int32)) + (1 : Int32))), .val (.int (((own_lh rr) * (31 : Int32)) + (1 : Int32))), .val (.int rq211)] [(.int (1 : Int32))])) _
        refine XS.goto X214.here hx rfl (pc0 := 255) (pc' := 259) rfl (hb hby at_255) (by decide) (by decide) ?_
        show Steps p.tables e below (T214.setTop (mkF m 259 #[.val (.long q0), .second, .val (.long q1), .second, .val (.int p2), .val (.int p3), .val (.int p4), .val (.int fl), .val (.int x8), .val (.int x9), .val (.long rr), .second, .val (.int y0), .val (.int y1), .val (.ref b143), .val (.ref b147), .val (.ref b154), .val (.ref b174), .val (.int (((own_lh q0) * (31 : Int32)) + (1 : Int32))), .val (.int (((own_lh rr) * (31 : Int32)) + (1 : Int32))), .val (.int rq211)] [(.int (1 : Int32))])) _
        exact k
      refine own_retN X214 hx (t := .boolean) Bd.returns (by simp) (hb hby at_259) (BodyLoose.notSynchronized Bd) (by decide) (by decide) ?_
      rw [show T214.heap = T191.heap from eq214]
      exact ⟨rfl, N214⟩
    · skip
      refine own_step (T' := T214) (g' := (mkF m 259 #[.val (.long q0), .second, .val (.long q1), .second, .val (.int p2), .val (.int p3), .val (.int p4), .val (.int fl), .val (.int x8), .val (.int x9), .val (.long rr), .second, .val (.int y0), .val (.int y1), .val (.ref b143), .val (.ref b147), .val (.ref b154), .val (.ref b174), .val (.int (((own_lh q0) * (31 : Int32)) + (1 : Int32))), .val (.int (((own_lh rr) * (31 : Int32)) + (1 : Int32))), .val (.int rq211)] [(.int (1 : Int32))])) (fun t k => ?_) ?_
      · show Steps p.tables e below (T214.setTop (mkF m 244 #[.val (.long q0), .second, .val (.long q1), .second, .val (.int p2), .val (.int p3), .val (.int p4), .val (.int fl), .val (.int x8), .val (.int x9), .val (.long rr), .second, .val (.int y0), .val (.int y1), .val (.ref b143), .val (.ref b147), .val (.ref b154), .val (.ref b174), .val (.int (((own_lh q0) * (31 : Int32)) + (1 : Int32))), .val (.int (((own_lh rr) * (31 : Int32)) + (1 : Int32))), .val (.int rq211)] [(.int rq211)])) _
        refine XS.ifNo X214.here hx rfl (hb hby at_244) rfl ((if0 _ _).trans (feq hc216).1) ?_
        show Steps p.tables e below (T214.setTop (mkF m 247 #[.val (.long q0), .second, .val (.long q1), .second, .val (.int p2), .val (.int p3), .val (.int p4), .val (.int fl), .val (.int x8), .val (.int x9), .val (.long rr), .second, .val (.int y0), .val (.int y1), .val (.ref b143), .val (.ref b147), .val (.ref b154), .val (.ref b174), .val (.int (((own_lh q0) * (31 : Int32)) + (1 : Int32))), .val (.int (((own_lh rr) * (31 : Int32)) + (1 : Int32))), .val (.int rq211)] [])) _
        refine XS.iload X214.here hx rfl (hb hby at_247) rfl ?_
        show Steps p.tables e below (T214.setTop (mkF m 249 #[.val (.long q0), .second, .val (.long q1), .second, .val (.int p2), .val (.int p3), .val (.int p4), .val (.int fl), .val (.int x8), .val (.int x9), .val (.long rr), .second, .val (.int y0), .val (.int y1), .val (.ref b143), .val (.ref b147), .val (.ref b154), .val (.ref b174), .val (.int (((own_lh q0) * (31 : Int32)) + (1 : Int32))), .val (.int (((own_lh rr) * (31 : Int32)) + (1 : Int32))), .val (.int rq211)] [(.int (((own_lh q0) * (31 : Int32)) + (1 : Int32)))])) _
        refine XS.iload X214.here hx rfl (hb hby at_249) rfl ?_
        show Steps p.tables e below (T214.setTop (mkF m 251 #[.val (.long q0), .second, .val (.long q1), .second, .val (.int p2), .val (.int p3), .val (.int p4), .val (.int fl), .val (.int x8), .val (.int x9), .val (.long rr), .second, .val (.int y0), .val (.int y1), .val (.ref b143), .val (.ref b147), .val (.ref b154), .val (.ref b174), .val (.int (((own_lh q0) * (31 : Int32)) + (1 : Int32))), .val (.int (((own_lh rr) * (31 : Int32)) + (1 : Int32))), .val (.int rq211)] [(.int (((own_lh rr) * (31 : Int32)) + (1 : Int32))), (.int (((own_lh q0) * (31 : Int32)) + (1 : Int32)))])) _
        refine XS.icmpNo X214.here hx rfl (hb hby at_251) rfl (teq (own_se hr211 hc216 : (((own_lh q0) * (31 : Int32)) + (1 : Int32)) = (((own_lh rr) * (31 : Int32)) + (1 : Int32)))).2 ?_
        show Steps p.tables e below (T214.setTop (mkF m 254 #[.val (.long q0), .second, .val (.long q1), .second, .val (.int p2), .val (.int p3), .val (.int p4), .val (.int fl), .val (.int x8), .val (.int x9), .val (.long rr), .second, .val (.int y0), .val (.int y1), .val (.ref b143), .val (.ref b147), .val (.ref b154), .val (.ref b174), .val (.int (((own_lh q0) * (31 : Int32)) + (1 : Int32))), .val (.int (((own_lh rr) * (31 : Int32)) + (1 : Int32))), .val (.int rq211)] [])) _
        refine XS.iconst X214.here hx rfl (hb hby at_254) ?_
        show Steps p.tables e below (T214.setTop (mkF m 255 #[.val (.long q0), .second, .val (.long q1), .second, .val (.int p2), .val (.int p3), .val (.int p4), .val (.int fl), .val (.int x8), .val (.int x9), .val (.long rr), .second, .val (.int y0), .val (.int y1), .val (.ref b143), .val (.ref b147), .val (.ref b154), .val (.ref b174), .val (.int (((own_lh q0) * (31 : Int32)) + (1 : Int32))), .val (.int (((own_lh rr) * (31 : Int32)) + (1 : Int32))), .val (.int rq211)] [(.int (1 : Int32))])) _
        refine XS.goto X214.here hx rfl (pc0 := 255) (pc' := 259) rfl (hb hby at_255) (by decide) (by decide) ?_
        show Steps p.tables e below (T214.setTop (mkF m 259 #[.val (.long q0), .second, .val (.long q1), .second, .val (.int p2), .val (.int p3), .val (.int p4), .val (.int fl), .val (.int x8), .val (.int x9), .val (.long rr), .second, .val (.int y0), .val (.int y1), .val (.ref b143), .val (.ref b147), .val (.ref b154), .val (.ref b174), .val (.int (((own_lh q0) * (31 : Int32)) + (1 : Int32))), .val (.int (((own_lh rr) * (31 : Int32)) + (1 : Int32))), .val (.int rq211)] [(.int (1 : Int32))])) _
        exact k
      refine own_retN X214 hx (t := .boolean) Bd.returns (by simp) (hb hby at_259) (BodyLoose.notSynchronized Bd) (by decide) (by decide) ?_
      rw [show T214.heap = T191.heap from eq214]
      exact ⟨rfl, N214⟩
set_option maxRecDepth 65536 in
set_option maxHeartbeats 40000000 in
theorem comes_1 {Post : Tables → Env → Array Value → State → Outcome → State → Prop} (hpost : ∀ tb e args s v u, (limb_1_1.after args s (.returned v) u = true ∧ limb_1_2.after args s (.returned v) u = true ∧ True) → FrameEnd s (.returned v) u (Jvm.fieldLocs frame_1_writes args s ++ Jvm.arrayLocs frame_1_arrays args s ++ Jvm.staticLocs frame_1_statics s) 24 128 → Post tb e args s (.returned v) u) :
    ArmFor flags0 classFile x code maxLocals ret World_1 tables_1 room_1 Calls_1 rest_1 Pre_1 Post := by
  intro l hfl _ _ p e ha hc hk s m args below hf hA hF happ hP
  obtain ⟨hcalls, hrest, hpre⟩ := hP
  obtain ⟨-, -, -, hnamed, -, -, -, hat⟩ := (Spec.applies_iff hf).mp happ
  obtain ⟨hg, hn⟩ := and_e (Cond.before_iff.mp (show (Jvm.Cond.and given_1 narrow_1).before args s = true from hpre))
  obtain ⟨gc, gr0⟩ := and_e hg
  obtain ⟨ga0, gr1⟩ := and_e gr0
  obtain ⟨ga1, gr2⟩ := and_e gr1
  obtain ⟨ga2, gr3⟩ := and_e gr2
  obtain ⟨ga3, gr4⟩ := and_e gr3
  obtain ⟨w0, w1, w2, w3, w4, rfl⟩ : ∃ w0 w1 w2 w3 w4 : Value, args = #[w0, w1, w2, w3, w4] := by
    have hs : args.size = 5 := by simpa [Cond.value, given_1] using gc
    obtain ⟨L⟩ := args
    match L, hs with
    | [w0, w1, w2, w3, w4], _ => exact ⟨w0, w1, w2, w3, w4, rfl⟩
  have hw := fun d (hd : d ∈ tables_1) => atoms_spec (ws := Jvm.Cond.code x code maxLocals ret :: tables_1) hat d (List.mem_cons_of_mem _ hd)
  obtain ⟨i0, ei0⟩ := isL_v ga0
  obtain rfl : w0 = (.long i0) := Option.some.inj ei0
  obtain ⟨i1, ei1⟩ := isL_v ga1
  obtain rfl : w1 = (.long i1) := Option.some.inj ei1
  obtain ⟨i2, ei2⟩ := is_v ga2
  obtain rfl : w2 = (.int i2) := Option.some.inj ei2
  obtain ⟨i3, ei3⟩ := is_v ga3
  obtain rfl : w3 = (.int i3) := Option.some.inj ei3
  obtain ⟨i4, ei4⟩ := is_v gr4
  obtain rfl : w4 = (.int i4) := Option.some.inj ei4
  obtain ⟨n, o, h1, h2, h3, _, L, rfl, ⟨rfl, N⟩, hq⟩ := rm0 l s _ hw tables_1 i0 i1 i2 i3 i4  s.heap s.heap.size (Nat.le_refl _)  p e ha hc hk s m _ below hf ((Spec.applies_iff_loose hf).mp happ).1 ⟨rfl, State.Warmed39.refl s, rfl⟩ trivial
  refine ⟨n, _, h1, h2, h3, hpost _ _ _ _ _ _ ⟨Cond.after_iff.mpr rfl, Cond.after_iff.mpr (eq_i res_at (Term.int_eval (1)) rfl), trivial⟩ ⟨hq.1, hq.2.1, (hq.2.2.sift fun y hy => Or.inr (N y hy)).mono (by decide) (by decide)⟩⟩
theorem main_1_1 : Claimed_1_1 := comes_1 fun _ _ _ _ _ _ h hF => ⟨h.1, hF⟩
theorem main_1_2 : Claimed_1_2 := comes_1 fun _ _ _ _ _ _ h hF => ⟨h.2.1, hF⟩
end Jvm.Pilot.@@N@@
namespace Jvm.Pilot.@@N@@
open Jvm Jvm.ClassFile Sem Op Lib Jvm.Free Jvm.Stand Jvm.Pilot.@@N@@.Jvm.D
/-! MADE BY PROGRAM (witnessworld.py) out of the Statement's table words and the real class files: 16 classes; the members and pool entries that the words name. The judged class is class 1, her method 2. -/
namespace start1
open Jvm.ClassFile
def u (s : String) : CpInfo := .utf8 (stringToUtf16 s)
/-- a pool by its gaps: so many unusable entries, then the entry; so many at the end -/
def gap : Nat → List CpInfo → List CpInfo
  | 0, r => r
  | n + 1, r => .unusable :: gap n r
def poolList (es : List (Nat × CpInfo)) (last : Nat) : List CpInfo := es.foldr (fun e r => gap e.1 (e.2 :: r)) (gap last [])
def pool (es : List (Nat × CpInfo)) (last : Nat) : Array CpInfo := ⟨poolList es last⟩
def fileOf (pool : Array CpInfo) (this : Nat) (attrs : Array Attribute := #[]) (ms : Array MethodInfo := #[]) (fl : Nat := 33) (sup : Nat := 0) (ifs : Array Nat := #[]) (fds : Array FieldInfo := #[]) : ClassFile where
  minorVersion := 0
  majorVersion := 65
  constantPool := pool
  accessFlags := fl
  thisClass := this
  superClass := sup
  interfaces := ifs
  fields := fds
  methods := ms
  attributes := attrs
def plain (name : String) (sup : Option ClassId) : Class where
  name := name
  kind := .ordinary
  loader := none
  accessFlags := 33
  super := sup
  interfaces := #[]
  cf := none
  fields := #[]
  methods := #[]
  instanceTypes := #[]
  staticTypes := #[]
  resolved := #[]
  callSites := []
  init := .initialized
  statics := none
  mirror := none

def pool0 : Array CpInfo := pool [(5, u "<init>"), (0, u "()V"), (1, .class_ 10), (1, u "java/lang/Object"), (85, u "clone"), (0, u "()Ljava/lang/Object;")] 26

def k0c0 : Code := { maxStack := 0, maxLocals := 1, code := object_method_1_code, exceptionTable := #[], attributes := #[] }
def k0m0 : Method := { name := "<init>", desc := "()V", sig := { parameters := [], returnType := none }, accessFlags := 1, code := some k0c0 }
def k0m1 : Method := { name := "clone", desc := "()Ljava/lang/Object;", sig := { parameters := [], returnType := some (.object "java/lang/Object") }, accessFlags := 260, code := none }
/-- java/lang/Object -/
def k0 : Class := { plain "java/lang/Object" none with
  accessFlags := 33
  interfaces := #[]
  cf := some (fileOf pool0 8 #[] #[{ accessFlags := 1, nameIndex := 5, descriptorIndex := 6, attributes := #[] }, { accessFlags := 260, nameIndex := 96, descriptorIndex := 97, attributes := #[] }] 33 0 #[] #[])
  fields := #[]
  methods := #[k0m0, k0m1]
  instanceTypes := #[]
  staticTypes := #[]
  resolved := Array.replicate 124 none
  statics := none }

def pool1 : Array CpInfo := pool [(2, .class_ 4), (1, u "java/lang/Object"), (0, u "<init>"), (0, u "()V"), (0, .class_ 8), (0, u "com/example/bevaka/bevaka/store/Checkpoint"), (0, .methodref 7 10), (0, .nameAndType 5 11), (0, u "(J[B)V"), (0, .methodref 7 13), (0, .nameAndType 14 15), (0, u "hashCode"), (0, u "()I"), (0, .methodref 7 17), (0, .nameAndType 18 19), (0, u "equals"), (0, u "(Ljava/lang/Object;)Z"), (0, .methodref 21 22), (0, .class_ 23), (0, .nameAndType 24 25), (0, u "com/example/bevaka/bevaka/store/CheckpointHashCodePinLaw"), (0, u "expected"), (0, u "(JZBB)I"), (3, u "law"), (0, u "(JJIII)Z")] 4

def k1m0 : Method := { name := "<init>", desc := "()V", sig := { parameters := [], returnType := none }, accessFlags := 1, code := none }
def k1c1 : Code := { maxStack := 5, maxLocals := 7, code := method_2_code, exceptionTable := #[], attributes := #[] }
def k1m1 : Method := { name := "expected", desc := "(JZBB)I", sig := { parameters := [.long, .boolean, .byte, .byte], returnType := some .int }, accessFlags := 10, code := some k1c1 }
def k1c2 : Code := { maxStack := 6, maxLocals := 21, code := code, exceptionTable := #[], attributes := #[] }
def k1m2 : Method := { name := "law", desc := "(JJIII)Z", sig := { parameters := [.long, .long, .int, .int, .int], returnType := some .boolean }, accessFlags := 9, code := some k1c2 }
/-- com/example/bevaka/bevaka/store/CheckpointHashCodePinLaw -/
def k1 : Class := { plain "com/example/bevaka/bevaka/store/CheckpointHashCodePinLaw" (some 0) with
  accessFlags := 49
  interfaces := #[]
  cf := some (fileOf pool1 21 #[] #[{ accessFlags := 1, nameIndex := 5, descriptorIndex := 6, attributes := #[] }, { accessFlags := 10, nameIndex := 24, descriptorIndex := 25, attributes := #[] }, { accessFlags := 9, nameIndex := 29, descriptorIndex := 30, attributes := #[] }] 49 2 #[] #[])
  fields := #[]
  methods := #[k1m0, k1m1, k1m2]
  instanceTypes := #[]
  staticTypes := #[]
  resolved := Array.replicate 35 none
  statics := none }

def pool2 : Array CpInfo := pool [(1, .methodref 2 3), (0, .class_ 4), (0, .nameAndType 5 6), (0, u "java/lang/Object"), (0, u "<init>"), (0, u "()V"), (0, .fieldref 8 9), (0, .class_ 10), (0, .nameAndType 11 12), (0, u "com/example/bevaka/bevaka/store/Checkpoint"), (0, u "records"), (0, u "J"), (0, .methodref 14 15), (0, .class_ 16), (0, .nameAndType 17 18), (0, u "[B"), (0, u "clone"), (0, u "()Ljava/lang/Object;"), (0, .fieldref 8 20), (0, .nameAndType 21 16), (0, u "chain"), (2, u "TEXT"), (0, u "Ljava/util/regex/Pattern;"), (35, .class_ 63), (1, u "java/lang/Long"), (4, u "HEX"), (0, u "Ljava/util/HexFormat;"), (8, u "(J[B)V"), (2, u "SHA_256"), (0, u "Ljava/lang/ThreadLocal;"), (30, .methodref 114 115), (0, .class_ 116), (0, .nameAndType 117 118), (0, u "java/util/Arrays"), (0, u "equals"), (0, u "([B[B)Z"), (0, .methodref 61 120), (0, .nameAndType 121 122), (0, u "hashCode"), (0, u "(J)I"), (0, .methodref 114 124), (0, .nameAndType 121 125), (0, u "([B)I"), (18, u "NONE"), (0, u "Lcom/example/bevaka/bevaka/store/Checkpoint;"), (19, u "FIRST_LINE"), (0, u "Ljava/lang/String;"), (12, u "(Ljava/lang/Object;)Z"), (0, u "()I")] 35

def k2c0 : Code := { maxStack := 3, maxLocals := 4, code := prog_13_method_1_code, exceptionTable := #[], attributes := #[] }
def k2m0 : Method := { name := "<init>", desc := "(J[B)V", sig := { parameters := [.long, (.array .byte)], returnType := none }, accessFlags := 0, code := some k2c0 }
def k2c1 : Code := { maxStack := 4, maxLocals := 3, code := prog_13_method_8_code, exceptionTable := #[], attributes := #[] }
def k2m1 : Method := { name := "equals", desc := "(Ljava/lang/Object;)Z", sig := { parameters := [(.object "java/lang/Object")], returnType := some .boolean }, accessFlags := 1, code := some k2c1 }
def k2c2 : Code := { maxStack := 2, maxLocals := 1, code := prog_13_method_9_code, exceptionTable := #[], attributes := #[] }
def k2m2 : Method := { name := "hashCode", desc := "()I", sig := { parameters := [], returnType := some .int }, accessFlags := 1, code := some k2c2 }
/-- com/example/bevaka/bevaka/store/Checkpoint -/
def k2 : Class := { plain "com/example/bevaka/bevaka/store/Checkpoint" (some 0) with
  accessFlags := 49
  interfaces := #[]
  cf := some (fileOf pool2 8 #[] #[{ accessFlags := 0, nameIndex := 5, descriptorIndex := 78, attributes := #[] }, { accessFlags := 1, nameIndex := 117, descriptorIndex := 179, attributes := #[] }, { accessFlags := 1, nameIndex := 121, descriptorIndex := 180, attributes := #[] }] 49 2 #[] #[{ accessFlags := 24, nameIndex := 144, descriptorIndex := 145, attributes := #[] }, { accessFlags := 26, nameIndex := 68, descriptorIndex := 69, attributes := #[] }, { accessFlags := 26, nameIndex := 81, descriptorIndex := 82, attributes := #[] }, { accessFlags := 26, nameIndex := 165, descriptorIndex := 166, attributes := #[] }, { accessFlags := 26, nameIndex := 24, descriptorIndex := 25, attributes := #[] }, { accessFlags := 18, nameIndex := 11, descriptorIndex := 12, attributes := #[] }, { accessFlags := 18, nameIndex := 21, descriptorIndex := 16, attributes := #[] }])
  fields := #[{ name := "NONE", type := (.object "com/example/bevaka/bevaka/store/Checkpoint"), accessFlags := 24, slot := 0, constantValue := 0 }, { name := "HEX", type := (.object "java/util/HexFormat"), accessFlags := 26, slot := 1, constantValue := 0 }, { name := "SHA_256", type := (.object "java/lang/ThreadLocal"), accessFlags := 26, slot := 2, constantValue := 0 }, { name := "FIRST_LINE", type := (.object "java/lang/String"), accessFlags := 26, slot := 3, constantValue := 0 }, { name := "TEXT", type := (.object "java/util/regex/Pattern"), accessFlags := 26, slot := 4, constantValue := 0 }, { name := "records", type := .long, accessFlags := 18, slot := 0, constantValue := 0 }, { name := "chain", type := (.array .byte), accessFlags := 18, slot := 1, constantValue := 0 }]
  methods := #[k2m0, k2m1, k2m2]
  instanceTypes := #[.long, (.array .byte)]
  staticTypes := #[(.object "com/example/bevaka/bevaka/store/Checkpoint"), (.object "java/util/HexFormat"), (.object "java/lang/ThreadLocal"), (.object "java/lang/String"), (.object "java/util/regex/Pattern")]
  resolved := Array.replicate 216 none
  statics := none }

def pool3 : Array CpInfo := pool [(1, .class_ 2), (0, u "java/lang/Cloneable"), (0, .class_ 4), (0, u "java/lang/Object")] 2

/-- java/lang/Cloneable -/
def k3 : Class := { plain "java/lang/Cloneable" (some 0) with
  accessFlags := 1537
  interfaces := #[]
  cf := some (fileOf pool3 1 #[] #[] 1537 3 #[] #[])
  fields := #[]
  methods := #[]
  instanceTypes := #[]
  staticTypes := #[]
  resolved := Array.replicate 7 none
  statics := none }

def pool4 : Array CpInfo := pool [(1, .class_ 2), (0, u "java/io/Serializable"), (0, .class_ 4), (0, u "java/lang/Object")] 2

/-- java/io/Serializable -/
def k4 : Class := { plain "java/io/Serializable" (some 0) with
  accessFlags := 1537
  interfaces := #[]
  cf := some (fileOf pool4 1 #[] #[] 1537 3 #[] #[])
  fields := #[]
  methods := #[]
  instanceTypes := #[]
  staticTypes := #[]
  resolved := Array.replicate 7 none
  statics := none }

def pool5 : Array CpInfo := pool [(2, .class_ 4), (1, u "java/lang/Object"), (0, u "<init>"), (0, u "()V"), (1, .class_ 10), (1, u "java/lang/Number"), (2, .class_ 14), (0, u "java/io/Serializable"), (0, u "serialVersionUID"), (0, u "J")] 20

def k5m0 : Method := { name := "<init>", desc := "()V", sig := { parameters := [], returnType := none }, accessFlags := 1, code := none }
/-- java/lang/Number -/
def k5 : Class := { plain "java/lang/Number" (some 0) with
  accessFlags := 1057
  interfaces := #[4]
  cf := some (fileOf pool5 8 #[] #[{ accessFlags := 1, nameIndex := 5, descriptorIndex := 6, attributes := #[] }] 1057 2 #[13] #[{ accessFlags := 26, nameIndex := 15, descriptorIndex := 16, attributes := #[] }])
  fields := #[{ name := "serialVersionUID", type := .long, accessFlags := 26, slot := 0, constantValue := 0 }]
  methods := #[k5m0]
  instanceTypes := #[]
  staticTypes := #[.long]
  resolved := Array.replicate 37 none
  statics := none }

def pool6 : Array CpInfo := pool [(1, .class_ 2), (0, u "java/lang/Comparable"), (0, .class_ 4), (0, u "java/lang/Object")] 7

/-- java/lang/Comparable -/
def k6 : Class := { plain "java/lang/Comparable" (some 0) with
  accessFlags := 1537
  interfaces := #[]
  cf := some (fileOf pool6 1 #[] #[] 1537 3 #[] #[])
  fields := #[]
  methods := #[]
  instanceTypes := #[]
  staticTypes := #[]
  resolved := Array.replicate 12 none
  statics := none }

def pool7 : Array CpInfo := pool [(1, .class_ 2), (0, u "java/lang/constant/Constable"), (0, .class_ 4), (0, u "java/lang/Object")] 6

/-- java/lang/constant/Constable -/
def k7 : Class := { plain "java/lang/constant/Constable" (some 0) with
  accessFlags := 1537
  interfaces := #[]
  cf := some (fileOf pool7 1 #[] #[] 1537 3 #[] #[])
  fields := #[]
  methods := #[]
  instanceTypes := #[]
  staticTypes := #[]
  resolved := Array.replicate 11 none
  statics := none }

def pool8 : Array CpInfo := pool [(1, .class_ 2), (0, u "java/lang/constant/ConstantDesc"), (0, .class_ 4), (0, u "java/lang/Object")] 32

/-- java/lang/constant/ConstantDesc -/
def k8 : Class := { plain "java/lang/constant/ConstantDesc" (some 0) with
  accessFlags := 1537
  interfaces := #[]
  cf := some (fileOf pool8 1 #[] #[] 1537 3 #[] #[])
  fields := #[]
  methods := #[]
  instanceTypes := #[]
  staticTypes := #[]
  resolved := Array.replicate 37 none
  statics := none }

def pool9 : Array CpInfo := pool [(1, .class_ 2), (0, u "java/lang/Long"), (98, u "(J)I"), (133, .class_ 237), (1, u "java/lang/Long$LongCache"), (33, .class_ 272), (0, u "java/lang/Number"), (2, u "value"), (0, u "J"), (2, u "hashCode"), (81, u "TYPE"), (0, u "Ljava/lang/Class;"), (0, .class_ 364), (0, u "java/lang/Comparable"), (0, .class_ 366), (0, u "java/lang/constant/Constable"), (0, .class_ 368), (0, u "java/lang/constant/ConstantDesc"), (0, u "MIN_VALUE"), (1, u "MAX_VALUE"), (4, u "SIZE"), (0, u "I"), (1, u "BYTES"), (1, u "serialVersionUID")] 142

def k9c0 : Code := { maxStack := 5, maxLocals := 2, code := jdk_35_method_36_code, exceptionTable := #[], attributes := #[] }
def k9m0 : Method := { name := "hashCode", desc := "(J)I", sig := { parameters := [.long], returnType := some .int }, accessFlags := 9, code := some k9c0 }
/-- java/lang/Long -/
def k9 : Class := { plain "java/lang/Long" (some 5) with
  accessFlags := 49
  interfaces := #[6, 7, 8]
  cf := some (fileOf pool9 1 #[.nestMembers #[235]] #[{ accessFlags := 9, nameIndex := 279, descriptorIndex := 101, attributes := #[] }] 49 271 #[363, 365, 367] #[{ accessFlags := 25, nameIndex := 369, descriptorIndex := 276, attributes := #[] }, { accessFlags := 25, nameIndex := 371, descriptorIndex := 276, attributes := #[] }, { accessFlags := 25, nameIndex := 361, descriptorIndex := 362, attributes := #[] }, { accessFlags := 18, nameIndex := 275, descriptorIndex := 276, attributes := #[] }, { accessFlags := 25, nameIndex := 376, descriptorIndex := 377, attributes := #[] }, { accessFlags := 25, nameIndex := 379, descriptorIndex := 377, attributes := #[] }, { accessFlags := 26, nameIndex := 381, descriptorIndex := 276, attributes := #[] }])
  fields := #[{ name := "MIN_VALUE", type := .long, accessFlags := 25, slot := 0, constantValue := 0 }, { name := "MAX_VALUE", type := .long, accessFlags := 25, slot := 1, constantValue := 0 }, { name := "TYPE", type := (.object "java/lang/Class"), accessFlags := 25, slot := 2, constantValue := 0 }, { name := "value", type := .long, accessFlags := 18, slot := 0, constantValue := 0 }, { name := "SIZE", type := .int, accessFlags := 25, slot := 3, constantValue := 0 }, { name := "BYTES", type := .int, accessFlags := 25, slot := 4, constantValue := 0 }, { name := "serialVersionUID", type := .long, accessFlags := 26, slot := 5, constantValue := 0 }]
  methods := #[k9m0]
  instanceTypes := #[.long]
  staticTypes := #[.long, .long, (.object "java/lang/Class"), .int, .int, .long]
  resolved := Array.replicate 524 none
  statics := none }

def pool10 : Array CpInfo := pool [(2, .class_ 4), (1, u "java/lang/Object"), (0, u "<init>"), (0, u "()V"), (7, .class_ 16), (1, u "java/util/Arrays"), (57, .class_ 76), (1, u "java/util/Arrays$NaturalOrder"), (36, .class_ 115), (1, u "java/util/Arrays$LegacyMergeSort"), (1, u "Z"), (128, .class_ 248), (1, u "jdk/internal/util/ArraysSupport"), (0, u "mismatch"), (22, .methodref 246 273), (0, .nameAndType 249 274), (0, u "([B[BI)I"), (23, u "equals"), (76, .class_ 376), (0, u "java/util/Arrays$ArrayList"), (2, .methodref 246 380), (0, .nameAndType 381 382), (0, u "vectorizedHashCode"), (0, u "(Ljava/lang/Object;IIII)I"), (2, u "hashCode"), (16, u "([B)I"), (42, u "$assertionsDisabled"), (9, u "([B[B)Z"), (259, u "MIN_ARRAY_SORT_GRAN"), (0, u "I"), (2, u "INSERTIONSORT_THRESHOLD"), (255, .class_ 976), (0, u "java/util/Arrays$ArrayItr")] 52

def k10m0 : Method := { name := "<init>", desc := "()V", sig := { parameters := [], returnType := none }, accessFlags := 2, code := none }
def k10c1 : Code := { maxStack := 3, maxLocals := 3, code := jdk_65_method_89_code, exceptionTable := #[], attributes := #[] }
def k10m1 : Method := { name := "equals", desc := "([B[B)Z", sig := { parameters := [(.array .byte), (.array .byte)], returnType := some .boolean }, accessFlags := 9, code := some k10c1 }
def k10c2 : Code := { maxStack := 5, maxLocals := 1, code := jdk_65_method_153_code, exceptionTable := #[], attributes := #[] }
def k10m2 : Method := { name := "hashCode", desc := "([B)I", sig := { parameters := [(.array .byte)], returnType := some .int }, accessFlags := 9, code := some k10c2 }
/-- java/util/Arrays -/
def k10 : Class := { plain "java/util/Arrays" (some 0) with
  accessFlags := 49
  interfaces := #[]
  cf := some (fileOf pool10 14 #[.nestMembers #[975, 375, 113, 74]] #[{ accessFlags := 2, nameIndex := 5, descriptorIndex := 6, attributes := #[] }, { accessFlags := 9, nameIndex := 298, descriptorIndex := 455, attributes := #[] }, { accessFlags := 9, nameIndex := 385, descriptorIndex := 402, attributes := #[] }] 49 2 #[] #[{ accessFlags := 26, nameIndex := 715, descriptorIndex := 716, attributes := #[] }, { accessFlags := 26, nameIndex := 719, descriptorIndex := 716, attributes := #[] }, { accessFlags := 4120, nameIndex := 445, descriptorIndex := 117, attributes := #[] }])
  fields := #[{ name := "MIN_ARRAY_SORT_GRAN", type := .int, accessFlags := 26, slot := 0, constantValue := 0 }, { name := "INSERTIONSORT_THRESHOLD", type := .int, accessFlags := 26, slot := 1, constantValue := 0 }, { name := "$assertionsDisabled", type := .boolean, accessFlags := 4120, slot := 2, constantValue := 0 }]
  methods := #[k10m0, k10m1, k10m2]
  instanceTypes := #[]
  staticTypes := #[.int, .int, .boolean]
  resolved := Array.replicate 1029 none
  statics := none }

def pool11 : Array CpInfo := pool [(9, u "<init>"), (6, .class_ 18), (1, u "java/lang/Object"), (0, u "()V"), (1, .class_ 23), (1, u "jdk/internal/util/ArraysSupport"), (0, u "LOG2_ARRAY_LONG_INDEX_SCALE"), (0, u "I"), (2, u "U"), (0, u "Ljdk/internal/misc/Unsafe;"), (8, u "BIG_ENDIAN"), (0, u "Z"), (8, u "LOG2_BYTE_BIT_SIZE"), (4, u "LOG2_ARRAY_INT_INDEX_SCALE"), (6, .class_ 61), (0, u "[B"), (3, u "(I[BII)I"), (7, u "hashCode"), (1, .methodref 21 76), (0, .nameAndType 73 65), (31, u "JLA"), (0, u "Ljdk/internal/access/JavaLangAccess;"), (11, u "LOG2_ARRAY_BOOLEAN_INDEX_SCALE"), (9, u "LOG2_ARRAY_BYTE_INDEX_SCALE"), (5, u "LOG2_ARRAY_CHAR_INDEX_SCALE"), (5, u "LOG2_ARRAY_SHORT_INDEX_SCALE"), (5, u "mismatch"), (12, u "LOG2_ARRAY_FLOAT_INDEX_SCALE"), (24, u "LOG2_ARRAY_DOUBLE_INDEX_SCALE"), (89, u "T_BOOLEAN"), (2, u "T_CHAR"), (1, u "T_FLOAT"), (1, u "T_DOUBLE"), (1, u "T_BYTE"), (1, u "T_SHORT"), (1, u "T_INT"), (1, u "T_LONG"), (1, u "SOFT_MAX_ARRAY_LENGTH"), (26, u "vectorizedHashCode"), (0, u "(Ljava/lang/Object;IIII)I"), (13, u "([B[BI)I")] 41

def k11m0 : Method := { name := "<init>", desc := "()V", sig := { parameters := [], returnType := none }, accessFlags := 2, code := none }
def k11c1 : Code := { maxStack := 4, maxLocals := 5, code := jdk_48_method_4_code, exceptionTable := #[], attributes := #[] }
def k11m1 : Method := { name := "vectorizedHashCode", desc := "(Ljava/lang/Object;IIII)I", sig := { parameters := [(.object "java/lang/Object"), .int, .int, .int, .int], returnType := some .int }, accessFlags := 9, code := some k11c1 }
def k11c2 : Code := { maxStack := 3, maxLocals := 6, code := jdk_48_method_6_code, exceptionTable := #[], attributes := #[] }
def k11m2 : Method := { name := "hashCode", desc := "(I[BII)I", sig := { parameters := [.int, (.array .byte), .int, .int], returnType := some .int }, accessFlags := 10, code := some k11c2 }
def k11c3 : Code := { maxStack := 8, maxLocals := 4, code := jdk_48_method_13_code, exceptionTable := #[], attributes := #[] }
def k11m3 : Method := { name := "mismatch", desc := "([B[BI)I", sig := { parameters := [(.array .byte), (.array .byte), .int], returnType := some .int }, accessFlags := 9, code := some k11c3 }
/-- jdk/internal/util/ArraysSupport -/
def k11 : Class := { plain "jdk/internal/util/ArraysSupport" (some 0) with
  accessFlags := 33
  interfaces := #[]
  cf := some (fileOf pool11 21 #[] #[{ accessFlags := 2, nameIndex := 9, descriptorIndex := 19, attributes := #[] }, { accessFlags := 9, nameIndex := 321, descriptorIndex := 322, attributes := #[] }, { accessFlags := 10, nameIndex := 73, descriptorIndex := 65, attributes := #[] }, { accessFlags := 9, nameIndex := 149, descriptorIndex := 336, attributes := #[] }] 33 16 #[] #[{ accessFlags := 24, nameIndex := 28, descriptorIndex := 29, attributes := #[] }, { accessFlags := 26, nameIndex := 38, descriptorIndex := 39, attributes := #[] }, { accessFlags := 25, nameIndex := 121, descriptorIndex := 25, attributes := #[] }, { accessFlags := 25, nameIndex := 131, descriptorIndex := 25, attributes := #[] }, { accessFlags := 25, nameIndex := 137, descriptorIndex := 25, attributes := #[] }, { accessFlags := 25, nameIndex := 143, descriptorIndex := 25, attributes := #[] }, { accessFlags := 25, nameIndex := 53, descriptorIndex := 25, attributes := #[] }, { accessFlags := 25, nameIndex := 24, descriptorIndex := 25, attributes := #[] }, { accessFlags := 25, nameIndex := 162, descriptorIndex := 25, attributes := #[] }, { accessFlags := 25, nameIndex := 187, descriptorIndex := 25, attributes := #[] }, { accessFlags := 26, nameIndex := 48, descriptorIndex := 25, attributes := #[] }, { accessFlags := 25, nameIndex := 277, descriptorIndex := 25, attributes := #[] }, { accessFlags := 25, nameIndex := 280, descriptorIndex := 25, attributes := #[] }, { accessFlags := 25, nameIndex := 282, descriptorIndex := 25, attributes := #[] }, { accessFlags := 25, nameIndex := 284, descriptorIndex := 25, attributes := #[] }, { accessFlags := 25, nameIndex := 286, descriptorIndex := 25, attributes := #[] }, { accessFlags := 25, nameIndex := 288, descriptorIndex := 25, attributes := #[] }, { accessFlags := 25, nameIndex := 290, descriptorIndex := 25, attributes := #[] }, { accessFlags := 25, nameIndex := 292, descriptorIndex := 25, attributes := #[] }, { accessFlags := 26, nameIndex := 108, descriptorIndex := 109, attributes := #[] }, { accessFlags := 25, nameIndex := 294, descriptorIndex := 25, attributes := #[] }])
  fields := #[{ name := "U", type := (.object "jdk/internal/misc/Unsafe"), accessFlags := 24, slot := 0, constantValue := 0 }, { name := "BIG_ENDIAN", type := .boolean, accessFlags := 26, slot := 1, constantValue := 0 }, { name := "LOG2_ARRAY_BOOLEAN_INDEX_SCALE", type := .int, accessFlags := 25, slot := 2, constantValue := 0 }, { name := "LOG2_ARRAY_BYTE_INDEX_SCALE", type := .int, accessFlags := 25, slot := 3, constantValue := 0 }, { name := "LOG2_ARRAY_CHAR_INDEX_SCALE", type := .int, accessFlags := 25, slot := 4, constantValue := 0 }, { name := "LOG2_ARRAY_SHORT_INDEX_SCALE", type := .int, accessFlags := 25, slot := 5, constantValue := 0 }, { name := "LOG2_ARRAY_INT_INDEX_SCALE", type := .int, accessFlags := 25, slot := 6, constantValue := 0 }, { name := "LOG2_ARRAY_LONG_INDEX_SCALE", type := .int, accessFlags := 25, slot := 7, constantValue := 0 }, { name := "LOG2_ARRAY_FLOAT_INDEX_SCALE", type := .int, accessFlags := 25, slot := 8, constantValue := 0 }, { name := "LOG2_ARRAY_DOUBLE_INDEX_SCALE", type := .int, accessFlags := 25, slot := 9, constantValue := 0 }, { name := "LOG2_BYTE_BIT_SIZE", type := .int, accessFlags := 26, slot := 10, constantValue := 0 }, { name := "T_BOOLEAN", type := .int, accessFlags := 25, slot := 11, constantValue := 0 }, { name := "T_CHAR", type := .int, accessFlags := 25, slot := 12, constantValue := 0 }, { name := "T_FLOAT", type := .int, accessFlags := 25, slot := 13, constantValue := 0 }, { name := "T_DOUBLE", type := .int, accessFlags := 25, slot := 14, constantValue := 0 }, { name := "T_BYTE", type := .int, accessFlags := 25, slot := 15, constantValue := 0 }, { name := "T_SHORT", type := .int, accessFlags := 25, slot := 16, constantValue := 0 }, { name := "T_INT", type := .int, accessFlags := 25, slot := 17, constantValue := 0 }, { name := "T_LONG", type := .int, accessFlags := 25, slot := 18, constantValue := 0 }, { name := "JLA", type := (.object "jdk/internal/access/JavaLangAccess"), accessFlags := 26, slot := 19, constantValue := 0 }, { name := "SOFT_MAX_ARRAY_LENGTH", type := .int, accessFlags := 25, slot := 20, constantValue := 0 }]
  methods := #[k11m0, k11m1, k11m2, k11m3]
  instanceTypes := #[]
  staticTypes := #[(.object "jdk/internal/misc/Unsafe"), .boolean, .int, .int, .int, .int, .int, .int, .int, .int, .int, .int, .int, .int, .int, .int, .int, .int, .int, (.object "jdk/internal/access/JavaLangAccess"), .int]
  resolved := Array.replicate 378 none
  statics := none }

/-- the primitive byte -/
def k12 : Class := { plain "byte" none with kind := .primitive 'B', accessFlags := 0x411 }
/-- [B -/
def k13 : Class := { plain "[B" (some 0) with kind := .array 12 .byte, interfaces := #[3, 4], accessFlags := 1041 }

/-- the primitive int -/
def k14 : Class := { plain "int" none with kind := .primitive 'I', accessFlags := 0x411 }
/-- [I -/
def k15 : Class := { plain "[I" (some 0) with kind := .array 14 .int, interfaces := #[3, 4], accessFlags := 1041 }

def heap : Heap := #[]
def classes : Array Class := #[k0, k1, k2, k3, k4, k5, k6, k7, k8, k9, k10, k11, k12, k13, k14, k15]
def interned : List (Array UInt16 × Addr) := []
def slotsUsed : Nat := 0
def theMethod : MethodId := ⟨1, 2⟩
def args0 : Array Value := #[.long 5, .long 6, .int 7, .int 8, .int 1]
def aboutOver (below : List Frame) : State where
  vm := { classes := classes, interned := interned.toArray }
  heap := heap
  slotsUsed := slotsUsed
  threads := #[{ frames := .invoking theMethod args0 :: below }]
def below0 : List Frame := [.native { method := ⟨0, 0⟩, args := #[] }]
def about1 : State := aboutOver below0
def p0 : Program := .bare "" "" ""
def e0 : Env := launch0.env 0 0 0
theorem w_frames : about1.frames = Frame.invoking theMethod args0 :: below0 := rfl
set_option maxRecDepth 65536 in
theorem w_args : argsFit about1.vm theMethod args0 = true := by decide +kernel
set_option maxRecDepth 65536 in
theorem w_heap : heapFits about1 = true := by decide +kernel
set_option maxRecDepth 65536 in
theorem w_runnable : about1.curStatus? = some .runnable := by decide +kernel
set_option maxRecDepth 65536 in
theorem w_alone : about1.alone = true := by decide +kernel
set_option maxRecDepth 65536 in
theorem w_named : about1.methodNamed? x = some theMethod := by decide +kernel
set_option maxRecDepth 65536 in
theorem w_hears : about1.hears theMethod below0 = true := by decide +kernel
set_option maxRecDepth 65536 in
theorem w_ripe : about1.ripe theMethod args0 below0 = true := by decide +kernel
theorem w_running : about1.status = .running := rfl
set_option maxRecDepth 65536 in
theorem w_room : about1.hasRoom e0.platform room_1 = true :=
  launch0.hasRoom_least _ room_1 (by decide +kernel) (by decide +kernel) (by decide +kernel) (by decide +kernel) (by decide +kernel) (by decide +kernel)
theorem allAtoms_all (ts : List Jvm.Cond) (a : Array Jvm.Value) (st : Jvm.State) : (allAtoms ts).before a st = ts.all (fun c => c.before a st) := by
  induction ts with
  | nil => rfl
  | cons c t ih =>
    show (Jvm.Cond.and c (allAtoms t)).before a st = _
    rw [Jvm.Cond.before_and, ih, List.all_cons]
def words1 : List Jvm.Cond := Jvm.Cond.code x code maxLocals ret :: tables_1
/-- a 'code' word, met by the world's own term for the bytes: nothing is compared byte by byte -/
theorem code_word {y : MethodName} {bytes : ByteArray} {mx : Nat} {rt : Option FieldType} {a : Array Value} {s : State} {m : MethodId} {meth : Method} {c : Code} (h1 : s.methodNamed? y = some m) (h2 : s.vm.method? m = some meth) (h3 : meth.code = some c) (h4 : c.code = bytes)
    (h5 : (c.maxLocals == mx && c.exceptionTable.isEmpty && decide (c.maxStack ≤ mostOperands) && decide (meth.sig.returnType = rt) && !meth.locks && decide (parseMethodDescriptor y.desc = some meth.sig)) = true) : (Jvm.Cond.code y bytes mx rt).before a s = true := by
  simp only [Bool.and_eq_true, beq_iff_eq, Bool.not_eq_true', decide_eq_true_eq] at h5
  obtain ⟨⟨⟨⟨⟨g1, g2⟩, g3⟩, g4⟩, g5⟩, g6⟩ := h5
  simp [Cond.before, Cond.holds, Cond.value, h1, h2, h3, h4, g1, g2, g3, g4, g5, g6]
def isCode : Jvm.Cond → Bool
  | .code _ _ _ _ => true
  | _ => false
theorem all_split {L : List Jvm.Cond} {P : Jvm.Cond → Bool} (h1 : L.all (fun c => isCode c || P c) = true) (h2 : ∀ c ∈ L.filter isCode, P c = true) : L.all P = true := by
  refine List.all_eq_true.mpr fun c hc => ?_
  have h := List.all_eq_true.mp h1 c hc
  rcases Bool.eq_false_or_eq_true (isCode c) with hi | hi
  · exact h2 c (List.mem_filter.mpr ⟨hc, hi⟩)
  · simpa [hi] using h
set_option maxRecDepth 65536 in
theorem w_c0 : (Jvm.Cond.code x code maxLocals ret).before args0 about1 = true := code_word (m := ⟨1, 2⟩) (meth := k1m2) (c := k1c2) (by decide +kernel) rfl rfl rfl (by decide +kernel)
set_option maxRecDepth 65536 in
theorem w_c1 : (Jvm.Cond.code ({ cls := "com/example/bevaka/bevaka/store/Checkpoint", name := "<init>", desc := "(J[B)V" } : Jvm.MethodName) prog_13_method_1_code (4 : Nat) (Option.none : Option Jvm.ClassFile.FieldType)).before args0 about1 = true := code_word (m := ⟨2, 0⟩) (meth := k2m0) (c := k2c0) (by decide +kernel) rfl rfl rfl (by decide +kernel)
set_option maxRecDepth 65536 in
theorem w_c2 : (Jvm.Cond.code ({ cls := "java/lang/Object", name := "<init>", desc := "()V" } : Jvm.MethodName) object_method_1_code (1 : Nat) (Option.none : Option Jvm.ClassFile.FieldType)).before args0 about1 = true := code_word (m := ⟨0, 0⟩) (meth := k0m0) (c := k0c0) (by decide +kernel) rfl rfl rfl (by decide +kernel)
set_option maxRecDepth 65536 in
theorem w_c3 : (Jvm.Cond.code ({ cls := "com/example/bevaka/bevaka/store/Checkpoint", name := "hashCode", desc := "()I" } : Jvm.MethodName) prog_13_method_9_code (1 : Nat) (Option.some Jvm.ClassFile.FieldType.int)).before args0 about1 = true := code_word (m := ⟨2, 2⟩) (meth := k2m2) (c := k2c2) (by decide +kernel) rfl rfl rfl (by decide +kernel)
set_option maxRecDepth 65536 in
theorem w_c4 : (Jvm.Cond.code ({ cls := "java/lang/Long", name := "hashCode", desc := "(J)I" } : Jvm.MethodName) jdk_35_method_36_code (2 : Nat) (Option.some Jvm.ClassFile.FieldType.int)).before args0 about1 = true := code_word (m := ⟨9, 0⟩) (meth := k9m0) (c := k9c0) (by decide +kernel) rfl rfl rfl (by decide +kernel)
set_option maxRecDepth 65536 in
theorem w_c5 : (Jvm.Cond.code ({ cls := "java/util/Arrays", name := "hashCode", desc := "([B)I" } : Jvm.MethodName) jdk_65_method_153_code (1 : Nat) (Option.some Jvm.ClassFile.FieldType.int)).before args0 about1 = true := code_word (m := ⟨10, 2⟩) (meth := k10m2) (c := k10c2) (by decide +kernel) rfl rfl rfl (by decide +kernel)
set_option maxRecDepth 65536 in
theorem w_c6 : (Jvm.Cond.code ({ cls := "jdk/internal/util/ArraysSupport", name := "vectorizedHashCode", desc := "(Ljava/lang/Object;IIII)I" } : Jvm.MethodName) jdk_48_method_4_code (5 : Nat) (Option.some Jvm.ClassFile.FieldType.int)).before args0 about1 = true := code_word (m := ⟨11, 1⟩) (meth := k11m1) (c := k11c1) (by decide +kernel) rfl rfl rfl (by decide +kernel)
set_option maxRecDepth 65536 in
theorem w_c7 : (Jvm.Cond.code ({ cls := "jdk/internal/util/ArraysSupport", name := "hashCode", desc := "(I[BII)I" } : Jvm.MethodName) jdk_48_method_6_code (6 : Nat) (Option.some Jvm.ClassFile.FieldType.int)).before args0 about1 = true := code_word (m := ⟨11, 2⟩) (meth := k11m2) (c := k11c2) (by decide +kernel) rfl rfl rfl (by decide +kernel)
set_option maxRecDepth 65536 in
theorem w_c8 : (Jvm.Cond.code ({ cls := "com/example/bevaka/bevaka/store/Checkpoint", name := "equals", desc := "(Ljava/lang/Object;)Z" } : Jvm.MethodName) prog_13_method_8_code (3 : Nat) (Option.some Jvm.ClassFile.FieldType.boolean)).before args0 about1 = true := code_word (m := ⟨2, 1⟩) (meth := k2m1) (c := k2c1) (by decide +kernel) rfl rfl rfl (by decide +kernel)
set_option maxRecDepth 65536 in
theorem w_c9 : (Jvm.Cond.code ({ cls := "com/example/bevaka/bevaka/store/CheckpointHashCodePinLaw", name := "expected", desc := "(JZBB)I" } : Jvm.MethodName) method_2_code (7 : Nat) (Option.some Jvm.ClassFile.FieldType.int)).before args0 about1 = true := code_word (m := ⟨1, 1⟩) (meth := k1m1) (c := k1c1) (by decide +kernel) rfl rfl rfl (by decide +kernel)
set_option maxRecDepth 65536 in
theorem w_c10 : (Jvm.Cond.code ({ cls := "java/util/Arrays", name := "equals", desc := "([B[B)Z" } : Jvm.MethodName) jdk_65_method_89_code (3 : Nat) (Option.some Jvm.ClassFile.FieldType.boolean)).before args0 about1 = true := code_word (m := ⟨10, 1⟩) (meth := k10m1) (c := k10c1) (by decide +kernel) rfl rfl rfl (by decide +kernel)
set_option maxRecDepth 65536 in
theorem w_c11 : (Jvm.Cond.code ({ cls := "jdk/internal/util/ArraysSupport", name := "mismatch", desc := "([B[BI)I" } : Jvm.MethodName) jdk_48_method_13_code (4 : Nat) (Option.some Jvm.ClassFile.FieldType.int)).before args0 about1 = true := code_word (m := ⟨11, 3⟩) (meth := k11m3) (c := k11c3) (by decide +kernel) rfl rfl rfl (by decide +kernel)
def codes1 : List Jvm.Cond := [Jvm.Cond.code x code maxLocals ret, Jvm.Cond.code ({ cls := "com/example/bevaka/bevaka/store/Checkpoint", name := "<init>", desc := "(J[B)V" } : Jvm.MethodName) prog_13_method_1_code (4 : Nat) (Option.none : Option Jvm.ClassFile.FieldType), Jvm.Cond.code ({ cls := "java/lang/Object", name := "<init>", desc := "()V" } : Jvm.MethodName) object_method_1_code (1 : Nat) (Option.none : Option Jvm.ClassFile.FieldType), Jvm.Cond.code ({ cls := "com/example/bevaka/bevaka/store/Checkpoint", name := "hashCode", desc := "()I" } : Jvm.MethodName) prog_13_method_9_code (1 : Nat) (Option.some Jvm.ClassFile.FieldType.int), Jvm.Cond.code ({ cls := "java/lang/Long", name := "hashCode", desc := "(J)I" } : Jvm.MethodName) jdk_35_method_36_code (2 : Nat) (Option.some Jvm.ClassFile.FieldType.int), Jvm.Cond.code ({ cls := "java/util/Arrays", name := "hashCode", desc := "([B)I" } : Jvm.MethodName) jdk_65_method_153_code (1 : Nat) (Option.some Jvm.ClassFile.FieldType.int), Jvm.Cond.code ({ cls := "jdk/internal/util/ArraysSupport", name := "vectorizedHashCode", desc := "(Ljava/lang/Object;IIII)I" } : Jvm.MethodName) jdk_48_method_4_code (5 : Nat) (Option.some Jvm.ClassFile.FieldType.int), Jvm.Cond.code ({ cls := "jdk/internal/util/ArraysSupport", name := "hashCode", desc := "(I[BII)I" } : Jvm.MethodName) jdk_48_method_6_code (6 : Nat) (Option.some Jvm.ClassFile.FieldType.int), Jvm.Cond.code ({ cls := "com/example/bevaka/bevaka/store/Checkpoint", name := "equals", desc := "(Ljava/lang/Object;)Z" } : Jvm.MethodName) prog_13_method_8_code (3 : Nat) (Option.some Jvm.ClassFile.FieldType.boolean), Jvm.Cond.code ({ cls := "com/example/bevaka/bevaka/store/CheckpointHashCodePinLaw", name := "expected", desc := "(JZBB)I" } : Jvm.MethodName) method_2_code (7 : Nat) (Option.some Jvm.ClassFile.FieldType.int), Jvm.Cond.code ({ cls := "java/util/Arrays", name := "equals", desc := "([B[B)Z" } : Jvm.MethodName) jdk_65_method_89_code (3 : Nat) (Option.some Jvm.ClassFile.FieldType.boolean), Jvm.Cond.code ({ cls := "jdk/internal/util/ArraysSupport", name := "mismatch", desc := "([B[BI)I" } : Jvm.MethodName) jdk_48_method_13_code (4 : Nat) (Option.some Jvm.ClassFile.FieldType.int)]
set_option maxRecDepth 65536 in
theorem codes_eq : words1.filter isCode = codes1 := rfl
theorem w_codes : ∀ c ∈ words1.filter isCode, c.before args0 about1 = true := by
  rw [codes_eq]
  intro c hc
  simp only [codes1, List.mem_cons, List.not_mem_nil, or_false] at hc
  rcases hc with rfl | rfl | rfl | rfl | rfl | rfl | rfl | rfl | rfl | rfl | rfl | rfl
  · exact w_c0
  · exact w_c1
  · exact w_c2
  · exact w_c3
  · exact w_c4
  · exact w_c5
  · exact w_c6
  · exact w_c7
  · exact w_c8
  · exact w_c9
  · exact w_c10
  · exact w_c11
set_option maxRecDepth 65536 in
theorem w_t1 : (words1.take 24).all (fun c => isCode c || c.before args0 about1) = true := by decide +kernel
set_option maxRecDepth 65536 in
theorem w_t2 : ((words1.drop 24).take 24).all (fun c => isCode c || c.before args0 about1) = true := by decide +kernel
set_option maxRecDepth 65536 in
theorem w_t3 : ((words1.drop 24).drop 24).all (fun c => isCode c || c.before args0 about1) = true := by decide +kernel
theorem w_tables : (allAtoms (Jvm.Cond.code x code maxLocals ret :: tables_1)).before args0 about1 = true := by
  rw [allAtoms_all]
  show words1.all (fun c => c.before args0 about1) = true
  refine all_split ?_ w_codes
  rw [← List.take_append_drop 24 words1, List.all_append, w_t1, ← List.take_append_drop 24 (words1.drop 24), List.all_append, w_t2, w_t3]
  rfl
set_option maxRecDepth 65536 in
theorem w_case : (Jvm.Cond.and given_1 narrow_1).before args0 about1 = true := by decide +kernel
theorem w_applies : (headSpec (Jvm.Cond.code x code maxLocals ret :: tables_1) room_1).applies x e0.platform about1 = true :=
  (Spec.applies_iff w_frames).mpr ⟨w_running, w_runnable, w_alone, w_named, w_hears, w_ripe, w_room, w_tables⟩
theorem atStart : AtStart classFile x code maxLocals ret World_1 tables_1 room_1 Calls_1 rest_1 Pre_1 launch0 p0 e0 about1 theMethod args0 below0 :=
  ⟨lists_1, trivial, launch0.admits_env _ _ _, launch0.least_env, fairChoices_fair.cas, fairChoices_fair.clock, w_frames, w_args, w_heap, w_applies, trivial, trivial, w_case⟩
end start1
theorem witness_1 : WitnessClaimed_1 := ⟨start1.p0, start1.e0, start1.about1, start1.theMethod, start1.args0, start1.below0, start1.atStart⟩
end Jvm.Pilot.@@N@@
