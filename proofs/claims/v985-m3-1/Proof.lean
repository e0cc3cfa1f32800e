import JvmDerived
import JvmDerived.Pilot.@@N@@Statement
import JvmDerived.Pilot.@@N@@Code
set_option linter.unusedVariables false
set_option linter.unusedSimpArgs false
namespace Jvm.Pilot.@@N@@
open Jvm Jvm.ClassFile Sem Op Lib Jvm.Free Jvm.Stand Jvm.LawKit Jvm.RoadKit Bundle Jvm.Pilot.@@N@@.Jvm.D
section Own
variable {p : Program} {l : Launch} {e : Env} {R : Room} {s : State} {m : MethodId} {args : Array Value} {below : List Frame} {meth : Method} {c : Code} {T : State} {locs : List Loc} {cells slots : Nat}
/-- from the frame g on top of T the invocation comes to its end, and there QQ holds of what it returns, of the heap and of what it wrote -/
def own_Run (p : Program) (e : Env) (below : List Frame) (s : State) (QQ : Option Value → Heap → List Loc → Prop) (C S : Nat) (T : State) (g : JFrame) : Prop :=
  ∃ s₂ v L, Steps p.tables e below (T.setTop g) s₂ ∧ s₂.status = .running ∧ Ended s₂ below (.returned v) ∧ QQ v s₂.heap L ∧ FrameEnd s (.returned v) s₂ L C S
variable {QQ : Option Value → Heap → List Loc → Prop} {C S : Nat}
theorem own_enter {g : JFrame} {ml : Nat} (q : entryFrame m args ml = g) (k : own_Run p e below s QQ C S T g) :
    ∃ s₂ o, Steps p.tables e below (T.setTop (entryFrame m args ml)) s₂ ∧ s₂.status = .running ∧ Ended s₂ below o ∧ ∃ v L, o = .returned v ∧ QQ v s₂.heap L ∧ FrameEnd s o s₂ L C S := by
  subst q
  obtain ⟨s₂, v, L, h1, h2, h3, h4, h5⟩ := k
  exact ⟨s₂, _, h1, h2, h3, v, L, rfl, h4, h5⟩
theorem own_step {g g' : JFrame} {T' : State} (h : ∀ t, Steps p.tables e below (T'.setTop g') t → Steps p.tables e below (T.setTop g) t) (k : own_Run p e below s QQ C S T' g') : own_Run p e below s QQ C S T g := by
  obtain ⟨s₂, v, L, h1, h2⟩ := k
  exact ⟨s₂, v, L, h _ h1, h2⟩
theorem own_end (X : Stand p l e R s m args below meth c T locs cells slots) {v : Option Value} (hv : meth.sig.returnType = none → v = none) (hlocks : meth.locks = false) {g : JFrame} (hc : cells ≤ C) (hs : slots ≤ S) (hq : QQ v T.heap locs)
    (k : ∀ fs, (∀ (f : JFrame) (acts : List Action), f.method = m → f.locked = none → f.entered = [] → (doReturn e (T.setTop f) acts v).1 = T.setFrames fs) → Steps p.tables e below (T.setTop g) (T.setFrames fs)) : own_Run p e below s QQ C S T g := by
  obtain ⟨fs, hr, hrun, hended, hW, hsame⟩ := X.leave (v := v) hv hlocks
  exact ⟨_, v, locs, k fs hr, hrun, hended, hq, ⟨_, rfl⟩, hW, hsame.mono hc hs⟩
theorem own_retN (X : Stand p l e R s m args below meth c T locs cells slots) (hx : p.tables.exec = Jvm.exec) {pc : Nat} {Ls : Array Slot} {z : Int32} {t : FieldType} {rest : List Value} (hret : meth.sig.returnType = some t) (ht : t = .boolean ∨ t = .byte ∨ t = .char ∨ t = .short)
    (hd : decode c.code pc = .ok (.ireturn, 1)) (hlocks : meth.locks = false) (hc : cells ≤ C) (hs : slots ≤ S) (hq : QQ (some (.int (nar t z))) T.heap locs) : own_Run p e below s QQ C S T (mkF m pc Ls (.int z :: rest)) :=
  own_end X (fun h => by rw [hret] at h; cases h) hlocks hc hs hq (fun fs hr => retN X hx hret ht hd hr)
theorem own_retI (X : Stand p l e R s m args below meth c T locs cells slots) (hx : p.tables.exec = Jvm.exec) {pc : Nat} {Ls : Array Slot} {z : Int32} {rest : List Value} (hret : meth.sig.returnType = some .int)
    (hd : decode c.code pc = .ok (.ireturn, 1)) (hlocks : meth.locks = false) (hc : cells ≤ C) (hs : slots ≤ S) (hq : QQ (some (.int z)) T.heap locs) : own_Run p e below s QQ C S T (mkF m pc Ls (.int z :: rest)) :=
  own_end X (fun h => by rw [hret] at h; cases h) hlocks hc hs hq (fun fs hr => retOut X hx hret rfl (Or.inl ⟨rfl, Or.inl rfl, _, rfl⟩) hd hr)
theorem own_retJ (X : Stand p l e R s m args below meth c T locs cells slots) (hx : p.tables.exec = Jvm.exec) {pc : Nat} {Ls : Array Slot} {z : Int64} {rest : List Value} (hret : meth.sig.returnType = some .long)
    (hd : decode c.code pc = .ok (.lreturn, 1)) (hlocks : meth.locks = false) (hc : cells ≤ C) (hs : slots ≤ S) (hq : QQ (some (.long z)) T.heap locs) : own_Run p e below s QQ C S T (mkF m pc Ls (.long z :: rest)) :=
  own_end X (fun h => by rw [hret] at h; cases h) hlocks hc hs hq (fun fs hr => retOut X hx hret rfl (Or.inr (Or.inl ⟨rfl, rfl, _, rfl⟩)) hd hr)
theorem own_retA (X : Stand p l e R s m args below meth c T locs cells slots) (hx : p.tables.exec = Jvm.exec) {pc : Nat} {Ls : Array Slot} {w : Value} {t : FieldType} {rest : List Value} (hret : meth.sig.returnType = some t) (ht : t.isReference = true) (hw : w.isRef = true)
    (hd : decode c.code pc = .ok (.areturn, 1)) (hlocks : meth.locks = false) (hc : cells ≤ C) (hs : slots ≤ S) (hq : QQ (some w) T.heap locs) : own_Run p e below s QQ C S T (mkF m pc Ls (w :: rest)) :=
  own_end X (fun h => by rw [hret] at h; cases h) hlocks hc hs hq (fun fs hr => retOut X hx hret (by cases t <;> first | rfl | cases ht) (Or.inr (Or.inr (Or.inr (Or.inr ⟨rfl, ht, hw⟩)))) hd hr)
theorem own_retV (X : Stand p l e R s m args below meth c T locs cells slots) (hx : p.tables.exec = Jvm.exec) {pc : Nat} {Ls : Array Slot} (hret : meth.sig.returnType = none)
    (hd : decode c.code pc = .ok (.return_, 1)) (hlocks : meth.locks = false) (hc : cells ≤ C) (hs : slots ≤ S) (hq : QQ none T.heap locs) : own_Run p e below s QQ C S T (mkF m pc Ls []) :=
  own_end X (fun _ => rfl) hlocks hc hs hq (fun fs hr => X.returnOut hx hret hd hr)
end Own
/-- one of two ints, by a proposition -/
def own_pick (P : Prop) [Decidable P] (a b : Int32) : Int32 := if P then a else b
def own_pickJ (P : Prop) [Decidable P] (a b : Int64) : Int64 := if P then a else b
theorem own_pick_pos {P : Prop} [Decidable P] {a b : Int32} (h : P) : own_pick P a b = a := if_pos h
theorem own_pick_neg {P : Prop} [Decidable P] {a b : Int32} (h : ¬ P) : own_pick P a b = b := if_neg h
theorem own_pickJ_pos {P : Prop} [Decidable P] {a b : Int64} (h : P) : own_pickJ P a b = a := if_pos h
theorem own_pickJ_neg {P : Prop} [Decidable P] {a b : Int64} (h : ¬ P) : own_pickJ P a b = b := if_neg h
section OwnMat
variable {tb : Tables} [Ours tb] {e : Env} {below : List Frame} {T target : State} {m : MethodId} {c : Code} {pc : Nat} {Ls : Array Slot} {x y : Int32} {rest : List Value} {a b : Int} {cd : ClassFile.Cond}
theorem own_mat_i (h : At T m c below) (hx : tb.exec = Jvm.exec) (hd0 : decode c.code pc = .ok (.if_icmp cd 7, 3)) (hd1 : decode c.code (pc + 3) = .ok (.iconst a, 1)) (hd2 : decode c.code (pc + 4) = .ok (.goto 4, 3)) (hd3 : decode c.code (pc + 7) = .ok (.iconst b, 1))
    {w : Int32} (hT : if_icmp.holds cd x y = true → w = Int32.ofInt b) (hF : if_icmp.holds cd x y = false → w = Int32.ofInt a) (hr : Steps tb e below (T.setTop (mkF m (pc + 8) Ls (.int w :: rest))) target) : Steps tb e below (T.setTop (mkF m pc Ls (.int y :: .int x :: rest))) target := by
  cases q : if_icmp.holds cd x y
  · rw [hF q] at hr
    exact XS.icmpNo h hx rfl hd0 rfl q (XS.iconst h hx rfl hd1 (XS.goto h hx rfl (pc0 := pc + 4) (pc' := pc + 8) rfl hd2 (by omega) (by omega) hr))
  · rw [hT q] at hr
    exact XS.icmpYes h hx rfl (pc0 := pc) (pc' := pc + 7) rfl hd0 rfl q (by omega) (by omega) (XS.iconst h hx rfl hd3 hr)
theorem own_mat_c (h : At T m c below) (hx : tb.exec = Jvm.exec) (hd0 : decode c.code pc = .ok (.ifCond cd 7, 3)) (hd1 : decode c.code (pc + 3) = .ok (.iconst a, 1)) (hd2 : decode c.code (pc + 4) = .ok (.goto 4, 3)) (hd3 : decode c.code (pc + 7) = .ok (.iconst b, 1))
    {w : Int32} (hT : if_icmp.holds cd x 0 = true → w = Int32.ofInt b) (hF : if_icmp.holds cd x 0 = false → w = Int32.ofInt a) (hr : Steps tb e below (T.setTop (mkF m (pc + 8) Ls (.int w :: rest))) target) : Steps tb e below (T.setTop (mkF m pc Ls (.int x :: rest))) target := by
  cases q : if_icmp.holds cd x 0
  · rw [hF q] at hr
    exact XS.ifNo h hx rfl hd0 rfl ((if0 _ _).trans q) (XS.iconst h hx rfl hd1 (XS.goto h hx rfl (pc0 := pc + 4) (pc' := pc + 8) rfl hd2 (by omega) (by omega) hr))
  · rw [hT q] at hr
    exact XS.ifYes h hx rfl (pc0 := pc) (pc' := pc + 7) rfl hd0 rfl ((if0 _ _).trans q) (by omega) (by omega) (XS.iconst h hx rfl hd3 hr)
theorem own_mat_i_eq (h : At T m c below) (hx : tb.exec = Jvm.exec) (hg : m = m) (hd0 : decode c.code pc = .ok (.if_icmp .eq 7, 3)) (hd1 : decode c.code (pc + 3) = .ok (.iconst a, 1)) (hd2 : decode c.code (pc + 4) = .ok (.goto 4, 3)) (hd3 : decode c.code (pc + 7) = .ok (.iconst b, 1))
    (hr : Steps tb e below (T.setTop (mkF m (pc + 8) Ls (.int (own_pick (x = y) (Int32.ofInt b) (Int32.ofInt a)) :: rest))) target) : Steps tb e below (T.setTop (mkF m pc Ls (.int y :: .int x :: rest))) target :=
  own_mat_i h hx hd0 hd1 hd2 hd3 (fun q => by by_cases z : x = y <;> simp [own_pick, z] <;> (first | rw [(teq z).1] at q | rw [(feq z).1] at q) <;> cases q) (fun q => by by_cases z : x = y <;> simp [own_pick, z] <;> (first | rw [(teq z).1] at q | rw [(feq z).1] at q) <;> cases q) hr
theorem own_mat_i_ne (h : At T m c below) (hx : tb.exec = Jvm.exec) (hg : m = m) (hd0 : decode c.code pc = .ok (.if_icmp .ne 7, 3)) (hd1 : decode c.code (pc + 3) = .ok (.iconst a, 1)) (hd2 : decode c.code (pc + 4) = .ok (.goto 4, 3)) (hd3 : decode c.code (pc + 7) = .ok (.iconst b, 1))
    (hr : Steps tb e below (T.setTop (mkF m (pc + 8) Ls (.int (own_pick (x = y) (Int32.ofInt a) (Int32.ofInt b)) :: rest))) target) : Steps tb e below (T.setTop (mkF m pc Ls (.int y :: .int x :: rest))) target :=
  own_mat_i h hx hd0 hd1 hd2 hd3 (fun q => by by_cases z : x = y <;> simp [own_pick, z] <;> (first | rw [(teq z).2] at q | rw [(feq z).2] at q) <;> cases q) (fun q => by by_cases z : x = y <;> simp [own_pick, z] <;> (first | rw [(teq z).2] at q | rw [(feq z).2] at q) <;> cases q) hr
theorem own_mat_i_lt (h : At T m c below) (hx : tb.exec = Jvm.exec) (hg : m = m) (hd0 : decode c.code pc = .ok (.if_icmp .lt 7, 3)) (hd1 : decode c.code (pc + 3) = .ok (.iconst a, 1)) (hd2 : decode c.code (pc + 4) = .ok (.goto 4, 3)) (hd3 : decode c.code (pc + 7) = .ok (.iconst b, 1))
    (hr : Steps tb e below (T.setTop (mkF m (pc + 8) Ls (.int (own_pick (x < y) (Int32.ofInt b) (Int32.ofInt a)) :: rest))) target) : Steps tb e below (T.setTop (mkF m pc Ls (.int y :: .int x :: rest))) target :=
  own_mat_i h hx hd0 hd1 hd2 hd3 (fun q => by by_cases z : x < y <;> simp [own_pick, z] <;> (first | rw [(tlt z).1] at q | rw [(flt z).1] at q) <;> cases q) (fun q => by by_cases z : x < y <;> simp [own_pick, z] <;> (first | rw [(tlt z).1] at q | rw [(flt z).1] at q) <;> cases q) hr
theorem own_mat_i_ge (h : At T m c below) (hx : tb.exec = Jvm.exec) (hg : m = m) (hd0 : decode c.code pc = .ok (.if_icmp .ge 7, 3)) (hd1 : decode c.code (pc + 3) = .ok (.iconst a, 1)) (hd2 : decode c.code (pc + 4) = .ok (.goto 4, 3)) (hd3 : decode c.code (pc + 7) = .ok (.iconst b, 1))
    (hr : Steps tb e below (T.setTop (mkF m (pc + 8) Ls (.int (own_pick (x < y) (Int32.ofInt a) (Int32.ofInt b)) :: rest))) target) : Steps tb e below (T.setTop (mkF m pc Ls (.int y :: .int x :: rest))) target :=
  own_mat_i h hx hd0 hd1 hd2 hd3 (fun q => by by_cases z : x < y <;> simp [own_pick, z] <;> (first | rw [(tlt z).2.1] at q | rw [(flt z).2.1] at q) <;> cases q) (fun q => by by_cases z : x < y <;> simp [own_pick, z] <;> (first | rw [(tlt z).2.1] at q | rw [(flt z).2.1] at q) <;> cases q) hr
theorem own_mat_i_gt (h : At T m c below) (hx : tb.exec = Jvm.exec) (hg : m = m) (hd0 : decode c.code pc = .ok (.if_icmp .gt 7, 3)) (hd1 : decode c.code (pc + 3) = .ok (.iconst a, 1)) (hd2 : decode c.code (pc + 4) = .ok (.goto 4, 3)) (hd3 : decode c.code (pc + 7) = .ok (.iconst b, 1))
    (hr : Steps tb e below (T.setTop (mkF m (pc + 8) Ls (.int (own_pick (y < x) (Int32.ofInt b) (Int32.ofInt a)) :: rest))) target) : Steps tb e below (T.setTop (mkF m pc Ls (.int y :: .int x :: rest))) target :=
  own_mat_i h hx hd0 hd1 hd2 hd3 (fun q => by by_cases z : y < x <;> simp [own_pick, z] <;> (first | rw [(tlt z).2.2.1] at q | rw [(flt z).2.2.1] at q) <;> cases q) (fun q => by by_cases z : y < x <;> simp [own_pick, z] <;> (first | rw [(tlt z).2.2.1] at q | rw [(flt z).2.2.1] at q) <;> cases q) hr
theorem own_mat_i_le (h : At T m c below) (hx : tb.exec = Jvm.exec) (hg : m = m) (hd0 : decode c.code pc = .ok (.if_icmp .le 7, 3)) (hd1 : decode c.code (pc + 3) = .ok (.iconst a, 1)) (hd2 : decode c.code (pc + 4) = .ok (.goto 4, 3)) (hd3 : decode c.code (pc + 7) = .ok (.iconst b, 1))
    (hr : Steps tb e below (T.setTop (mkF m (pc + 8) Ls (.int (own_pick (y < x) (Int32.ofInt a) (Int32.ofInt b)) :: rest))) target) : Steps tb e below (T.setTop (mkF m pc Ls (.int y :: .int x :: rest))) target :=
  own_mat_i h hx hd0 hd1 hd2 hd3 (fun q => by by_cases z : y < x <;> simp [own_pick, z] <;> (first | rw [(tlt z).2.2.2] at q | rw [(flt z).2.2.2] at q) <;> cases q) (fun q => by by_cases z : y < x <;> simp [own_pick, z] <;> (first | rw [(tlt z).2.2.2] at q | rw [(flt z).2.2.2] at q) <;> cases q) hr
theorem own_mat_c_eq (h : At T m c below) (hx : tb.exec = Jvm.exec) (hg : m = m) (hd0 : decode c.code pc = .ok (.ifCond .eq 7, 3)) (hd1 : decode c.code (pc + 3) = .ok (.iconst a, 1)) (hd2 : decode c.code (pc + 4) = .ok (.goto 4, 3)) (hd3 : decode c.code (pc + 7) = .ok (.iconst b, 1))
    (hr : Steps tb e below (T.setTop (mkF m (pc + 8) Ls (.int (own_pick (x = (0 : Int32)) (Int32.ofInt b) (Int32.ofInt a)) :: rest))) target) : Steps tb e below (T.setTop (mkF m pc Ls (.int x :: rest))) target :=
  own_mat_c h hx hd0 hd1 hd2 hd3 (fun q => by by_cases z : x = (0 : Int32) <;> simp [own_pick, z] <;> (first | rw [(teq z).1] at q | rw [(feq z).1] at q) <;> cases q) (fun q => by by_cases z : x = (0 : Int32) <;> simp [own_pick, z] <;> (first | rw [(teq z).1] at q | rw [(feq z).1] at q) <;> cases q) hr
theorem own_mat_c_ne (h : At T m c below) (hx : tb.exec = Jvm.exec) (hg : m = m) (hd0 : decode c.code pc = .ok (.ifCond .ne 7, 3)) (hd1 : decode c.code (pc + 3) = .ok (.iconst a, 1)) (hd2 : decode c.code (pc + 4) = .ok (.goto 4, 3)) (hd3 : decode c.code (pc + 7) = .ok (.iconst b, 1))
    (hr : Steps tb e below (T.setTop (mkF m (pc + 8) Ls (.int (own_pick (x = (0 : Int32)) (Int32.ofInt a) (Int32.ofInt b)) :: rest))) target) : Steps tb e below (T.setTop (mkF m pc Ls (.int x :: rest))) target :=
  own_mat_c h hx hd0 hd1 hd2 hd3 (fun q => by by_cases z : x = (0 : Int32) <;> simp [own_pick, z] <;> (first | rw [(teq z).2] at q | rw [(feq z).2] at q) <;> cases q) (fun q => by by_cases z : x = (0 : Int32) <;> simp [own_pick, z] <;> (first | rw [(teq z).2] at q | rw [(feq z).2] at q) <;> cases q) hr
theorem own_mat_c_lt (h : At T m c below) (hx : tb.exec = Jvm.exec) (hg : m = m) (hd0 : decode c.code pc = .ok (.ifCond .lt 7, 3)) (hd1 : decode c.code (pc + 3) = .ok (.iconst a, 1)) (hd2 : decode c.code (pc + 4) = .ok (.goto 4, 3)) (hd3 : decode c.code (pc + 7) = .ok (.iconst b, 1))
    (hr : Steps tb e below (T.setTop (mkF m (pc + 8) Ls (.int (own_pick (x < (0 : Int32)) (Int32.ofInt b) (Int32.ofInt a)) :: rest))) target) : Steps tb e below (T.setTop (mkF m pc Ls (.int x :: rest))) target :=
  own_mat_c h hx hd0 hd1 hd2 hd3 (fun q => by by_cases z : x < (0 : Int32) <;> simp [own_pick, z] <;> (first | rw [(tlt z).1] at q | rw [(flt z).1] at q) <;> cases q) (fun q => by by_cases z : x < (0 : Int32) <;> simp [own_pick, z] <;> (first | rw [(tlt z).1] at q | rw [(flt z).1] at q) <;> cases q) hr
theorem own_mat_c_ge (h : At T m c below) (hx : tb.exec = Jvm.exec) (hg : m = m) (hd0 : decode c.code pc = .ok (.ifCond .ge 7, 3)) (hd1 : decode c.code (pc + 3) = .ok (.iconst a, 1)) (hd2 : decode c.code (pc + 4) = .ok (.goto 4, 3)) (hd3 : decode c.code (pc + 7) = .ok (.iconst b, 1))
    (hr : Steps tb e below (T.setTop (mkF m (pc + 8) Ls (.int (own_pick (x < (0 : Int32)) (Int32.ofInt a) (Int32.ofInt b)) :: rest))) target) : Steps tb e below (T.setTop (mkF m pc Ls (.int x :: rest))) target :=
  own_mat_c h hx hd0 hd1 hd2 hd3 (fun q => by by_cases z : x < (0 : Int32) <;> simp [own_pick, z] <;> (first | rw [(tlt z).2.1] at q | rw [(flt z).2.1] at q) <;> cases q) (fun q => by by_cases z : x < (0 : Int32) <;> simp [own_pick, z] <;> (first | rw [(tlt z).2.1] at q | rw [(flt z).2.1] at q) <;> cases q) hr
theorem own_mat_c_gt (h : At T m c below) (hx : tb.exec = Jvm.exec) (hg : m = m) (hd0 : decode c.code pc = .ok (.ifCond .gt 7, 3)) (hd1 : decode c.code (pc + 3) = .ok (.iconst a, 1)) (hd2 : decode c.code (pc + 4) = .ok (.goto 4, 3)) (hd3 : decode c.code (pc + 7) = .ok (.iconst b, 1))
    (hr : Steps tb e below (T.setTop (mkF m (pc + 8) Ls (.int (own_pick ((0 : Int32) < x) (Int32.ofInt b) (Int32.ofInt a)) :: rest))) target) : Steps tb e below (T.setTop (mkF m pc Ls (.int x :: rest))) target :=
  own_mat_c h hx hd0 hd1 hd2 hd3 (fun q => by by_cases z : (0 : Int32) < x <;> simp [own_pick, z] <;> (first | rw [(tlt z).2.2.1] at q | rw [(flt z).2.2.1] at q) <;> cases q) (fun q => by by_cases z : (0 : Int32) < x <;> simp [own_pick, z] <;> (first | rw [(tlt z).2.2.1] at q | rw [(flt z).2.2.1] at q) <;> cases q) hr
theorem own_mat_c_le (h : At T m c below) (hx : tb.exec = Jvm.exec) (hg : m = m) (hd0 : decode c.code pc = .ok (.ifCond .le 7, 3)) (hd1 : decode c.code (pc + 3) = .ok (.iconst a, 1)) (hd2 : decode c.code (pc + 4) = .ok (.goto 4, 3)) (hd3 : decode c.code (pc + 7) = .ok (.iconst b, 1))
    (hr : Steps tb e below (T.setTop (mkF m (pc + 8) Ls (.int (own_pick ((0 : Int32) < x) (Int32.ofInt a) (Int32.ofInt b)) :: rest))) target) : Steps tb e below (T.setTop (mkF m pc Ls (.int x :: rest))) target :=
  own_mat_c h hx hd0 hd1 hd2 hd3 (fun q => by by_cases z : (0 : Int32) < x <;> simp [own_pick, z] <;> (first | rw [(tlt z).2.2.2] at q | rw [(flt z).2.2.2] at q) <;> cases q) (fun q => by by_cases z : (0 : Int32) < x <;> simp [own_pick, z] <;> (first | rw [(tlt z).2.2.2] at q | rw [(flt z).2.2.2] at q) <;> cases q) hr
end OwnMat
theorem pd_0 : parseMethodDescriptor "()Z" = some ⟨[], some .boolean⟩ := by decide +kernel
def own_fr (o0 wF wL : Addr) : Int32 := if o0 = wF then 1 else if o0 = wL then 1 else 0
theorem d1_0 : decode prog_50_method_4_code 0 = .ok (.aload_n 0, 1) := by decide +kernel
theorem d1_1 : decode prog_50_method_4_code 1 = .ok (.getstatic 13, 3) := by decide +kernel
theorem d1_4 : decode prog_50_method_4_code 4 = .ok (.if_acmp .eq 10, 3) := by decide +kernel
theorem d1_7 : decode prog_50_method_4_code 7 = .ok (.aload_n 0, 1) := by decide +kernel
theorem d1_8 : decode prog_50_method_4_code 8 = .ok (.getstatic 16, 3) := by decide +kernel
theorem d1_11 : decode prog_50_method_4_code 11 = .ok (.if_acmp .ne 7, 3) := by decide +kernel
theorem d1_14 : decode prog_50_method_4_code 14 = .ok (.iconst 1, 1) := by decide +kernel
theorem d1_15 : decode prog_50_method_4_code 15 = .ok (.goto 4, 3) := by decide +kernel
theorem d1_18 : decode prog_50_method_4_code 18 = .ok (.iconst 0, 1) := by decide +kernel
theorem d1_19 : decode prog_50_method_4_code 19 = .ok (.ireturn, 1) := by decide +kernel
theorem pn_rm1 : plainName "lazyframe/media/Mode" = true := by first | (simp [plainName, overriddenIn]; done) | decide +kernel
theorem ef_rm1 (m : MethodId) (o0 : Addr) : entryFrame m #[(.ref o0)] 1 = mkF m 0 #[.val (.ref o0)] [] := by first | (simp [entryFrame, mkF, argsToLocals, Value.category, maxLocals]; done) | rfl
def rm1_Q (Z : State) (o0 : Addr) (wFROZEN : Addr) (wFLAT : Addr) (h0 : Heap) (n0 : Nat) (v : Option Value) (h : Heap) (L : List Loc) : Prop := v = some (.int (own_fr o0 wFROZEN wFLAT)) ∧ Fr n0 L ∧ h = h0
set_option maxRecDepth 65536 in
set_option maxHeartbeats 40000000 in
theorem rm1 (l : Launch) (Z : State) (a0 : Array Value) (hw : ∀ d ∈ tables_1, d.before a0 Z = true) (ws : List Jvm.Cond) (o0 : Addr) (wFROZEN : Addr) (wFLAT : Addr) (h0 : Heap) (n0 : Nat) (Z0 : n0 ≤ h0.size) (S_FROZEN : Sta Z h0 "lazyframe/media/Mode" "FROZEN" "Llazyframe/media/Mode;" (.ref wFROZEN)) (S_FLAT : Sta Z h0 "lazyframe/media/Mode" "FLAT" "Llazyframe/media/Mode;" (.ref wFLAT)) :
    MetFree l (⟨"lazyframe/media/Mode", "freezes", "()Z"⟩ : MethodName) (head1 (Jvm.Cond.code (⟨"lazyframe/media/Mode", "freezes", "()Z"⟩ : MethodName) prog_50_method_4_code 1 (some .boolean) :: ws) ({ frames := 0, cells := 0, slots := 0, locals := 0 } : Room)) (fun a U => a = #[(.ref o0)] ∧ Z.Warmed39 U.vm ∧ U.heap = h0) (fun _ _ _ _ _ => True) (fun _ U o U' => ∃ v L, o = .returned v ∧ rm1_Q Z o0 wFROZEN wFLAT h0 n0 v U'.heap L ∧ FrameEnd U o U' L ({ frames := 0, cells := 0, slots := 0, locals := 0 } : Room).cells ({ frames := 0, cells := 0, slots := 0, locals := 0 } : Room).slots) := by
  refine MetFree.of_bodySF (plainFor_of_name pn_rm1) hisR ?_
  intro p e s m args below meth c s₁ Bd hml0 hP hK
  obtain ⟨rfl, hZ, hh⟩ := hP
  have hx := Bd.exec
  have hby := Bd.bytes
  have hml : c.maxLocals = 1 := hml0
  have hown : s.vm.findClass "lazyframe/media/Mode" = some m.cls := findClass_of_methodNamed Bd.named
  have hnm := (name_of_methodNamed Bd.named Bd.method).1
  have X0 : Stand p l e ({ frames := 0, cells := 0, slots := 0, locals := 0 } : Room) s m #[(.ref o0)] below meth c s₁ [] 0 0 := Stand.of_body Bd
  have e0 : s₁.heap = h0 := by rw [← hh, Bd.state]; rfl
  have N0 := Fr.nil n0
  refine own_enter (QQ := rm1_Q Z o0 wFROZEN wFLAT h0 n0) (ef_rm1 m o0) ?_
  show own_Run p e below s _ _ _ s₁ (mkF m 0 #[.val (.ref o0)] [])
  refine own_step (T' := s₁) (g' := (mkF m 1 #[.val (.ref o0)] [(.ref o0)])) (fun t k => ?_) ?_
  · show Steps p.tables e below (s₁.setTop (mkF m 0 #[.val (.ref o0)] [])) _
    refine XS.aloadN X0.here hx rfl (hb hby d1_0) rfl rfl ?_
    show Steps p.tables e below (s₁.setTop (mkF m 1 #[.val (.ref o0)] [(.ref o0)])) _
    exact k
  obtain ⟨T1, X1, e1, st1⟩ := getS2 X0 hx hZ hown (host := "") (Or.inl (hw _ (List.mem_of_getElem? (i := 9) rfl))) Via.refl e0 S_FROZEN (g := (mkF m 1 #[.val (.ref o0)] [(.ref o0)])) rfl (hb hby d1_1)
  refine own_step st1 ?_
  show own_Run p e below s _ _ _ T1 (mkF m 4 #[.val (.ref o0)] [(.ref wFROZEN), (.ref o0)])
  by_cases ha2 : o0 = wFROZEN
  · skip
    refine own_step (T' := T1) (g' := (mkF m 19 #[.val (.ref o0)] [(.int (1 : Int32))])) (fun t k => ?_) ?_
    · show Steps p.tables e below (T1.setTop (mkF m 4 #[.val (.ref o0)] [(.ref wFROZEN), (.ref o0)])) _
      refine Jvm.RoadKit.acmp (g := (mkF m 4 #[.val (.ref o0)] [(.ref wFROZEN), (.ref o0)])) X1 hx rfl rfl rfl (pc0 := 4) (pc' := 14) (same := true) rfl (hb hby d1_4) rfl (decide_eq_true (congrArg Value.ref ha2)) (by decide) (by decide) ?_
      show Steps p.tables e below (T1.setTop (mkF m 14 #[.val (.ref o0)] [])) _
      refine XS.iconst X1.here hx rfl (hb hby d1_14) ?_
      show Steps p.tables e below (T1.setTop (mkF m 15 #[.val (.ref o0)] [(.int (1 : Int32))])) _
      refine XS.goto X1.here hx rfl (pc0 := 15) (pc' := 19) rfl (hb hby d1_15) (by decide) (by decide) ?_
      show Steps p.tables e below (T1.setTop (mkF m 19 #[.val (.ref o0)] [(.int (1 : Int32))])) _
      exact k
    refine own_retN X1 hx (t := .boolean) Bd.returns (by simp) (hb hby d1_19) (BodyLoose.notSynchronized Bd) (by decide) (by decide) ?_
    rw [show T1.heap = h0 from e1]
    exact ⟨by rw [show own_fr o0 wFROZEN wFLAT = (1 : Int32) from by simp [own_fr, ha2]]; rfl, N0, rfl⟩
  · skip
    refine own_step (T' := T1) (g' := (mkF m 8 #[.val (.ref o0)] [(.ref o0)])) (fun t k => ?_) ?_
    · show Steps p.tables e below (T1.setTop (mkF m 4 #[.val (.ref o0)] [(.ref wFROZEN), (.ref o0)])) _
      refine Jvm.RoadKit.acmp (g := (mkF m 4 #[.val (.ref o0)] [(.ref wFROZEN), (.ref o0)])) X1 hx rfl rfl rfl (pc0 := 4) (pc' := 7) (same := false) rfl (hb hby d1_4) rfl (decide_eq_false fun q => ha2 (Value.ref.inj q)) (by decide) (by decide) ?_
      show Steps p.tables e below (T1.setTop (mkF m 7 #[.val (.ref o0)] [])) _
      refine XS.aloadN X1.here hx rfl (hb hby d1_7) rfl rfl ?_
      show Steps p.tables e below (T1.setTop (mkF m 8 #[.val (.ref o0)] [(.ref o0)])) _
      exact k
    obtain ⟨T3, X3, e3, st3⟩ := getS2 X1 hx hZ hown (host := "") (Or.inl (hw _ (List.mem_of_getElem? (i := 11) rfl))) Via.refl e1 S_FLAT (g := (mkF m 8 #[.val (.ref o0)] [(.ref o0)])) rfl (hb hby d1_8)
    refine own_step st3 ?_
    show own_Run p e below s _ _ _ T3 (mkF m 11 #[.val (.ref o0)] [(.ref wFLAT), (.ref o0)])
    by_cases ha4 : o0 = wFLAT
    · skip
      refine own_step (T' := T3) (g' := (mkF m 19 #[.val (.ref o0)] [(.int (1 : Int32))])) (fun t k => ?_) ?_
      · show Steps p.tables e below (T3.setTop (mkF m 11 #[.val (.ref o0)] [(.ref wFLAT), (.ref o0)])) _
        refine Jvm.RoadKit.acmp (g := (mkF m 11 #[.val (.ref o0)] [(.ref wFLAT), (.ref o0)])) X3 hx rfl rfl rfl (pc0 := 11) (pc' := 14) (same := true) rfl (hb hby d1_11) rfl (decide_eq_true (congrArg Value.ref ha4)) (by decide) (by decide) ?_
        show Steps p.tables e below (T3.setTop (mkF m 14 #[.val (.ref o0)] [])) _
        refine XS.iconst X3.here hx rfl (hb hby d1_14) ?_
        show Steps p.tables e below (T3.setTop (mkF m 15 #[.val (.ref o0)] [(.int (1 : Int32))])) _
        refine XS.goto X3.here hx rfl (pc0 := 15) (pc' := 19) rfl (hb hby d1_15) (by decide) (by decide) ?_
        show Steps p.tables e below (T3.setTop (mkF m 19 #[.val (.ref o0)] [(.int (1 : Int32))])) _
        exact k
      refine own_retN X3 hx (t := .boolean) Bd.returns (by simp) (hb hby d1_19) (BodyLoose.notSynchronized Bd) (by decide) (by decide) ?_
      rw [show T3.heap = h0 from e3]
      exact ⟨by rw [show own_fr o0 wFROZEN wFLAT = (1 : Int32) from by simp [own_fr, ha2, ha4]]; rfl, N0, rfl⟩
    · skip
      refine own_step (T' := T3) (g' := (mkF m 19 #[.val (.ref o0)] [(.int (0 : Int32))])) (fun t k => ?_) ?_
      · show Steps p.tables e below (T3.setTop (mkF m 11 #[.val (.ref o0)] [(.ref wFLAT), (.ref o0)])) _
        refine Jvm.RoadKit.acmp (g := (mkF m 11 #[.val (.ref o0)] [(.ref wFLAT), (.ref o0)])) X3 hx rfl rfl rfl (pc0 := 11) (pc' := 18) (same := false) rfl (hb hby d1_11) rfl (decide_eq_false fun q => ha4 (Value.ref.inj q)) (by decide) (by decide) ?_
        show Steps p.tables e below (T3.setTop (mkF m 18 #[.val (.ref o0)] [])) _
        refine XS.iconst X3.here hx rfl (hb hby d1_18) ?_
        show Steps p.tables e below (T3.setTop (mkF m 19 #[.val (.ref o0)] [(.int (0 : Int32))])) _
        exact k
      refine own_retN X3 hx (t := .boolean) Bd.returns (by simp) (hb hby d1_19) (BodyLoose.notSynchronized Bd) (by decide) (by decide) ?_
      rw [show T3.heap = h0 from e3]
      exact ⟨by rw [show own_fr o0 wFROZEN wFLAT = (0 : Int32) from by simp [own_fr, ha2, ha4]]; rfl, N0, rfl⟩
theorem pn_rm0 : plainName "lazyframe/media/ModeFreezesPinLaw" = true := by first | (simp [plainName, overriddenIn]; done) | decide +kernel
theorem ef_rm0 (m : MethodId) (p0 : Int32) : entryFrame m #[(.int p0)] maxLocals = mkF m 0 #[.val (.int p0), .unset, .unset, .unset] [] := by first | (simp [entryFrame, mkF, argsToLocals, Value.category, maxLocals]; done) | rfl
def rm0_Q (Z : State) (p0 : Int32) (wSTEADY : Addr) (wHURRIED : Addr) (wHELD : Addr) (wFROZEN : Addr) (wFLAT : Addr) (h0 : Heap) (n0 : Nat) (v : Option Value) (h : Heap) (L : List Loc) : Prop := v = some (.int (1 : Int32)) ∧ Fr n0 L
set_option maxRecDepth 65536 in
set_option maxHeartbeats 40000000 in
theorem rm0 (l : Launch) (Z : State) (a0 : Array Value) (hw : ∀ d ∈ tables_1, d.before a0 Z = true) (ws : List Jvm.Cond) (p0 : Int32) (wSTEADY : Addr) (wHURRIED : Addr) (wHELD : Addr) (wFROZEN : Addr) (wFLAT : Addr) (h0 : Heap) (n0 : Nat) (Z0 : n0 ≤ h0.size) (S_STEADY : Sta Z h0 "lazyframe/media/Mode" "STEADY" "Llazyframe/media/Mode;" (.ref wSTEADY)) (S_HURRIED : Sta Z h0 "lazyframe/media/Mode" "HURRIED" "Llazyframe/media/Mode;" (.ref wHURRIED)) (S_HELD : Sta Z h0 "lazyframe/media/Mode" "HELD" "Llazyframe/media/Mode;" (.ref wHELD)) (S_FROZEN : Sta Z h0 "lazyframe/media/Mode" "FROZEN" "Llazyframe/media/Mode;" (.ref wFROZEN)) (S_FLAT : Sta Z h0 "lazyframe/media/Mode" "FLAT" "Llazyframe/media/Mode;" (.ref wFLAT)) (A_STEADY : Exa Z h0 wSTEADY "lazyframe/media/Mode") (A_HURRIED : Exa Z h0 wHURRIED "lazyframe/media/Mode") (A_HELD : Exa Z h0 wHELD "lazyframe/media/Mode") (A_FROZEN : Exa Z h0 wFROZEN "lazyframe/media/Mode") (A_FLAT : Exa Z h0 wFLAT "lazyframe/media/Mode") (nSF : ¬ wSTEADY = wFROZEN) (nSL : ¬ wSTEADY = wFLAT) (nUF : ¬ wHURRIED = wFROZEN) (nUL : ¬ wHURRIED = wFLAT) (nHF : ¬ wHELD = wFROZEN) (nHL : ¬ wHELD = wFLAT) :
    MetFree l x (head1 (Jvm.Cond.code x code maxLocals ret :: ws) room_1) (fun a U => a = #[(.int p0)] ∧ Z.Warmed39 U.vm ∧ U.heap = h0) (fun _ _ _ _ _ => True) (fun _ U o U' => ∃ v L, o = .returned v ∧ rm0_Q Z p0 wSTEADY wHURRIED wHELD wFROZEN wFLAT h0 n0 v U'.heap L ∧ FrameEnd U o U' L room_1.cells room_1.slots) := by
  refine MetFree.of_bodySF (plainFor_of_name pn_rm0) hisR ?_
  intro p e s m args below meth c s₁ Bd hml0 hP hK
  obtain ⟨rfl, hZ, hh⟩ := hP
  have hx := Bd.exec
  have hby := Bd.bytes
  have hml : c.maxLocals = 4 := hml0
  have hown : s.vm.findClass "lazyframe/media/ModeFreezesPinLaw" = some m.cls := findClass_of_methodNamed Bd.named
  have hnm := (name_of_methodNamed Bd.named Bd.method).1
  have X0 : Stand p l e room_1 s m #[(.int p0)] below meth c s₁ [] 0 0 := Stand.of_body Bd
  have e0 : s₁.heap = h0 := by rw [← hh, Bd.state]; rfl
  have N0 := Fr.nil n0
  refine own_enter (QQ := rm0_Q Z p0 wSTEADY wHURRIED wHELD wFROZEN wFLAT h0 n0) (ef_rm0 m p0) ?_
  show own_Run p e below s _ _ _ s₁ (mkF m 0 #[.val (.int p0), .unset, .unset, .unset] [])
  refine own_step (T' := s₁) (g' := (mkF m 8 #[.val (.int p0), .val (.int ((p0 &&& (2147483647 : Int32)) % (5 : Int32))), .unset, .unset] [(.int ((p0 &&& (2147483647 : Int32)) % (5 : Int32)))])) (fun t k => ?_) ?_
  · show Steps p.tables e below (s₁.setTop (mkF m 0 #[.val (.int p0), .unset, .unset, .unset] [])) _
    refine XS.iloadN X0.here hx rfl (hb hby at_0) rfl ?_
    show Steps p.tables e below (s₁.setTop (mkF m 1 #[.val (.int p0), .unset, .unset, .unset] [(.int p0)])) _
    refine X0.ldcInt hx hown (mvT hZ (hw _ (List.mem_of_getElem? (i := 0) rfl))) (g := (mkF m 1 #[.val (.int p0), .unset, .unset, .unset] [(.int p0)])) rfl (hb hby at_1) _ ?_
    show Steps p.tables e below (s₁.setTop (mkF m 3 #[.val (.int p0), .unset, .unset, .unset] [(.int (2147483647 : Int32)), (.int p0)])) _
    refine XS.iand X0.here hx rfl (hb hby at_3) rfl ?_
    show Steps p.tables e below (s₁.setTop (mkF m 4 #[.val (.int p0), .unset, .unset, .unset] [(.int (p0 &&& (2147483647 : Int32)))])) _
    refine XS.iconst X0.here hx rfl (hb hby at_4) ?_
    show Steps p.tables e below (s₁.setTop (mkF m 5 #[.val (.int p0), .unset, .unset, .unset] [(.int (5 : Int32)), (.int (p0 &&& (2147483647 : Int32)))])) _
    refine iremM X0 hx rfl (hb hby at_5) rfl (by decide) ?_
    show Steps p.tables e below (s₁.setTop (mkF m 6 #[.val (.int p0), .unset, .unset, .unset] [(.int ((p0 &&& (2147483647 : Int32)) % (5 : Int32)))])) _
    refine XS.istoreN X0.here hx rfl (hb hby at_6) rfl (l' := #[.val (.int p0), .val (.int ((p0 &&& (2147483647 : Int32)) % (5 : Int32))), .unset, .unset]) rfl ?_
    show Steps p.tables e below (s₁.setTop (mkF m 7 #[.val (.int p0), .val (.int ((p0 &&& (2147483647 : Int32)) % (5 : Int32))), .unset, .unset] [])) _
    refine XS.iloadN X0.here hx rfl (hb hby at_7) rfl ?_
    show Steps p.tables e below (s₁.setTop (mkF m 8 #[.val (.int p0), .val (.int ((p0 &&& (2147483647 : Int32)) % (5 : Int32))), .unset, .unset] [(.int ((p0 &&& (2147483647 : Int32)) % (5 : Int32)))])) _
    exact k
  by_cases hc1 : ((p0 &&& (2147483647 : Int32)) % (5 : Int32)) = (0 : Int32)
  · skip
    refine own_step (T' := s₁) (g' := (mkF m 11 #[.val (.int p0), .val (.int ((p0 &&& (2147483647 : Int32)) % (5 : Int32))), .unset, .unset] [])) (fun t k => ?_) ?_
    · show Steps p.tables e below (s₁.setTop (mkF m 8 #[.val (.int p0), .val (.int ((p0 &&& (2147483647 : Int32)) % (5 : Int32))), .unset, .unset] [(.int ((p0 &&& (2147483647 : Int32)) % (5 : Int32)))])) _
      refine XS.ifNo X0.here hx rfl (hb hby at_8) rfl ((if0 _ _).trans (teq hc1).2) ?_
      show Steps p.tables e below (s₁.setTop (mkF m 11 #[.val (.int p0), .val (.int ((p0 &&& (2147483647 : Int32)) % (5 : Int32))), .unset, .unset] [])) _
      exact k
    obtain ⟨T2, X2, e2, st2⟩ := getS2 X0 hx hZ hown (host := "") (Or.inl (hw _ (List.mem_of_getElem? (i := 1) rfl))) Via.refl e0 S_STEADY (g := (mkF m 11 #[.val (.int p0), .val (.int ((p0 &&& (2147483647 : Int32)) % (5 : Int32))), .unset, .unset] [])) rfl (hb hby at_11)
    refine own_step st2 ?_
    show own_Run p e below s _ _ _ T2 (mkF m 14 #[.val (.int p0), .val (.int ((p0 &&& (2147483647 : Int32)) % (5 : Int32))), .unset, .unset] [(.ref wSTEADY)])
    refine own_step (T' := T2) (g' := (mkF m 69 #[.val (.int p0), .val (.int ((p0 &&& (2147483647 : Int32)) % (5 : Int32))), .val (.ref wSTEADY), .val (.int (0 : Int32))] [(.ref wSTEADY)])) (fun t k => ?_) ?_
    · show Steps p.tables e below (T2.setTop (mkF m 14 #[.val (.int p0), .val (.int ((p0 &&& (2147483647 : Int32)) % (5 : Int32))), .unset, .unset] [(.ref wSTEADY)])) _
      refine XS.astoreN X2.here hx rfl (hb hby at_14) rfl rfl (l' := #[.val (.int p0), .val (.int ((p0 &&& (2147483647 : Int32)) % (5 : Int32))), .val (.ref wSTEADY), .unset]) rfl ?_
      show Steps p.tables e below (T2.setTop (mkF m 15 #[.val (.int p0), .val (.int ((p0 &&& (2147483647 : Int32)) % (5 : Int32))), .val (.ref wSTEADY), .unset] [])) _
      refine XS.iconst X2.here hx rfl (hb hby at_15) ?_
      show Steps p.tables e below (T2.setTop (mkF m 16 #[.val (.int p0), .val (.int ((p0 &&& (2147483647 : Int32)) % (5 : Int32))), .val (.ref wSTEADY), .unset] [(.int (0 : Int32))])) _
      refine XS.istoreN X2.here hx rfl (hb hby at_16) rfl (l' := #[.val (.int p0), .val (.int ((p0 &&& (2147483647 : Int32)) % (5 : Int32))), .val (.ref wSTEADY), .val (.int (0 : Int32))]) rfl ?_
      show Steps p.tables e below (T2.setTop (mkF m 17 #[.val (.int p0), .val (.int ((p0 &&& (2147483647 : Int32)) % (5 : Int32))), .val (.ref wSTEADY), .val (.int (0 : Int32))] [])) _
      refine XS.goto X2.here hx rfl (pc0 := 17) (pc' := 68) rfl (hb hby at_17) (by decide) (by decide) ?_
      show Steps p.tables e below (T2.setTop (mkF m 68 #[.val (.int p0), .val (.int ((p0 &&& (2147483647 : Int32)) % (5 : Int32))), .val (.ref wSTEADY), .val (.int (0 : Int32))] [])) _
      refine XS.aloadN X2.here hx rfl (hb hby at_68) rfl rfl ?_
      show Steps p.tables e below (T2.setTop (mkF m 69 #[.val (.int p0), .val (.int ((p0 &&& (2147483647 : Int32)) % (5 : Int32))), .val (.ref wSTEADY), .val (.int (0 : Int32))] [(.ref wSTEADY)])) _
      exact k
    obtain ⟨cq3, kq3, q3a, q3b, q3c⟩ := isOf hZ e2 A_STEADY
    obtain ⟨_, _, ⟨T3, L3, k3, n3⟩, -, X3, ⟨Lc3, hQ3, l3, y3, z3⟩, st3⟩ := X2.virtualBack hx (y := (⟨"lazyframe/media/Mode", "freezes", "()Z"⟩ : MethodName)) (z := (⟨"lazyframe/media/Mode", "freezes", "()Z"⟩ : MethodName)) hown (mvT hZ (hw _ (List.mem_of_getElem? (i := 4) rfl))) (mvT hZ (hw _ (List.mem_of_getElem? (i := 5) rfl))) (notFace_of_selects (args := #[]) (mvT hZ (hw _ (List.mem_of_getElem? (i := 7) rfl)))) (mvT hZ (hw _ (List.mem_of_getElem? (i := 7) rfl))) (mvT hZ (hw _ (List.mem_of_getElem? (i := 6) rfl))) (by decide) (backOf (W := 0) (rm1 l Z a0 hw [] wSTEADY wFROZEN wFLAT h0 n0 Z0 S_FROZEN S_FLAT) hZ (hw _ (List.mem_of_getElem? (i := 8) rfl)) (hw _ (List.mem_of_getElem? (i := 2) rfl)) (by decide) (by decide)) q3a q3c (g := (mkF m 69 #[.val (.int p0), .val (.int ((p0 &&& (2147483647 : Int32)) % (5 : Int32))), .val (.ref wSTEADY), .val (.int (0 : Int32))] [(.ref wSTEADY)])) rfl (by rw [hml]; rfl) (Steps.refl _) (argsL := []) (rest := []) (lenOf pd_0 rfl) rfl (by show 2 * 0 + _ ≤ _; exact Nat.le_of_eq rfl) (hb hby at_69) (fun _ _ => ⟨rfl, e2, (by decide : 0 + 0 ≤ _), (by decide : 0 + 0 ≤ _)⟩)
    dsimp only [Pt.U, Pt.locs, Pt.cells, Pt.slots] at X3 l3 y3 z3 st3 hQ3
    subst l3 y3 z3
    obtain ⟨rfl, N3q, eq3⟩ := hQ3
    have N3 := Fr.app N0 N3q
    refine own_step (fun t k => st3.trans k) ?_
    show own_Run p e below s _ _ _ T3 (mkF m 72 #[.val (.int p0), .val (.int ((p0 &&& (2147483647 : Int32)) % (5 : Int32))), .val (.ref wSTEADY), .val (.int (0 : Int32))] [(.int (own_fr wSTEADY wFROZEN wFLAT))])
    refine own_step (T' := T3) (g' := (mkF m 81 #[.val (.int p0), .val (.int ((p0 &&& (2147483647 : Int32)) % (5 : Int32))), .val (.ref wSTEADY), .val (.int (0 : Int32))] [(.int (1 : Int32))])) (fun t k => ?_) ?_
    · show Steps p.tables e below (T3.setTop (mkF m 72 #[.val (.int p0), .val (.int ((p0 &&& (2147483647 : Int32)) % (5 : Int32))), .val (.ref wSTEADY), .val (.int (0 : Int32))] [(.int (own_fr wSTEADY wFROZEN wFLAT))])) _
      refine XS.iloadN X3.here hx rfl (hb hby at_72) rfl ?_
      show Steps p.tables e below (T3.setTop (mkF m 73 #[.val (.int p0), .val (.int ((p0 &&& (2147483647 : Int32)) % (5 : Int32))), .val (.ref wSTEADY), .val (.int (0 : Int32))] [(.int (0 : Int32)), (.int (own_fr wSTEADY wFROZEN wFLAT))])) _
      refine XS.icmpNo X3.here hx rfl (hb hby at_73) rfl (teq (by simp [own_fr, nSF, nSL, nUF, nUL, nHF, nHL] : (own_fr wSTEADY wFROZEN wFLAT) = (0 : Int32))).2 ?_
      show Steps p.tables e below (T3.setTop (mkF m 76 #[.val (.int p0), .val (.int ((p0 &&& (2147483647 : Int32)) % (5 : Int32))), .val (.ref wSTEADY), .val (.int (0 : Int32))] [])) _
      refine XS.iconst X3.here hx rfl (hb hby at_76) ?_
      show Steps p.tables e below (T3.setTop (mkF m 77 #[.val (.int p0), .val (.int ((p0 &&& (2147483647 : Int32)) % (5 : Int32))), .val (.ref wSTEADY), .val (.int (0 : Int32))] [(.int (1 : Int32))])) _
      refine XS.goto X3.here hx rfl (pc0 := 77) (pc' := 81) rfl (hb hby at_77) (by decide) (by decide) ?_
      show Steps p.tables e below (T3.setTop (mkF m 81 #[.val (.int p0), .val (.int ((p0 &&& (2147483647 : Int32)) % (5 : Int32))), .val (.ref wSTEADY), .val (.int (0 : Int32))] [(.int (1 : Int32))])) _
      exact k
    refine own_retN X3 hx (t := .boolean) Bd.returns (by simp) (hb hby at_81) (BodyLoose.notSynchronized Bd) (by decide) (by decide) ?_
    rw [show T3.heap = h0 from eq3]
    exact ⟨rfl, N3⟩
  · skip
    refine own_step (T' := s₁) (g' := (mkF m 22 #[.val (.int p0), .val (.int ((p0 &&& (2147483647 : Int32)) % (5 : Int32))), .unset, .unset] [(.int (1 : Int32)), (.int ((p0 &&& (2147483647 : Int32)) % (5 : Int32)))])) (fun t k => ?_) ?_
    · show Steps p.tables e below (s₁.setTop (mkF m 8 #[.val (.int p0), .val (.int ((p0 &&& (2147483647 : Int32)) % (5 : Int32))), .unset, .unset] [(.int ((p0 &&& (2147483647 : Int32)) % (5 : Int32)))])) _
      refine XS.ifYes X0.here hx rfl (pc0 := 8) (pc' := 20) rfl (hb hby at_8) rfl ((if0 _ _).trans (feq hc1).2) (by decide) (by decide) ?_
      show Steps p.tables e below (s₁.setTop (mkF m 20 #[.val (.int p0), .val (.int ((p0 &&& (2147483647 : Int32)) % (5 : Int32))), .unset, .unset] [])) _
      refine XS.iloadN X0.here hx rfl (hb hby at_20) rfl ?_
      show Steps p.tables e below (s₁.setTop (mkF m 21 #[.val (.int p0), .val (.int ((p0 &&& (2147483647 : Int32)) % (5 : Int32))), .unset, .unset] [(.int ((p0 &&& (2147483647 : Int32)) % (5 : Int32)))])) _
      refine XS.iconst X0.here hx rfl (hb hby at_21) ?_
      show Steps p.tables e below (s₁.setTop (mkF m 22 #[.val (.int p0), .val (.int ((p0 &&& (2147483647 : Int32)) % (5 : Int32))), .unset, .unset] [(.int (1 : Int32)), (.int ((p0 &&& (2147483647 : Int32)) % (5 : Int32)))])) _
      exact k
    by_cases hc5 : ((p0 &&& (2147483647 : Int32)) % (5 : Int32)) = (1 : Int32)
    · skip
      refine own_step (T' := s₁) (g' := (mkF m 25 #[.val (.int p0), .val (.int ((p0 &&& (2147483647 : Int32)) % (5 : Int32))), .unset, .unset] [])) (fun t k => ?_) ?_
      · show Steps p.tables e below (s₁.setTop (mkF m 22 #[.val (.int p0), .val (.int ((p0 &&& (2147483647 : Int32)) % (5 : Int32))), .unset, .unset] [(.int (1 : Int32)), (.int ((p0 &&& (2147483647 : Int32)) % (5 : Int32)))])) _
        refine XS.icmpNo X0.here hx rfl (hb hby at_22) rfl (teq hc5).2 ?_
        show Steps p.tables e below (s₁.setTop (mkF m 25 #[.val (.int p0), .val (.int ((p0 &&& (2147483647 : Int32)) % (5 : Int32))), .unset, .unset] [])) _
        exact k
      obtain ⟨T6, X6, e6, st6⟩ := getS2 X0 hx hZ hown (host := "") (Or.inl (hw _ (List.mem_of_getElem? (i := 14) rfl))) Via.refl e0 S_HURRIED (g := (mkF m 25 #[.val (.int p0), .val (.int ((p0 &&& (2147483647 : Int32)) % (5 : Int32))), .unset, .unset] [])) rfl (hb hby at_25)
      refine own_step st6 ?_
      show own_Run p e below s _ _ _ T6 (mkF m 28 #[.val (.int p0), .val (.int ((p0 &&& (2147483647 : Int32)) % (5 : Int32))), .unset, .unset] [(.ref wHURRIED)])
      refine own_step (T' := T6) (g' := (mkF m 69 #[.val (.int p0), .val (.int ((p0 &&& (2147483647 : Int32)) % (5 : Int32))), .val (.ref wHURRIED), .val (.int (0 : Int32))] [(.ref wHURRIED)])) (fun t k => ?_) ?_
      · show Steps p.tables e below (T6.setTop (mkF m 28 #[.val (.int p0), .val (.int ((p0 &&& (2147483647 : Int32)) % (5 : Int32))), .unset, .unset] [(.ref wHURRIED)])) _
        refine XS.astoreN X6.here hx rfl (hb hby at_28) rfl rfl (l' := #[.val (.int p0), .val (.int ((p0 &&& (2147483647 : Int32)) % (5 : Int32))), .val (.ref wHURRIED), .unset]) rfl ?_
        show Steps p.tables e below (T6.setTop (mkF m 29 #[.val (.int p0), .val (.int ((p0 &&& (2147483647 : Int32)) % (5 : Int32))), .val (.ref wHURRIED), .unset] [])) _
        refine XS.iconst X6.here hx rfl (hb hby at_29) ?_
        show Steps p.tables e below (T6.setTop (mkF m 30 #[.val (.int p0), .val (.int ((p0 &&& (2147483647 : Int32)) % (5 : Int32))), .val (.ref wHURRIED), .unset] [(.int (0 : Int32))])) _
        refine XS.istoreN X6.here hx rfl (hb hby at_30) rfl (l' := #[.val (.int p0), .val (.int ((p0 &&& (2147483647 : Int32)) % (5 : Int32))), .val (.ref wHURRIED), .val (.int (0 : Int32))]) rfl ?_
        show Steps p.tables e below (T6.setTop (mkF m 31 #[.val (.int p0), .val (.int ((p0 &&& (2147483647 : Int32)) % (5 : Int32))), .val (.ref wHURRIED), .val (.int (0 : Int32))] [])) _
        refine XS.goto X6.here hx rfl (pc0 := 31) (pc' := 68) rfl (hb hby at_31) (by decide) (by decide) ?_
        show Steps p.tables e below (T6.setTop (mkF m 68 #[.val (.int p0), .val (.int ((p0 &&& (2147483647 : Int32)) % (5 : Int32))), .val (.ref wHURRIED), .val (.int (0 : Int32))] [])) _
        refine XS.aloadN X6.here hx rfl (hb hby at_68) rfl rfl ?_
        show Steps p.tables e below (T6.setTop (mkF m 69 #[.val (.int p0), .val (.int ((p0 &&& (2147483647 : Int32)) % (5 : Int32))), .val (.ref wHURRIED), .val (.int (0 : Int32))] [(.ref wHURRIED)])) _
        exact k
      obtain ⟨cq7, kq7, q7a, q7b, q7c⟩ := isOf hZ e6 A_HURRIED
      obtain ⟨_, _, ⟨T7, L7, k7, n7⟩, -, X7, ⟨Lc7, hQ7, l7, y7, z7⟩, st7⟩ := X6.virtualBack hx (y := (⟨"lazyframe/media/Mode", "freezes", "()Z"⟩ : MethodName)) (z := (⟨"lazyframe/media/Mode", "freezes", "()Z"⟩ : MethodName)) hown (mvT hZ (hw _ (List.mem_of_getElem? (i := 4) rfl))) (mvT hZ (hw _ (List.mem_of_getElem? (i := 5) rfl))) (notFace_of_selects (args := #[]) (mvT hZ (hw _ (List.mem_of_getElem? (i := 7) rfl)))) (mvT hZ (hw _ (List.mem_of_getElem? (i := 7) rfl))) (mvT hZ (hw _ (List.mem_of_getElem? (i := 6) rfl))) (by decide) (backOf (W := 0) (rm1 l Z a0 hw [] wHURRIED wFROZEN wFLAT h0 n0 Z0 S_FROZEN S_FLAT) hZ (hw _ (List.mem_of_getElem? (i := 8) rfl)) (hw _ (List.mem_of_getElem? (i := 2) rfl)) (by decide) (by decide)) q7a q7c (g := (mkF m 69 #[.val (.int p0), .val (.int ((p0 &&& (2147483647 : Int32)) % (5 : Int32))), .val (.ref wHURRIED), .val (.int (0 : Int32))] [(.ref wHURRIED)])) rfl (by rw [hml]; rfl) (Steps.refl _) (argsL := []) (rest := []) (lenOf pd_0 rfl) rfl (by show 2 * 0 + _ ≤ _; exact Nat.le_of_eq rfl) (hb hby at_69) (fun _ _ => ⟨rfl, e6, (by decide : 0 + 0 ≤ _), (by decide : 0 + 0 ≤ _)⟩)
      dsimp only [Pt.U, Pt.locs, Pt.cells, Pt.slots] at X7 l7 y7 z7 st7 hQ7
      subst l7 y7 z7
      obtain ⟨rfl, N7q, eq7⟩ := hQ7
      have N7 := Fr.app N0 N7q
      refine own_step (fun t k => st7.trans k) ?_
      show own_Run p e below s _ _ _ T7 (mkF m 72 #[.val (.int p0), .val (.int ((p0 &&& (2147483647 : Int32)) % (5 : Int32))), .val (.ref wHURRIED), .val (.int (0 : Int32))] [(.int (own_fr wHURRIED wFROZEN wFLAT))])
      refine own_step (T' := T7) (g' := (mkF m 81 #[.val (.int p0), .val (.int ((p0 &&& (2147483647 : Int32)) % (5 : Int32))), .val (.ref wHURRIED), .val (.int (0 : Int32))] [(.int (1 : Int32))])) (fun t k => ?_) ?_
      · show Steps p.tables e below (T7.setTop (mkF m 72 #[.val (.int p0), .val (.int ((p0 &&& (2147483647 : Int32)) % (5 : Int32))), .val (.ref wHURRIED), .val (.int (0 : Int32))] [(.int (own_fr wHURRIED wFROZEN wFLAT))])) _
        refine XS.iloadN X7.here hx rfl (hb hby at_72) rfl ?_
        show Steps p.tables e below (T7.setTop (mkF m 73 #[.val (.int p0), .val (.int ((p0 &&& (2147483647 : Int32)) % (5 : Int32))), .val (.ref wHURRIED), .val (.int (0 : Int32))] [(.int (0 : Int32)), (.int (own_fr wHURRIED wFROZEN wFLAT))])) _
        refine XS.icmpNo X7.here hx rfl (hb hby at_73) rfl (teq (by simp [own_fr, nSF, nSL, nUF, nUL, nHF, nHL] : (own_fr wHURRIED wFROZEN wFLAT) = (0 : Int32))).2 ?_
        show Steps p.tables e below (T7.setTop (mkF m 76 #[.val (.int p0), .val (.int ((p0 &&& (2147483647 : Int32)) % (5 : Int32))), .val (.ref wHURRIED), .val (.int (0 : Int32))] [])) _
        refine XS.iconst X7.here hx rfl (hb hby at_76) ?_
        show Steps p.tables e below (T7.setTop (mkF m 77 #[.val (.int p0), .val (.int ((p0 &&& (2147483647 : Int32)) % (5 : Int32))), .val (.ref wHURRIED), .val (.int (0 : Int32))] [(.int (1 : Int32))])) _
        refine XS.goto X7.here hx rfl (pc0 := 77) (pc' := 81) rfl (hb hby at_77) (by decide) (by decide) ?_
        show Steps p.tables e below (T7.setTop (mkF m 81 #[.val (.int p0), .val (.int ((p0 &&& (2147483647 : Int32)) % (5 : Int32))), .val (.ref wHURRIED), .val (.int (0 : Int32))] [(.int (1 : Int32))])) _
        exact k
      refine own_retN X7 hx (t := .boolean) Bd.returns (by simp) (hb hby at_81) (BodyLoose.notSynchronized Bd) (by decide) (by decide) ?_
      rw [show T7.heap = h0 from eq7]
      exact ⟨rfl, N7⟩
    · skip
      refine own_step (T' := s₁) (g' := (mkF m 36 #[.val (.int p0), .val (.int ((p0 &&& (2147483647 : Int32)) % (5 : Int32))), .unset, .unset] [(.int (2 : Int32)), (.int ((p0 &&& (2147483647 : Int32)) % (5 : Int32)))])) (fun t k => ?_) ?_
      · show Steps p.tables e below (s₁.setTop (mkF m 22 #[.val (.int p0), .val (.int ((p0 &&& (2147483647 : Int32)) % (5 : Int32))), .unset, .unset] [(.int (1 : Int32)), (.int ((p0 &&& (2147483647 : Int32)) % (5 : Int32)))])) _
        refine XS.icmpYes X0.here hx rfl (pc0 := 22) (pc' := 34) rfl (hb hby at_22) rfl (feq hc5).2 (by decide) (by decide) ?_
        show Steps p.tables e below (s₁.setTop (mkF m 34 #[.val (.int p0), .val (.int ((p0 &&& (2147483647 : Int32)) % (5 : Int32))), .unset, .unset] [])) _
        refine XS.iloadN X0.here hx rfl (hb hby at_34) rfl ?_
        show Steps p.tables e below (s₁.setTop (mkF m 35 #[.val (.int p0), .val (.int ((p0 &&& (2147483647 : Int32)) % (5 : Int32))), .unset, .unset] [(.int ((p0 &&& (2147483647 : Int32)) % (5 : Int32)))])) _
        refine XS.iconst X0.here hx rfl (hb hby at_35) ?_
        show Steps p.tables e below (s₁.setTop (mkF m 36 #[.val (.int p0), .val (.int ((p0 &&& (2147483647 : Int32)) % (5 : Int32))), .unset, .unset] [(.int (2 : Int32)), (.int ((p0 &&& (2147483647 : Int32)) % (5 : Int32)))])) _
        exact k
      by_cases hc9 : ((p0 &&& (2147483647 : Int32)) % (5 : Int32)) = (2 : Int32)
      · skip
        refine own_step (T' := s₁) (g' := (mkF m 39 #[.val (.int p0), .val (.int ((p0 &&& (2147483647 : Int32)) % (5 : Int32))), .unset, .unset] [])) (fun t k => ?_) ?_
        · show Steps p.tables e below (s₁.setTop (mkF m 36 #[.val (.int p0), .val (.int ((p0 &&& (2147483647 : Int32)) % (5 : Int32))), .unset, .unset] [(.int (2 : Int32)), (.int ((p0 &&& (2147483647 : Int32)) % (5 : Int32)))])) _
          refine XS.icmpNo X0.here hx rfl (hb hby at_36) rfl (teq hc9).2 ?_
          show Steps p.tables e below (s₁.setTop (mkF m 39 #[.val (.int p0), .val (.int ((p0 &&& (2147483647 : Int32)) % (5 : Int32))), .unset, .unset] [])) _
          exact k
        obtain ⟨T10, X10, e10, st10⟩ := getS2 X0 hx hZ hown (host := "") (Or.inl (hw _ (List.mem_of_getElem? (i := 17) rfl))) Via.refl e0 S_HELD (g := (mkF m 39 #[.val (.int p0), .val (.int ((p0 &&& (2147483647 : Int32)) % (5 : Int32))), .unset, .unset] [])) rfl (hb hby at_39)
        refine own_step st10 ?_
        show own_Run p e below s _ _ _ T10 (mkF m 42 #[.val (.int p0), .val (.int ((p0 &&& (2147483647 : Int32)) % (5 : Int32))), .unset, .unset] [(.ref wHELD)])
        refine own_step (T' := T10) (g' := (mkF m 69 #[.val (.int p0), .val (.int ((p0 &&& (2147483647 : Int32)) % (5 : Int32))), .val (.ref wHELD), .val (.int (0 : Int32))] [(.ref wHELD)])) (fun t k => ?_) ?_
        · show Steps p.tables e below (T10.setTop (mkF m 42 #[.val (.int p0), .val (.int ((p0 &&& (2147483647 : Int32)) % (5 : Int32))), .unset, .unset] [(.ref wHELD)])) _
          refine XS.astoreN X10.here hx rfl (hb hby at_42) rfl rfl (l' := #[.val (.int p0), .val (.int ((p0 &&& (2147483647 : Int32)) % (5 : Int32))), .val (.ref wHELD), .unset]) rfl ?_
          show Steps p.tables e below (T10.setTop (mkF m 43 #[.val (.int p0), .val (.int ((p0 &&& (2147483647 : Int32)) % (5 : Int32))), .val (.ref wHELD), .unset] [])) _
          refine XS.iconst X10.here hx rfl (hb hby at_43) ?_
          show Steps p.tables e below (T10.setTop (mkF m 44 #[.val (.int p0), .val (.int ((p0 &&& (2147483647 : Int32)) % (5 : Int32))), .val (.ref wHELD), .unset] [(.int (0 : Int32))])) _
          refine XS.istoreN X10.here hx rfl (hb hby at_44) rfl (l' := #[.val (.int p0), .val (.int ((p0 &&& (2147483647 : Int32)) % (5 : Int32))), .val (.ref wHELD), .val (.int (0 : Int32))]) rfl ?_
          show Steps p.tables e below (T10.setTop (mkF m 45 #[.val (.int p0), .val (.int ((p0 &&& (2147483647 : Int32)) % (5 : Int32))), .val (.ref wHELD), .val (.int (0 : Int32))] [])) _
          refine XS.goto X10.here hx rfl (pc0 := 45) (pc' := 68) rfl (hb hby at_45) (by decide) (by decide) ?_
          show Steps p.tables e below (T10.setTop (mkF m 68 #[.val (.int p0), .val (.int ((p0 &&& (2147483647 : Int32)) % (5 : Int32))), .val (.ref wHELD), .val (.int (0 : Int32))] [])) _
          refine XS.aloadN X10.here hx rfl (hb hby at_68) rfl rfl ?_
          show Steps p.tables e below (T10.setTop (mkF m 69 #[.val (.int p0), .val (.int ((p0 &&& (2147483647 : Int32)) % (5 : Int32))), .val (.ref wHELD), .val (.int (0 : Int32))] [(.ref wHELD)])) _
          exact k
        obtain ⟨cq11, kq11, q11a, q11b, q11c⟩ := isOf hZ e10 A_HELD
        obtain ⟨_, _, ⟨T11, L11, k11, n11⟩, -, X11, ⟨Lc11, hQ11, l11, y11, z11⟩, st11⟩ := X10.virtualBack hx (y := (⟨"lazyframe/media/Mode", "freezes", "()Z"⟩ : MethodName)) (z := (⟨"lazyframe/media/Mode", "freezes", "()Z"⟩ : MethodName)) hown (mvT hZ (hw _ (List.mem_of_getElem? (i := 4) rfl))) (mvT hZ (hw _ (List.mem_of_getElem? (i := 5) rfl))) (notFace_of_selects (args := #[]) (mvT hZ (hw _ (List.mem_of_getElem? (i := 7) rfl)))) (mvT hZ (hw _ (List.mem_of_getElem? (i := 7) rfl))) (mvT hZ (hw _ (List.mem_of_getElem? (i := 6) rfl))) (by decide) (backOf (W := 0) (rm1 l Z a0 hw [] wHELD wFROZEN wFLAT h0 n0 Z0 S_FROZEN S_FLAT) hZ (hw _ (List.mem_of_getElem? (i := 8) rfl)) (hw _ (List.mem_of_getElem? (i := 2) rfl)) (by decide) (by decide)) q11a q11c (g := (mkF m 69 #[.val (.int p0), .val (.int ((p0 &&& (2147483647 : Int32)) % (5 : Int32))), .val (.ref wHELD), .val (.int (0 : Int32))] [(.ref wHELD)])) rfl (by rw [hml]; rfl) (Steps.refl _) (argsL := []) (rest := []) (lenOf pd_0 rfl) rfl (by show 2 * 0 + _ ≤ _; exact Nat.le_of_eq rfl) (hb hby at_69) (fun _ _ => ⟨rfl, e10, (by decide : 0 + 0 ≤ _), (by decide : 0 + 0 ≤ _)⟩)
        dsimp only [Pt.U, Pt.locs, Pt.cells, Pt.slots] at X11 l11 y11 z11 st11 hQ11
        subst l11 y11 z11
        obtain ⟨rfl, N11q, eq11⟩ := hQ11
        have N11 := Fr.app N0 N11q
        refine own_step (fun t k => st11.trans k) ?_
        show own_Run p e below s _ _ _ T11 (mkF m 72 #[.val (.int p0), .val (.int ((p0 &&& (2147483647 : Int32)) % (5 : Int32))), .val (.ref wHELD), .val (.int (0 : Int32))] [(.int (own_fr wHELD wFROZEN wFLAT))])
        refine own_step (T' := T11) (g' := (mkF m 81 #[.val (.int p0), .val (.int ((p0 &&& (2147483647 : Int32)) % (5 : Int32))), .val (.ref wHELD), .val (.int (0 : Int32))] [(.int (1 : Int32))])) (fun t k => ?_) ?_
        · show Steps p.tables e below (T11.setTop (mkF m 72 #[.val (.int p0), .val (.int ((p0 &&& (2147483647 : Int32)) % (5 : Int32))), .val (.ref wHELD), .val (.int (0 : Int32))] [(.int (own_fr wHELD wFROZEN wFLAT))])) _
          refine XS.iloadN X11.here hx rfl (hb hby at_72) rfl ?_
          show Steps p.tables e below (T11.setTop (mkF m 73 #[.val (.int p0), .val (.int ((p0 &&& (2147483647 : Int32)) % (5 : Int32))), .val (.ref wHELD), .val (.int (0 : Int32))] [(.int (0 : Int32)), (.int (own_fr wHELD wFROZEN wFLAT))])) _
          refine XS.icmpNo X11.here hx rfl (hb hby at_73) rfl (teq (by simp [own_fr, nSF, nSL, nUF, nUL, nHF, nHL] : (own_fr wHELD wFROZEN wFLAT) = (0 : Int32))).2 ?_
          show Steps p.tables e below (T11.setTop (mkF m 76 #[.val (.int p0), .val (.int ((p0 &&& (2147483647 : Int32)) % (5 : Int32))), .val (.ref wHELD), .val (.int (0 : Int32))] [])) _
          refine XS.iconst X11.here hx rfl (hb hby at_76) ?_
          show Steps p.tables e below (T11.setTop (mkF m 77 #[.val (.int p0), .val (.int ((p0 &&& (2147483647 : Int32)) % (5 : Int32))), .val (.ref wHELD), .val (.int (0 : Int32))] [(.int (1 : Int32))])) _
          refine XS.goto X11.here hx rfl (pc0 := 77) (pc' := 81) rfl (hb hby at_77) (by decide) (by decide) ?_
          show Steps p.tables e below (T11.setTop (mkF m 81 #[.val (.int p0), .val (.int ((p0 &&& (2147483647 : Int32)) % (5 : Int32))), .val (.ref wHELD), .val (.int (0 : Int32))] [(.int (1 : Int32))])) _
          exact k
        refine own_retN X11 hx (t := .boolean) Bd.returns (by simp) (hb hby at_81) (BodyLoose.notSynchronized Bd) (by decide) (by decide) ?_
        rw [show T11.heap = h0 from eq11]
        exact ⟨rfl, N11⟩
      · skip
        refine own_step (T' := s₁) (g' := (mkF m 50 #[.val (.int p0), .val (.int ((p0 &&& (2147483647 : Int32)) % (5 : Int32))), .unset, .unset] [(.int (3 : Int32)), (.int ((p0 &&& (2147483647 : Int32)) % (5 : Int32)))])) (fun t k => ?_) ?_
        · show Steps p.tables e below (s₁.setTop (mkF m 36 #[.val (.int p0), .val (.int ((p0 &&& (2147483647 : Int32)) % (5 : Int32))), .unset, .unset] [(.int (2 : Int32)), (.int ((p0 &&& (2147483647 : Int32)) % (5 : Int32)))])) _
          refine XS.icmpYes X0.here hx rfl (pc0 := 36) (pc' := 48) rfl (hb hby at_36) rfl (feq hc9).2 (by decide) (by decide) ?_
          show Steps p.tables e below (s₁.setTop (mkF m 48 #[.val (.int p0), .val (.int ((p0 &&& (2147483647 : Int32)) % (5 : Int32))), .unset, .unset] [])) _
          refine XS.iloadN X0.here hx rfl (hb hby at_48) rfl ?_
          show Steps p.tables e below (s₁.setTop (mkF m 49 #[.val (.int p0), .val (.int ((p0 &&& (2147483647 : Int32)) % (5 : Int32))), .unset, .unset] [(.int ((p0 &&& (2147483647 : Int32)) % (5 : Int32)))])) _
          refine XS.iconst X0.here hx rfl (hb hby at_49) ?_
          show Steps p.tables e below (s₁.setTop (mkF m 50 #[.val (.int p0), .val (.int ((p0 &&& (2147483647 : Int32)) % (5 : Int32))), .unset, .unset] [(.int (3 : Int32)), (.int ((p0 &&& (2147483647 : Int32)) % (5 : Int32)))])) _
          exact k
        by_cases hc13 : ((p0 &&& (2147483647 : Int32)) % (5 : Int32)) = (3 : Int32)
        · skip
          refine own_step (T' := s₁) (g' := (mkF m 53 #[.val (.int p0), .val (.int ((p0 &&& (2147483647 : Int32)) % (5 : Int32))), .unset, .unset] [])) (fun t k => ?_) ?_
          · show Steps p.tables e below (s₁.setTop (mkF m 50 #[.val (.int p0), .val (.int ((p0 &&& (2147483647 : Int32)) % (5 : Int32))), .unset, .unset] [(.int (3 : Int32)), (.int ((p0 &&& (2147483647 : Int32)) % (5 : Int32)))])) _
            refine XS.icmpNo X0.here hx rfl (hb hby at_50) rfl (teq hc13).2 ?_
            show Steps p.tables e below (s₁.setTop (mkF m 53 #[.val (.int p0), .val (.int ((p0 &&& (2147483647 : Int32)) % (5 : Int32))), .unset, .unset] [])) _
            exact k
          obtain ⟨T14, X14, e14, st14⟩ := getS2 X0 hx hZ hown (host := "") (Or.inl (hw _ (List.mem_of_getElem? (i := 13) rfl))) Via.refl e0 S_FROZEN (g := (mkF m 53 #[.val (.int p0), .val (.int ((p0 &&& (2147483647 : Int32)) % (5 : Int32))), .unset, .unset] [])) rfl (hb hby at_53)
          refine own_step st14 ?_
          show own_Run p e below s _ _ _ T14 (mkF m 56 #[.val (.int p0), .val (.int ((p0 &&& (2147483647 : Int32)) % (5 : Int32))), .unset, .unset] [(.ref wFROZEN)])
          refine own_step (T' := T14) (g' := (mkF m 69 #[.val (.int p0), .val (.int ((p0 &&& (2147483647 : Int32)) % (5 : Int32))), .val (.ref wFROZEN), .val (.int (1 : Int32))] [(.ref wFROZEN)])) (fun t k => ?_) ?_
          · show Steps p.tables e below (T14.setTop (mkF m 56 #[.val (.int p0), .val (.int ((p0 &&& (2147483647 : Int32)) % (5 : Int32))), .unset, .unset] [(.ref wFROZEN)])) _
            refine XS.astoreN X14.here hx rfl (hb hby at_56) rfl rfl (l' := #[.val (.int p0), .val (.int ((p0 &&& (2147483647 : Int32)) % (5 : Int32))), .val (.ref wFROZEN), .unset]) rfl ?_
            show Steps p.tables e below (T14.setTop (mkF m 57 #[.val (.int p0), .val (.int ((p0 &&& (2147483647 : Int32)) % (5 : Int32))), .val (.ref wFROZEN), .unset] [])) _
            refine XS.iconst X14.here hx rfl (hb hby at_57) ?_
            show Steps p.tables e below (T14.setTop (mkF m 58 #[.val (.int p0), .val (.int ((p0 &&& (2147483647 : Int32)) % (5 : Int32))), .val (.ref wFROZEN), .unset] [(.int (1 : Int32))])) _
            refine XS.istoreN X14.here hx rfl (hb hby at_58) rfl (l' := #[.val (.int p0), .val (.int ((p0 &&& (2147483647 : Int32)) % (5 : Int32))), .val (.ref wFROZEN), .val (.int (1 : Int32))]) rfl ?_
            show Steps p.tables e below (T14.setTop (mkF m 59 #[.val (.int p0), .val (.int ((p0 &&& (2147483647 : Int32)) % (5 : Int32))), .val (.ref wFROZEN), .val (.int (1 : Int32))] [])) _
            refine XS.goto X14.here hx rfl (pc0 := 59) (pc' := 68) rfl (hb hby at_59) (by decide) (by decide) ?_
            show Steps p.tables e below (T14.setTop (mkF m 68 #[.val (.int p0), .val (.int ((p0 &&& (2147483647 : Int32)) % (5 : Int32))), .val (.ref wFROZEN), .val (.int (1 : Int32))] [])) _
            refine XS.aloadN X14.here hx rfl (hb hby at_68) rfl rfl ?_
            show Steps p.tables e below (T14.setTop (mkF m 69 #[.val (.int p0), .val (.int ((p0 &&& (2147483647 : Int32)) % (5 : Int32))), .val (.ref wFROZEN), .val (.int (1 : Int32))] [(.ref wFROZEN)])) _
            exact k
          obtain ⟨cq15, kq15, q15a, q15b, q15c⟩ := isOf hZ e14 A_FROZEN
          obtain ⟨_, _, ⟨T15, L15, k15, n15⟩, -, X15, ⟨Lc15, hQ15, l15, y15, z15⟩, st15⟩ := X14.virtualBack hx (y := (⟨"lazyframe/media/Mode", "freezes", "()Z"⟩ : MethodName)) (z := (⟨"lazyframe/media/Mode", "freezes", "()Z"⟩ : MethodName)) hown (mvT hZ (hw _ (List.mem_of_getElem? (i := 4) rfl))) (mvT hZ (hw _ (List.mem_of_getElem? (i := 5) rfl))) (notFace_of_selects (args := #[]) (mvT hZ (hw _ (List.mem_of_getElem? (i := 7) rfl)))) (mvT hZ (hw _ (List.mem_of_getElem? (i := 7) rfl))) (mvT hZ (hw _ (List.mem_of_getElem? (i := 6) rfl))) (by decide) (backOf (W := 0) (rm1 l Z a0 hw [] wFROZEN wFROZEN wFLAT h0 n0 Z0 S_FROZEN S_FLAT) hZ (hw _ (List.mem_of_getElem? (i := 8) rfl)) (hw _ (List.mem_of_getElem? (i := 2) rfl)) (by decide) (by decide)) q15a q15c (g := (mkF m 69 #[.val (.int p0), .val (.int ((p0 &&& (2147483647 : Int32)) % (5 : Int32))), .val (.ref wFROZEN), .val (.int (1 : Int32))] [(.ref wFROZEN)])) rfl (by rw [hml]; rfl) (Steps.refl _) (argsL := []) (rest := []) (lenOf pd_0 rfl) rfl (by show 2 * 0 + _ ≤ _; exact Nat.le_of_eq rfl) (hb hby at_69) (fun _ _ => ⟨rfl, e14, (by decide : 0 + 0 ≤ _), (by decide : 0 + 0 ≤ _)⟩)
          dsimp only [Pt.U, Pt.locs, Pt.cells, Pt.slots] at X15 l15 y15 z15 st15 hQ15
          subst l15 y15 z15
          obtain ⟨rfl, N15q, eq15⟩ := hQ15
          have N15 := Fr.app N0 N15q
          refine own_step (fun t k => st15.trans k) ?_
          show own_Run p e below s _ _ _ T15 (mkF m 72 #[.val (.int p0), .val (.int ((p0 &&& (2147483647 : Int32)) % (5 : Int32))), .val (.ref wFROZEN), .val (.int (1 : Int32))] [(.int (own_fr wFROZEN wFROZEN wFLAT))])
          refine own_step (T' := T15) (g' := (mkF m 81 #[.val (.int p0), .val (.int ((p0 &&& (2147483647 : Int32)) % (5 : Int32))), .val (.ref wFROZEN), .val (.int (1 : Int32))] [(.int (1 : Int32))])) (fun t k => ?_) ?_
          · show Steps p.tables e below (T15.setTop (mkF m 72 #[.val (.int p0), .val (.int ((p0 &&& (2147483647 : Int32)) % (5 : Int32))), .val (.ref wFROZEN), .val (.int (1 : Int32))] [(.int (own_fr wFROZEN wFROZEN wFLAT))])) _
            refine XS.iloadN X15.here hx rfl (hb hby at_72) rfl ?_
            show Steps p.tables e below (T15.setTop (mkF m 73 #[.val (.int p0), .val (.int ((p0 &&& (2147483647 : Int32)) % (5 : Int32))), .val (.ref wFROZEN), .val (.int (1 : Int32))] [(.int (1 : Int32)), (.int (own_fr wFROZEN wFROZEN wFLAT))])) _
            refine XS.icmpNo X15.here hx rfl (hb hby at_73) rfl (teq (by simp [own_fr, nSF, nSL, nUF, nUL, nHF, nHL] : (own_fr wFROZEN wFROZEN wFLAT) = (1 : Int32))).2 ?_
            show Steps p.tables e below (T15.setTop (mkF m 76 #[.val (.int p0), .val (.int ((p0 &&& (2147483647 : Int32)) % (5 : Int32))), .val (.ref wFROZEN), .val (.int (1 : Int32))] [])) _
            refine XS.iconst X15.here hx rfl (hb hby at_76) ?_
            show Steps p.tables e below (T15.setTop (mkF m 77 #[.val (.int p0), .val (.int ((p0 &&& (2147483647 : Int32)) % (5 : Int32))), .val (.ref wFROZEN), .val (.int (1 : Int32))] [(.int (1 : Int32))])) _
            refine XS.goto X15.here hx rfl (pc0 := 77) (pc' := 81) rfl (hb hby at_77) (by decide) (by decide) ?_
            show Steps p.tables e below (T15.setTop (mkF m 81 #[.val (.int p0), .val (.int ((p0 &&& (2147483647 : Int32)) % (5 : Int32))), .val (.ref wFROZEN), .val (.int (1 : Int32))] [(.int (1 : Int32))])) _
            exact k
          refine own_retN X15 hx (t := .boolean) Bd.returns (by simp) (hb hby at_81) (BodyLoose.notSynchronized Bd) (by decide) (by decide) ?_
          rw [show T15.heap = h0 from eq15]
          exact ⟨rfl, N15⟩
        · skip
          refine own_step (T' := s₁) (g' := (mkF m 62 #[.val (.int p0), .val (.int ((p0 &&& (2147483647 : Int32)) % (5 : Int32))), .unset, .unset] [])) (fun t k => ?_) ?_
          · show Steps p.tables e below (s₁.setTop (mkF m 50 #[.val (.int p0), .val (.int ((p0 &&& (2147483647 : Int32)) % (5 : Int32))), .unset, .unset] [(.int (3 : Int32)), (.int ((p0 &&& (2147483647 : Int32)) % (5 : Int32)))])) _
            refine XS.icmpYes X0.here hx rfl (pc0 := 50) (pc' := 62) rfl (hb hby at_50) rfl (feq hc13).2 (by decide) (by decide) ?_
            show Steps p.tables e below (s₁.setTop (mkF m 62 #[.val (.int p0), .val (.int ((p0 &&& (2147483647 : Int32)) % (5 : Int32))), .unset, .unset] [])) _
            exact k
          obtain ⟨T17, X17, e17, st17⟩ := getS2 X0 hx hZ hown (host := "") (Or.inl (hw _ (List.mem_of_getElem? (i := 16) rfl))) Via.refl e0 S_FLAT (g := (mkF m 62 #[.val (.int p0), .val (.int ((p0 &&& (2147483647 : Int32)) % (5 : Int32))), .unset, .unset] [])) rfl (hb hby at_62)
          refine own_step st17 ?_
          show own_Run p e below s _ _ _ T17 (mkF m 65 #[.val (.int p0), .val (.int ((p0 &&& (2147483647 : Int32)) % (5 : Int32))), .unset, .unset] [(.ref wFLAT)])
          refine own_step (T' := T17) (g' := (mkF m 69 #[.val (.int p0), .val (.int ((p0 &&& (2147483647 : Int32)) % (5 : Int32))), .val (.ref wFLAT), .val (.int (1 : Int32))] [(.ref wFLAT)])) (fun t k => ?_) ?_
          · show Steps p.tables e below (T17.setTop (mkF m 65 #[.val (.int p0), .val (.int ((p0 &&& (2147483647 : Int32)) % (5 : Int32))), .unset, .unset] [(.ref wFLAT)])) _
            refine XS.astoreN X17.here hx rfl (hb hby at_65) rfl rfl (l' := #[.val (.int p0), .val (.int ((p0 &&& (2147483647 : Int32)) % (5 : Int32))), .val (.ref wFLAT), .unset]) rfl ?_
            show Steps p.tables e below (T17.setTop (mkF m 66 #[.val (.int p0), .val (.int ((p0 &&& (2147483647 : Int32)) % (5 : Int32))), .val (.ref wFLAT), .unset] [])) _
            refine XS.iconst X17.here hx rfl (hb hby at_66) ?_
            show Steps p.tables e below (T17.setTop (mkF m 67 #[.val (.int p0), .val (.int ((p0 &&& (2147483647 : Int32)) % (5 : Int32))), .val (.ref wFLAT), .unset] [(.int (1 : Int32))])) _
            refine XS.istoreN X17.here hx rfl (hb hby at_67) rfl (l' := #[.val (.int p0), .val (.int ((p0 &&& (2147483647 : Int32)) % (5 : Int32))), .val (.ref wFLAT), .val (.int (1 : Int32))]) rfl ?_
            show Steps p.tables e below (T17.setTop (mkF m 68 #[.val (.int p0), .val (.int ((p0 &&& (2147483647 : Int32)) % (5 : Int32))), .val (.ref wFLAT), .val (.int (1 : Int32))] [])) _
            refine XS.aloadN X17.here hx rfl (hb hby at_68) rfl rfl ?_
            show Steps p.tables e below (T17.setTop (mkF m 69 #[.val (.int p0), .val (.int ((p0 &&& (2147483647 : Int32)) % (5 : Int32))), .val (.ref wFLAT), .val (.int (1 : Int32))] [(.ref wFLAT)])) _
            exact k
          obtain ⟨cq18, kq18, q18a, q18b, q18c⟩ := isOf hZ e17 A_FLAT
          obtain ⟨_, _, ⟨T18, L18, k18, n18⟩, -, X18, ⟨Lc18, hQ18, l18, y18, z18⟩, st18⟩ := X17.virtualBack hx (y := (⟨"lazyframe/media/Mode", "freezes", "()Z"⟩ : MethodName)) (z := (⟨"lazyframe/media/Mode", "freezes", "()Z"⟩ : MethodName)) hown (mvT hZ (hw _ (List.mem_of_getElem? (i := 4) rfl))) (mvT hZ (hw _ (List.mem_of_getElem? (i := 5) rfl))) (notFace_of_selects (args := #[]) (mvT hZ (hw _ (List.mem_of_getElem? (i := 7) rfl)))) (mvT hZ (hw _ (List.mem_of_getElem? (i := 7) rfl))) (mvT hZ (hw _ (List.mem_of_getElem? (i := 6) rfl))) (by decide) (backOf (W := 0) (rm1 l Z a0 hw [] wFLAT wFROZEN wFLAT h0 n0 Z0 S_FROZEN S_FLAT) hZ (hw _ (List.mem_of_getElem? (i := 8) rfl)) (hw _ (List.mem_of_getElem? (i := 2) rfl)) (by decide) (by decide)) q18a q18c (g := (mkF m 69 #[.val (.int p0), .val (.int ((p0 &&& (2147483647 : Int32)) % (5 : Int32))), .val (.ref wFLAT), .val (.int (1 : Int32))] [(.ref wFLAT)])) rfl (by rw [hml]; rfl) (Steps.refl _) (argsL := []) (rest := []) (lenOf pd_0 rfl) rfl (by show 2 * 0 + _ ≤ _; exact Nat.le_of_eq rfl) (hb hby at_69) (fun _ _ => ⟨rfl, e17, (by decide : 0 + 0 ≤ _), (by decide : 0 + 0 ≤ _)⟩)
          dsimp only [Pt.U, Pt.locs, Pt.cells, Pt.slots] at X18 l18 y18 z18 st18 hQ18
          subst l18 y18 z18
          obtain ⟨rfl, N18q, eq18⟩ := hQ18
          have N18 := Fr.app N0 N18q
          refine own_step (fun t k => st18.trans k) ?_
          show own_Run p e below s _ _ _ T18 (mkF m 72 #[.val (.int p0), .val (.int ((p0 &&& (2147483647 : Int32)) % (5 : Int32))), .val (.ref wFLAT), .val (.int (1 : Int32))] [(.int (own_fr wFLAT wFROZEN wFLAT))])
          refine own_step (T' := T18) (g' := (mkF m 81 #[.val (.int p0), .val (.int ((p0 &&& (2147483647 : Int32)) % (5 : Int32))), .val (.ref wFLAT), .val (.int (1 : Int32))] [(.int (1 : Int32))])) (fun t k => ?_) ?_
          · show Steps p.tables e below (T18.setTop (mkF m 72 #[.val (.int p0), .val (.int ((p0 &&& (2147483647 : Int32)) % (5 : Int32))), .val (.ref wFLAT), .val (.int (1 : Int32))] [(.int (own_fr wFLAT wFROZEN wFLAT))])) _
            refine XS.iloadN X18.here hx rfl (hb hby at_72) rfl ?_
            show Steps p.tables e below (T18.setTop (mkF m 73 #[.val (.int p0), .val (.int ((p0 &&& (2147483647 : Int32)) % (5 : Int32))), .val (.ref wFLAT), .val (.int (1 : Int32))] [(.int (1 : Int32)), (.int (own_fr wFLAT wFROZEN wFLAT))])) _
            refine XS.icmpNo X18.here hx rfl (hb hby at_73) rfl (teq (by simp [own_fr, nSF, nSL, nUF, nUL, nHF, nHL] : (own_fr wFLAT wFROZEN wFLAT) = (1 : Int32))).2 ?_
            show Steps p.tables e below (T18.setTop (mkF m 76 #[.val (.int p0), .val (.int ((p0 &&& (2147483647 : Int32)) % (5 : Int32))), .val (.ref wFLAT), .val (.int (1 : Int32))] [])) _
            refine XS.iconst X18.here hx rfl (hb hby at_76) ?_
            show Steps p.tables e below (T18.setTop (mkF m 77 #[.val (.int p0), .val (.int ((p0 &&& (2147483647 : Int32)) % (5 : Int32))), .val (.ref wFLAT), .val (.int (1 : Int32))] [(.int (1 : Int32))])) _
            refine XS.goto X18.here hx rfl (pc0 := 77) (pc' := 81) rfl (hb hby at_77) (by decide) (by decide) ?_
            show Steps p.tables e below (T18.setTop (mkF m 81 #[.val (.int p0), .val (.int ((p0 &&& (2147483647 : Int32)) % (5 : Int32))), .val (.ref wFLAT), .val (.int (1 : Int32))] [(.int (1 : Int32))])) _
            exact k
          refine own_retN X18 hx (t := .boolean) Bd.returns (by simp) (hb hby at_81) (BodyLoose.notSynchronized Bd) (by decide) (by decide) ?_
          rw [show T18.heap = h0 from eq18]
          exact ⟨rfl, N18⟩
theorem own_ord {args : Array Value} {s : State} {t t' : Term} {a b : Addr} {i j : Int32} (e : t.eval args s none [] s = some (.ref a)) (e' : t'.eval args s none [] s = some (.ref b)) (h : (Jvm.Cond.eq (Jvm.Term.field t "java/lang/Enum" "ordinal" "I") (Jvm.Term.int i)).value args s none s [] = some true) (h' : (Jvm.Cond.eq (Jvm.Term.field t' "java/lang/Enum" "ordinal" "I") (Jvm.Term.int j)).value args s none s [] = some true) (hij : i ≠ j) : ¬ a = b := by
  intro q
  subst q
  have e1 : (Jvm.Term.field t "java/lang/Enum" "ordinal" "I").eval args s none [] s = (Jvm.Term.field t' "java/lang/Enum" "ordinal" "I").eval args s none [] s := by simp only [Term.eval, e, e']
  unfold Cond.value at h h'
  rw [e1] at h
  cases hv : (Jvm.Term.field t' "java/lang/Enum" "ordinal" "I").eval args s none [] s with
  | none => simp [hv] at h
  | some v =>
    rw [hv] at h h'
    cases v <;> simp [Term.eval] at h h'
    exact hij (h.symm.trans h')
set_option maxRecDepth 65536 in
set_option maxHeartbeats 40000000 in
theorem comes_1 {Post : Tables → Env → Array Value → State → Outcome → State → Prop} (hpost : ∀ tb e args s v u, (limb_1_1.after args s (.returned v) u = true ∧ limb_1_2.after args s (.returned v) u = true ∧ True) → FrameEnd s (.returned v) u (Jvm.fieldLocs frame_1_writes args s ++ Jvm.arrayLocs frame_1_arrays args s ++ Jvm.staticLocs frame_1_statics s) 0 0 → Post tb e args s (.returned v) u) :
    ArmFor flags0 classFile x code maxLocals ret World_1 tables_1 room_1 Calls_1 rest_1 Pre_1 Post := by
  intro l hfl _ _ p e ha hc hk s m args below hf hA hF happ hP
  obtain ⟨hcalls, hrest, hpre⟩ := hP
  obtain ⟨-, -, -, hnamed, -, -, -, hat⟩ := (Spec.applies_iff hf).mp happ
  obtain ⟨hg, hn⟩ := and_e (Cond.before_iff.mp (show (Jvm.Cond.and given_1 narrow_1).before args s = true from hpre))
  obtain ⟨gc, gr0⟩ := and_e hg
  obtain ⟨w0, rfl⟩ : ∃ w0 : Value, args = #[w0] := by
    have hs : args.size = 1 := by simpa [Cond.value, given_1] using gc
    obtain ⟨L⟩ := args
    match L, hs with
    | [w0], _ => exact ⟨w0, rfl⟩
  have hw := fun d (hd : d ∈ tables_1) => atoms_spec (ws := Jvm.Cond.code x code maxLocals ret :: tables_1) hat d (List.mem_cons_of_mem _ hd)
  obtain ⟨i0, ei0⟩ := is_v gr0
  obtain rfl : w0 = (.int i0) := Option.some.inj ei0
  obtain ⟨nE_STEADY, nr0⟩ := and_e hn
  obtain ⟨nE_FROZEN, nr1⟩ := and_e nr0
  obtain ⟨nO_STEADY, nr2⟩ := and_e nr1
  obtain ⟨nO_FROZEN, nr3⟩ := and_e nr2
  obtain ⟨nE_FLAT, nr4⟩ := and_e nr3
  obtain ⟨nO_FLAT, nr5⟩ := and_e nr4
  obtain ⟨nE_HURRIED, nr6⟩ := and_e nr5
  obtain ⟨nO_HURRIED, nr7⟩ := and_e nr6
  obtain ⟨nE_HELD, nr8⟩ := and_e nr7
  have nO_HELD := nr8
  obtain ⟨wSTEADY, ev_STEADY⟩ := exa_v nE_STEADY
  have A_STEADY := Exa.start ev_STEADY nE_STEADY
  have S_STEADY := Sta.start ev_STEADY (Or.inr ⟨hw _ (List.mem_of_getElem? (i := 2) rfl), hw _ (List.mem_of_getElem? (i := 3) rfl)⟩)
  obtain ⟨wHURRIED, ev_HURRIED⟩ := exa_v nE_HURRIED
  have A_HURRIED := Exa.start ev_HURRIED nE_HURRIED
  have S_HURRIED := Sta.start ev_HURRIED (Or.inr ⟨hw _ (List.mem_of_getElem? (i := 2) rfl), hw _ (List.mem_of_getElem? (i := 15) rfl)⟩)
  obtain ⟨wHELD, ev_HELD⟩ := exa_v nE_HELD
  have A_HELD := Exa.start ev_HELD nE_HELD
  have S_HELD := Sta.start ev_HELD (Or.inr ⟨hw _ (List.mem_of_getElem? (i := 2) rfl), hw _ (List.mem_of_getElem? (i := 18) rfl)⟩)
  obtain ⟨wFROZEN, ev_FROZEN⟩ := exa_v nE_FROZEN
  have A_FROZEN := Exa.start ev_FROZEN nE_FROZEN
  have S_FROZEN := Sta.start ev_FROZEN (Or.inr ⟨hw _ (List.mem_of_getElem? (i := 2) rfl), hw _ (List.mem_of_getElem? (i := 10) rfl)⟩)
  obtain ⟨wFLAT, ev_FLAT⟩ := exa_v nE_FLAT
  have A_FLAT := Exa.start ev_FLAT nE_FLAT
  have S_FLAT := Sta.start ev_FLAT (Or.inr ⟨hw _ (List.mem_of_getElem? (i := 2) rfl), hw _ (List.mem_of_getElem? (i := 12) rfl)⟩)
  obtain ⟨n, o, h1, h2, h3, _, L, rfl, ⟨rfl, N⟩, hq⟩ := rm0 l s _ hw tables_1 i0 wSTEADY wHURRIED wHELD wFROZEN wFLAT s.heap s.heap.size (Nat.le_refl _) S_STEADY S_HURRIED S_HELD S_FROZEN S_FLAT A_STEADY A_HURRIED A_HELD A_FROZEN A_FLAT (own_ord ev_STEADY ev_FROZEN nO_STEADY nO_FROZEN (by decide)) (own_ord ev_STEADY ev_FLAT nO_STEADY nO_FLAT (by decide)) (own_ord ev_HURRIED ev_FROZEN nO_HURRIED nO_FROZEN (by decide)) (own_ord ev_HURRIED ev_FLAT nO_HURRIED nO_FLAT (by decide)) (own_ord ev_HELD ev_FROZEN nO_HELD nO_FROZEN (by decide)) (own_ord ev_HELD ev_FLAT nO_HELD nO_FLAT (by decide)) p e ha hc hk s m _ below hf ((Spec.applies_iff_loose hf).mp happ).1 ⟨rfl, State.Warmed39.refl s, rfl⟩ trivial
  refine ⟨n, _, h1, h2, h3, hpost _ _ _ _ _ _ ⟨Cond.after_iff.mpr rfl, Cond.after_iff.mpr (eq_i res_at (Term.int_eval (1)) rfl), trivial⟩ ⟨hq.1, hq.2.1, (hq.2.2.sift fun y hy => Or.inr (N y hy)).mono (by decide) (by decide)⟩⟩
theorem main_1_1 : Claimed_1_1 := comes_1 fun _ _ _ _ _ _ h hF => ⟨h.1, hF⟩
theorem main_1_2 : Claimed_1_2 := comes_1 fun _ _ _ _ _ _ h hF => ⟨h.2.1, hF⟩
end Jvm.Pilot.@@N@@
namespace Jvm.Pilot.@@N@@
open Jvm Jvm.ClassFile Sem Op Lib Jvm.Free Jvm.Stand Jvm.Pilot.@@N@@.Jvm.D
/-! MADE BY PROGRAM (witnessworld.py) out of the Statement's table words and the real class files: 12 classes; the members and pool entries that the words name. The judged class is class 1, her method 1. -/
namespace start1
open Jvm.ClassFile
def u (s : String) : CpInfo := .utf8 (stringToUtf16 s)
/-- a pool by its gaps: so many unusable entries, then the entry; so many at the end -/
def gap : Nat → List CpInfo → List CpInfo
  | 0, r => r
  | n + 1, r => .unusable :: gap n r
def poolList (es : List (Nat × CpInfo)) (last : Nat) : List CpInfo := es.foldr (fun e r => gap e.1 (e.2 :: r)) (gap last [])
def pool (es : List (Nat × CpInfo)) (last : Nat) : Array CpInfo := ⟨poolList es last⟩
def fileOf (pool : Array CpInfo) (this : Nat) (attrs : Array Attribute := #[]) (ms : Array MethodInfo := #[]) (fl : Nat := 33) (sup : Nat := 0) (ifs : Array Nat := #[]) (fds : Array FieldInfo := #[]) : ClassFile where
  minorVersion := 0
  majorVersion := 65
  constantPool := pool
  accessFlags := fl
  thisClass := this
  superClass := sup
  interfaces := ifs
  fields := fds
  methods := ms
  attributes := attrs
def plain (name : String) (sup : Option ClassId) : Class where
  name := name
  kind := .ordinary
  loader := none
  accessFlags := 33
  super := sup
  interfaces := #[]
  cf := none
  fields := #[]
  methods := #[]
  instanceTypes := #[]
  staticTypes := #[]
  resolved := #[]
  callSites := []
  init := .initialized
  statics := none
  mirror := none

def pool0 : Array CpInfo := pool [(5, u "<init>"), (0, u "()V"), (1, .class_ 10), (1, u "java/lang/Object")] 113

def k0m0 : Method := { name := "<init>", desc := "()V", sig := { parameters := [], returnType := none }, accessFlags := 1, code := none }
/-- java/lang/Object -/
def k0 : Class := { plain "java/lang/Object" none with
  accessFlags := 33
  interfaces := #[]
  cf := some (fileOf pool0 8 #[] #[{ accessFlags := 1, nameIndex := 5, descriptorIndex := 6, attributes := #[] }] 33 0 #[] #[])
  fields := #[]
  methods := #[k0m0]
  instanceTypes := #[]
  staticTypes := #[]
  resolved := Array.replicate 124 none
  statics := none }

def pool1 : Array CpInfo := pool [(2, .class_ 4), (1, u "java/lang/Object"), (0, u "<init>"), (0, u "()V"), (0, .integer 2147483647), (0, .fieldref 9 10), (0, .class_ 11), (0, .nameAndType 12 13), (0, u "lazyframe/media/Mode"), (0, u "STEADY"), (0, u "Llazyframe/media/Mode;"), (0, .fieldref 9 15), (0, .nameAndType 16 13), (0, u "HURRIED"), (0, .fieldref 9 18), (0, .nameAndType 19 13), (0, u "HELD"), (0, .fieldref 9 21), (0, .nameAndType 22 13), (0, u "FROZEN"), (0, .fieldref 9 24), (0, .nameAndType 25 13), (0, u "FLAT"), (0, .methodref 9 27), (0, .nameAndType 28 29), (0, u "freezes"), (0, u "()Z"), (0, .class_ 31), (0, u "lazyframe/media/ModeFreezesPinLaw"), (2, u "law"), (0, u "(I)Z")] 3

def k1m0 : Method := { name := "<init>", desc := "()V", sig := { parameters := [], returnType := none }, accessFlags := 1, code := none }
def k1c1 : Code := { maxStack := 2, maxLocals := 4, code := code, exceptionTable := #[], attributes := #[] }
def k1m1 : Method := { name := "law", desc := "(I)Z", sig := { parameters := [.int], returnType := some .boolean }, accessFlags := 9, code := some k1c1 }
/-- lazyframe/media/ModeFreezesPinLaw -/
def k1 : Class := { plain "lazyframe/media/ModeFreezesPinLaw" (some 0) with
  accessFlags := 49
  interfaces := #[]
  cf := some (fileOf pool1 30 #[] #[{ accessFlags := 1, nameIndex := 5, descriptorIndex := 6, attributes := #[] }, { accessFlags := 9, nameIndex := 34, descriptorIndex := 35, attributes := #[] }] 49 2 #[] #[])
  fields := #[]
  methods := #[k1m0, k1m1]
  instanceTypes := #[]
  staticTypes := #[]
  resolved := Array.replicate 39 none
  statics := none }

def pool2 : Array CpInfo := pool [(1, .class_ 2), (0, u "java/lang/constant/Constable"), (0, .class_ 4), (0, u "java/lang/Object")] 6

/-- java/lang/constant/Constable -/
def k2 : Class := { plain "java/lang/constant/Constable" (some 0) with
  accessFlags := 1537
  interfaces := #[]
  cf := some (fileOf pool2 1 #[] #[] 1537 3 #[] #[])
  fields := #[]
  methods := #[]
  instanceTypes := #[]
  staticTypes := #[]
  resolved := Array.replicate 11 none
  statics := none }

def pool3 : Array CpInfo := pool [(1, .class_ 2), (0, u "java/lang/Comparable"), (0, .class_ 4), (0, u "java/lang/Object")] 7

/-- java/lang/Comparable -/
def k3 : Class := { plain "java/lang/Comparable" (some 0) with
  accessFlags := 1537
  interfaces := #[]
  cf := some (fileOf pool3 1 #[] #[] 1537 3 #[] #[])
  fields := #[]
  methods := #[]
  instanceTypes := #[]
  staticTypes := #[]
  resolved := Array.replicate 12 none
  statics := none }

def pool4 : Array CpInfo := pool [(1, .class_ 2), (0, u "java/io/Serializable"), (0, .class_ 4), (0, u "java/lang/Object")] 2

/-- java/io/Serializable -/
def k4 : Class := { plain "java/io/Serializable" (some 0) with
  accessFlags := 1537
  interfaces := #[]
  cf := some (fileOf pool4 1 #[] #[] 1537 3 #[] #[])
  fields := #[]
  methods := #[]
  instanceTypes := #[]
  staticTypes := #[]
  resolved := Array.replicate 7 none
  statics := none }

def pool5 : Array CpInfo := pool [(2, .class_ 4), (1, u "java/lang/Enum"), (0, u "name"), (0, u "Ljava/lang/String;"), (2, u "ordinal"), (0, u "I"), (1, .class_ 14), (1, u "java/lang/Object"), (4, u "hash"), (86, .class_ 108), (1, u "java/lang/Enum$EnumDesc"), (2, .class_ 112), (0, u "java/lang/constant/Constable"), (0, .class_ 114), (0, u "java/lang/Comparable"), (0, .class_ 116), (0, u "java/io/Serializable")] 87

/-- java/lang/Enum -/
def k5 : Class := { plain "java/lang/Enum" (some 0) with
  accessFlags := 1057
  interfaces := #[2, 3, 4]
  cf := some (fileOf pool5 2 #[.nestMembers #[106]] #[] 1057 12 #[111, 113, 115] #[{ accessFlags := 18, nameIndex := 5, descriptorIndex := 6, attributes := #[] }, { accessFlags := 18, nameIndex := 9, descriptorIndex := 10, attributes := #[] }, { accessFlags := 2, nameIndex := 19, descriptorIndex := 10, attributes := #[] }])
  fields := #[{ name := "name", type := (.object "java/lang/String"), accessFlags := 18, slot := 0, constantValue := 0 }, { name := "ordinal", type := .int, accessFlags := 18, slot := 1, constantValue := 0 }, { name := "hash", type := .int, accessFlags := 2, slot := 2, constantValue := 0 }]
  methods := #[]
  instanceTypes := #[(.object "java/lang/String"), .int, .int]
  staticTypes := #[]
  resolved := Array.replicate 204 none
  statics := none }

def pool6 : Array CpInfo := pool [(1, .class_ 2), (0, u "lazyframe/media/Mode"), (2, u "STEADY"), (0, u "Llazyframe/media/Mode;"), (2, u "HURRIED"), (2, u "HELD"), (0, .fieldref 1 14), (0, .nameAndType 15 6), (0, u "FROZEN"), (0, .fieldref 1 17), (0, .nameAndType 18 6), (0, u "FLAT"), (2, u "$VALUES"), (0, u "[Llazyframe/media/Mode;"), (6, .class_ 31), (1, u "java/lang/Enum"), (23, u "freezes"), (0, u "()Z")] 5

def k6c0 : Code := { maxStack := 2, maxLocals := 1, code := prog_50_method_4_code, exceptionTable := #[], attributes := #[] }
def k6m0 : Method := { name := "freezes", desc := "()Z", sig := { parameters := [], returnType := some .boolean }, accessFlags := 0, code := some k6c0 }
/-- lazyframe/media/Mode -/
def k6 : Class := { plain "lazyframe/media/Mode" (some 5) with
  accessFlags := 16432
  interfaces := #[]
  cf := some (fileOf pool6 1 #[] #[{ accessFlags := 0, nameIndex := 55, descriptorIndex := 56, attributes := #[] }] 16432 29 #[] #[{ accessFlags := 16409, nameIndex := 5, descriptorIndex := 6, attributes := #[] }, { accessFlags := 16409, nameIndex := 9, descriptorIndex := 6, attributes := #[] }, { accessFlags := 16409, nameIndex := 12, descriptorIndex := 6, attributes := #[] }, { accessFlags := 16409, nameIndex := 15, descriptorIndex := 6, attributes := #[] }, { accessFlags := 16409, nameIndex := 18, descriptorIndex := 6, attributes := #[] }, { accessFlags := 4122, nameIndex := 21, descriptorIndex := 22, attributes := #[] }])
  fields := #[{ name := "STEADY", type := (.object "lazyframe/media/Mode"), accessFlags := 16409, slot := 0, constantValue := 0 }, { name := "HURRIED", type := (.object "lazyframe/media/Mode"), accessFlags := 16409, slot := 1, constantValue := 0 }, { name := "HELD", type := (.object "lazyframe/media/Mode"), accessFlags := 16409, slot := 2, constantValue := 0 }, { name := "FROZEN", type := (.object "lazyframe/media/Mode"), accessFlags := 16409, slot := 3, constantValue := 0 }, { name := "FLAT", type := (.object "lazyframe/media/Mode"), accessFlags := 16409, slot := 4, constantValue := 0 }, { name := "$VALUES", type := (.array (.object "lazyframe/media/Mode")), accessFlags := 4122, slot := 5, constantValue := 0 }]
  methods := #[k6m0]
  instanceTypes := #[(.object "java/lang/String"), .int, .int]
  staticTypes := #[(.object "lazyframe/media/Mode"), (.object "lazyframe/media/Mode"), (.object "lazyframe/media/Mode"), (.object "lazyframe/media/Mode"), (.object "lazyframe/media/Mode"), (.array (.object "lazyframe/media/Mode"))]
  resolved := Array.replicate 62 none
  statics := some 0 }

def pool7 : Array CpInfo := pool [(1, u "java/lang/Cloneable"), (0, .class_ 1), (0, u "java/lang/Object"), (0, .class_ 3)] 3

/-- java/lang/Cloneable -/
def k7 : Class := { plain "java/lang/Cloneable" (some 0) with
  accessFlags := 1537
  interfaces := #[]
  cf := some (fileOf pool7 2 #[] #[] 1537 4 #[] #[])
  fields := #[]
  methods := #[]
  instanceTypes := #[]
  staticTypes := #[]
  resolved := Array.replicate 8 none
  statics := none }

/-- the primitive byte -/
def k8 : Class := { plain "byte" none with kind := .primitive 'B', accessFlags := 0x411 }
/-- [B -/
def k9 : Class := { plain "[B" (some 0) with kind := .array 8 .byte, interfaces := #[7, 4], accessFlags := 1041 }

/-- the primitive int -/
def k10 : Class := { plain "int" none with kind := .primitive 'I', accessFlags := 0x411 }
/-- [I -/
def k11 : Class := { plain "[I" (some 0) with kind := .array 10 .int, interfaces := #[7, 4], accessFlags := 1041 }

def heap : Heap := #[{ cls := 6, slots := #[.ref 1, .ref 2, .ref 3, .ref 4, .ref 5, .null], vm := .statics 6 },
  { cls := 6, slots := #[.null, .int 0, .int 0], vm := .none },
  { cls := 6, slots := #[.null, .int 1, .int 0], vm := .none },
  { cls := 6, slots := #[.null, .int 2, .int 0], vm := .none },
  { cls := 6, slots := #[.null, .int 3, .int 0], vm := .none },
  { cls := 6, slots := #[.null, .int 4, .int 0], vm := .none }]
def classes : Array Class := #[k0, k1, k2, k3, k4, k5, k6, k7, k8, k9, k10, k11]
def interned : List (Array UInt16 × Addr) := []
def slotsUsed : Nat := 21
def theMethod : MethodId := ⟨1, 1⟩
def args0 : Array Value := #[.int 3]
def aboutOver (below : List Frame) : State where
  vm := { classes := classes, interned := interned.toArray }
  heap := heap
  slotsUsed := slotsUsed
  threads := #[{ frames := .invoking theMethod args0 :: below }]
def below0 : List Frame := [.native { method := ⟨0, 0⟩, args := #[] }]
def about1 : State := aboutOver below0
def p0 : Program := .bare "" "" ""
def e0 : Env := launch0.env 0 0 0
theorem w_frames : about1.frames = Frame.invoking theMethod args0 :: below0 := rfl
set_option maxRecDepth 65536 in
theorem w_args : argsFit about1.vm theMethod args0 = true := by decide +kernel
set_option maxRecDepth 65536 in
theorem w_heap : heapFits about1 = true := by decide +kernel
set_option maxRecDepth 65536 in
theorem w_runnable : about1.curStatus? = some .runnable := by decide +kernel
set_option maxRecDepth 65536 in
theorem w_alone : about1.alone = true := by decide +kernel
set_option maxRecDepth 65536 in
theorem w_named : about1.methodNamed? x = some theMethod := by decide +kernel
set_option maxRecDepth 65536 in
theorem w_hears : about1.hears theMethod below0 = true := by decide +kernel
set_option maxRecDepth 65536 in
theorem w_ripe : about1.ripe theMethod args0 below0 = true := by decide +kernel
theorem w_running : about1.status = .running := rfl
set_option maxRecDepth 65536 in
theorem w_room : about1.hasRoom e0.platform room_1 = true :=
  launch0.hasRoom_least _ room_1 (by decide +kernel) (by decide +kernel) (by decide +kernel) (by decide +kernel) (by decide +kernel) (by decide +kernel)
theorem allAtoms_all (ts : List Jvm.Cond) (a : Array Jvm.Value) (st : Jvm.State) : (allAtoms ts).before a st = ts.all (fun c => c.before a st) := by
  induction ts with
  | nil => rfl
  | cons c t ih =>
    show (Jvm.Cond.and c (allAtoms t)).before a st = _
    rw [Jvm.Cond.before_and, ih, List.all_cons]
def words1 : List Jvm.Cond := Jvm.Cond.code x code maxLocals ret :: tables_1
/-- a 'code' word, met by the world's own term for the bytes: nothing is compared byte by byte -/
theorem code_word {y : MethodName} {bytes : ByteArray} {mx : Nat} {rt : Option FieldType} {a : Array Value} {s : State} {m : MethodId} {meth : Method} {c : Code} (h1 : s.methodNamed? y = some m) (h2 : s.vm.method? m = some meth) (h3 : meth.code = some c) (h4 : c.code = bytes)
    (h5 : (c.maxLocals == mx && c.exceptionTable.isEmpty && decide (c.maxStack ≤ mostOperands) && decide (meth.sig.returnType = rt) && !meth.locks && decide (parseMethodDescriptor y.desc = some meth.sig)) = true) : (Jvm.Cond.code y bytes mx rt).before a s = true := by
  simp only [Bool.and_eq_true, beq_iff_eq, Bool.not_eq_true', decide_eq_true_eq] at h5
  obtain ⟨⟨⟨⟨⟨g1, g2⟩, g3⟩, g4⟩, g5⟩, g6⟩ := h5
  simp [Cond.before, Cond.holds, Cond.value, h1, h2, h3, h4, g1, g2, g3, g4, g5, g6]
def isCode : Jvm.Cond → Bool
  | .code _ _ _ _ => true
  | _ => false
theorem all_split {L : List Jvm.Cond} {P : Jvm.Cond → Bool} (h1 : L.all (fun c => isCode c || P c) = true) (h2 : ∀ c ∈ L.filter isCode, P c = true) : L.all P = true := by
  refine List.all_eq_true.mpr fun c hc => ?_
  have h := List.all_eq_true.mp h1 c hc
  rcases Bool.eq_false_or_eq_true (isCode c) with hi | hi
  · exact h2 c (List.mem_filter.mpr ⟨hc, hi⟩)
  · simpa [hi] using h
set_option maxRecDepth 65536 in
theorem w_c0 : (Jvm.Cond.code x code maxLocals ret).before args0 about1 = true := code_word (m := ⟨1, 1⟩) (meth := k1m1) (c := k1c1) (by decide +kernel) rfl rfl rfl (by decide +kernel)
set_option maxRecDepth 65536 in
theorem w_c1 : (Jvm.Cond.code ({ cls := "lazyframe/media/Mode", name := "freezes", desc := "()Z" } : Jvm.MethodName) prog_50_method_4_code (1 : Nat) (Option.some Jvm.ClassFile.FieldType.boolean)).before args0 about1 = true := code_word (m := ⟨6, 0⟩) (meth := k6m0) (c := k6c0) (by decide +kernel) rfl rfl rfl (by decide +kernel)
def codes1 : List Jvm.Cond := [Jvm.Cond.code x code maxLocals ret, Jvm.Cond.code ({ cls := "lazyframe/media/Mode", name := "freezes", desc := "()Z" } : Jvm.MethodName) prog_50_method_4_code (1 : Nat) (Option.some Jvm.ClassFile.FieldType.boolean)]
set_option maxRecDepth 65536 in
theorem codes_eq : words1.filter isCode = codes1 := rfl
theorem w_codes : ∀ c ∈ words1.filter isCode, c.before args0 about1 = true := by
  rw [codes_eq]
  intro c hc
  simp only [codes1, List.mem_cons, List.not_mem_nil, or_false] at hc
  rcases hc with rfl | rfl
  · exact w_c0
  · exact w_c1
set_option maxRecDepth 65536 in
theorem w_t1 : words1.all (fun c => isCode c || c.before args0 about1) = true := by decide +kernel
theorem w_tables : (allAtoms (Jvm.Cond.code x code maxLocals ret :: tables_1)).before args0 about1 = true := by
  rw [allAtoms_all]
  show words1.all (fun c => c.before args0 about1) = true
  refine all_split ?_ w_codes
  rw [w_t1]
set_option maxRecDepth 65536 in
theorem w_case : (Jvm.Cond.and given_1 narrow_1).before args0 about1 = true := by decide +kernel
theorem w_applies : (headSpec (Jvm.Cond.code x code maxLocals ret :: tables_1) room_1).applies x e0.platform about1 = true :=
  (Spec.applies_iff w_frames).mpr ⟨w_running, w_runnable, w_alone, w_named, w_hears, w_ripe, w_room, w_tables⟩
theorem atStart : AtStart classFile x code maxLocals ret World_1 tables_1 room_1 Calls_1 rest_1 Pre_1 launch0 p0 e0 about1 theMethod args0 below0 :=
  ⟨lists_1, trivial, launch0.admits_env _ _ _, launch0.least_env, fairChoices_fair.cas, fairChoices_fair.clock, w_frames, w_args, w_heap, w_applies, trivial, trivial, w_case⟩
end start1
theorem witness_1 : WitnessClaimed_1 := ⟨start1.p0, start1.e0, start1.about1, start1.theMethod, start1.args0, start1.below0, start1.atStart⟩
end Jvm.Pilot.@@N@@
