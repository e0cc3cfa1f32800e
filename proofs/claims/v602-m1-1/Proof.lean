import JvmDerived
import JvmDerived.Pilot.@@N@@Statement
import JvmDerived.Pilot.@@N@@Code
set_option linter.unusedVariables false
set_option linter.unusedSimpArgs false
@@BLOCK:NumsL.lean.txt@@
namespace Jvm.Pilot.@@N@@
open Jvm Jvm.ClassFile Sem Op Lib Jvm.Free Jvm.Stand Jvm.LawKit Jvm.RoadKit Bundle Jvm.Pilot.@@N@@.Jvm.D
section Own
variable {p : Program} {l : Launch} {e : Env} {R : Room} {s : State} {m : MethodId} {args : Array Value} {below : List Frame} {meth : Method} {c : Code} {T : State} {locs : List Loc} {cells slots : Nat}
/-- from the frame g on top of T the invocation comes to its end, and there QQ holds of what it returns, of the heap and of what it wrote -/
def own_Run (p : Program) (e : Env) (below : List Frame) (s : State) (QQ : Option Value → Heap → List Loc → Prop) (C S : Nat) (T : State) (g : JFrame) : Prop :=
  ∃ s₂ v L, Steps p.tables e below (T.setTop g) s₂ ∧ s₂.status = .running ∧ Ended s₂ below (.returned v) ∧ QQ v s₂.heap L ∧ FrameEnd s (.returned v) s₂ L C S
variable {QQ : Option Value → Heap → List Loc → Prop} {C S : Nat}
theorem own_enter {g : JFrame} {ml : Nat} (q : entryFrame m args ml = g) (k : own_Run p e below s QQ C S T g) :
    ∃ s₂ o, Steps p.tables e below (T.setTop (entryFrame m args ml)) s₂ ∧ s₂.status = .running ∧ Ended s₂ below o ∧ ∃ v L, o = .returned v ∧ QQ v s₂.heap L ∧ FrameEnd s o s₂ L C S := by
  subst q
  obtain ⟨s₂, v, L, h1, h2, h3, h4, h5⟩ := k
  exact ⟨s₂, _, h1, h2, h3, v, L, rfl, h4, h5⟩
theorem own_step {g g' : JFrame} {T' : State} (h : ∀ t, Steps p.tables e below (T'.setTop g') t → Steps p.tables e below (T.setTop g) t) (k : own_Run p e below s QQ C S T' g') : own_Run p e below s QQ C S T g := by
  obtain ⟨s₂, v, L, h1, h2⟩ := k
  exact ⟨s₂, v, L, h _ h1, h2⟩
theorem own_end (X : Stand p l e R s m args below meth c T locs cells slots) {v : Option Value} (hv : meth.sig.returnType = none → v = none) (hlocks : meth.locks = false) {g : JFrame} (hc : cells ≤ C) (hs : slots ≤ S) (hq : QQ v T.heap locs)
    (k : ∀ fs, (∀ (f : JFrame) (acts : List Action), f.method = m → f.locked = none → f.entered = [] → (doReturn e (T.setTop f) acts v).1 = T.setFrames fs) → Steps p.tables e below (T.setTop g) (T.setFrames fs)) : own_Run p e below s QQ C S T g := by
  obtain ⟨fs, hr, hrun, hended, hW, hsame⟩ := X.leave (v := v) hv hlocks
  exact ⟨_, v, locs, k fs hr, hrun, hended, hq, ⟨_, rfl⟩, hW, hsame.mono hc hs⟩
theorem own_retN (X : Stand p l e R s m args below meth c T locs cells slots) (hx : p.tables.exec = Jvm.exec) {pc : Nat} {Ls : Array Slot} {z : Int32} {t : FieldType} {rest : List Value} (hret : meth.sig.returnType = some t) (ht : t = .boolean ∨ t = .byte ∨ t = .char ∨ t = .short)
    (hd : decode c.code pc = .ok (.ireturn, 1)) (hlocks : meth.locks = false) (hc : cells ≤ C) (hs : slots ≤ S) (hq : QQ (some (.int (nar t z))) T.heap locs) : own_Run p e below s QQ C S T (mkF m pc Ls (.int z :: rest)) :=
  own_end X (fun h => by rw [hret] at h; cases h) hlocks hc hs hq (fun fs hr => retN X hx hret ht hd hr)
theorem own_retI (X : Stand p l e R s m args below meth c T locs cells slots) (hx : p.tables.exec = Jvm.exec) {pc : Nat} {Ls : Array Slot} {z : Int32} {rest : List Value} (hret : meth.sig.returnType = some .int)
    (hd : decode c.code pc = .ok (.ireturn, 1)) (hlocks : meth.locks = false) (hc : cells ≤ C) (hs : slots ≤ S) (hq : QQ (some (.int z)) T.heap locs) : own_Run p e below s QQ C S T (mkF m pc Ls (.int z :: rest)) :=
  own_end X (fun h => by rw [hret] at h; cases h) hlocks hc hs hq (fun fs hr => retOut X hx hret rfl (Or.inl ⟨rfl, Or.inl rfl, _, rfl⟩) hd hr)
theorem own_retJ (X : Stand p l e R s m args below meth c T locs cells slots) (hx : p.tables.exec = Jvm.exec) {pc : Nat} {Ls : Array Slot} {z : Int64} {rest : List Value} (hret : meth.sig.returnType = some .long)
    (hd : decode c.code pc = .ok (.lreturn, 1)) (hlocks : meth.locks = false) (hc : cells ≤ C) (hs : slots ≤ S) (hq : QQ (some (.long z)) T.heap locs) : own_Run p e below s QQ C S T (mkF m pc Ls (.long z :: rest)) :=
  own_end X (fun h => by rw [hret] at h; cases h) hlocks hc hs hq (fun fs hr => retOut X hx hret rfl (Or.inr (Or.inl ⟨rfl, rfl, _, rfl⟩)) hd hr)
theorem own_retA (X : Stand p l e R s m args below meth c T locs cells slots) (hx : p.tables.exec = Jvm.exec) {pc : Nat} {Ls : Array Slot} {w : Value} {t : FieldType} {rest : List Value} (hret : meth.sig.returnType = some t) (ht : t.isReference = true) (hw : w.isRef = true)
    (hd : decode c.code pc = .ok (.areturn, 1)) (hlocks : meth.locks = false) (hc : cells ≤ C) (hs : slots ≤ S) (hq : QQ (some w) T.heap locs) : own_Run p e below s QQ C S T (mkF m pc Ls (w :: rest)) :=
  own_end X (fun h => by rw [hret] at h; cases h) hlocks hc hs hq (fun fs hr => retOut X hx hret (by cases t <;> first | rfl | cases ht) (Or.inr (Or.inr (Or.inr (Or.inr ⟨rfl, ht, hw⟩)))) hd hr)
theorem own_retV (X : Stand p l e R s m args below meth c T locs cells slots) (hx : p.tables.exec = Jvm.exec) {pc : Nat} {Ls : Array Slot} (hret : meth.sig.returnType = none)
    (hd : decode c.code pc = .ok (.return_, 1)) (hlocks : meth.locks = false) (hc : cells ≤ C) (hs : slots ≤ S) (hq : QQ none T.heap locs) : own_Run p e below s QQ C S T (mkF m pc Ls []) :=
  own_end X (fun _ => rfl) hlocks hc hs hq (fun fs hr => X.returnOut hx hret hd hr)
end Own
/-- one of two ints, by a proposition -/
def own_pick (P : Prop) [Decidable P] (a b : Int32) : Int32 := if P then a else b
def own_pickJ (P : Prop) [Decidable P] (a b : Int64) : Int64 := if P then a else b
theorem own_pick_pos {P : Prop} [Decidable P] {a b : Int32} (h : P) : own_pick P a b = a := if_pos h
theorem own_pick_neg {P : Prop} [Decidable P] {a b : Int32} (h : ¬ P) : own_pick P a b = b := if_neg h
theorem own_pickJ_pos {P : Prop} [Decidable P] {a b : Int64} (h : P) : own_pickJ P a b = a := if_pos h
theorem own_pickJ_neg {P : Prop} [Decidable P] {a b : Int64} (h : ¬ P) : own_pickJ P a b = b := if_neg h
section OwnMat
variable {tb : Tables} [Ours tb] {e : Env} {below : List Frame} {T target : State} {m : MethodId} {c : Code} {pc : Nat} {Ls : Array Slot} {x y : Int32} {rest : List Value} {a b : Int} {cd : ClassFile.Cond}
theorem own_mat_i (h : At T m c below) (hx : tb.exec = Jvm.exec) (hd0 : decode c.code pc = .ok (.if_icmp cd 7, 3)) (hd1 : decode c.code (pc + 3) = .ok (.iconst a, 1)) (hd2 : decode c.code (pc + 4) = .ok (.goto 4, 3)) (hd3 : decode c.code (pc + 7) = .ok (.iconst b, 1))
    {w : Int32} (hT : if_icmp.holds cd x y = true → w = Int32.ofInt b) (hF : if_icmp.holds cd x y = false → w = Int32.ofInt a) (hr : Steps tb e below (T.setTop (mkF m (pc + 8) Ls (.int w :: rest))) target) : Steps tb e below (T.setTop (mkF m pc Ls (.int y :: .int x :: rest))) target := by
  cases q : if_icmp.holds cd x y
  · rw [hF q] at hr
    exact XS.icmpNo h hx rfl hd0 rfl q (XS.iconst h hx rfl hd1 (XS.goto h hx rfl (pc0 := pc + 4) (pc' := pc + 8) rfl hd2 (by omega) (by omega) hr))
  · rw [hT q] at hr
    exact XS.icmpYes h hx rfl (pc0 := pc) (pc' := pc + 7) rfl hd0 rfl q (by omega) (by omega) (XS.iconst h hx rfl hd3 hr)
theorem own_mat_c (h : At T m c below) (hx : tb.exec = Jvm.exec) (hd0 : decode c.code pc = .ok (.ifCond cd 7, 3)) (hd1 : decode c.code (pc + 3) = .ok (.iconst a, 1)) (hd2 : decode c.code (pc + 4) = .ok (.goto 4, 3)) (hd3 : decode c.code (pc + 7) = .ok (.iconst b, 1))
    {w : Int32} (hT : if_icmp.holds cd x 0 = true → w = Int32.ofInt b) (hF : if_icmp.holds cd x 0 = false → w = Int32.ofInt a) (hr : Steps tb e below (T.setTop (mkF m (pc + 8) Ls (.int w :: rest))) target) : Steps tb e below (T.setTop (mkF m pc Ls (.int x :: rest))) target := by
  cases q : if_icmp.holds cd x 0
  · rw [hF q] at hr
    exact XS.ifNo h hx rfl hd0 rfl ((if0 _ _).trans q) (XS.iconst h hx rfl hd1 (XS.goto h hx rfl (pc0 := pc + 4) (pc' := pc + 8) rfl hd2 (by omega) (by omega) hr))
  · rw [hT q] at hr
    exact XS.ifYes h hx rfl (pc0 := pc) (pc' := pc + 7) rfl hd0 rfl ((if0 _ _).trans q) (by omega) (by omega) (XS.iconst h hx rfl hd3 hr)
theorem own_mat_i_eq (h : At T m c below) (hx : tb.exec = Jvm.exec) (hg : m = m) (hd0 : decode c.code pc = .ok (.if_icmp .eq 7, 3)) (hd1 : decode c.code (pc + 3) = .ok (.iconst a, 1)) (hd2 : decode c.code (pc + 4) = .ok (.goto 4, 3)) (hd3 : decode c.code (pc + 7) = .ok (.iconst b, 1))
    (hr : Steps tb e below (T.setTop (mkF m (pc + 8) Ls (.int (own_pick (x = y) (Int32.ofInt b) (Int32.ofInt a)) :: rest))) target) : Steps tb e below (T.setTop (mkF m pc Ls (.int y :: .int x :: rest))) target :=
  own_mat_i h hx hd0 hd1 hd2 hd3 (fun q => by by_cases z : x = y <;> simp [own_pick, z] <;> (first | rw [(teq z).1] at q | rw [(feq z).1] at q) <;> cases q) (fun q => by by_cases z : x = y <;> simp [own_pick, z] <;> (first | rw [(teq z).1] at q | rw [(feq z).1] at q) <;> cases q) hr
theorem own_mat_i_ne (h : At T m c below) (hx : tb.exec = Jvm.exec) (hg : m = m) (hd0 : decode c.code pc = .ok (.if_icmp .ne 7, 3)) (hd1 : decode c.code (pc + 3) = .ok (.iconst a, 1)) (hd2 : decode c.code (pc + 4) = .ok (.goto 4, 3)) (hd3 : decode c.code (pc + 7) = .ok (.iconst b, 1))
    (hr : Steps tb e below (T.setTop (mkF m (pc + 8) Ls (.int (own_pick (x = y) (Int32.ofInt a) (Int32.ofInt b)) :: rest))) target) : Steps tb e below (T.setTop (mkF m pc Ls (.int y :: .int x :: rest))) target :=
  own_mat_i h hx hd0 hd1 hd2 hd3 (fun q => by by_cases z : x = y <;> simp [own_pick, z] <;> (first | rw [(teq z).2] at q | rw [(feq z).2] at q) <;> cases q) (fun q => by by_cases z : x = y <;> simp [own_pick, z] <;> (first | rw [(teq z).2] at q | rw [(feq z).2] at q) <;> cases q) hr
theorem own_mat_i_lt (h : At T m c below) (hx : tb.exec = Jvm.exec) (hg : m = m) (hd0 : decode c.code pc = .ok (.if_icmp .lt 7, 3)) (hd1 : decode c.code (pc + 3) = .ok (.iconst a, 1)) (hd2 : decode c.code (pc + 4) = .ok (.goto 4, 3)) (hd3 : decode c.code (pc + 7) = .ok (.iconst b, 1))
    (hr : Steps tb e below (T.setTop (mkF m (pc + 8) Ls (.int (own_pick (x < y) (Int32.ofInt b) (Int32.ofInt a)) :: rest))) target) : Steps tb e below (T.setTop (mkF m pc Ls (.int y :: .int x :: rest))) target :=
  own_mat_i h hx hd0 hd1 hd2 hd3 (fun q => by by_cases z : x < y <;> simp [own_pick, z] <;> (first | rw [(tlt z).1] at q | rw [(flt z).1] at q) <;> cases q) (fun q => by by_cases z : x < y <;> simp [own_pick, z] <;> (first | rw [(tlt z).1] at q | rw [(flt z).1] at q) <;> cases q) hr
theorem own_mat_i_ge (h : At T m c below) (hx : tb.exec = Jvm.exec) (hg : m = m) (hd0 : decode c.code pc = .ok (.if_icmp .ge 7, 3)) (hd1 : decode c.code (pc + 3) = .ok (.iconst a, 1)) (hd2 : decode c.code (pc + 4) = .ok (.goto 4, 3)) (hd3 : decode c.code (pc + 7) = .ok (.iconst b, 1))
    (hr : Steps tb e below (T.setTop (mkF m (pc + 8) Ls (.int (own_pick (x < y) (Int32.ofInt a) (Int32.ofInt b)) :: rest))) target) : Steps tb e below (T.setTop (mkF m pc Ls (.int y :: .int x :: rest))) target :=
  own_mat_i h hx hd0 hd1 hd2 hd3 (fun q => by by_cases z : x < y <;> simp [own_pick, z] <;> (first | rw [(tlt z).2.1] at q | rw [(flt z).2.1] at q) <;> cases q) (fun q => by by_cases z : x < y <;> simp [own_pick, z] <;> (first | rw [(tlt z).2.1] at q | rw [(flt z).2.1] at q) <;> cases q) hr
theorem own_mat_i_gt (h : At T m c below) (hx : tb.exec = Jvm.exec) (hg : m = m) (hd0 : decode c.code pc = .ok (.if_icmp .gt 7, 3)) (hd1 : decode c.code (pc + 3) = .ok (.iconst a, 1)) (hd2 : decode c.code (pc + 4) = .ok (.goto 4, 3)) (hd3 : decode c.code (pc + 7) = .ok (.iconst b, 1))
    (hr : Steps tb e below (T.setTop (mkF m (pc + 8) Ls (.int (own_pick (y < x) (Int32.ofInt b) (Int32.ofInt a)) :: rest))) target) : Steps tb e below (T.setTop (mkF m pc Ls (.int y :: .int x :: rest))) target :=
  own_mat_i h hx hd0 hd1 hd2 hd3 (fun q => by by_cases z : y < x <;> simp [own_pick, z] <;> (first | rw [(tlt z).2.2.1] at q | rw [(flt z).2.2.1] at q) <;> cases q) (fun q => by by_cases z : y < x <;> simp [own_pick, z] <;> (first | rw [(tlt z).2.2.1] at q | rw [(flt z).2.2.1] at q) <;> cases q) hr
theorem own_mat_i_le (h : At T m c below) (hx : tb.exec = Jvm.exec) (hg : m = m) (hd0 : decode c.code pc = .ok (.if_icmp .le 7, 3)) (hd1 : decode c.code (pc + 3) = .ok (.iconst a, 1)) (hd2 : decode c.code (pc + 4) = .ok (.goto 4, 3)) (hd3 : decode c.code (pc + 7) = .ok (.iconst b, 1))
    (hr : Steps tb e below (T.setTop (mkF m (pc + 8) Ls (.int (own_pick (y < x) (Int32.ofInt a) (Int32.ofInt b)) :: rest))) target) : Steps tb e below (T.setTop (mkF m pc Ls (.int y :: .int x :: rest))) target :=
  own_mat_i h hx hd0 hd1 hd2 hd3 (fun q => by by_cases z : y < x <;> simp [own_pick, z] <;> (first | rw [(tlt z).2.2.2] at q | rw [(flt z).2.2.2] at q) <;> cases q) (fun q => by by_cases z : y < x <;> simp [own_pick, z] <;> (first | rw [(tlt z).2.2.2] at q | rw [(flt z).2.2.2] at q) <;> cases q) hr
theorem own_mat_c_eq (h : At T m c below) (hx : tb.exec = Jvm.exec) (hg : m = m) (hd0 : decode c.code pc = .ok (.ifCond .eq 7, 3)) (hd1 : decode c.code (pc + 3) = .ok (.iconst a, 1)) (hd2 : decode c.code (pc + 4) = .ok (.goto 4, 3)) (hd3 : decode c.code (pc + 7) = .ok (.iconst b, 1))
    (hr : Steps tb e below (T.setTop (mkF m (pc + 8) Ls (.int (own_pick (x = (0 : Int32)) (Int32.ofInt b) (Int32.ofInt a)) :: rest))) target) : Steps tb e below (T.setTop (mkF m pc Ls (.int x :: rest))) target :=
  own_mat_c h hx hd0 hd1 hd2 hd3 (fun q => by by_cases z : x = (0 : Int32) <;> simp [own_pick, z] <;> (first | rw [(teq z).1] at q | rw [(feq z).1] at q) <;> cases q) (fun q => by by_cases z : x = (0 : Int32) <;> simp [own_pick, z] <;> (first | rw [(teq z).1] at q | rw [(feq z).1] at q) <;> cases q) hr
theorem own_mat_c_ne (h : At T m c below) (hx : tb.exec = Jvm.exec) (hg : m = m) (hd0 : decode c.code pc = .ok (.ifCond .ne 7, 3)) (hd1 : decode c.code (pc + 3) = .ok (.iconst a, 1)) (hd2 : decode c.code (pc + 4) = .ok (.goto 4, 3)) (hd3 : decode c.code (pc + 7) = .ok (.iconst b, 1))
    (hr : Steps tb e below (T.setTop (mkF m (pc + 8) Ls (.int (own_pick (x = (0 : Int32)) (Int32.ofInt a) (Int32.ofInt b)) :: rest))) target) : Steps tb e below (T.setTop (mkF m pc Ls (.int x :: rest))) target :=
  own_mat_c h hx hd0 hd1 hd2 hd3 (fun q => by by_cases z : x = (0 : Int32) <;> simp [own_pick, z] <;> (first | rw [(teq z).2] at q | rw [(feq z).2] at q) <;> cases q) (fun q => by by_cases z : x = (0 : Int32) <;> simp [own_pick, z] <;> (first | rw [(teq z).2] at q | rw [(feq z).2] at q) <;> cases q) hr
theorem own_mat_c_lt (h : At T m c below) (hx : tb.exec = Jvm.exec) (hg : m = m) (hd0 : decode c.code pc = .ok (.ifCond .lt 7, 3)) (hd1 : decode c.code (pc + 3) = .ok (.iconst a, 1)) (hd2 : decode c.code (pc + 4) = .ok (.goto 4, 3)) (hd3 : decode c.code (pc + 7) = .ok (.iconst b, 1))
    (hr : Steps tb e below (T.setTop (mkF m (pc + 8) Ls (.int (own_pick (x < (0 : Int32)) (Int32.ofInt b) (Int32.ofInt a)) :: rest))) target) : Steps tb e below (T.setTop (mkF m pc Ls (.int x :: rest))) target :=
  own_mat_c h hx hd0 hd1 hd2 hd3 (fun q => by by_cases z : x < (0 : Int32) <;> simp [own_pick, z] <;> (first | rw [(tlt z).1] at q | rw [(flt z).1] at q) <;> cases q) (fun q => by by_cases z : x < (0 : Int32) <;> simp [own_pick, z] <;> (first | rw [(tlt z).1] at q | rw [(flt z).1] at q) <;> cases q) hr
theorem own_mat_c_ge (h : At T m c below) (hx : tb.exec = Jvm.exec) (hg : m = m) (hd0 : decode c.code pc = .ok (.ifCond .ge 7, 3)) (hd1 : decode c.code (pc + 3) = .ok (.iconst a, 1)) (hd2 : decode c.code (pc + 4) = .ok (.goto 4, 3)) (hd3 : decode c.code (pc + 7) = .ok (.iconst b, 1))
    (hr : Steps tb e below (T.setTop (mkF m (pc + 8) Ls (.int (own_pick (x < (0 : Int32)) (Int32.ofInt a) (Int32.ofInt b)) :: rest))) target) : Steps tb e below (T.setTop (mkF m pc Ls (.int x :: rest))) target :=
  own_mat_c h hx hd0 hd1 hd2 hd3 (fun q => by by_cases z : x < (0 : Int32) <;> simp [own_pick, z] <;> (first | rw [(tlt z).2.1] at q | rw [(flt z).2.1] at q) <;> cases q) (fun q => by by_cases z : x < (0 : Int32) <;> simp [own_pick, z] <;> (first | rw [(tlt z).2.1] at q | rw [(flt z).2.1] at q) <;> cases q) hr
theorem own_mat_c_gt (h : At T m c below) (hx : tb.exec = Jvm.exec) (hg : m = m) (hd0 : decode c.code pc = .ok (.ifCond .gt 7, 3)) (hd1 : decode c.code (pc + 3) = .ok (.iconst a, 1)) (hd2 : decode c.code (pc + 4) = .ok (.goto 4, 3)) (hd3 : decode c.code (pc + 7) = .ok (.iconst b, 1))
    (hr : Steps tb e below (T.setTop (mkF m (pc + 8) Ls (.int (own_pick ((0 : Int32) < x) (Int32.ofInt b) (Int32.ofInt a)) :: rest))) target) : Steps tb e below (T.setTop (mkF m pc Ls (.int x :: rest))) target :=
  own_mat_c h hx hd0 hd1 hd2 hd3 (fun q => by by_cases z : (0 : Int32) < x <;> simp [own_pick, z] <;> (first | rw [(tlt z).2.2.1] at q | rw [(flt z).2.2.1] at q) <;> cases q) (fun q => by by_cases z : (0 : Int32) < x <;> simp [own_pick, z] <;> (first | rw [(tlt z).2.2.1] at q | rw [(flt z).2.2.1] at q) <;> cases q) hr
theorem own_mat_c_le (h : At T m c below) (hx : tb.exec = Jvm.exec) (hg : m = m) (hd0 : decode c.code pc = .ok (.ifCond .le 7, 3)) (hd1 : decode c.code (pc + 3) = .ok (.iconst a, 1)) (hd2 : decode c.code (pc + 4) = .ok (.goto 4, 3)) (hd3 : decode c.code (pc + 7) = .ok (.iconst b, 1))
    (hr : Steps tb e below (T.setTop (mkF m (pc + 8) Ls (.int (own_pick ((0 : Int32) < x) (Int32.ofInt a) (Int32.ofInt b)) :: rest))) target) : Steps tb e below (T.setTop (mkF m pc Ls (.int x :: rest))) target :=
  own_mat_c h hx hd0 hd1 hd2 hd3 (fun q => by by_cases z : (0 : Int32) < x <;> simp [own_pick, z] <;> (first | rw [(tlt z).2.2.2] at q | rw [(flt z).2.2.2] at q) <;> cases q) (fun q => by by_cases z : (0 : Int32) < x <;> simp [own_pick, z] <;> (first | rw [(tlt z).2.2.2] at q | rw [(flt z).2.2.2] at q) <;> cases q) hr
end OwnMat
theorem pd_0 : parseMethodDescriptor "()V" = some ⟨[], none⟩ := by decide +kernel
theorem pd_1 : parseMethodDescriptor "()Lcom/example/ladel/ladel/store/Journal$Location;" = some ⟨[], some (.object "com/example/ladel/ladel/store/Journal$Location")⟩ := by decide +kernel
theorem pd_2 : parseMethodDescriptor "()I" = some ⟨[], some .int⟩ := by decide +kernel
theorem pd_3 : parseMethodDescriptor "(Lcom/example/ladel/ladel/broker/Topic$Message;)Z" = some ⟨[(.object "com/example/ladel/ladel/broker/Topic$Message")], some .boolean⟩ := by decide +kernel
theorem pd_4 : parseMethodDescriptor "()Z" = some ⟨[], some .boolean⟩ := by decide +kernel
theorem pd_5 : parseMethodDescriptor "(JI)V" = some ⟨[.long, .int], none⟩ := by decide +kernel
theorem pd_6 : parseMethodDescriptor "(JLcom/example/ladel/ladel/store/Journal$Location;)V" = some ⟨[.long, (.object "com/example/ladel/ladel/store/Journal$Location")], none⟩ := by decide +kernel
theorem pd_7 : parseMethodDescriptor "(IJ)V" = some ⟨[.int, .long], none⟩ := by decide +kernel
theorem pd_8 : parseMethodDescriptor "(Lcom/example/ladel/ladel/broker/Room;Lcom/example/ladel/ladel/broker/Topic$Message;I[JIJ)Z" = some ⟨[(.object "com/example/ladel/ladel/broker/Room"), (.object "com/example/ladel/ladel/broker/Topic$Message"), .int, (.array .long), .int, .long], some .boolean⟩ := by decide +kernel
theorem d2_0 : decode jdk_30_method_1_code 0 = .ok (.aload_n 0, 1) := by decide +kernel
theorem d2_1 : decode jdk_30_method_1_code 1 = .ok (.invokespecial 1, 3) := by decide +kernel
theorem d2_4 : decode jdk_30_method_1_code 4 = .ok (.return_, 1) := by decide +kernel
theorem pn_rm2 : plainName "java/lang/Record" = true := by first | (simp [plainName, overriddenIn]; done) | decide +kernel
theorem ef_rm2 (m : MethodId) (o0 : Addr) : entryFrame m #[(.ref o0)] 1 = mkF m 0 #[.val (.ref o0)] [] := by first | (simp [entryFrame, mkF, argsToLocals, Value.category, maxLocals]; done) | rfl
def rm2_Q (Z : State) (o0 : Addr)  (h0 : Heap) (n0 : Nat) (v : Option Value) (h : Heap) (L : List Loc) : Prop := v = none ∧ Fr n0 L ∧ h = h0
set_option maxRecDepth 65536 in
set_option maxHeartbeats 40000000 in
theorem rm2 (l : Launch) (Z : State) (a0 : Array Value) (hw : ∀ d ∈ tables_1, d.before a0 Z = true) (ws : List Jvm.Cond) (o0 : Addr)  (h0 : Heap) (n0 : Nat) (Z0 : n0 ≤ h0.size)  :
    MetFree l (⟨"java/lang/Record", "<init>", "()V"⟩ : MethodName) (head1 (Jvm.Cond.code (⟨"java/lang/Record", "<init>", "()V"⟩ : MethodName) jdk_30_method_1_code 1 none :: ws) ({ frames := 1, cells := 0, slots := 0, locals := 12 } : Room)) (fun a U => a = #[(.ref o0)] ∧ Z.Warmed39 U.vm ∧ U.heap = h0) (fun _ _ _ _ _ => True) (fun _ U o U' => ∃ v L, o = .returned v ∧ rm2_Q Z o0 h0 n0 v U'.heap L ∧ FrameEnd U o U' L ({ frames := 1, cells := 0, slots := 0, locals := 12 } : Room).cells ({ frames := 1, cells := 0, slots := 0, locals := 12 } : Room).slots) := by
  refine MetFree.of_bodySF (plainFor_of_name pn_rm2) hisR ?_
  intro p e s m args below meth c s₁ Bd hml0 hP hK
  obtain ⟨rfl, hZ, hh⟩ := hP
  have hx := Bd.exec
  have hby := Bd.bytes
  have hml : c.maxLocals = 1 := hml0
  have hown : s.vm.findClass "java/lang/Record" = some m.cls := findClass_of_methodNamed Bd.named
  have hnm := (name_of_methodNamed Bd.named Bd.method).1
  have X0 : Stand p l e ({ frames := 1, cells := 0, slots := 0, locals := 12 } : Room) s m #[(.ref o0)] below meth c s₁ [] 0 0 := Stand.of_body Bd
  have e0 : s₁.heap = h0 := by rw [← hh, Bd.state]; rfl
  have N0 := Fr.nil n0
  refine own_enter (QQ := rm2_Q Z o0 h0 n0) (ef_rm2 m o0) ?_
  show own_Run p e below s _ _ _ s₁ (mkF m 0 #[.val (.ref o0)] [])
  refine own_step (T' := s₁) (g' := (mkF m 1 #[.val (.ref o0)] [(.ref o0)])) (fun t k => ?_) ?_
  · show Steps p.tables e below (s₁.setTop (mkF m 0 #[.val (.ref o0)] [])) _
    refine XS.aloadN X0.here hx rfl (hb hby d2_0) rfl rfl ?_
    show Steps p.tables e below (s₁.setTop (mkF m 1 #[.val (.ref o0)] [(.ref o0)])) _
    exact k
  obtain ⟨T1, X1, e1, st1⟩ := initO X0 hx hZ hown (hw _ (List.mem_of_getElem? (i := 15) rfl)) (hw _ (List.mem_of_getElem? (i := 16) rfl)) (hw _ (List.mem_of_getElem? (i := 17) rfl)) e0 (g := (mkF m 1 #[.val (.ref o0)] [(.ref o0)])) rfl (by rw [hml]; rfl) rfl (hb hby d2_1) (by decide) (W := 0) (by show 2 * 0 + _ ≤ _; exact Nat.le_of_eq rfl) (by decide)
  refine own_step st1 ?_
  show own_Run p e below s _ _ _ T1 (mkF m 4 #[.val (.ref o0)] [])
  refine own_retV X1 hx Bd.returns (hb hby d2_4) (BodyLoose.notSynchronized Bd) (by decide) (by decide) ?_
  rw [show T1.heap = h0 from e1]
  exact ⟨rfl, N0, rfl⟩
theorem d1_0 : decode prog_27_method_1_code 0 = .ok (.aload_n 0, 1) := by decide +kernel
theorem d1_1 : decode prog_27_method_1_code 1 = .ok (.invokespecial 1, 3) := by decide +kernel
theorem d1_4 : decode prog_27_method_1_code 4 = .ok (.aload_n 0, 1) := by decide +kernel
theorem d1_5 : decode prog_27_method_1_code 5 = .ok (.lload_n 1, 1) := by decide +kernel
theorem d1_6 : decode prog_27_method_1_code 6 = .ok (.putfield 7, 3) := by decide +kernel
theorem d1_9 : decode prog_27_method_1_code 9 = .ok (.aload_n 0, 1) := by decide +kernel
theorem d1_10 : decode prog_27_method_1_code 10 = .ok (.iload_n 3, 1) := by decide +kernel
theorem d1_11 : decode prog_27_method_1_code 11 = .ok (.putfield 13, 3) := by decide +kernel
theorem d1_14 : decode prog_27_method_1_code 14 = .ok (.return_, 1) := by decide +kernel
theorem pn_rm1 : plainName "com/example/ladel/ladel/store/Journal$Location" = true := by first | (simp [plainName, overriddenIn]; done) | decide +kernel
theorem ef_rm1 (m : MethodId) (o0 : Addr) (q1 : Int64) (p2 : Int32) : entryFrame m #[(.ref o0), (.long q1), (.int p2)] 4 = mkF m 0 #[.val (.ref o0), .val (.long q1), .second, .val (.int p2)] [] := by first | (simp [entryFrame, mkF, argsToLocals, Value.category, maxLocals]; done) | rfl
def rm1_Q (Z : State) (o0 : Addr) (q1 : Int64) (p2 : Int32)  (h0 : Heap) (n0 : Nat) (v : Option Value) (h : Heap) (L : List Loc) : Prop := v = none ∧ Fr n0 L ∧ Keep h0 h [o0] ∧ Fld Z h o0 "com/example/ladel/ladel/store/Journal$Location" "length" "I" (.int p2)
set_option maxRecDepth 65536 in
set_option maxHeartbeats 40000000 in
theorem rm1 (l : Launch) (Z : State) (a0 : Array Value) (hw : ∀ d ∈ tables_1, d.before a0 Z = true) (ws : List Jvm.Cond) (o0 : Addr) (q1 : Int64) (p2 : Int32)  (h0 : Heap) (n0 : Nat) (Z0 : n0 ≤ h0.size) (E_o0 : Exa Z h0 o0 "com/example/ladel/ladel/store/Journal$Location") (F_offset_o0 : Fld Z h0 o0 "com/example/ladel/ladel/store/Journal$Location" "offset" "J" (.long (0 : Int64))) (F_length_o0 : Fld Z h0 o0 "com/example/ladel/ladel/store/Journal$Location" "length" "I" (.int (0 : Int32))) (g_o0 : n0 ≤ o0) :
    MetFree l (⟨"com/example/ladel/ladel/store/Journal$Location", "<init>", "(JI)V"⟩ : MethodName) (head1 (Jvm.Cond.code (⟨"com/example/ladel/ladel/store/Journal$Location", "<init>", "(JI)V"⟩ : MethodName) prog_27_method_1_code 4 none :: ws) ({ frames := 2, cells := 0, slots := 0, locals := 24 } : Room)) (fun a U => a = #[(.ref o0), (.long q1), (.int p2)] ∧ Z.Warmed39 U.vm ∧ U.heap = h0) (fun _ _ _ _ _ => True) (fun _ U o U' => ∃ v L, o = .returned v ∧ rm1_Q Z o0 q1 p2 h0 n0 v U'.heap L ∧ FrameEnd U o U' L ({ frames := 2, cells := 0, slots := 0, locals := 24 } : Room).cells ({ frames := 2, cells := 0, slots := 0, locals := 24 } : Room).slots) := by
  refine MetFree.of_bodySF (plainFor_of_name pn_rm1) hisR ?_
  intro p e s m args below meth c s₁ Bd hml0 hP hK
  obtain ⟨rfl, hZ, hh⟩ := hP
  have hx := Bd.exec
  have hby := Bd.bytes
  have hml : c.maxLocals = 4 := hml0
  have hown : s.vm.findClass "com/example/ladel/ladel/store/Journal$Location" = some m.cls := findClass_of_methodNamed Bd.named
  have hnm := (name_of_methodNamed Bd.named Bd.method).1
  have X0 : Stand p l e ({ frames := 2, cells := 0, slots := 0, locals := 24 } : Room) s m #[(.ref o0), (.long q1), (.int p2)] below meth c s₁ [] 0 0 := Stand.of_body Bd
  have e0 : s₁.heap = h0 := by rw [← hh, Bd.state]; rfl
  have N0 := Fr.nil n0
  have K0 := Keep.refl h0 [o0]
  refine own_enter (QQ := rm1_Q Z o0 q1 p2 h0 n0) (ef_rm1 m o0 q1 p2) ?_
  show own_Run p e below s _ _ _ s₁ (mkF m 0 #[.val (.ref o0), .val (.long q1), .second, .val (.int p2)] [])
  refine own_step (T' := s₁) (g' := (mkF m 1 #[.val (.ref o0), .val (.long q1), .second, .val (.int p2)] [(.ref o0)])) (fun t k => ?_) ?_
  · show Steps p.tables e below (s₁.setTop (mkF m 0 #[.val (.ref o0), .val (.long q1), .second, .val (.int p2)] [])) _
    refine XS.aloadN X0.here hx rfl (hb hby d1_0) rfl rfl ?_
    show Steps p.tables e below (s₁.setTop (mkF m 1 #[.val (.ref o0), .val (.long q1), .second, .val (.int p2)] [(.ref o0)])) _
    exact k
  obtain ⟨_, _, ⟨T1, L1, k1, n1⟩, -, X1, ⟨Lc1, hQ1, l1, y1, z1⟩, st1⟩ := X0.specialBack hx (y := (⟨"java/lang/Record", "<init>", "()V"⟩ : MethodName)) rfl hown (mvT hZ (hw _ (List.mem_of_getElem? (i := 10) rfl))) (mvT hZ (hw _ (List.mem_of_getElem? (i := 11) rfl))) (mvT hZ (hw _ (List.mem_of_getElem? (i := 14) rfl))) (by decide) (backOf (W := 0) (rm2 l Z a0 hw [] o0  h0 n0 Z0) hZ (hw _ (List.mem_of_getElem? (i := 14) rfl)) (hw _ (List.mem_of_getElem? (i := 13) rfl)) (by decide) (by decide)) (g := (mkF m 1 #[.val (.ref o0), .val (.long q1), .second, .val (.int p2)] [(.ref o0)])) rfl (by rw [hml]; rfl) (Steps.refl _) (a := o0) (argsL := []) (rest := []) (lenOf pd_0 rfl) rfl (by show 2 * 0 + _ ≤ _; exact Nat.le_of_eq rfl) (hb hby d1_1) (fun _ _ => ⟨rfl, e0, (by decide : 0 + 0 ≤ _), (by decide : 0 + 0 ≤ _)⟩)
  dsimp only [Pt.U, Pt.locs, Pt.cells, Pt.slots] at X1 l1 y1 z1 st1 hQ1
  subst l1 y1 z1
  obtain ⟨rfl, N1q, eq1⟩ := hQ1
  have N1 := Fr.app N0 N1q
  refine own_step (fun t k => st1.trans k) ?_
  show own_Run p e below s _ _ _ T1 (mkF m 4 #[.val (.ref o0), .val (.long q1), .second, .val (.int p2)] [])
  refine own_step (T' := T1) (g' := (mkF m 6 #[.val (.ref o0), .val (.long q1), .second, .val (.int p2)] [(.long q1), (.ref o0)])) (fun t k => ?_) ?_
  · show Steps p.tables e below (T1.setTop (mkF m 4 #[.val (.ref o0), .val (.long q1), .second, .val (.int p2)] [])) _
    refine XS.aloadN X1.here hx rfl (hb hby d1_4) rfl rfl ?_
    show Steps p.tables e below (T1.setTop (mkF m 5 #[.val (.ref o0), .val (.long q1), .second, .val (.int p2)] [(.ref o0)])) _
    refine XS.lloadN X1.here hx rfl (hb hby d1_5) rfl ?_
    show Steps p.tables e below (T1.setTop (mkF m 6 #[.val (.ref o0), .val (.long q1), .second, .val (.int p2)] [(.long q1), (.ref o0)])) _
    exact k
  obtain ⟨T2, h2, X2, e2, W2, st2⟩ := putF X1 hx hZ hown (host := "") (Or.inl (hw _ (List.mem_of_getElem? (i := 18) rfl))) Via.refl eq1 F_offset_o0 E_o0 (Or.inr ⟨(hw _ (List.mem_of_getElem? (i := 19) rfl)), rfl, hnm⟩) (hw _ (List.mem_of_getElem? (i := 5) rfl)) (ty := .long) (by decide) rfl rfl (g := (mkF m 6 #[.val (.ref o0), .val (.long q1), .second, .val (.int p2)] [(.long q1), (.ref o0)])) rfl rfl (hb hby d1_6)
  have F3 := F_offset_o0.same W2
  have F4 := F_length_o0.other W2 (Or.inr (slot_ne (Or.inr (hw _ (List.mem_of_getElem? (i := 21) rfl))) (Or.inr (hw _ (List.mem_of_getElem? (i := 19) rfl))) (by decide) (t := .int) (t' := .long) (by decide) (by decide)))
  have A5 := E_o0.wr W2
  have Z6 := Nat.le_trans Z0 (Keep.of_wr W2).1
  have K2 := K0.wr W2 (Or.inl (List.mem_of_getElem? (i := 0) rfl))
  have N2 := Fr.snoc X2 N1 g_o0
  refine own_step st2 ?_
  show own_Run p e below s _ _ _ T2 (mkF m 9 #[.val (.ref o0), .val (.long q1), .second, .val (.int p2)] [])
  refine own_step (T' := T2) (g' := (mkF m 11 #[.val (.ref o0), .val (.long q1), .second, .val (.int p2)] [(.int p2), (.ref o0)])) (fun t k => ?_) ?_
  · show Steps p.tables e below (T2.setTop (mkF m 9 #[.val (.ref o0), .val (.long q1), .second, .val (.int p2)] [])) _
    refine XS.aloadN X2.here hx rfl (hb hby d1_9) rfl rfl ?_
    show Steps p.tables e below (T2.setTop (mkF m 10 #[.val (.ref o0), .val (.long q1), .second, .val (.int p2)] [(.ref o0)])) _
    refine XS.iloadN X2.here hx rfl (hb hby d1_10) rfl ?_
    show Steps p.tables e below (T2.setTop (mkF m 11 #[.val (.ref o0), .val (.long q1), .second, .val (.int p2)] [(.int p2), (.ref o0)])) _
    exact k
  obtain ⟨T7, h7, X7, e7, W7, st7⟩ := putF X2 hx hZ hown (host := "") (Or.inl (hw _ (List.mem_of_getElem? (i := 20) rfl))) Via.refl e2 F4 A5 (Or.inr ⟨(hw _ (List.mem_of_getElem? (i := 21) rfl)), rfl, hnm⟩) (hw _ (List.mem_of_getElem? (i := 5) rfl)) (ty := .int) (by decide) rfl rfl (g := (mkF m 11 #[.val (.ref o0), .val (.long q1), .second, .val (.int p2)] [(.int p2), (.ref o0)])) rfl rfl (hb hby d1_11)
  have F8 := F4.same W7
  have F9 := F3.other W7 (Or.inr (slot_ne (Or.inr (hw _ (List.mem_of_getElem? (i := 19) rfl))) (Or.inr (hw _ (List.mem_of_getElem? (i := 21) rfl))) (by decide) (t := .long) (t' := .int) (by decide) (by decide)))
  have A10 := A5.wr W7
  have Z11 := Nat.le_trans Z6 (Keep.of_wr W7).1
  have K7 := K2.wr W7 (Or.inl (List.mem_of_getElem? (i := 0) rfl))
  have N7 := Fr.snoc X7 N2 g_o0
  refine own_step st7 ?_
  show own_Run p e below s _ _ _ T7 (mkF m 14 #[.val (.ref o0), .val (.long q1), .second, .val (.int p2)] [])
  refine own_retV X7 hx Bd.returns (hb hby d1_14) (BodyLoose.notSynchronized Bd) (by decide) (by decide) ?_
  rw [show T7.heap = h7 from e7]
  exact ⟨rfl, N7, K7, F8⟩
theorem d4_0 : decode prog_20_method_1_code 0 = .ok (.aload_n 0, 1) := by decide +kernel
theorem d4_1 : decode prog_20_method_1_code 1 = .ok (.invokespecial 1, 3) := by decide +kernel
theorem d4_4 : decode prog_20_method_1_code 4 = .ok (.aload_n 0, 1) := by decide +kernel
theorem d4_5 : decode prog_20_method_1_code 5 = .ok (.lload_n 1, 1) := by decide +kernel
theorem d4_6 : decode prog_20_method_1_code 6 = .ok (.putfield 7, 3) := by decide +kernel
theorem d4_9 : decode prog_20_method_1_code 9 = .ok (.aload_n 0, 1) := by decide +kernel
theorem d4_10 : decode prog_20_method_1_code 10 = .ok (.aload_n 3, 1) := by decide +kernel
theorem d4_11 : decode prog_20_method_1_code 11 = .ok (.putfield 13, 3) := by decide +kernel
theorem d4_14 : decode prog_20_method_1_code 14 = .ok (.return_, 1) := by decide +kernel
theorem pn_rm4 : plainName "com/example/ladel/ladel/broker/Topic$Message" = true := by first | (simp [plainName, overriddenIn]; done) | decide +kernel
theorem ef_rm4 (m : MethodId) (o0 : Addr) (q1 : Int64) (o2 : Addr) : entryFrame m #[(.ref o0), (.long q1), (.ref o2)] 4 = mkF m 0 #[.val (.ref o0), .val (.long q1), .second, .val (.ref o2)] [] := by first | (simp [entryFrame, mkF, argsToLocals, Value.category, maxLocals]; done) | rfl
def rm4_Q (Z : State) (o0 : Addr) (q1 : Int64) (o2 : Addr)  (h0 : Heap) (n0 : Nat) (v : Option Value) (h : Heap) (L : List Loc) : Prop := v = none ∧ Fr n0 L ∧ Keep h0 h [o0] ∧ Fld Z h o0 "com/example/ladel/ladel/broker/Topic$Message" "content" "Lcom/example/ladel/ladel/store/Journal$Location;" (.ref o2)
set_option maxRecDepth 65536 in
set_option maxHeartbeats 40000000 in
theorem rm4 (l : Launch) (Z : State) (a0 : Array Value) (hw : ∀ d ∈ tables_1, d.before a0 Z = true) (ws : List Jvm.Cond) (o0 : Addr) (q1 : Int64) (o2 : Addr)  (h0 : Heap) (n0 : Nat) (Z0 : n0 ≤ h0.size) (E_o0 : Exa Z h0 o0 "com/example/ladel/ladel/broker/Topic$Message") (F_seq_o0 : Fld Z h0 o0 "com/example/ladel/ladel/broker/Topic$Message" "seq" "J" (.long (0 : Int64))) (F_content_o0 : Fld Z h0 o0 "com/example/ladel/ladel/broker/Topic$Message" "content" "Lcom/example/ladel/ladel/store/Journal$Location;" .null) (g_o0 : n0 ≤ o0) :
    MetFree l (⟨"com/example/ladel/ladel/broker/Topic$Message", "<init>", "(JLcom/example/ladel/ladel/store/Journal$Location;)V"⟩ : MethodName) (head1 (Jvm.Cond.code (⟨"com/example/ladel/ladel/broker/Topic$Message", "<init>", "(JLcom/example/ladel/ladel/store/Journal$Location;)V"⟩ : MethodName) prog_20_method_1_code 4 none :: ws) ({ frames := 2, cells := 0, slots := 0, locals := 24 } : Room)) (fun a U => a = #[(.ref o0), (.long q1), (.ref o2)] ∧ Z.Warmed39 U.vm ∧ U.heap = h0) (fun _ _ _ _ _ => True) (fun _ U o U' => ∃ v L, o = .returned v ∧ rm4_Q Z o0 q1 o2 h0 n0 v U'.heap L ∧ FrameEnd U o U' L ({ frames := 2, cells := 0, slots := 0, locals := 24 } : Room).cells ({ frames := 2, cells := 0, slots := 0, locals := 24 } : Room).slots) := by
  refine MetFree.of_bodySF (plainFor_of_name pn_rm4) hisR ?_
  intro p e s m args below meth c s₁ Bd hml0 hP hK
  obtain ⟨rfl, hZ, hh⟩ := hP
  have hx := Bd.exec
  have hby := Bd.bytes
  have hml : c.maxLocals = 4 := hml0
  have hown : s.vm.findClass "com/example/ladel/ladel/broker/Topic$Message" = some m.cls := findClass_of_methodNamed Bd.named
  have hnm := (name_of_methodNamed Bd.named Bd.method).1
  have X0 : Stand p l e ({ frames := 2, cells := 0, slots := 0, locals := 24 } : Room) s m #[(.ref o0), (.long q1), (.ref o2)] below meth c s₁ [] 0 0 := Stand.of_body Bd
  have e0 : s₁.heap = h0 := by rw [← hh, Bd.state]; rfl
  have N0 := Fr.nil n0
  have K0 := Keep.refl h0 [o0]
  refine own_enter (QQ := rm4_Q Z o0 q1 o2 h0 n0) (ef_rm4 m o0 q1 o2) ?_
  show own_Run p e below s _ _ _ s₁ (mkF m 0 #[.val (.ref o0), .val (.long q1), .second, .val (.ref o2)] [])
  refine own_step (T' := s₁) (g' := (mkF m 1 #[.val (.ref o0), .val (.long q1), .second, .val (.ref o2)] [(.ref o0)])) (fun t k => ?_) ?_
  · show Steps p.tables e below (s₁.setTop (mkF m 0 #[.val (.ref o0), .val (.long q1), .second, .val (.ref o2)] [])) _
    refine XS.aloadN X0.here hx rfl (hb hby d4_0) rfl rfl ?_
    show Steps p.tables e below (s₁.setTop (mkF m 1 #[.val (.ref o0), .val (.long q1), .second, .val (.ref o2)] [(.ref o0)])) _
    exact k
  obtain ⟨_, _, ⟨T1, L1, k1, n1⟩, -, X1, ⟨Lc1, hQ1, l1, y1, z1⟩, st1⟩ := X0.specialBack hx (y := (⟨"java/lang/Record", "<init>", "()V"⟩ : MethodName)) rfl hown (mvT hZ (hw _ (List.mem_of_getElem? (i := 25) rfl))) (mvT hZ (hw _ (List.mem_of_getElem? (i := 11) rfl))) (mvT hZ (hw _ (List.mem_of_getElem? (i := 14) rfl))) (by decide) (backOf (W := 0) (rm2 l Z a0 hw [] o0  h0 n0 Z0) hZ (hw _ (List.mem_of_getElem? (i := 14) rfl)) (hw _ (List.mem_of_getElem? (i := 13) rfl)) (by decide) (by decide)) (g := (mkF m 1 #[.val (.ref o0), .val (.long q1), .second, .val (.ref o2)] [(.ref o0)])) rfl (by rw [hml]; rfl) (Steps.refl _) (a := o0) (argsL := []) (rest := []) (lenOf pd_0 rfl) rfl (by show 2 * 0 + _ ≤ _; exact Nat.le_of_eq rfl) (hb hby d4_1) (fun _ _ => ⟨rfl, e0, (by decide : 0 + 0 ≤ _), (by decide : 0 + 0 ≤ _)⟩)
  dsimp only [Pt.U, Pt.locs, Pt.cells, Pt.slots] at X1 l1 y1 z1 st1 hQ1
  subst l1 y1 z1
  obtain ⟨rfl, N1q, eq1⟩ := hQ1
  have N1 := Fr.app N0 N1q
  refine own_step (fun t k => st1.trans k) ?_
  show own_Run p e below s _ _ _ T1 (mkF m 4 #[.val (.ref o0), .val (.long q1), .second, .val (.ref o2)] [])
  refine own_step (T' := T1) (g' := (mkF m 6 #[.val (.ref o0), .val (.long q1), .second, .val (.ref o2)] [(.long q1), (.ref o0)])) (fun t k => ?_) ?_
  · show Steps p.tables e below (T1.setTop (mkF m 4 #[.val (.ref o0), .val (.long q1), .second, .val (.ref o2)] [])) _
    refine XS.aloadN X1.here hx rfl (hb hby d4_4) rfl rfl ?_
    show Steps p.tables e below (T1.setTop (mkF m 5 #[.val (.ref o0), .val (.long q1), .second, .val (.ref o2)] [(.ref o0)])) _
    refine XS.lloadN X1.here hx rfl (hb hby d4_5) rfl ?_
    show Steps p.tables e below (T1.setTop (mkF m 6 #[.val (.ref o0), .val (.long q1), .second, .val (.ref o2)] [(.long q1), (.ref o0)])) _
    exact k
  obtain ⟨T2, h2, X2, e2, W2, st2⟩ := putF X1 hx hZ hown (host := "") (Or.inl (hw _ (List.mem_of_getElem? (i := 26) rfl))) Via.refl eq1 F_seq_o0 E_o0 (Or.inr ⟨(hw _ (List.mem_of_getElem? (i := 27) rfl)), rfl, hnm⟩) (hw _ (List.mem_of_getElem? (i := 2) rfl)) (ty := .long) (by decide) rfl rfl (g := (mkF m 6 #[.val (.ref o0), .val (.long q1), .second, .val (.ref o2)] [(.long q1), (.ref o0)])) rfl rfl (hb hby d4_6)
  have F3 := F_seq_o0.same W2
  have F4 := F_content_o0.other W2 (Or.inr (slot_ne (Or.inr (hw _ (List.mem_of_getElem? (i := 29) rfl))) (Or.inr (hw _ (List.mem_of_getElem? (i := 27) rfl))) (by decide) (t := (.object "com/example/ladel/ladel/store/Journal$Location")) (t' := .long) (by decide) (by decide)))
  have A5 := E_o0.wr W2
  have Z6 := Nat.le_trans Z0 (Keep.of_wr W2).1
  have K2 := K0.wr W2 (Or.inl (List.mem_of_getElem? (i := 0) rfl))
  have N2 := Fr.snoc X2 N1 g_o0
  refine own_step st2 ?_
  show own_Run p e below s _ _ _ T2 (mkF m 9 #[.val (.ref o0), .val (.long q1), .second, .val (.ref o2)] [])
  refine own_step (T' := T2) (g' := (mkF m 11 #[.val (.ref o0), .val (.long q1), .second, .val (.ref o2)] [(.ref o2), (.ref o0)])) (fun t k => ?_) ?_
  · show Steps p.tables e below (T2.setTop (mkF m 9 #[.val (.ref o0), .val (.long q1), .second, .val (.ref o2)] [])) _
    refine XS.aloadN X2.here hx rfl (hb hby d4_9) rfl rfl ?_
    show Steps p.tables e below (T2.setTop (mkF m 10 #[.val (.ref o0), .val (.long q1), .second, .val (.ref o2)] [(.ref o0)])) _
    refine XS.aloadN X2.here hx rfl (hb hby d4_10) rfl rfl ?_
    show Steps p.tables e below (T2.setTop (mkF m 11 #[.val (.ref o0), .val (.long q1), .second, .val (.ref o2)] [(.ref o2), (.ref o0)])) _
    exact k
  obtain ⟨T7, h7, X7, e7, W7, st7⟩ := putF X2 hx hZ hown (host := "") (Or.inl (hw _ (List.mem_of_getElem? (i := 28) rfl))) Via.refl e2 F4 A5 (Or.inr ⟨(hw _ (List.mem_of_getElem? (i := 29) rfl)), rfl, hnm⟩) (hw _ (List.mem_of_getElem? (i := 2) rfl)) (ty := (.object "com/example/ladel/ladel/store/Journal$Location")) (by decide) rfl rfl (g := (mkF m 11 #[.val (.ref o0), .val (.long q1), .second, .val (.ref o2)] [(.ref o2), (.ref o0)])) rfl rfl (hb hby d4_11)
  have F8 := F4.same W7
  have F9 := F3.other W7 (Or.inr (slot_ne (Or.inr (hw _ (List.mem_of_getElem? (i := 27) rfl))) (Or.inr (hw _ (List.mem_of_getElem? (i := 29) rfl))) (by decide) (t := .long) (t' := (.object "com/example/ladel/ladel/store/Journal$Location")) (by decide) (by decide)))
  have A10 := A5.wr W7
  have Z11 := Nat.le_trans Z6 (Keep.of_wr W7).1
  have K7 := K2.wr W7 (Or.inl (List.mem_of_getElem? (i := 0) rfl))
  have N7 := Fr.snoc X7 N2 g_o0
  refine own_step st7 ?_
  show own_Run p e below s _ _ _ T7 (mkF m 14 #[.val (.ref o0), .val (.long q1), .second, .val (.ref o2)] [])
  refine own_retV X7 hx Bd.returns (hb hby d4_14) (BodyLoose.notSynchronized Bd) (by decide) (by decide) ?_
  rw [show T7.heap = h7 from e7]
  exact ⟨rfl, N7, K7, F8⟩
theorem d5_0 : decode prog_15_method_1_code 0 = .ok (.aload_n 0, 1) := by decide +kernel
theorem d5_1 : decode prog_15_method_1_code 1 = .ok (.invokespecial 1, 3) := by decide +kernel
theorem d5_4 : decode prog_15_method_1_code 4 = .ok (.aload_n 0, 1) := by decide +kernel
theorem d5_5 : decode prog_15_method_1_code 5 = .ok (.iload_n 1, 1) := by decide +kernel
theorem d5_6 : decode prog_15_method_1_code 6 = .ok (.putfield 7, 3) := by decide +kernel
theorem d5_9 : decode prog_15_method_1_code 9 = .ok (.aload_n 0, 1) := by decide +kernel
theorem d5_10 : decode prog_15_method_1_code 10 = .ok (.lload_n 2, 1) := by decide +kernel
theorem d5_11 : decode prog_15_method_1_code 11 = .ok (.putfield 13, 3) := by decide +kernel
theorem d5_14 : decode prog_15_method_1_code 14 = .ok (.return_, 1) := by decide +kernel
theorem pn_rm5 : plainName "com/example/ladel/ladel/broker/Room" = true := by first | (simp [plainName, overriddenIn]; done) | decide +kernel
theorem ef_rm5 (m : MethodId) (o0 : Addr) (p1 : Int32) (q2 : Int64) : entryFrame m #[(.ref o0), (.int p1), (.long q2)] 4 = mkF m 0 #[.val (.ref o0), .val (.int p1), .val (.long q2), .second] [] := by first | (simp [entryFrame, mkF, argsToLocals, Value.category, maxLocals]; done) | rfl
def rm5_Q (Z : State) (o0 : Addr) (p1 : Int32) (q2 : Int64)  (h0 : Heap) (n0 : Nat) (v : Option Value) (h : Heap) (L : List Loc) : Prop := v = none ∧ Fr n0 L ∧ Keep h0 h [o0] ∧ Fld Z h o0 "com/example/ladel/ladel/broker/Room" "maxMessages" "I" (.int p1) ∧ Fld Z h o0 "com/example/ladel/ladel/broker/Room" "maxBytes" "J" (.long q2) ∧ Fld Z h o0 "com/example/ladel/ladel/broker/Room" "messages" "I" (.int (0 : Int32)) ∧ Fld Z h o0 "com/example/ladel/ladel/broker/Room" "bytes" "J" (.long (0 : Int64)) ∧ Fld Z h o0 "com/example/ladel/ladel/broker/Room" "full" "Z" (.int (0 : Int32))
set_option maxRecDepth 65536 in
set_option maxHeartbeats 40000000 in
theorem rm5 (l : Launch) (Z : State) (a0 : Array Value) (hw : ∀ d ∈ tables_1, d.before a0 Z = true) (ws : List Jvm.Cond) (o0 : Addr) (p1 : Int32) (q2 : Int64)  (h0 : Heap) (n0 : Nat) (Z0 : n0 ≤ h0.size) (E_o0 : Exa Z h0 o0 "com/example/ladel/ladel/broker/Room") (F_maxMessages_o0 : Fld Z h0 o0 "com/example/ladel/ladel/broker/Room" "maxMessages" "I" (.int (0 : Int32))) (F_maxBytes_o0 : Fld Z h0 o0 "com/example/ladel/ladel/broker/Room" "maxBytes" "J" (.long (0 : Int64))) (F_messages_o0 : Fld Z h0 o0 "com/example/ladel/ladel/broker/Room" "messages" "I" (.int (0 : Int32))) (F_bytes_o0 : Fld Z h0 o0 "com/example/ladel/ladel/broker/Room" "bytes" "J" (.long (0 : Int64))) (F_full_o0 : Fld Z h0 o0 "com/example/ladel/ladel/broker/Room" "full" "Z" (.int (0 : Int32))) (g_o0 : n0 ≤ o0) :
    MetFree l (⟨"com/example/ladel/ladel/broker/Room", "<init>", "(IJ)V"⟩ : MethodName) (head1 (Jvm.Cond.code (⟨"com/example/ladel/ladel/broker/Room", "<init>", "(IJ)V"⟩ : MethodName) prog_15_method_1_code 4 none :: ws) ({ frames := 1, cells := 0, slots := 0, locals := 12 } : Room)) (fun a U => a = #[(.ref o0), (.int p1), (.long q2)] ∧ Z.Warmed39 U.vm ∧ U.heap = h0) (fun _ _ _ _ _ => True) (fun _ U o U' => ∃ v L, o = .returned v ∧ rm5_Q Z o0 p1 q2 h0 n0 v U'.heap L ∧ FrameEnd U o U' L ({ frames := 1, cells := 0, slots := 0, locals := 12 } : Room).cells ({ frames := 1, cells := 0, slots := 0, locals := 12 } : Room).slots) := by
  refine MetFree.of_bodySF (plainFor_of_name pn_rm5) hisR ?_
  intro p e s m args below meth c s₁ Bd hml0 hP hK
  obtain ⟨rfl, hZ, hh⟩ := hP
  have hx := Bd.exec
  have hby := Bd.bytes
  have hml : c.maxLocals = 4 := hml0
  have hown : s.vm.findClass "com/example/ladel/ladel/broker/Room" = some m.cls := findClass_of_methodNamed Bd.named
  have hnm := (name_of_methodNamed Bd.named Bd.method).1
  have X0 : Stand p l e ({ frames := 1, cells := 0, slots := 0, locals := 12 } : Room) s m #[(.ref o0), (.int p1), (.long q2)] below meth c s₁ [] 0 0 := Stand.of_body Bd
  have e0 : s₁.heap = h0 := by rw [← hh, Bd.state]; rfl
  have N0 := Fr.nil n0
  have K0 := Keep.refl h0 [o0]
  refine own_enter (QQ := rm5_Q Z o0 p1 q2 h0 n0) (ef_rm5 m o0 p1 q2) ?_
  show own_Run p e below s _ _ _ s₁ (mkF m 0 #[.val (.ref o0), .val (.int p1), .val (.long q2), .second] [])
  refine own_step (T' := s₁) (g' := (mkF m 1 #[.val (.ref o0), .val (.int p1), .val (.long q2), .second] [(.ref o0)])) (fun t k => ?_) ?_
  · show Steps p.tables e below (s₁.setTop (mkF m 0 #[.val (.ref o0), .val (.int p1), .val (.long q2), .second] [])) _
    refine XS.aloadN X0.here hx rfl (hb hby d5_0) rfl rfl ?_
    show Steps p.tables e below (s₁.setTop (mkF m 1 #[.val (.ref o0), .val (.int p1), .val (.long q2), .second] [(.ref o0)])) _
    exact k
  obtain ⟨T1, X1, e1, st1⟩ := initO X0 hx hZ hown (hw _ (List.mem_of_getElem? (i := 38) rfl)) (hw _ (List.mem_of_getElem? (i := 16) rfl)) (hw _ (List.mem_of_getElem? (i := 17) rfl)) e0 (g := (mkF m 1 #[.val (.ref o0), .val (.int p1), .val (.long q2), .second] [(.ref o0)])) rfl (by rw [hml]; rfl) rfl (hb hby d5_1) (by decide) (W := 0) (by show 2 * 0 + _ ≤ _; exact Nat.le_of_eq rfl) (by decide)
  refine own_step st1 ?_
  show own_Run p e below s _ _ _ T1 (mkF m 4 #[.val (.ref o0), .val (.int p1), .val (.long q2), .second] [])
  refine own_step (T' := T1) (g' := (mkF m 6 #[.val (.ref o0), .val (.int p1), .val (.long q2), .second] [(.int p1), (.ref o0)])) (fun t k => ?_) ?_
  · show Steps p.tables e below (T1.setTop (mkF m 4 #[.val (.ref o0), .val (.int p1), .val (.long q2), .second] [])) _
    refine XS.aloadN X1.here hx rfl (hb hby d5_4) rfl rfl ?_
    show Steps p.tables e below (T1.setTop (mkF m 5 #[.val (.ref o0), .val (.int p1), .val (.long q2), .second] [(.ref o0)])) _
    refine XS.iloadN X1.here hx rfl (hb hby d5_5) rfl ?_
    show Steps p.tables e below (T1.setTop (mkF m 6 #[.val (.ref o0), .val (.int p1), .val (.long q2), .second] [(.int p1), (.ref o0)])) _
    exact k
  obtain ⟨T2, h2, X2, e2, W2, st2⟩ := putF X1 hx hZ hown (host := "") (Or.inl (hw _ (List.mem_of_getElem? (i := 39) rfl))) Via.refl e1 F_maxMessages_o0 E_o0 (Or.inr ⟨(hw _ (List.mem_of_getElem? (i := 40) rfl)), rfl, hnm⟩) (hw _ (List.mem_of_getElem? (i := 33) rfl)) (ty := .int) (by decide) rfl rfl (g := (mkF m 6 #[.val (.ref o0), .val (.int p1), .val (.long q2), .second] [(.int p1), (.ref o0)])) rfl rfl (hb hby d5_6)
  have F3 := F_maxMessages_o0.same W2
  have F4 := F_maxBytes_o0.other W2 (Or.inr (slot_ne (Or.inr (hw _ (List.mem_of_getElem? (i := 42) rfl))) (Or.inr (hw _ (List.mem_of_getElem? (i := 40) rfl))) (by decide) (t := .long) (t' := .int) (by decide) (by decide)))
  have F5 := F_messages_o0.other W2 (Or.inr (slot_ne (Or.inl (hw _ (List.mem_of_getElem? (i := 66) rfl))) (Or.inr (hw _ (List.mem_of_getElem? (i := 40) rfl))) (by decide) (t := .int) (t' := .int) (by decide) (by decide)))
  have F6 := F_bytes_o0.other W2 (Or.inr (slot_ne (Or.inl (hw _ (List.mem_of_getElem? (i := 54) rfl))) (Or.inr (hw _ (List.mem_of_getElem? (i := 40) rfl))) (by decide) (t := .long) (t' := .int) (by decide) (by decide)))
  have F7 := F_full_o0.other W2 (Or.inr (slot_ne (Or.inl (hw _ (List.mem_of_getElem? (i := 68) rfl))) (Or.inr (hw _ (List.mem_of_getElem? (i := 40) rfl))) (by decide) (t := .boolean) (t' := .int) (by decide) (by decide)))
  have A8 := E_o0.wr W2
  have Z9 := Nat.le_trans Z0 (Keep.of_wr W2).1
  have K2 := K0.wr W2 (Or.inl (List.mem_of_getElem? (i := 0) rfl))
  have N2 := Fr.snoc X2 N0 g_o0
  refine own_step st2 ?_
  show own_Run p e below s _ _ _ T2 (mkF m 9 #[.val (.ref o0), .val (.int p1), .val (.long q2), .second] [])
  refine own_step (T' := T2) (g' := (mkF m 11 #[.val (.ref o0), .val (.int p1), .val (.long q2), .second] [(.long q2), (.ref o0)])) (fun t k => ?_) ?_
  · show Steps p.tables e below (T2.setTop (mkF m 9 #[.val (.ref o0), .val (.int p1), .val (.long q2), .second] [])) _
    refine XS.aloadN X2.here hx rfl (hb hby d5_9) rfl rfl ?_
    show Steps p.tables e below (T2.setTop (mkF m 10 #[.val (.ref o0), .val (.int p1), .val (.long q2), .second] [(.ref o0)])) _
    refine XS.lloadN X2.here hx rfl (hb hby d5_10) rfl ?_
    show Steps p.tables e below (T2.setTop (mkF m 11 #[.val (.ref o0), .val (.int p1), .val (.long q2), .second] [(.long q2), (.ref o0)])) _
    exact k
  obtain ⟨T10, h10, X10, e10, W10, st10⟩ := putF X2 hx hZ hown (host := "") (Or.inl (hw _ (List.mem_of_getElem? (i := 41) rfl))) Via.refl e2 F4 A8 (Or.inr ⟨(hw _ (List.mem_of_getElem? (i := 42) rfl)), rfl, hnm⟩) (hw _ (List.mem_of_getElem? (i := 33) rfl)) (ty := .long) (by decide) rfl rfl (g := (mkF m 11 #[.val (.ref o0), .val (.int p1), .val (.long q2), .second] [(.long q2), (.ref o0)])) rfl rfl (hb hby d5_11)
  have F11 := F4.same W10
  have F12 := F3.other W10 (Or.inr (slot_ne (Or.inr (hw _ (List.mem_of_getElem? (i := 40) rfl))) (Or.inr (hw _ (List.mem_of_getElem? (i := 42) rfl))) (by decide) (t := .int) (t' := .long) (by decide) (by decide)))
  have F13 := F5.other W10 (Or.inr (slot_ne (Or.inl (hw _ (List.mem_of_getElem? (i := 66) rfl))) (Or.inr (hw _ (List.mem_of_getElem? (i := 42) rfl))) (by decide) (t := .int) (t' := .long) (by decide) (by decide)))
  have F14 := F6.other W10 (Or.inr (slot_ne (Or.inl (hw _ (List.mem_of_getElem? (i := 54) rfl))) (Or.inr (hw _ (List.mem_of_getElem? (i := 42) rfl))) (by decide) (t := .long) (t' := .long) (by decide) (by decide)))
  have F15 := F7.other W10 (Or.inr (slot_ne (Or.inl (hw _ (List.mem_of_getElem? (i := 68) rfl))) (Or.inr (hw _ (List.mem_of_getElem? (i := 42) rfl))) (by decide) (t := .boolean) (t' := .long) (by decide) (by decide)))
  have A16 := A8.wr W10
  have Z17 := Nat.le_trans Z9 (Keep.of_wr W10).1
  have K10 := K2.wr W10 (Or.inl (List.mem_of_getElem? (i := 0) rfl))
  have N10 := Fr.snoc X10 N2 g_o0
  refine own_step st10 ?_
  show own_Run p e below s _ _ _ T10 (mkF m 14 #[.val (.ref o0), .val (.int p1), .val (.long q2), .second] [])
  refine own_retV X10 hx Bd.returns (hb hby d5_14) (BodyLoose.notSynchronized Bd) (by decide) (by decide) ?_
  rw [show T10.heap = h10 from e10]
  exact ⟨rfl, N10, K10, F12, F11, F13, F14, F15⟩
theorem d8_0 : decode prog_20_method_6_code 0 = .ok (.aload_n 0, 1) := by decide +kernel
theorem d8_1 : decode prog_20_method_6_code 1 = .ok (.getfield 13, 3) := by decide +kernel
theorem d8_4 : decode prog_20_method_6_code 4 = .ok (.areturn, 1) := by decide +kernel
theorem pn_rm8 : plainName "com/example/ladel/ladel/broker/Topic$Message" = true := by first | (simp [plainName, overriddenIn]; done) | decide +kernel
theorem ef_rm8 (m : MethodId) (o0 : Addr) : entryFrame m #[(.ref o0)] 1 = mkF m 0 #[.val (.ref o0)] [] := by first | (simp [entryFrame, mkF, argsToLocals, Value.category, maxLocals]; done) | rfl
def rm8_Q (Z : State) (o0 : Addr) (cx : Addr) (h0 : Heap) (n0 : Nat) (v : Option Value) (h : Heap) (L : List Loc) : Prop := v = some (.ref cx) ∧ Fr n0 L ∧ h = h0
set_option maxRecDepth 65536 in
set_option maxHeartbeats 40000000 in
theorem rm8 (l : Launch) (Z : State) (a0 : Array Value) (hw : ∀ d ∈ tables_1, d.before a0 Z = true) (ws : List Jvm.Cond) (o0 : Addr) (cx : Addr) (h0 : Heap) (n0 : Nat) (Z0 : n0 ≤ h0.size) (F_content_o0 : Fld Z h0 o0 "com/example/ladel/ladel/broker/Topic$Message" "content" "Lcom/example/ladel/ladel/store/Journal$Location;" (.ref cx)) :
    MetFree l (⟨"com/example/ladel/ladel/broker/Topic$Message", "content", "()Lcom/example/ladel/ladel/store/Journal$Location;"⟩ : MethodName) (head1 (Jvm.Cond.code (⟨"com/example/ladel/ladel/broker/Topic$Message", "content", "()Lcom/example/ladel/ladel/store/Journal$Location;"⟩ : MethodName) prog_20_method_6_code 1 (some (.object "com/example/ladel/ladel/store/Journal$Location")) :: ws) ({ frames := 0, cells := 0, slots := 0, locals := 0 } : Room)) (fun a U => a = #[(.ref o0)] ∧ Z.Warmed39 U.vm ∧ U.heap = h0) (fun _ _ _ _ _ => True) (fun _ U o U' => ∃ v L, o = .returned v ∧ rm8_Q Z o0 cx h0 n0 v U'.heap L ∧ FrameEnd U o U' L ({ frames := 0, cells := 0, slots := 0, locals := 0 } : Room).cells ({ frames := 0, cells := 0, slots := 0, locals := 0 } : Room).slots) := by
  refine MetFree.of_bodySF (plainFor_of_name pn_rm8) hisR ?_
  intro p e s m args below meth c s₁ Bd hml0 hP hK
  obtain ⟨rfl, hZ, hh⟩ := hP
  have hx := Bd.exec
  have hby := Bd.bytes
  have hml : c.maxLocals = 1 := hml0
  have hown : s.vm.findClass "com/example/ladel/ladel/broker/Topic$Message" = some m.cls := findClass_of_methodNamed Bd.named
  have hnm := (name_of_methodNamed Bd.named Bd.method).1
  have X0 : Stand p l e ({ frames := 0, cells := 0, slots := 0, locals := 0 } : Room) s m #[(.ref o0)] below meth c s₁ [] 0 0 := Stand.of_body Bd
  have e0 : s₁.heap = h0 := by rw [← hh, Bd.state]; rfl
  have N0 := Fr.nil n0
  refine own_enter (QQ := rm8_Q Z o0 cx h0 n0) (ef_rm8 m o0) ?_
  show own_Run p e below s _ _ _ s₁ (mkF m 0 #[.val (.ref o0)] [])
  refine own_step (T' := s₁) (g' := (mkF m 1 #[.val (.ref o0)] [(.ref o0)])) (fun t k => ?_) ?_
  · show Steps p.tables e below (s₁.setTop (mkF m 0 #[.val (.ref o0)] [])) _
    refine XS.aloadN X0.here hx rfl (hb hby d8_0) rfl rfl ?_
    show Steps p.tables e below (s₁.setTop (mkF m 1 #[.val (.ref o0)] [(.ref o0)])) _
    exact k
  obtain ⟨T1, X1, e1, st1⟩ := getF X0 hx hZ hown (host := "") (Or.inl (hw _ (List.mem_of_getElem? (i := 28) rfl))) Via.refl e0 F_content_o0 (g := (mkF m 1 #[.val (.ref o0)] [(.ref o0)])) rfl rfl (hb hby d8_1)
  refine own_step st1 ?_
  show own_Run p e below s _ _ _ T1 (mkF m 4 #[.val (.ref o0)] [(.ref cx)])
  refine own_retA X1 hx Bd.returns rfl rfl (hb hby d8_4) (BodyLoose.notSynchronized Bd) (by decide) (by decide) ?_
  rw [show T1.heap = h0 from e1]
  exact ⟨rfl, N0, rfl⟩
theorem d9_0 : decode prog_27_method_6_code 0 = .ok (.aload_n 0, 1) := by decide +kernel
theorem d9_1 : decode prog_27_method_6_code 1 = .ok (.getfield 13, 3) := by decide +kernel
theorem d9_4 : decode prog_27_method_6_code 4 = .ok (.ireturn, 1) := by decide +kernel
theorem pn_rm9 : plainName "com/example/ladel/ladel/store/Journal$Location" = true := by first | (simp [plainName, overriddenIn]; done) | decide +kernel
theorem ef_rm9 (m : MethodId) (o0 : Addr) : entryFrame m #[(.ref o0)] 1 = mkF m 0 #[.val (.ref o0)] [] := by first | (simp [entryFrame, mkF, argsToLocals, Value.category, maxLocals]; done) | rfl
def rm9_Q (Z : State) (o0 : Addr) (n : Int32) (h0 : Heap) (n0 : Nat) (v : Option Value) (h : Heap) (L : List Loc) : Prop := v = some (.int n) ∧ Fr n0 L ∧ h = h0
set_option maxRecDepth 65536 in
set_option maxHeartbeats 40000000 in
theorem rm9 (l : Launch) (Z : State) (a0 : Array Value) (hw : ∀ d ∈ tables_1, d.before a0 Z = true) (ws : List Jvm.Cond) (o0 : Addr) (n : Int32) (h0 : Heap) (n0 : Nat) (Z0 : n0 ≤ h0.size) (F_length_o0 : Fld Z h0 o0 "com/example/ladel/ladel/store/Journal$Location" "length" "I" (.int n)) :
    MetFree l (⟨"com/example/ladel/ladel/store/Journal$Location", "length", "()I"⟩ : MethodName) (head1 (Jvm.Cond.code (⟨"com/example/ladel/ladel/store/Journal$Location", "length", "()I"⟩ : MethodName) prog_27_method_6_code 1 (some .int) :: ws) ({ frames := 0, cells := 0, slots := 0, locals := 0 } : Room)) (fun a U => a = #[(.ref o0)] ∧ Z.Warmed39 U.vm ∧ U.heap = h0) (fun _ _ _ _ _ => True) (fun _ U o U' => ∃ v L, o = .returned v ∧ rm9_Q Z o0 n h0 n0 v U'.heap L ∧ FrameEnd U o U' L ({ frames := 0, cells := 0, slots := 0, locals := 0 } : Room).cells ({ frames := 0, cells := 0, slots := 0, locals := 0 } : Room).slots) := by
  refine MetFree.of_bodySF (plainFor_of_name pn_rm9) hisR ?_
  intro p e s m args below meth c s₁ Bd hml0 hP hK
  obtain ⟨rfl, hZ, hh⟩ := hP
  have hx := Bd.exec
  have hby := Bd.bytes
  have hml : c.maxLocals = 1 := hml0
  have hown : s.vm.findClass "com/example/ladel/ladel/store/Journal$Location" = some m.cls := findClass_of_methodNamed Bd.named
  have hnm := (name_of_methodNamed Bd.named Bd.method).1
  have X0 : Stand p l e ({ frames := 0, cells := 0, slots := 0, locals := 0 } : Room) s m #[(.ref o0)] below meth c s₁ [] 0 0 := Stand.of_body Bd
  have e0 : s₁.heap = h0 := by rw [← hh, Bd.state]; rfl
  have N0 := Fr.nil n0
  refine own_enter (QQ := rm9_Q Z o0 n h0 n0) (ef_rm9 m o0) ?_
  show own_Run p e below s _ _ _ s₁ (mkF m 0 #[.val (.ref o0)] [])
  refine own_step (T' := s₁) (g' := (mkF m 1 #[.val (.ref o0)] [(.ref o0)])) (fun t k => ?_) ?_
  · show Steps p.tables e below (s₁.setTop (mkF m 0 #[.val (.ref o0)] [])) _
    refine XS.aloadN X0.here hx rfl (hb hby d9_0) rfl rfl ?_
    show Steps p.tables e below (s₁.setTop (mkF m 1 #[.val (.ref o0)] [(.ref o0)])) _
    exact k
  obtain ⟨T1, X1, e1, st1⟩ := getF X0 hx hZ hown (host := "") (Or.inl (hw _ (List.mem_of_getElem? (i := 20) rfl))) Via.refl e0 F_length_o0 (g := (mkF m 1 #[.val (.ref o0)] [(.ref o0)])) rfl rfl (hb hby d9_1)
  refine own_step st1 ?_
  show own_Run p e below s _ _ _ T1 (mkF m 4 #[.val (.ref o0)] [(.int n)])
  refine own_retI X1 hx Bd.returns (hb hby d9_4) (BodyLoose.notSynchronized Bd) (by decide) (by decide) ?_
  rw [show T1.heap = h0 from e1]
  exact ⟨rfl, N0, rfl⟩
theorem d10_0 : decode prog_15_method_3_code 0 = .ok (.aload_n 0, 1) := by decide +kernel
theorem d10_1 : decode prog_15_method_3_code 1 = .ok (.getfield 35, 3) := by decide +kernel
theorem d10_4 : decode prog_15_method_3_code 4 = .ok (.ireturn, 1) := by decide +kernel
theorem pn_rm10 : plainName "com/example/ladel/ladel/broker/Room" = true := by first | (simp [plainName, overriddenIn]; done) | decide +kernel
theorem ef_rm10 (m : MethodId) (o0 : Addr) : entryFrame m #[(.ref o0)] 1 = mkF m 0 #[.val (.ref o0)] [] := by first | (simp [entryFrame, mkF, argsToLocals, Value.category, maxLocals]; done) | rfl
def rm10_Q (Z : State) (o0 : Addr) (f : Int32) (h0 : Heap) (n0 : Nat) (v : Option Value) (h : Heap) (L : List Loc) : Prop := v = some (.int (nar .boolean f)) ∧ Fr n0 L ∧ h = h0
set_option maxRecDepth 65536 in
set_option maxHeartbeats 40000000 in
theorem rm10 (l : Launch) (Z : State) (a0 : Array Value) (hw : ∀ d ∈ tables_1, d.before a0 Z = true) (ws : List Jvm.Cond) (o0 : Addr) (f : Int32) (h0 : Heap) (n0 : Nat) (Z0 : n0 ≤ h0.size) (F_full_o0 : Fld Z h0 o0 "com/example/ladel/ladel/broker/Room" "full" "Z" (.int f)) :
    MetFree l (⟨"com/example/ladel/ladel/broker/Room", "full", "()Z"⟩ : MethodName) (head1 (Jvm.Cond.code (⟨"com/example/ladel/ladel/broker/Room", "full", "()Z"⟩ : MethodName) prog_15_method_3_code 1 (some .boolean) :: ws) ({ frames := 0, cells := 0, slots := 0, locals := 0 } : Room)) (fun a U => a = #[(.ref o0)] ∧ Z.Warmed39 U.vm ∧ U.heap = h0) (fun _ _ _ _ _ => True) (fun _ U o U' => ∃ v L, o = .returned v ∧ rm10_Q Z o0 f h0 n0 v U'.heap L ∧ FrameEnd U o U' L ({ frames := 0, cells := 0, slots := 0, locals := 0 } : Room).cells ({ frames := 0, cells := 0, slots := 0, locals := 0 } : Room).slots) := by
  refine MetFree.of_bodySF (plainFor_of_name pn_rm10) hisR ?_
  intro p e s m args below meth c s₁ Bd hml0 hP hK
  obtain ⟨rfl, hZ, hh⟩ := hP
  have hx := Bd.exec
  have hby := Bd.bytes
  have hml : c.maxLocals = 1 := hml0
  have hown : s.vm.findClass "com/example/ladel/ladel/broker/Room" = some m.cls := findClass_of_methodNamed Bd.named
  have hnm := (name_of_methodNamed Bd.named Bd.method).1
  have X0 : Stand p l e ({ frames := 0, cells := 0, slots := 0, locals := 0 } : Room) s m #[(.ref o0)] below meth c s₁ [] 0 0 := Stand.of_body Bd
  have e0 : s₁.heap = h0 := by rw [← hh, Bd.state]; rfl
  have N0 := Fr.nil n0
  refine own_enter (QQ := rm10_Q Z o0 f h0 n0) (ef_rm10 m o0) ?_
  show own_Run p e below s _ _ _ s₁ (mkF m 0 #[.val (.ref o0)] [])
  refine own_step (T' := s₁) (g' := (mkF m 1 #[.val (.ref o0)] [(.ref o0)])) (fun t k => ?_) ?_
  · show Steps p.tables e below (s₁.setTop (mkF m 0 #[.val (.ref o0)] [])) _
    refine XS.aloadN X0.here hx rfl (hb hby d10_0) rfl rfl ?_
    show Steps p.tables e below (s₁.setTop (mkF m 1 #[.val (.ref o0)] [(.ref o0)])) _
    exact k
  obtain ⟨T1, X1, e1, st1⟩ := getF X0 hx hZ hown (host := "") (Or.inl (hw _ (List.mem_of_getElem? (i := 67) rfl))) Via.refl e0 F_full_o0 (g := (mkF m 1 #[.val (.ref o0)] [(.ref o0)])) rfl rfl (hb hby d10_1)
  refine own_step st1 ?_
  show own_Run p e below s _ _ _ T1 (mkF m 4 #[.val (.ref o0)] [(.int f)])
  refine own_retN X1 hx (t := .boolean) Bd.returns (by simp) (hb hby d10_4) (BodyLoose.notSynchronized Bd) (by decide) (by decide) ?_
  rw [show T1.heap = h0 from e1]
  exact ⟨rfl, N0, rfl⟩
def own_full (m_ M : Int32) (S X : Int64) : Int32 := if m_ = M then 1 else if 0 < m_ then (if 0 < lcmpW S X then 1 else 0) else 0
def own_sel32 (f a b : Int32) : Int32 := if f = 0 then a else b
def own_sel64 (f : Int32) (a b : Int64) : Int64 := if f = 0 then a else b
theorem d7_0 : decode prog_15_method_2_code 0 = .ok (.aload_n 0, 1) := by decide +kernel
theorem d7_1 : decode prog_15_method_2_code 1 = .ok (.getfield 17, 3) := by decide +kernel
theorem d7_4 : decode prog_15_method_2_code 4 = .ok (.aload_n 1, 1) := by decide +kernel
theorem d7_5 : decode prog_15_method_2_code 5 = .ok (.invokevirtual 20, 3) := by decide +kernel
theorem d7_8 : decode prog_15_method_2_code 8 = .ok (.invokevirtual 26, 3) := by decide +kernel
theorem d7_11 : decode prog_15_method_2_code 11 = .ok (.i2l, 1) := by decide +kernel
theorem d7_12 : decode prog_15_method_2_code 12 = .ok (.ladd, 1) := by decide +kernel
theorem d7_13 : decode prog_15_method_2_code 13 = .ok (.lstore_n 2, 1) := by decide +kernel
theorem d7_14 : decode prog_15_method_2_code 14 = .ok (.aload_n 0, 1) := by decide +kernel
theorem d7_15 : decode prog_15_method_2_code 15 = .ok (.aload_n 0, 1) := by decide +kernel
theorem d7_16 : decode prog_15_method_2_code 16 = .ok (.getfield 32, 3) := by decide +kernel
theorem d7_19 : decode prog_15_method_2_code 19 = .ok (.aload_n 0, 1) := by decide +kernel
theorem d7_20 : decode prog_15_method_2_code 20 = .ok (.getfield 7, 3) := by decide +kernel
theorem d7_23 : decode prog_15_method_2_code 23 = .ok (.if_icmp .eq 19, 3) := by decide +kernel
theorem d7_26 : decode prog_15_method_2_code 26 = .ok (.aload_n 0, 1) := by decide +kernel
theorem d7_27 : decode prog_15_method_2_code 27 = .ok (.getfield 32, 3) := by decide +kernel
theorem d7_30 : decode prog_15_method_2_code 30 = .ok (.ifCond .le 16, 3) := by decide +kernel
theorem d7_33 : decode prog_15_method_2_code 33 = .ok (.lload_n 2, 1) := by decide +kernel
theorem d7_34 : decode prog_15_method_2_code 34 = .ok (.aload_n 0, 1) := by decide +kernel
theorem d7_35 : decode prog_15_method_2_code 35 = .ok (.getfield 13, 3) := by decide +kernel
theorem d7_38 : decode prog_15_method_2_code 38 = .ok (.lcmp, 1) := by decide +kernel
theorem d7_39 : decode prog_15_method_2_code 39 = .ok (.ifCond .le 7, 3) := by decide +kernel
theorem d7_42 : decode prog_15_method_2_code 42 = .ok (.iconst 1, 1) := by decide +kernel
theorem d7_43 : decode prog_15_method_2_code 43 = .ok (.goto 4, 3) := by decide +kernel
theorem d7_46 : decode prog_15_method_2_code 46 = .ok (.iconst 0, 1) := by decide +kernel
theorem d7_47 : decode prog_15_method_2_code 47 = .ok (.putfield 35, 3) := by decide +kernel
theorem d7_50 : decode prog_15_method_2_code 50 = .ok (.aload_n 0, 1) := by decide +kernel
theorem d7_51 : decode prog_15_method_2_code 51 = .ok (.getfield 35, 3) := by decide +kernel
theorem d7_54 : decode prog_15_method_2_code 54 = .ok (.ifCond .ne 18, 3) := by decide +kernel
theorem d7_57 : decode prog_15_method_2_code 57 = .ok (.aload_n 0, 1) := by decide +kernel
theorem d7_58 : decode prog_15_method_2_code 58 = .ok (.dup, 1) := by decide +kernel
theorem d7_59 : decode prog_15_method_2_code 59 = .ok (.getfield 32, 3) := by decide +kernel
theorem d7_62 : decode prog_15_method_2_code 62 = .ok (.iconst 1, 1) := by decide +kernel
theorem d7_63 : decode prog_15_method_2_code 63 = .ok (.iadd, 1) := by decide +kernel
theorem d7_64 : decode prog_15_method_2_code 64 = .ok (.putfield 32, 3) := by decide +kernel
theorem d7_67 : decode prog_15_method_2_code 67 = .ok (.aload_n 0, 1) := by decide +kernel
theorem d7_68 : decode prog_15_method_2_code 68 = .ok (.lload_n 2, 1) := by decide +kernel
theorem d7_69 : decode prog_15_method_2_code 69 = .ok (.putfield 17, 3) := by decide +kernel
theorem d7_72 : decode prog_15_method_2_code 72 = .ok (.aload_n 0, 1) := by decide +kernel
theorem d7_73 : decode prog_15_method_2_code 73 = .ok (.getfield 35, 3) := by decide +kernel
theorem d7_76 : decode prog_15_method_2_code 76 = .ok (.ifCond .ne 7, 3) := by decide +kernel
theorem d7_79 : decode prog_15_method_2_code 79 = .ok (.iconst 1, 1) := by decide +kernel
theorem d7_80 : decode prog_15_method_2_code 80 = .ok (.goto 4, 3) := by decide +kernel
theorem d7_83 : decode prog_15_method_2_code 83 = .ok (.iconst 0, 1) := by decide +kernel
theorem d7_84 : decode prog_15_method_2_code 84 = .ok (.ireturn, 1) := by decide +kernel
theorem pn_rm7 : plainName "com/example/ladel/ladel/broker/Room" = true := by first | (simp [plainName, overriddenIn]; done) | decide +kernel
theorem ef_rm7 (m : MethodId) (o0 : Addr) (o1 : Addr) : entryFrame m #[(.ref o0), (.ref o1)] 4 = mkF m 0 #[.val (.ref o0), .val (.ref o1), .unset, .unset] [] := by first | (simp [entryFrame, mkF, argsToLocals, Value.category, maxLocals]; done) | rfl
def rm7_Q (Z : State) (o0 : Addr) (o1 : Addr) (cx : Addr) (M : Int32) (X : Int64) (m_ : Int32) (B : Int64) (u : Int32) (n : Int32) (f : Int32) (h0 : Heap) (n0 : Nat) (v : Option Value) (h : Heap) (L : List Loc) : Prop := v = some (.int (own_sel32 f 1 0)) ∧ Fr n0 L ∧ Keep h0 h [o0] ∧ Exa Z h o0 "com/example/ladel/ladel/broker/Room" ∧ Fld Z h o0 "com/example/ladel/ladel/broker/Room" "maxMessages" "I" (.int M) ∧ Fld Z h o0 "com/example/ladel/ladel/broker/Room" "maxBytes" "J" (.long X) ∧ Fld Z h o0 "com/example/ladel/ladel/broker/Room" "messages" "I" (.int (own_sel32 f (m_ + 1) m_)) ∧ Fld Z h o0 "com/example/ladel/ladel/broker/Room" "bytes" "J" (.long (own_sel64 f (B + n.toInt64) B)) ∧ Fld Z h o0 "com/example/ladel/ladel/broker/Room" "full" "Z" (.int f)
set_option maxRecDepth 65536 in
set_option maxHeartbeats 40000000 in
theorem rm7 (l : Launch) (Z : State) (a0 : Array Value) (hw : ∀ d ∈ tables_1, d.before a0 Z = true) (ws : List Jvm.Cond) (o0 : Addr) (o1 : Addr) (cx : Addr) (M : Int32) (X : Int64) (m_ : Int32) (B : Int64) (u : Int32) (n : Int32) (f : Int32) (h0 : Heap) (n0 : Nat) (Z0 : n0 ≤ h0.size) (hf : own_full m_ M (B + n.toInt64) X = f) (E_o0 : Exa Z h0 o0 "com/example/ladel/ladel/broker/Room") (F_maxMessages_o0 : Fld Z h0 o0 "com/example/ladel/ladel/broker/Room" "maxMessages" "I" (.int M)) (F_maxBytes_o0 : Fld Z h0 o0 "com/example/ladel/ladel/broker/Room" "maxBytes" "J" (.long X)) (F_messages_o0 : Fld Z h0 o0 "com/example/ladel/ladel/broker/Room" "messages" "I" (.int m_)) (F_bytes_o0 : Fld Z h0 o0 "com/example/ladel/ladel/broker/Room" "bytes" "J" (.long B)) (F_full_o0 : Fld Z h0 o0 "com/example/ladel/ladel/broker/Room" "full" "Z" (.int u)) (g_o0 : n0 ≤ o0) (E_o1 : Exa Z h0 o1 "com/example/ladel/ladel/broker/Topic$Message") (F_content_o1 : Fld Z h0 o1 "com/example/ladel/ladel/broker/Topic$Message" "content" "Lcom/example/ladel/ladel/store/Journal$Location;" (.ref cx)) (E_cx : Exa Z h0 cx "com/example/ladel/ladel/store/Journal$Location") (F_length_cx : Fld Z h0 cx "com/example/ladel/ladel/store/Journal$Location" "length" "I" (.int n)) :
    MetFree l (⟨"com/example/ladel/ladel/broker/Room", "take", "(Lcom/example/ladel/ladel/broker/Topic$Message;)Z"⟩ : MethodName) (head1 (Jvm.Cond.code (⟨"com/example/ladel/ladel/broker/Room", "take", "(Lcom/example/ladel/ladel/broker/Topic$Message;)Z"⟩ : MethodName) prog_15_method_2_code 4 (some .boolean) :: ws) ({ frames := 1, cells := 0, slots := 0, locals := 14 } : Room)) (fun a U => a = #[(.ref o0), (.ref o1)] ∧ Z.Warmed39 U.vm ∧ U.heap = h0) (fun _ _ _ _ _ => True) (fun _ U o U' => ∃ v L, o = .returned v ∧ rm7_Q Z o0 o1 cx M X m_ B u n f h0 n0 v U'.heap L ∧ FrameEnd U o U' L ({ frames := 1, cells := 0, slots := 0, locals := 14 } : Room).cells ({ frames := 1, cells := 0, slots := 0, locals := 14 } : Room).slots) := by
  refine MetFree.of_bodySF (plainFor_of_name pn_rm7) hisR ?_
  intro p e s m args below meth c s₁ Bd hml0 hP hK
  obtain ⟨rfl, hZ, hh⟩ := hP
  have hx := Bd.exec
  have hby := Bd.bytes
  have hml : c.maxLocals = 4 := hml0
  have hown : s.vm.findClass "com/example/ladel/ladel/broker/Room" = some m.cls := findClass_of_methodNamed Bd.named
  have hnm := (name_of_methodNamed Bd.named Bd.method).1
  have X0 : Stand p l e ({ frames := 1, cells := 0, slots := 0, locals := 14 } : Room) s m #[(.ref o0), (.ref o1)] below meth c s₁ [] 0 0 := Stand.of_body Bd
  have e0 : s₁.heap = h0 := by rw [← hh, Bd.state]; rfl
  have N0 := Fr.nil n0
  have K0 := Keep.refl h0 [o0]
  refine own_enter (QQ := rm7_Q Z o0 o1 cx M X m_ B u n f h0 n0) (ef_rm7 m o0 o1) ?_
  show own_Run p e below s _ _ _ s₁ (mkF m 0 #[.val (.ref o0), .val (.ref o1), .unset, .unset] [])
  refine own_step (T' := s₁) (g' := (mkF m 1 #[.val (.ref o0), .val (.ref o1), .unset, .unset] [(.ref o0)])) (fun t k => ?_) ?_
  · show Steps p.tables e below (s₁.setTop (mkF m 0 #[.val (.ref o0), .val (.ref o1), .unset, .unset] [])) _
    refine XS.aloadN X0.here hx rfl (hb hby d7_0) rfl rfl ?_
    show Steps p.tables e below (s₁.setTop (mkF m 1 #[.val (.ref o0), .val (.ref o1), .unset, .unset] [(.ref o0)])) _
    exact k
  obtain ⟨T1, X1, e1, st1⟩ := getF X0 hx hZ hown (host := "") (Or.inl (hw _ (List.mem_of_getElem? (i := 53) rfl))) Via.refl e0 F_bytes_o0 (g := (mkF m 1 #[.val (.ref o0), .val (.ref o1), .unset, .unset] [(.ref o0)])) rfl rfl (hb hby d7_1)
  refine own_step st1 ?_
  show own_Run p e below s _ _ _ T1 (mkF m 4 #[.val (.ref o0), .val (.ref o1), .unset, .unset] [(.long B)])
  refine own_step (T' := T1) (g' := (mkF m 5 #[.val (.ref o0), .val (.ref o1), .unset, .unset] [(.ref o1), (.long B)])) (fun t k => ?_) ?_
  · show Steps p.tables e below (T1.setTop (mkF m 4 #[.val (.ref o0), .val (.ref o1), .unset, .unset] [(.long B)])) _
    refine XS.aloadN X1.here hx rfl (hb hby d7_4) rfl rfl ?_
    show Steps p.tables e below (T1.setTop (mkF m 5 #[.val (.ref o0), .val (.ref o1), .unset, .unset] [(.ref o1), (.long B)])) _
    exact k
  obtain ⟨cq2, kq2, q2a, q2b, q2c⟩ := isOf hZ e1 E_o1
  obtain ⟨_, _, ⟨T2, L2, k2, n2⟩, -, X2, ⟨Lc2, hQ2, l2, y2, z2⟩, st2⟩ := X1.virtualBack hx (y := (⟨"com/example/ladel/ladel/broker/Topic$Message", "content", "()Lcom/example/ladel/ladel/store/Journal$Location;"⟩ : MethodName)) (z := (⟨"com/example/ladel/ladel/broker/Topic$Message", "content", "()Lcom/example/ladel/ladel/store/Journal$Location;"⟩ : MethodName)) hown (mvT hZ (hw _ (List.mem_of_getElem? (i := 55) rfl))) (mvT hZ (hw _ (List.mem_of_getElem? (i := 56) rfl))) (notFace_of_selects (args := #[]) (mvT hZ (hw _ (List.mem_of_getElem? (i := 58) rfl)))) (mvT hZ (hw _ (List.mem_of_getElem? (i := 58) rfl))) (mvT hZ (hw _ (List.mem_of_getElem? (i := 57) rfl))) (by decide) (backOf (W := 2) (rm8 l Z a0 hw [] o1 cx h0 n0 Z0 F_content_o1) hZ (hw _ (List.mem_of_getElem? (i := 59) rfl)) (hw _ (List.mem_of_getElem? (i := 3) rfl)) (by decide) (by decide)) q2a q2c (g := (mkF m 5 #[.val (.ref o0), .val (.ref o1), .unset, .unset] [(.ref o1), (.long B)])) rfl (by rw [hml]; rfl) (Steps.refl _) (argsL := []) (rest := [(.long B)]) (lenOf pd_1 rfl) rfl (by show 2 * 0 + _ ≤ _; exact Nat.le_of_eq rfl) (hb hby d7_5) (fun _ _ => ⟨rfl, e1, (by decide : 0 + 0 ≤ _), (by decide : 0 + 0 ≤ _)⟩)
  dsimp only [Pt.U, Pt.locs, Pt.cells, Pt.slots] at X2 l2 y2 z2 st2 hQ2
  subst l2 y2 z2
  obtain ⟨rfl, N2q, eq2⟩ := hQ2
  have N2 := Fr.app N0 N2q
  refine own_step (fun t k => st2.trans k) ?_
  show own_Run p e below s _ _ _ T2 (mkF m 8 #[.val (.ref o0), .val (.ref o1), .unset, .unset] [(.ref cx), (.long B)])
  obtain ⟨cq3, kq3, q3a, q3b, q3c⟩ := isOf hZ eq2 E_cx
  obtain ⟨_, _, ⟨T3, L3, k3, n3⟩, -, X3, ⟨Lc3, hQ3, l3, y3, z3⟩, st3⟩ := X2.virtualBack hx (y := (⟨"com/example/ladel/ladel/store/Journal$Location", "length", "()I"⟩ : MethodName)) (z := (⟨"com/example/ladel/ladel/store/Journal$Location", "length", "()I"⟩ : MethodName)) hown (mvT hZ (hw _ (List.mem_of_getElem? (i := 60) rfl))) (mvT hZ (hw _ (List.mem_of_getElem? (i := 61) rfl))) (notFace_of_selects (args := #[]) (mvT hZ (hw _ (List.mem_of_getElem? (i := 63) rfl)))) (mvT hZ (hw _ (List.mem_of_getElem? (i := 63) rfl))) (mvT hZ (hw _ (List.mem_of_getElem? (i := 62) rfl))) (by decide) (backOf (W := 2) (rm9 l Z a0 hw [] cx n h0 n0 Z0 F_length_cx) hZ (hw _ (List.mem_of_getElem? (i := 64) rfl)) (hw _ (List.mem_of_getElem? (i := 6) rfl)) (by decide) (by decide)) q3a q3c (g := (mkF m 8 #[.val (.ref o0), .val (.ref o1), .unset, .unset] [(.ref cx), (.long B)])) rfl (by rw [hml]; rfl) (Steps.refl _) (argsL := []) (rest := [(.long B)]) (lenOf pd_2 rfl) rfl (by show 2 * 0 + _ ≤ _; exact Nat.le_of_eq rfl) (hb hby d7_8) (fun _ _ => ⟨rfl, eq2, (by decide : 0 + 0 ≤ _), (by decide : 0 + 0 ≤ _)⟩)
  dsimp only [Pt.U, Pt.locs, Pt.cells, Pt.slots] at X3 l3 y3 z3 st3 hQ3
  subst l3 y3 z3
  obtain ⟨rfl, N3q, eq3⟩ := hQ3
  have N3 := Fr.app N2 N3q
  refine own_step (fun t k => st3.trans k) ?_
  show own_Run p e below s _ _ _ T3 (mkF m 11 #[.val (.ref o0), .val (.ref o1), .unset, .unset] [(.int n), (.long B)])
  refine own_step (T' := T3) (g' := (mkF m 14 #[.val (.ref o0), .val (.ref o1), .val (.long (B + (n.toInt64))), .second] [])) (fun t k => ?_) ?_
  · show Steps p.tables e below (T3.setTop (mkF m 11 #[.val (.ref o0), .val (.ref o1), .unset, .unset] [(.int n), (.long B)])) _
    refine XS.i2l X3.here hx rfl (hb hby d7_11) rfl ?_
    show Steps p.tables e below (T3.setTop (mkF m 12 #[.val (.ref o0), .val (.ref o1), .unset, .unset] [(.long (n.toInt64)), (.long B)])) _
    refine XS.ladd X3.here hx rfl (hb hby d7_12) rfl ?_
    show Steps p.tables e below (T3.setTop (mkF m 13 #[.val (.ref o0), .val (.ref o1), .unset, .unset] [(.long (B + (n.toInt64)))])) _
    refine XS.lstoreN X3.here hx rfl (hb hby d7_13) rfl (l' := #[.val (.ref o0), .val (.ref o1), .val (.long (B + (n.toInt64))), .second]) rfl ?_
    show Steps p.tables e below (T3.setTop (mkF m 14 #[.val (.ref o0), .val (.ref o1), .val (.long (B + (n.toInt64))), .second] [])) _
    exact k
  generalize e_S_ : (B + (n.toInt64)) = S_
  show own_Run p e below s _ _ _ T3 (mkF m 14 #[.val (.ref o0), .val (.ref o1), .val (.long S_), .second] [])
  refine own_step (T' := T3) (g' := (mkF m 16 #[.val (.ref o0), .val (.ref o1), .val (.long S_), .second] [(.ref o0), (.ref o0)])) (fun t k => ?_) ?_
  · show Steps p.tables e below (T3.setTop (mkF m 14 #[.val (.ref o0), .val (.ref o1), .val (.long S_), .second] [])) _
    refine XS.aloadN X3.here hx rfl (hb hby d7_14) rfl rfl ?_
    show Steps p.tables e below (T3.setTop (mkF m 15 #[.val (.ref o0), .val (.ref o1), .val (.long S_), .second] [(.ref o0)])) _
    refine XS.aloadN X3.here hx rfl (hb hby d7_15) rfl rfl ?_
    show Steps p.tables e below (T3.setTop (mkF m 16 #[.val (.ref o0), .val (.ref o1), .val (.long S_), .second] [(.ref o0), (.ref o0)])) _
    exact k
  obtain ⟨T4, X4, e4, st4⟩ := getF X3 hx hZ hown (host := "") (Or.inl (hw _ (List.mem_of_getElem? (i := 65) rfl))) Via.refl eq3 F_messages_o0 (g := (mkF m 16 #[.val (.ref o0), .val (.ref o1), .val (.long S_), .second] [(.ref o0), (.ref o0)])) rfl rfl (hb hby d7_16)
  refine own_step st4 ?_
  show own_Run p e below s _ _ _ T4 (mkF m 19 #[.val (.ref o0), .val (.ref o1), .val (.long S_), .second] [(.int m_), (.ref o0)])
  refine own_step (T' := T4) (g' := (mkF m 20 #[.val (.ref o0), .val (.ref o1), .val (.long S_), .second] [(.ref o0), (.int m_), (.ref o0)])) (fun t k => ?_) ?_
  · show Steps p.tables e below (T4.setTop (mkF m 19 #[.val (.ref o0), .val (.ref o1), .val (.long S_), .second] [(.int m_), (.ref o0)])) _
    refine XS.aloadN X4.here hx rfl (hb hby d7_19) rfl rfl ?_
    show Steps p.tables e below (T4.setTop (mkF m 20 #[.val (.ref o0), .val (.ref o1), .val (.long S_), .second] [(.ref o0), (.int m_), (.ref o0)])) _
    exact k
  obtain ⟨T5, X5, e5, st5⟩ := getF X4 hx hZ hown (host := "") (Or.inl (hw _ (List.mem_of_getElem? (i := 39) rfl))) Via.refl e4 F_maxMessages_o0 (g := (mkF m 20 #[.val (.ref o0), .val (.ref o1), .val (.long S_), .second] [(.ref o0), (.int m_), (.ref o0)])) rfl rfl (hb hby d7_20)
  refine own_step st5 ?_
  show own_Run p e below s _ _ _ T5 (mkF m 23 #[.val (.ref o0), .val (.ref o1), .val (.long S_), .second] [(.int M), (.int m_), (.ref o0)])
  by_cases hc6 : m_ = M
  · skip
    refine own_step (T' := T5) (g' := (mkF m 47 #[.val (.ref o0), .val (.ref o1), .val (.long S_), .second] [(.int (1 : Int32)), (.ref o0)])) (fun t k => ?_) ?_
    · show Steps p.tables e below (T5.setTop (mkF m 23 #[.val (.ref o0), .val (.ref o1), .val (.long S_), .second] [(.int M), (.int m_), (.ref o0)])) _
      refine XS.icmpYes X5.here hx rfl (pc0 := 23) (pc' := 42) rfl (hb hby d7_23) rfl (teq hc6).1 (by decide) (by decide) ?_
      show Steps p.tables e below (T5.setTop (mkF m 42 #[.val (.ref o0), .val (.ref o1), .val (.long S_), .second] [(.ref o0)])) _
      refine XS.iconst X5.here hx rfl (hb hby d7_42) ?_
      show Steps p.tables e below (T5.setTop (mkF m 43 #[.val (.ref o0), .val (.ref o1), .val (.long S_), .second] [(.int (1 : Int32)), (.ref o0)])) _
      refine XS.goto X5.here hx rfl (pc0 := 43) (pc' := 47) rfl (hb hby d7_43) (by decide) (by decide) ?_
      show Steps p.tables e below (T5.setTop (mkF m 47 #[.val (.ref o0), .val (.ref o1), .val (.long S_), .second] [(.int (1 : Int32)), (.ref o0)])) _
      exact k
    obtain ⟨T7, h7, X7, e7, W7, st7⟩ := putFN X5 hx hZ hown (hw _ (List.mem_of_getElem? (i := 67) rfl)) Via.refl e5 F_full_o0 E_o0 (Or.inl (hw _ (List.mem_of_getElem? (i := 68) rfl))) (hw _ (List.mem_of_getElem? (i := 33) rfl)) (ty := .boolean) (v' := (.int (nar .boolean (1 : Int32)))) (by decide) rfl (fits_nar_bool _) (g := (mkF m 47 #[.val (.ref o0), .val (.ref o1), .val (.long S_), .second] [(.int (1 : Int32)), (.ref o0)])) rfl rfl (hb hby d7_47)
    have F8 := F_full_o0.same W7
    have F9 := F_maxMessages_o0.other W7 (Or.inr (slot_ne (Or.inr (hw _ (List.mem_of_getElem? (i := 40) rfl))) (Or.inl (hw _ (List.mem_of_getElem? (i := 68) rfl))) (by decide) (t := .int) (t' := .boolean) (by decide) (by decide)))
    have F10 := F_maxBytes_o0.other W7 (Or.inr (slot_ne (Or.inr (hw _ (List.mem_of_getElem? (i := 42) rfl))) (Or.inl (hw _ (List.mem_of_getElem? (i := 68) rfl))) (by decide) (t := .long) (t' := .boolean) (by decide) (by decide)))
    have F11 := F_messages_o0.other W7 (Or.inr (slot_ne (Or.inl (hw _ (List.mem_of_getElem? (i := 66) rfl))) (Or.inl (hw _ (List.mem_of_getElem? (i := 68) rfl))) (by decide) (t := .int) (t' := .boolean) (by decide) (by decide)))
    have F12 := F_bytes_o0.other W7 (Or.inr (slot_ne (Or.inl (hw _ (List.mem_of_getElem? (i := 54) rfl))) (Or.inl (hw _ (List.mem_of_getElem? (i := 68) rfl))) (by decide) (t := .long) (t' := .boolean) (by decide) (by decide)))
    have A13 := E_o0.wr W7
    have Z14 := Nat.le_trans Z0 (Keep.of_wr W7).1
    have K7 := K0.wr W7 (Or.inl (List.mem_of_getElem? (i := 0) rfl))
    have N7 := Fr.snoc X7 N3 g_o0
    refine own_step st7 ?_
    show own_Run p e below s _ _ _ T7 (mkF m 50 #[.val (.ref o0), .val (.ref o1), .val (.long S_), .second] [])
    refine own_step (T' := T7) (g' := (mkF m 51 #[.val (.ref o0), .val (.ref o1), .val (.long S_), .second] [(.ref o0)])) (fun t k => ?_) ?_
    · show Steps p.tables e below (T7.setTop (mkF m 50 #[.val (.ref o0), .val (.ref o1), .val (.long S_), .second] [])) _
      refine XS.aloadN X7.here hx rfl (hb hby d7_50) rfl rfl ?_
      show Steps p.tables e below (T7.setTop (mkF m 51 #[.val (.ref o0), .val (.ref o1), .val (.long S_), .second] [(.ref o0)])) _
      exact k
    obtain ⟨T15, X15, e15, st15⟩ := getF X7 hx hZ hown (host := "") (Or.inl (hw _ (List.mem_of_getElem? (i := 67) rfl))) Via.refl e7 F8 (g := (mkF m 51 #[.val (.ref o0), .val (.ref o1), .val (.long S_), .second] [(.ref o0)])) rfl rfl (hb hby d7_51)
    refine own_step st15 ?_
    show own_Run p e below s _ _ _ T15 (mkF m 54 #[.val (.ref o0), .val (.ref o1), .val (.long S_), .second] [(.int (nar .boolean (1 : Int32)))])
    refine own_step (T' := T15) (g' := (mkF m 73 #[.val (.ref o0), .val (.ref o1), .val (.long S_), .second] [(.ref o0)])) (fun t k => ?_) ?_
    · show Steps p.tables e below (T15.setTop (mkF m 54 #[.val (.ref o0), .val (.ref o1), .val (.long S_), .second] [(.int (nar .boolean (1 : Int32)))])) _
      refine XS.ifYes X15.here hx rfl (pc0 := 54) (pc' := 72) rfl (hb hby d7_54) rfl ((if0 _ _).trans (feq (by decide)).2) (by decide) (by decide) ?_
      show Steps p.tables e below (T15.setTop (mkF m 72 #[.val (.ref o0), .val (.ref o1), .val (.long S_), .second] [])) _
      refine XS.aloadN X15.here hx rfl (hb hby d7_72) rfl rfl ?_
      show Steps p.tables e below (T15.setTop (mkF m 73 #[.val (.ref o0), .val (.ref o1), .val (.long S_), .second] [(.ref o0)])) _
      exact k
    obtain ⟨T17, X17, e17, st17⟩ := getF X15 hx hZ hown (host := "") (Or.inl (hw _ (List.mem_of_getElem? (i := 67) rfl))) Via.refl e15 F8 (g := (mkF m 73 #[.val (.ref o0), .val (.ref o1), .val (.long S_), .second] [(.ref o0)])) rfl rfl (hb hby d7_73)
    refine own_step st17 ?_
    show own_Run p e below s _ _ _ T17 (mkF m 76 #[.val (.ref o0), .val (.ref o1), .val (.long S_), .second] [(.int (nar .boolean (1 : Int32)))])
    refine own_step (T' := T17) (g' := (mkF m 84 #[.val (.ref o0), .val (.ref o1), .val (.long S_), .second] [(.int (0 : Int32))])) (fun t k => ?_) ?_
    · show Steps p.tables e below (T17.setTop (mkF m 76 #[.val (.ref o0), .val (.ref o1), .val (.long S_), .second] [(.int (nar .boolean (1 : Int32)))])) _
      refine XS.ifYes X17.here hx rfl (pc0 := 76) (pc' := 83) rfl (hb hby d7_76) rfl ((if0 _ _).trans (feq (by decide)).2) (by decide) (by decide) ?_
      show Steps p.tables e below (T17.setTop (mkF m 83 #[.val (.ref o0), .val (.ref o1), .val (.long S_), .second] [])) _
      refine XS.iconst X17.here hx rfl (hb hby d7_83) ?_
      show Steps p.tables e below (T17.setTop (mkF m 84 #[.val (.ref o0), .val (.ref o1), .val (.long S_), .second] [(.int (0 : Int32))])) _
      exact k
    refine own_retN X17 hx (t := .boolean) Bd.returns (by simp) (hb hby d7_84) (BodyLoose.notSynchronized Bd) (by decide) (by decide) ?_
    rw [show T17.heap = h7 from e17]
    have ef : own_full m_ M S_ X = 1 := by simp [own_full, hc6]
    subst e_S_
    rw [ef] at hf
    subst hf
    exact ⟨rfl, N7, K7, A13, F9, F10, F11, F12, F8⟩
  · skip
    refine own_step (T' := T5) (g' := (mkF m 27 #[.val (.ref o0), .val (.ref o1), .val (.long S_), .second] [(.ref o0), (.ref o0)])) (fun t k => ?_) ?_
    · show Steps p.tables e below (T5.setTop (mkF m 23 #[.val (.ref o0), .val (.ref o1), .val (.long S_), .second] [(.int M), (.int m_), (.ref o0)])) _
      refine XS.icmpNo X5.here hx rfl (hb hby d7_23) rfl (feq hc6).1 ?_
      show Steps p.tables e below (T5.setTop (mkF m 26 #[.val (.ref o0), .val (.ref o1), .val (.long S_), .second] [(.ref o0)])) _
      refine XS.aloadN X5.here hx rfl (hb hby d7_26) rfl rfl ?_
      show Steps p.tables e below (T5.setTop (mkF m 27 #[.val (.ref o0), .val (.ref o1), .val (.long S_), .second] [(.ref o0), (.ref o0)])) _
      exact k
    obtain ⟨T19, X19, e19, st19⟩ := getF X5 hx hZ hown (host := "") (Or.inl (hw _ (List.mem_of_getElem? (i := 65) rfl))) Via.refl e5 F_messages_o0 (g := (mkF m 27 #[.val (.ref o0), .val (.ref o1), .val (.long S_), .second] [(.ref o0), (.ref o0)])) rfl rfl (hb hby d7_27)
    refine own_step st19 ?_
    show own_Run p e below s _ _ _ T19 (mkF m 30 #[.val (.ref o0), .val (.ref o1), .val (.long S_), .second] [(.int m_), (.ref o0)])
    by_cases hc20 : (0 : Int32) < m_
    · skip
      refine own_step (T' := T19) (g' := (mkF m 35 #[.val (.ref o0), .val (.ref o1), .val (.long S_), .second] [(.ref o0), (.long S_), (.ref o0)])) (fun t k => ?_) ?_
      · show Steps p.tables e below (T19.setTop (mkF m 30 #[.val (.ref o0), .val (.ref o1), .val (.long S_), .second] [(.int m_), (.ref o0)])) _
        refine XS.ifNo X19.here hx rfl (hb hby d7_30) rfl ((if0 _ _).trans (tlt hc20).2.2.2) ?_
        show Steps p.tables e below (T19.setTop (mkF m 33 #[.val (.ref o0), .val (.ref o1), .val (.long S_), .second] [(.ref o0)])) _
        refine XS.lloadN X19.here hx rfl (hb hby d7_33) rfl ?_
        show Steps p.tables e below (T19.setTop (mkF m 34 #[.val (.ref o0), .val (.ref o1), .val (.long S_), .second] [(.long S_), (.ref o0)])) _
        refine XS.aloadN X19.here hx rfl (hb hby d7_34) rfl rfl ?_
        show Steps p.tables e below (T19.setTop (mkF m 35 #[.val (.ref o0), .val (.ref o1), .val (.long S_), .second] [(.ref o0), (.long S_), (.ref o0)])) _
        exact k
      obtain ⟨T21, X21, e21, st21⟩ := getF X19 hx hZ hown (host := "") (Or.inl (hw _ (List.mem_of_getElem? (i := 41) rfl))) Via.refl e19 F_maxBytes_o0 (g := (mkF m 35 #[.val (.ref o0), .val (.ref o1), .val (.long S_), .second] [(.ref o0), (.long S_), (.ref o0)])) rfl rfl (hb hby d7_35)
      refine own_step st21 ?_
      show own_Run p e below s _ _ _ T21 (mkF m 38 #[.val (.ref o0), .val (.ref o1), .val (.long S_), .second] [(.long X), (.long S_), (.ref o0)])
      refine own_step (T' := T21) (g' := (mkF m 39 #[.val (.ref o0), .val (.ref o1), .val (.long S_), .second] [(.int (lcmpW S_ X)), (.ref o0)])) (fun t k => ?_) ?_
      · show Steps p.tables e below (T21.setTop (mkF m 38 #[.val (.ref o0), .val (.ref o1), .val (.long S_), .second] [(.long X), (.long S_), (.ref o0)])) _
        refine XS.lcmp X21.here hx rfl (hb hby d7_38) rfl ?_
        show Steps p.tables e below (T21.setTop (mkF m 39 #[.val (.ref o0), .val (.ref o1), .val (.long S_), .second] [(.int (lcmpW S_ X)), (.ref o0)])) _
        exact k
      by_cases hc22 : (0 : Int32) < (lcmpW S_ X)
      · skip
        refine own_step (T' := T21) (g' := (mkF m 47 #[.val (.ref o0), .val (.ref o1), .val (.long S_), .second] [(.int (1 : Int32)), (.ref o0)])) (fun t k => ?_) ?_
        · show Steps p.tables e below (T21.setTop (mkF m 39 #[.val (.ref o0), .val (.ref o1), .val (.long S_), .second] [(.int (lcmpW S_ X)), (.ref o0)])) _
          refine XS.ifNo X21.here hx rfl (hb hby d7_39) rfl ((if0 _ _).trans (tlt hc22).2.2.2) ?_
          show Steps p.tables e below (T21.setTop (mkF m 42 #[.val (.ref o0), .val (.ref o1), .val (.long S_), .second] [(.ref o0)])) _
          refine XS.iconst X21.here hx rfl (hb hby d7_42) ?_
          show Steps p.tables e below (T21.setTop (mkF m 43 #[.val (.ref o0), .val (.ref o1), .val (.long S_), .second] [(.int (1 : Int32)), (.ref o0)])) _
          refine XS.goto X21.here hx rfl (pc0 := 43) (pc' := 47) rfl (hb hby d7_43) (by decide) (by decide) ?_
          show Steps p.tables e below (T21.setTop (mkF m 47 #[.val (.ref o0), .val (.ref o1), .val (.long S_), .second] [(.int (1 : Int32)), (.ref o0)])) _
          exact k
        obtain ⟨T23, h23, X23, e23, W23, st23⟩ := putFN X21 hx hZ hown (hw _ (List.mem_of_getElem? (i := 67) rfl)) Via.refl e21 F_full_o0 E_o0 (Or.inl (hw _ (List.mem_of_getElem? (i := 68) rfl))) (hw _ (List.mem_of_getElem? (i := 33) rfl)) (ty := .boolean) (v' := (.int (nar .boolean (1 : Int32)))) (by decide) rfl (fits_nar_bool _) (g := (mkF m 47 #[.val (.ref o0), .val (.ref o1), .val (.long S_), .second] [(.int (1 : Int32)), (.ref o0)])) rfl rfl (hb hby d7_47)
        have F24 := F_full_o0.same W23
        have F25 := F_maxMessages_o0.other W23 (Or.inr (slot_ne (Or.inr (hw _ (List.mem_of_getElem? (i := 40) rfl))) (Or.inl (hw _ (List.mem_of_getElem? (i := 68) rfl))) (by decide) (t := .int) (t' := .boolean) (by decide) (by decide)))
        have F26 := F_maxBytes_o0.other W23 (Or.inr (slot_ne (Or.inr (hw _ (List.mem_of_getElem? (i := 42) rfl))) (Or.inl (hw _ (List.mem_of_getElem? (i := 68) rfl))) (by decide) (t := .long) (t' := .boolean) (by decide) (by decide)))
        have F27 := F_messages_o0.other W23 (Or.inr (slot_ne (Or.inl (hw _ (List.mem_of_getElem? (i := 66) rfl))) (Or.inl (hw _ (List.mem_of_getElem? (i := 68) rfl))) (by decide) (t := .int) (t' := .boolean) (by decide) (by decide)))
        have F28 := F_bytes_o0.other W23 (Or.inr (slot_ne (Or.inl (hw _ (List.mem_of_getElem? (i := 54) rfl))) (Or.inl (hw _ (List.mem_of_getElem? (i := 68) rfl))) (by decide) (t := .long) (t' := .boolean) (by decide) (by decide)))
        have A29 := E_o0.wr W23
        have Z30 := Nat.le_trans Z0 (Keep.of_wr W23).1
        have K23 := K0.wr W23 (Or.inl (List.mem_of_getElem? (i := 0) rfl))
        have N23 := Fr.snoc X23 N3 g_o0
        refine own_step st23 ?_
        show own_Run p e below s _ _ _ T23 (mkF m 50 #[.val (.ref o0), .val (.ref o1), .val (.long S_), .second] [])
        refine own_step (T' := T23) (g' := (mkF m 51 #[.val (.ref o0), .val (.ref o1), .val (.long S_), .second] [(.ref o0)])) (fun t k => ?_) ?_
        · show Steps p.tables e below (T23.setTop (mkF m 50 #[.val (.ref o0), .val (.ref o1), .val (.long S_), .second] [])) _
          refine XS.aloadN X23.here hx rfl (hb hby d7_50) rfl rfl ?_
          show Steps p.tables e below (T23.setTop (mkF m 51 #[.val (.ref o0), .val (.ref o1), .val (.long S_), .second] [(.ref o0)])) _
          exact k
        obtain ⟨T31, X31, e31, st31⟩ := getF X23 hx hZ hown (host := "") (Or.inl (hw _ (List.mem_of_getElem? (i := 67) rfl))) Via.refl e23 F24 (g := (mkF m 51 #[.val (.ref o0), .val (.ref o1), .val (.long S_), .second] [(.ref o0)])) rfl rfl (hb hby d7_51)
        refine own_step st31 ?_
        show own_Run p e below s _ _ _ T31 (mkF m 54 #[.val (.ref o0), .val (.ref o1), .val (.long S_), .second] [(.int (nar .boolean (1 : Int32)))])
        refine own_step (T' := T31) (g' := (mkF m 73 #[.val (.ref o0), .val (.ref o1), .val (.long S_), .second] [(.ref o0)])) (fun t k => ?_) ?_
        · show Steps p.tables e below (T31.setTop (mkF m 54 #[.val (.ref o0), .val (.ref o1), .val (.long S_), .second] [(.int (nar .boolean (1 : Int32)))])) _
          refine XS.ifYes X31.here hx rfl (pc0 := 54) (pc' := 72) rfl (hb hby d7_54) rfl ((if0 _ _).trans (feq (by decide)).2) (by decide) (by decide) ?_
          show Steps p.tables e below (T31.setTop (mkF m 72 #[.val (.ref o0), .val (.ref o1), .val (.long S_), .second] [])) _
          refine XS.aloadN X31.here hx rfl (hb hby d7_72) rfl rfl ?_
          show Steps p.tables e below (T31.setTop (mkF m 73 #[.val (.ref o0), .val (.ref o1), .val (.long S_), .second] [(.ref o0)])) _
          exact k
        obtain ⟨T33, X33, e33, st33⟩ := getF X31 hx hZ hown (host := "") (Or.inl (hw _ (List.mem_of_getElem? (i := 67) rfl))) Via.refl e31 F24 (g := (mkF m 73 #[.val (.ref o0), .val (.ref o1), .val (.long S_), .second] [(.ref o0)])) rfl rfl (hb hby d7_73)
        refine own_step st33 ?_
        show own_Run p e below s _ _ _ T33 (mkF m 76 #[.val (.ref o0), .val (.ref o1), .val (.long S_), .second] [(.int (nar .boolean (1 : Int32)))])
        refine own_step (T' := T33) (g' := (mkF m 84 #[.val (.ref o0), .val (.ref o1), .val (.long S_), .second] [(.int (0 : Int32))])) (fun t k => ?_) ?_
        · show Steps p.tables e below (T33.setTop (mkF m 76 #[.val (.ref o0), .val (.ref o1), .val (.long S_), .second] [(.int (nar .boolean (1 : Int32)))])) _
          refine XS.ifYes X33.here hx rfl (pc0 := 76) (pc' := 83) rfl (hb hby d7_76) rfl ((if0 _ _).trans (feq (by decide)).2) (by decide) (by decide) ?_
          show Steps p.tables e below (T33.setTop (mkF m 83 #[.val (.ref o0), .val (.ref o1), .val (.long S_), .second] [])) _
          refine XS.iconst X33.here hx rfl (hb hby d7_83) ?_
          show Steps p.tables e below (T33.setTop (mkF m 84 #[.val (.ref o0), .val (.ref o1), .val (.long S_), .second] [(.int (0 : Int32))])) _
          exact k
        refine own_retN X33 hx (t := .boolean) Bd.returns (by simp) (hb hby d7_84) (BodyLoose.notSynchronized Bd) (by decide) (by decide) ?_
        rw [show T33.heap = h23 from e33]
        have ef : own_full m_ M S_ X = 1 := by simp [own_full, hc6, hc20, hc22]
        subst e_S_
        rw [ef] at hf
        subst hf
        exact ⟨rfl, N23, K23, A29, F25, F26, F27, F28, F24⟩
      · skip
        refine own_step (T' := T21) (g' := (mkF m 47 #[.val (.ref o0), .val (.ref o1), .val (.long S_), .second] [(.int (0 : Int32)), (.ref o0)])) (fun t k => ?_) ?_
        · show Steps p.tables e below (T21.setTop (mkF m 39 #[.val (.ref o0), .val (.ref o1), .val (.long S_), .second] [(.int (lcmpW S_ X)), (.ref o0)])) _
          refine XS.ifYes X21.here hx rfl (pc0 := 39) (pc' := 46) rfl (hb hby d7_39) rfl ((if0 _ _).trans (flt hc22).2.2.2) (by decide) (by decide) ?_
          show Steps p.tables e below (T21.setTop (mkF m 46 #[.val (.ref o0), .val (.ref o1), .val (.long S_), .second] [(.ref o0)])) _
          refine XS.iconst X21.here hx rfl (hb hby d7_46) ?_
          show Steps p.tables e below (T21.setTop (mkF m 47 #[.val (.ref o0), .val (.ref o1), .val (.long S_), .second] [(.int (0 : Int32)), (.ref o0)])) _
          exact k
        obtain ⟨T35, h35, X35, e35, W35, st35⟩ := putFN X21 hx hZ hown (hw _ (List.mem_of_getElem? (i := 67) rfl)) Via.refl e21 F_full_o0 E_o0 (Or.inl (hw _ (List.mem_of_getElem? (i := 68) rfl))) (hw _ (List.mem_of_getElem? (i := 33) rfl)) (ty := .boolean) (v' := (.int (nar .boolean (0 : Int32)))) (by decide) rfl (fits_nar_bool _) (g := (mkF m 47 #[.val (.ref o0), .val (.ref o1), .val (.long S_), .second] [(.int (0 : Int32)), (.ref o0)])) rfl rfl (hb hby d7_47)
        have F36 := F_full_o0.same W35
        have F37 := F_maxMessages_o0.other W35 (Or.inr (slot_ne (Or.inr (hw _ (List.mem_of_getElem? (i := 40) rfl))) (Or.inl (hw _ (List.mem_of_getElem? (i := 68) rfl))) (by decide) (t := .int) (t' := .boolean) (by decide) (by decide)))
        have F38 := F_maxBytes_o0.other W35 (Or.inr (slot_ne (Or.inr (hw _ (List.mem_of_getElem? (i := 42) rfl))) (Or.inl (hw _ (List.mem_of_getElem? (i := 68) rfl))) (by decide) (t := .long) (t' := .boolean) (by decide) (by decide)))
        have F39 := F_messages_o0.other W35 (Or.inr (slot_ne (Or.inl (hw _ (List.mem_of_getElem? (i := 66) rfl))) (Or.inl (hw _ (List.mem_of_getElem? (i := 68) rfl))) (by decide) (t := .int) (t' := .boolean) (by decide) (by decide)))
        have F40 := F_bytes_o0.other W35 (Or.inr (slot_ne (Or.inl (hw _ (List.mem_of_getElem? (i := 54) rfl))) (Or.inl (hw _ (List.mem_of_getElem? (i := 68) rfl))) (by decide) (t := .long) (t' := .boolean) (by decide) (by decide)))
        have A41 := E_o0.wr W35
        have Z42 := Nat.le_trans Z0 (Keep.of_wr W35).1
        have K35 := K0.wr W35 (Or.inl (List.mem_of_getElem? (i := 0) rfl))
        have N35 := Fr.snoc X35 N3 g_o0
        refine own_step st35 ?_
        show own_Run p e below s _ _ _ T35 (mkF m 50 #[.val (.ref o0), .val (.ref o1), .val (.long S_), .second] [])
        refine own_step (T' := T35) (g' := (mkF m 51 #[.val (.ref o0), .val (.ref o1), .val (.long S_), .second] [(.ref o0)])) (fun t k => ?_) ?_
        · show Steps p.tables e below (T35.setTop (mkF m 50 #[.val (.ref o0), .val (.ref o1), .val (.long S_), .second] [])) _
          refine XS.aloadN X35.here hx rfl (hb hby d7_50) rfl rfl ?_
          show Steps p.tables e below (T35.setTop (mkF m 51 #[.val (.ref o0), .val (.ref o1), .val (.long S_), .second] [(.ref o0)])) _
          exact k
        obtain ⟨T43, X43, e43, st43⟩ := getF X35 hx hZ hown (host := "") (Or.inl (hw _ (List.mem_of_getElem? (i := 67) rfl))) Via.refl e35 F36 (g := (mkF m 51 #[.val (.ref o0), .val (.ref o1), .val (.long S_), .second] [(.ref o0)])) rfl rfl (hb hby d7_51)
        refine own_step st43 ?_
        show own_Run p e below s _ _ _ T43 (mkF m 54 #[.val (.ref o0), .val (.ref o1), .val (.long S_), .second] [(.int (nar .boolean (0 : Int32)))])
        refine own_step (T' := T43) (g' := (mkF m 59 #[.val (.ref o0), .val (.ref o1), .val (.long S_), .second] [(.ref o0), (.ref o0)])) (fun t k => ?_) ?_
        · show Steps p.tables e below (T43.setTop (mkF m 54 #[.val (.ref o0), .val (.ref o1), .val (.long S_), .second] [(.int (nar .boolean (0 : Int32)))])) _
          refine XS.ifNo X43.here hx rfl (hb hby d7_54) rfl ((if0 _ _).trans (teq (by decide)).2) ?_
          show Steps p.tables e below (T43.setTop (mkF m 57 #[.val (.ref o0), .val (.ref o1), .val (.long S_), .second] [])) _
          refine XS.aloadN X43.here hx rfl (hb hby d7_57) rfl rfl ?_
          show Steps p.tables e below (T43.setTop (mkF m 58 #[.val (.ref o0), .val (.ref o1), .val (.long S_), .second] [(.ref o0)])) _
          refine XS.dup X43.here hx rfl (hb hby d7_58) rfl rfl ?_
          show Steps p.tables e below (T43.setTop (mkF m 59 #[.val (.ref o0), .val (.ref o1), .val (.long S_), .second] [(.ref o0), (.ref o0)])) _
          exact k
        obtain ⟨T45, X45, e45, st45⟩ := getF X43 hx hZ hown (host := "") (Or.inl (hw _ (List.mem_of_getElem? (i := 65) rfl))) Via.refl e43 F39 (g := (mkF m 59 #[.val (.ref o0), .val (.ref o1), .val (.long S_), .second] [(.ref o0), (.ref o0)])) rfl rfl (hb hby d7_59)
        refine own_step st45 ?_
        show own_Run p e below s _ _ _ T45 (mkF m 62 #[.val (.ref o0), .val (.ref o1), .val (.long S_), .second] [(.int m_), (.ref o0)])
        refine own_step (T' := T45) (g' := (mkF m 64 #[.val (.ref o0), .val (.ref o1), .val (.long S_), .second] [(.int (m_ + (1 : Int32))), (.ref o0)])) (fun t k => ?_) ?_
        · show Steps p.tables e below (T45.setTop (mkF m 62 #[.val (.ref o0), .val (.ref o1), .val (.long S_), .second] [(.int m_), (.ref o0)])) _
          refine XS.iconst X45.here hx rfl (hb hby d7_62) ?_
          show Steps p.tables e below (T45.setTop (mkF m 63 #[.val (.ref o0), .val (.ref o1), .val (.long S_), .second] [(.int (1 : Int32)), (.int m_), (.ref o0)])) _
          refine XS.iadd X45.here hx rfl (hb hby d7_63) rfl ?_
          show Steps p.tables e below (T45.setTop (mkF m 64 #[.val (.ref o0), .val (.ref o1), .val (.long S_), .second] [(.int (m_ + (1 : Int32))), (.ref o0)])) _
          exact k
        obtain ⟨T46, h46, X46, e46, W46, st46⟩ := putF X45 hx hZ hown (host := "") (Or.inl (hw _ (List.mem_of_getElem? (i := 65) rfl))) Via.refl e45 F39 A41 (Or.inl (hw _ (List.mem_of_getElem? (i := 66) rfl))) (hw _ (List.mem_of_getElem? (i := 33) rfl)) (ty := .int) (by decide) rfl rfl (g := (mkF m 64 #[.val (.ref o0), .val (.ref o1), .val (.long S_), .second] [(.int (m_ + (1 : Int32))), (.ref o0)])) rfl rfl (hb hby d7_64)
        have F47 := F39.same W46
        have F48 := F37.other W46 (Or.inr (slot_ne (Or.inr (hw _ (List.mem_of_getElem? (i := 40) rfl))) (Or.inl (hw _ (List.mem_of_getElem? (i := 66) rfl))) (by decide) (t := .int) (t' := .int) (by decide) (by decide)))
        have F49 := F38.other W46 (Or.inr (slot_ne (Or.inr (hw _ (List.mem_of_getElem? (i := 42) rfl))) (Or.inl (hw _ (List.mem_of_getElem? (i := 66) rfl))) (by decide) (t := .long) (t' := .int) (by decide) (by decide)))
        have F50 := F40.other W46 (Or.inr (slot_ne (Or.inl (hw _ (List.mem_of_getElem? (i := 54) rfl))) (Or.inl (hw _ (List.mem_of_getElem? (i := 66) rfl))) (by decide) (t := .long) (t' := .int) (by decide) (by decide)))
        have F51 := F36.other W46 (Or.inr (slot_ne (Or.inl (hw _ (List.mem_of_getElem? (i := 68) rfl))) (Or.inl (hw _ (List.mem_of_getElem? (i := 66) rfl))) (by decide) (t := .boolean) (t' := .int) (by decide) (by decide)))
        have A52 := A41.wr W46
        have Z53 := Nat.le_trans Z42 (Keep.of_wr W46).1
        have K46 := K35.wr W46 (Or.inl (List.mem_of_getElem? (i := 0) rfl))
        have N46 := Fr.snoc X46 N35 g_o0
        refine own_step st46 ?_
        show own_Run p e below s _ _ _ T46 (mkF m 67 #[.val (.ref o0), .val (.ref o1), .val (.long S_), .second] [])
        refine own_step (T' := T46) (g' := (mkF m 69 #[.val (.ref o0), .val (.ref o1), .val (.long S_), .second] [(.long S_), (.ref o0)])) (fun t k => ?_) ?_
        · show Steps p.tables e below (T46.setTop (mkF m 67 #[.val (.ref o0), .val (.ref o1), .val (.long S_), .second] [])) _
          refine XS.aloadN X46.here hx rfl (hb hby d7_67) rfl rfl ?_
          show Steps p.tables e below (T46.setTop (mkF m 68 #[.val (.ref o0), .val (.ref o1), .val (.long S_), .second] [(.ref o0)])) _
          refine XS.lloadN X46.here hx rfl (hb hby d7_68) rfl ?_
          show Steps p.tables e below (T46.setTop (mkF m 69 #[.val (.ref o0), .val (.ref o1), .val (.long S_), .second] [(.long S_), (.ref o0)])) _
          exact k
        obtain ⟨T54, h54, X54, e54, W54, st54⟩ := putF X46 hx hZ hown (host := "") (Or.inl (hw _ (List.mem_of_getElem? (i := 53) rfl))) Via.refl e46 F50 A52 (Or.inl (hw _ (List.mem_of_getElem? (i := 54) rfl))) (hw _ (List.mem_of_getElem? (i := 33) rfl)) (ty := .long) (by decide) rfl rfl (g := (mkF m 69 #[.val (.ref o0), .val (.ref o1), .val (.long S_), .second] [(.long S_), (.ref o0)])) rfl rfl (hb hby d7_69)
        have F55 := F50.same W54
        have F56 := F48.other W54 (Or.inr (slot_ne (Or.inr (hw _ (List.mem_of_getElem? (i := 40) rfl))) (Or.inl (hw _ (List.mem_of_getElem? (i := 54) rfl))) (by decide) (t := .int) (t' := .long) (by decide) (by decide)))
        have F57 := F49.other W54 (Or.inr (slot_ne (Or.inr (hw _ (List.mem_of_getElem? (i := 42) rfl))) (Or.inl (hw _ (List.mem_of_getElem? (i := 54) rfl))) (by decide) (t := .long) (t' := .long) (by decide) (by decide)))
        have F58 := F47.other W54 (Or.inr (slot_ne (Or.inl (hw _ (List.mem_of_getElem? (i := 66) rfl))) (Or.inl (hw _ (List.mem_of_getElem? (i := 54) rfl))) (by decide) (t := .int) (t' := .long) (by decide) (by decide)))
        have F59 := F51.other W54 (Or.inr (slot_ne (Or.inl (hw _ (List.mem_of_getElem? (i := 68) rfl))) (Or.inl (hw _ (List.mem_of_getElem? (i := 54) rfl))) (by decide) (t := .boolean) (t' := .long) (by decide) (by decide)))
        have A60 := A52.wr W54
        have Z61 := Nat.le_trans Z53 (Keep.of_wr W54).1
        have K54 := K46.wr W54 (Or.inl (List.mem_of_getElem? (i := 0) rfl))
        have N54 := Fr.snoc X54 N46 g_o0
        refine own_step st54 ?_
        show own_Run p e below s _ _ _ T54 (mkF m 72 #[.val (.ref o0), .val (.ref o1), .val (.long S_), .second] [])
        refine own_step (T' := T54) (g' := (mkF m 73 #[.val (.ref o0), .val (.ref o1), .val (.long S_), .second] [(.ref o0)])) (fun t k => ?_) ?_
        · show Steps p.tables e below (T54.setTop (mkF m 72 #[.val (.ref o0), .val (.ref o1), .val (.long S_), .second] [])) _
          refine XS.aloadN X54.here hx rfl (hb hby d7_72) rfl rfl ?_
          show Steps p.tables e below (T54.setTop (mkF m 73 #[.val (.ref o0), .val (.ref o1), .val (.long S_), .second] [(.ref o0)])) _
          exact k
        obtain ⟨T62, X62, e62, st62⟩ := getF X54 hx hZ hown (host := "") (Or.inl (hw _ (List.mem_of_getElem? (i := 67) rfl))) Via.refl e54 F59 (g := (mkF m 73 #[.val (.ref o0), .val (.ref o1), .val (.long S_), .second] [(.ref o0)])) rfl rfl (hb hby d7_73)
        refine own_step st62 ?_
        show own_Run p e below s _ _ _ T62 (mkF m 76 #[.val (.ref o0), .val (.ref o1), .val (.long S_), .second] [(.int (nar .boolean (0 : Int32)))])
        refine own_step (T' := T62) (g' := (mkF m 84 #[.val (.ref o0), .val (.ref o1), .val (.long S_), .second] [(.int (1 : Int32))])) (fun t k => ?_) ?_
        · show Steps p.tables e below (T62.setTop (mkF m 76 #[.val (.ref o0), .val (.ref o1), .val (.long S_), .second] [(.int (nar .boolean (0 : Int32)))])) _
          refine XS.ifNo X62.here hx rfl (hb hby d7_76) rfl ((if0 _ _).trans (teq (by decide)).2) ?_
          show Steps p.tables e below (T62.setTop (mkF m 79 #[.val (.ref o0), .val (.ref o1), .val (.long S_), .second] [])) _
          refine XS.iconst X62.here hx rfl (hb hby d7_79) ?_
          show Steps p.tables e below (T62.setTop (mkF m 80 #[.val (.ref o0), .val (.ref o1), .val (.long S_), .second] [(.int (1 : Int32))])) _
          refine XS.goto X62.here hx rfl (pc0 := 80) (pc' := 84) rfl (hb hby d7_80) (by decide) (by decide) ?_
          show Steps p.tables e below (T62.setTop (mkF m 84 #[.val (.ref o0), .val (.ref o1), .val (.long S_), .second] [(.int (1 : Int32))])) _
          exact k
        refine own_retN X62 hx (t := .boolean) Bd.returns (by simp) (hb hby d7_84) (BodyLoose.notSynchronized Bd) (by decide) (by decide) ?_
        rw [show T62.heap = h54 from e62]
        have ef : own_full m_ M S_ X = 0 := by simp [own_full, hc6, hc20, hc22]
        subst e_S_
        rw [ef] at hf
        subst hf
        exact ⟨rfl, N54, K54, A60, F56, F57, F58, F55, F59⟩
    · skip
      refine own_step (T' := T19) (g' := (mkF m 47 #[.val (.ref o0), .val (.ref o1), .val (.long S_), .second] [(.int (0 : Int32)), (.ref o0)])) (fun t k => ?_) ?_
      · show Steps p.tables e below (T19.setTop (mkF m 30 #[.val (.ref o0), .val (.ref o1), .val (.long S_), .second] [(.int m_), (.ref o0)])) _
        refine XS.ifYes X19.here hx rfl (pc0 := 30) (pc' := 46) rfl (hb hby d7_30) rfl ((if0 _ _).trans (flt hc20).2.2.2) (by decide) (by decide) ?_
        show Steps p.tables e below (T19.setTop (mkF m 46 #[.val (.ref o0), .val (.ref o1), .val (.long S_), .second] [(.ref o0)])) _
        refine XS.iconst X19.here hx rfl (hb hby d7_46) ?_
        show Steps p.tables e below (T19.setTop (mkF m 47 #[.val (.ref o0), .val (.ref o1), .val (.long S_), .second] [(.int (0 : Int32)), (.ref o0)])) _
        exact k
      obtain ⟨T64, h64, X64, e64, W64, st64⟩ := putFN X19 hx hZ hown (hw _ (List.mem_of_getElem? (i := 67) rfl)) Via.refl e19 F_full_o0 E_o0 (Or.inl (hw _ (List.mem_of_getElem? (i := 68) rfl))) (hw _ (List.mem_of_getElem? (i := 33) rfl)) (ty := .boolean) (v' := (.int (nar .boolean (0 : Int32)))) (by decide) rfl (fits_nar_bool _) (g := (mkF m 47 #[.val (.ref o0), .val (.ref o1), .val (.long S_), .second] [(.int (0 : Int32)), (.ref o0)])) rfl rfl (hb hby d7_47)
      have F65 := F_full_o0.same W64
      have F66 := F_maxMessages_o0.other W64 (Or.inr (slot_ne (Or.inr (hw _ (List.mem_of_getElem? (i := 40) rfl))) (Or.inl (hw _ (List.mem_of_getElem? (i := 68) rfl))) (by decide) (t := .int) (t' := .boolean) (by decide) (by decide)))
      have F67 := F_maxBytes_o0.other W64 (Or.inr (slot_ne (Or.inr (hw _ (List.mem_of_getElem? (i := 42) rfl))) (Or.inl (hw _ (List.mem_of_getElem? (i := 68) rfl))) (by decide) (t := .long) (t' := .boolean) (by decide) (by decide)))
      have F68 := F_messages_o0.other W64 (Or.inr (slot_ne (Or.inl (hw _ (List.mem_of_getElem? (i := 66) rfl))) (Or.inl (hw _ (List.mem_of_getElem? (i := 68) rfl))) (by decide) (t := .int) (t' := .boolean) (by decide) (by decide)))
      have F69 := F_bytes_o0.other W64 (Or.inr (slot_ne (Or.inl (hw _ (List.mem_of_getElem? (i := 54) rfl))) (Or.inl (hw _ (List.mem_of_getElem? (i := 68) rfl))) (by decide) (t := .long) (t' := .boolean) (by decide) (by decide)))
      have A70 := E_o0.wr W64
      have Z71 := Nat.le_trans Z0 (Keep.of_wr W64).1
      have K64 := K0.wr W64 (Or.inl (List.mem_of_getElem? (i := 0) rfl))
      have N64 := Fr.snoc X64 N3 g_o0
      refine own_step st64 ?_
      show own_Run p e below s _ _ _ T64 (mkF m 50 #[.val (.ref o0), .val (.ref o1), .val (.long S_), .second] [])
      refine own_step (T' := T64) (g' := (mkF m 51 #[.val (.ref o0), .val (.ref o1), .val (.long S_), .second] [(.ref o0)])) (fun t k => ?_) ?_
      · show Steps p.tables e below (T64.setTop (mkF m 50 #[.val (.ref o0), .val (.ref o1), .val (.long S_), .second] [])) _
        refine XS.aloadN X64.here hx rfl (hb hby d7_50) rfl rfl ?_
        show Steps p.tables e below (T64.setTop (mkF m 51 #[.val (.ref o0), .val (.ref o1), .val (.long S_), .second] [(.ref o0)])) _
        exact k
      obtain ⟨T72, X72, e72, st72⟩ := getF X64 hx hZ hown (host := "") (Or.inl (hw _ (List.mem_of_getElem? (i := 67) rfl))) Via.refl e64 F65 (g := (mkF m 51 #[.val (.ref o0), .val (.ref o1), .val (.long S_), .second] [(.ref o0)])) rfl rfl (hb hby d7_51)
      refine own_step st72 ?_
      show own_Run p e below s _ _ _ T72 (mkF m 54 #[.val (.ref o0), .val (.ref o1), .val (.long S_), .second] [(.int (nar .boolean (0 : Int32)))])
      refine own_step (T' := T72) (g' := (mkF m 59 #[.val (.ref o0), .val (.ref o1), .val (.long S_), .second] [(.ref o0), (.ref o0)])) (fun t k => ?_) ?_
      · show Steps p.tables e below (T72.setTop (mkF m 54 #[.val (.ref o0), .val (.ref o1), .val (.long S_), .second] [(.int (nar .boolean (0 : Int32)))])) _
        refine XS.ifNo X72.here hx rfl (hb hby d7_54) rfl ((if0 _ _).trans (teq (by decide)).2) ?_
        show Steps p.tables e below (T72.setTop (mkF m 57 #[.val (.ref o0), .val (.ref o1), .val (.long S_), .second] [])) _
        refine XS.aloadN X72.here hx rfl (hb hby d7_57) rfl rfl ?_
        show Steps p.tables e below (T72.setTop (mkF m 58 #[.val (.ref o0), .val (.ref o1), .val (.long S_), .second] [(.ref o0)])) _
        refine XS.dup X72.here hx rfl (hb hby d7_58) rfl rfl ?_
        show Steps p.tables e below (T72.setTop (mkF m 59 #[.val (.ref o0), .val (.ref o1), .val (.long S_), .second] [(.ref o0), (.ref o0)])) _
        exact k
      obtain ⟨T74, X74, e74, st74⟩ := getF X72 hx hZ hown (host := "") (Or.inl (hw _ (List.mem_of_getElem? (i := 65) rfl))) Via.refl e72 F68 (g := (mkF m 59 #[.val (.ref o0), .val (.ref o1), .val (.long S_), .second] [(.ref o0), (.ref o0)])) rfl rfl (hb hby d7_59)
      refine own_step st74 ?_
      show own_Run p e below s _ _ _ T74 (mkF m 62 #[.val (.ref o0), .val (.ref o1), .val (.long S_), .second] [(.int m_), (.ref o0)])
      refine own_step (T' := T74) (g' := (mkF m 64 #[.val (.ref o0), .val (.ref o1), .val (.long S_), .second] [(.int (m_ + (1 : Int32))), (.ref o0)])) (fun t k => ?_) ?_
      · show Steps p.tables e below (T74.setTop (mkF m 62 #[.val (.ref o0), .val (.ref o1), .val (.long S_), .second] [(.int m_), (.ref o0)])) _
        refine XS.iconst X74.here hx rfl (hb hby d7_62) ?_
        show Steps p.tables e below (T74.setTop (mkF m 63 #[.val (.ref o0), .val (.ref o1), .val (.long S_), .second] [(.int (1 : Int32)), (.int m_), (.ref o0)])) _
        refine XS.iadd X74.here hx rfl (hb hby d7_63) rfl ?_
        show Steps p.tables e below (T74.setTop (mkF m 64 #[.val (.ref o0), .val (.ref o1), .val (.long S_), .second] [(.int (m_ + (1 : Int32))), (.ref o0)])) _
        exact k
      obtain ⟨T75, h75, X75, e75, W75, st75⟩ := putF X74 hx hZ hown (host := "") (Or.inl (hw _ (List.mem_of_getElem? (i := 65) rfl))) Via.refl e74 F68 A70 (Or.inl (hw _ (List.mem_of_getElem? (i := 66) rfl))) (hw _ (List.mem_of_getElem? (i := 33) rfl)) (ty := .int) (by decide) rfl rfl (g := (mkF m 64 #[.val (.ref o0), .val (.ref o1), .val (.long S_), .second] [(.int (m_ + (1 : Int32))), (.ref o0)])) rfl rfl (hb hby d7_64)
      have F76 := F68.same W75
      have F77 := F66.other W75 (Or.inr (slot_ne (Or.inr (hw _ (List.mem_of_getElem? (i := 40) rfl))) (Or.inl (hw _ (List.mem_of_getElem? (i := 66) rfl))) (by decide) (t := .int) (t' := .int) (by decide) (by decide)))
      have F78 := F67.other W75 (Or.inr (slot_ne (Or.inr (hw _ (List.mem_of_getElem? (i := 42) rfl))) (Or.inl (hw _ (List.mem_of_getElem? (i := 66) rfl))) (by decide) (t := .long) (t' := .int) (by decide) (by decide)))
      have F79 := F69.other W75 (Or.inr (slot_ne (Or.inl (hw _ (List.mem_of_getElem? (i := 54) rfl))) (Or.inl (hw _ (List.mem_of_getElem? (i := 66) rfl))) (by decide) (t := .long) (t' := .int) (by decide) (by decide)))
      have F80 := F65.other W75 (Or.inr (slot_ne (Or.inl (hw _ (List.mem_of_getElem? (i := 68) rfl))) (Or.inl (hw _ (List.mem_of_getElem? (i := 66) rfl))) (by decide) (t := .boolean) (t' := .int) (by decide) (by decide)))
      have A81 := A70.wr W75
      have Z82 := Nat.le_trans Z71 (Keep.of_wr W75).1
      have K75 := K64.wr W75 (Or.inl (List.mem_of_getElem? (i := 0) rfl))
      have N75 := Fr.snoc X75 N64 g_o0
      refine own_step st75 ?_
      show own_Run p e below s _ _ _ T75 (mkF m 67 #[.val (.ref o0), .val (.ref o1), .val (.long S_), .second] [])
      refine own_step (T' := T75) (g' := (mkF m 69 #[.val (.ref o0), .val (.ref o1), .val (.long S_), .second] [(.long S_), (.ref o0)])) (fun t k => ?_) ?_
      · show Steps p.tables e below (T75.setTop (mkF m 67 #[.val (.ref o0), .val (.ref o1), .val (.long S_), .second] [])) _
        refine XS.aloadN X75.here hx rfl (hb hby d7_67) rfl rfl ?_
        show Steps p.tables e below (T75.setTop (mkF m 68 #[.val (.ref o0), .val (.ref o1), .val (.long S_), .second] [(.ref o0)])) _
        refine XS.lloadN X75.here hx rfl (hb hby d7_68) rfl ?_
        show Steps p.tables e below (T75.setTop (mkF m 69 #[.val (.ref o0), .val (.ref o1), .val (.long S_), .second] [(.long S_), (.ref o0)])) _
        exact k
      obtain ⟨T83, h83, X83, e83, W83, st83⟩ := putF X75 hx hZ hown (host := "") (Or.inl (hw _ (List.mem_of_getElem? (i := 53) rfl))) Via.refl e75 F79 A81 (Or.inl (hw _ (List.mem_of_getElem? (i := 54) rfl))) (hw _ (List.mem_of_getElem? (i := 33) rfl)) (ty := .long) (by decide) rfl rfl (g := (mkF m 69 #[.val (.ref o0), .val (.ref o1), .val (.long S_), .second] [(.long S_), (.ref o0)])) rfl rfl (hb hby d7_69)
      have F84 := F79.same W83
      have F85 := F77.other W83 (Or.inr (slot_ne (Or.inr (hw _ (List.mem_of_getElem? (i := 40) rfl))) (Or.inl (hw _ (List.mem_of_getElem? (i := 54) rfl))) (by decide) (t := .int) (t' := .long) (by decide) (by decide)))
      have F86 := F78.other W83 (Or.inr (slot_ne (Or.inr (hw _ (List.mem_of_getElem? (i := 42) rfl))) (Or.inl (hw _ (List.mem_of_getElem? (i := 54) rfl))) (by decide) (t := .long) (t' := .long) (by decide) (by decide)))
      have F87 := F76.other W83 (Or.inr (slot_ne (Or.inl (hw _ (List.mem_of_getElem? (i := 66) rfl))) (Or.inl (hw _ (List.mem_of_getElem? (i := 54) rfl))) (by decide) (t := .int) (t' := .long) (by decide) (by decide)))
      have F88 := F80.other W83 (Or.inr (slot_ne (Or.inl (hw _ (List.mem_of_getElem? (i := 68) rfl))) (Or.inl (hw _ (List.mem_of_getElem? (i := 54) rfl))) (by decide) (t := .boolean) (t' := .long) (by decide) (by decide)))
      have A89 := A81.wr W83
      have Z90 := Nat.le_trans Z82 (Keep.of_wr W83).1
      have K83 := K75.wr W83 (Or.inl (List.mem_of_getElem? (i := 0) rfl))
      have N83 := Fr.snoc X83 N75 g_o0
      refine own_step st83 ?_
      show own_Run p e below s _ _ _ T83 (mkF m 72 #[.val (.ref o0), .val (.ref o1), .val (.long S_), .second] [])
      refine own_step (T' := T83) (g' := (mkF m 73 #[.val (.ref o0), .val (.ref o1), .val (.long S_), .second] [(.ref o0)])) (fun t k => ?_) ?_
      · show Steps p.tables e below (T83.setTop (mkF m 72 #[.val (.ref o0), .val (.ref o1), .val (.long S_), .second] [])) _
        refine XS.aloadN X83.here hx rfl (hb hby d7_72) rfl rfl ?_
        show Steps p.tables e below (T83.setTop (mkF m 73 #[.val (.ref o0), .val (.ref o1), .val (.long S_), .second] [(.ref o0)])) _
        exact k
      obtain ⟨T91, X91, e91, st91⟩ := getF X83 hx hZ hown (host := "") (Or.inl (hw _ (List.mem_of_getElem? (i := 67) rfl))) Via.refl e83 F88 (g := (mkF m 73 #[.val (.ref o0), .val (.ref o1), .val (.long S_), .second] [(.ref o0)])) rfl rfl (hb hby d7_73)
      refine own_step st91 ?_
      show own_Run p e below s _ _ _ T91 (mkF m 76 #[.val (.ref o0), .val (.ref o1), .val (.long S_), .second] [(.int (nar .boolean (0 : Int32)))])
      refine own_step (T' := T91) (g' := (mkF m 84 #[.val (.ref o0), .val (.ref o1), .val (.long S_), .second] [(.int (1 : Int32))])) (fun t k => ?_) ?_
      · show Steps p.tables e below (T91.setTop (mkF m 76 #[.val (.ref o0), .val (.ref o1), .val (.long S_), .second] [(.int (nar .boolean (0 : Int32)))])) _
        refine XS.ifNo X91.here hx rfl (hb hby d7_76) rfl ((if0 _ _).trans (teq (by decide)).2) ?_
        show Steps p.tables e below (T91.setTop (mkF m 79 #[.val (.ref o0), .val (.ref o1), .val (.long S_), .second] [])) _
        refine XS.iconst X91.here hx rfl (hb hby d7_79) ?_
        show Steps p.tables e below (T91.setTop (mkF m 80 #[.val (.ref o0), .val (.ref o1), .val (.long S_), .second] [(.int (1 : Int32))])) _
        refine XS.goto X91.here hx rfl (pc0 := 80) (pc' := 84) rfl (hb hby d7_80) (by decide) (by decide) ?_
        show Steps p.tables e below (T91.setTop (mkF m 84 #[.val (.ref o0), .val (.ref o1), .val (.long S_), .second] [(.int (1 : Int32))])) _
        exact k
      refine own_retN X91 hx (t := .boolean) Bd.returns (by simp) (hb hby d7_84) (BodyLoose.notSynchronized Bd) (by decide) (by decide) ?_
      rw [show T91.heap = h83 from e91]
      have ef : own_full m_ M S_ X = 0 := by simp [own_full, hc6, hc20]
      subst e_S_
      rw [ef] at hf
      subst hf
      exact ⟨rfl, N83, K83, A89, F85, F86, F87, F84, F88⟩
theorem own_lt0 {m M : Int32} : lcmpW m.toInt64 M.toInt64 < 0 ↔ m.toInt < M.toInt := by
  rw [lw_lt, Int64.lt_iff_toInt_lt, Jvm.Kit.i64_of_i32, Jvm.Kit.i64_of_i32]
theorem own_z {m : Int32} : lcmpW m.toInt64 0 = 0 ↔ m = 0 := by
  rw [lw_eq]
  constructor
  · intro h
    have h3 := congrArg Int64.toInt h
    rw [Jvm.Kit.i64_of_i32] at h3
    exact Int32.toInt_inj.mp h3
  · intro h; subst h; rfl
theorem own_ne {m M : Int32} (h : m.toInt < M.toInt) : ¬ m = M := fun q => by subst q; omega
theorem own_fits1 {m M : Int32} {S X : Int64} (hm : 0 ≤ m.toInt ∧ m.toInt ≤ M.toInt) (h1 : lcmpW m.toInt64 M.toInt64 < 0) (h2 : lcmpW m.toInt64 0 = 0) : own_full m M S X = 0 := by
  have a := own_ne (own_lt0.mp h1)
  have b := own_z.mp h2
  subst b
  simp [own_full, a]
theorem own_fits2 {m M : Int32} {S X : Int64} (hm : 0 ≤ m.toInt ∧ m.toInt ≤ M.toInt) (h1 : lcmpW m.toInt64 M.toInt64 < 0) (h2 : ¬ lcmpW m.toInt64 0 = 0) (h3 : ¬ 0 < lcmpW S X) : own_full m M S X = 0 := by
  have a := own_ne (own_lt0.mp h1)
  simp [own_full, a, h3]
theorem own_no1 {m M : Int32} {S X : Int64} (hm : 0 ≤ m.toInt ∧ m.toInt ≤ M.toInt) (h1 : ¬ lcmpW m.toInt64 M.toInt64 < 0) : own_full m M S X = 1 := by
  have a : m = M := Int32.toInt_inj.mp (by have := mt own_lt0.mpr h1; omega)
  simp [own_full, a]
theorem own_no2 {m M : Int32} {S X : Int64} (hm : 0 ≤ m.toInt ∧ m.toInt ≤ M.toInt) (h1 : lcmpW m.toInt64 M.toInt64 < 0) (h2 : ¬ lcmpW m.toInt64 0 = 0) (h3 : 0 < lcmpW S X) : own_full m M S X = 1 := by
  have a := own_ne (own_lt0.mp h1)
  have b : (0 : Int32) < m := by
    rw [Int32.lt_iff_toInt_lt]
    have c : ¬ m.toInt = (0 : Int32).toInt := fun q => h2 (own_z.mpr (Int32.toInt_inj.mp q))
    have d : (0 : Int32).toInt = 0 := rfl
    omega
  simp [own_full, a, b, h3]
theorem own_add1 {m M : Int32} (h1 : lcmpW m.toInt64 M.toInt64 < 0) (hm : 0 ≤ m.toInt ∧ m.toInt ≤ M.toInt) : (m + 1).toInt = m.toInt + 1 := by
  have a := own_lt0.mp h1
  have b := M.toInt_lt
  have d : (1 : Int32).toInt = 1 := rfl
  rw [Jvm.Kit.i32_add (by rw [d]; omega) (by rw [d]; omega), d]
theorem own_up {m M : Int32} (hm : 0 ≤ m.toInt ∧ m.toInt ≤ M.toInt) (h1 : lcmpW m.toInt64 M.toInt64 < 0) : 0 ≤ (m + 1).toInt ∧ (m + 1).toInt ≤ M.toInt := by
  have a := own_lt0.mp h1
  rw [own_add1 h1 hm]; omega
theorem own_arv {Z : State} {h : Heap} {a : Addr} {k : ClassId} {m M : Int32} {w : Value} (hm : 0 ≤ m.toInt ∧ m.toInt ≤ M.toInt) (h1 : lcmpW m.toInt64 M.toInt64 < 0) (A : Arv Z h a k .long (2 : Int32) [(.long (m.toInt64 + 1)), w] (.long (0 : Int64))) : Arv Z h a k .long (2 : Int32) [(.long (m + 1).toInt64), w] (.long (0 : Int64)) := by
  have e : (m + 1).toInt64 = m.toInt64 + 1 := by
    apply Int64.toInt_inj.mp
    have d : (1 : Int64).toInt = 1 := rfl
    have b := m.toInt_lt
    rw [Jvm.Kit.i64_of_i32, own_add1 h1 hm, Jvm.Kit.i64_add (by rw [Jvm.Kit.i64_of_i32, d]; omega) (by rw [Jvm.Kit.i64_of_i32, d]; omega), Jvm.Kit.i64_of_i32, d]
  rw [e]; exact A
theorem own_max (p : Int32) : 0 ≤ ((1 : Int32) + (p &&& (3 : Int32))).toInt := by
  have e : (p &&& (3 : Int32)).toInt = p.toInt % 2 ^ 2 := Jvm.Kit.i32_mask p 3 (k := 2) (by decide) (by decide)
  have d : (1 : Int32).toInt = 1 := rfl
  rw [Jvm.Kit.i32_add (by rw [d]; omega) (by rw [d]; omega)]; omega
theorem d6_0 : decode method_3_code 0 = .ok (.aload_n 3, 1) := by decide +kernel
theorem d6_1 : decode method_3_code 1 = .ok (.iconst 0, 1) := by decide +kernel
theorem d6_2 : decode method_3_code 2 = .ok (.laload, 1) := by decide +kernel
theorem d6_3 : decode method_3_code 3 = .ok (.iload 4, 2) := by decide +kernel
theorem d6_5 : decode method_3_code 5 = .ok (.i2l, 1) := by decide +kernel
theorem d6_6 : decode method_3_code 6 = .ok (.lcmp, 1) := by decide +kernel
theorem d6_7 : decode method_3_code 7 = .ok (.ifCond .ge 27, 3) := by decide +kernel
theorem d6_10 : decode method_3_code 10 = .ok (.aload_n 3, 1) := by decide +kernel
theorem d6_11 : decode method_3_code 11 = .ok (.iconst 0, 1) := by decide +kernel
theorem d6_12 : decode method_3_code 12 = .ok (.laload, 1) := by decide +kernel
theorem d6_13 : decode method_3_code 13 = .ok (.lconst 0, 1) := by decide +kernel
theorem d6_14 : decode method_3_code 14 = .ok (.lcmp, 1) := by decide +kernel
theorem d6_15 : decode method_3_code 15 = .ok (.ifCond .eq 15, 3) := by decide +kernel
theorem d6_18 : decode method_3_code 18 = .ok (.aload_n 3, 1) := by decide +kernel
theorem d6_19 : decode method_3_code 19 = .ok (.iconst 1, 1) := by decide +kernel
theorem d6_20 : decode method_3_code 20 = .ok (.laload, 1) := by decide +kernel
theorem d6_21 : decode method_3_code 21 = .ok (.iload_n 2, 1) := by decide +kernel
theorem d6_22 : decode method_3_code 22 = .ok (.i2l, 1) := by decide +kernel
theorem d6_23 : decode method_3_code 23 = .ok (.ladd, 1) := by decide +kernel
theorem d6_24 : decode method_3_code 24 = .ok (.lload 5, 2) := by decide +kernel
theorem d6_26 : decode method_3_code 26 = .ok (.lcmp, 1) := by decide +kernel
theorem d6_27 : decode method_3_code 27 = .ok (.ifCond .gt 7, 3) := by decide +kernel
theorem d6_30 : decode method_3_code 30 = .ok (.iconst 1, 1) := by decide +kernel
theorem d6_31 : decode method_3_code 31 = .ok (.goto 4, 3) := by decide +kernel
theorem d6_34 : decode method_3_code 34 = .ok (.iconst 0, 1) := by decide +kernel
theorem d6_35 : decode method_3_code 35 = .ok (.istore 7, 2) := by decide +kernel
theorem d6_37 : decode method_3_code 37 = .ok (.aload_n 0, 1) := by decide +kernel
theorem d6_38 : decode method_3_code 38 = .ok (.aload_n 1, 1) := by decide +kernel
theorem d6_39 : decode method_3_code 39 = .ok (.invokevirtual 33, 3) := by decide +kernel
theorem d6_42 : decode method_3_code 42 = .ok (.istore 8, 2) := by decide +kernel
theorem d6_44 : decode method_3_code 44 = .ok (.iload 8, 2) := by decide +kernel
theorem d6_46 : decode method_3_code 46 = .ok (.iload 7, 2) := by decide +kernel
theorem d6_48 : decode method_3_code 48 = .ok (.if_icmp .ne 24, 3) := by decide +kernel
theorem d6_51 : decode method_3_code 51 = .ok (.aload_n 0, 1) := by decide +kernel
theorem d6_52 : decode method_3_code 52 = .ok (.invokevirtual 37, 3) := by decide +kernel
theorem d6_55 : decode method_3_code 55 = .ok (.iload 7, 2) := by decide +kernel
theorem d6_57 : decode method_3_code 57 = .ok (.ifCond .ne 7, 3) := by decide +kernel
theorem d6_60 : decode method_3_code 60 = .ok (.iconst 1, 1) := by decide +kernel
theorem d6_61 : decode method_3_code 61 = .ok (.goto 4, 3) := by decide +kernel
theorem d6_64 : decode method_3_code 64 = .ok (.iconst 0, 1) := by decide +kernel
theorem d6_65 : decode method_3_code 65 = .ok (.if_icmp .ne 7, 3) := by decide +kernel
theorem d6_68 : decode method_3_code 68 = .ok (.iconst 1, 1) := by decide +kernel
theorem d6_69 : decode method_3_code 69 = .ok (.goto 4, 3) := by decide +kernel
theorem d6_73 : decode method_3_code 73 = .ok (.istore 9, 2) := by decide +kernel
theorem d6_75 : decode method_3_code 75 = .ok (.iload 7, 2) := by decide +kernel
theorem d6_77 : decode method_3_code 77 = .ok (.ifCond .eq 20, 3) := by decide +kernel
theorem d6_80 : decode method_3_code 80 = .ok (.aload_n 3, 1) := by decide +kernel
theorem d6_81 : decode method_3_code 81 = .ok (.iconst 0, 1) := by decide +kernel
theorem d6_82 : decode method_3_code 82 = .ok (.aload_n 3, 1) := by decide +kernel
theorem d6_83 : decode method_3_code 83 = .ok (.iconst 0, 1) := by decide +kernel
theorem d6_84 : decode method_3_code 84 = .ok (.laload, 1) := by decide +kernel
theorem d6_85 : decode method_3_code 85 = .ok (.lconst 1, 1) := by decide +kernel
theorem d6_86 : decode method_3_code 86 = .ok (.ladd, 1) := by decide +kernel
theorem d6_87 : decode method_3_code 87 = .ok (.lastore, 1) := by decide +kernel
theorem d6_88 : decode method_3_code 88 = .ok (.aload_n 3, 1) := by decide +kernel
theorem d6_89 : decode method_3_code 89 = .ok (.iconst 1, 1) := by decide +kernel
theorem d6_90 : decode method_3_code 90 = .ok (.aload_n 3, 1) := by decide +kernel
theorem d6_91 : decode method_3_code 91 = .ok (.iconst 1, 1) := by decide +kernel
theorem d6_92 : decode method_3_code 92 = .ok (.laload, 1) := by decide +kernel
theorem d6_93 : decode method_3_code 93 = .ok (.iload_n 2, 1) := by decide +kernel
theorem d6_94 : decode method_3_code 94 = .ok (.i2l, 1) := by decide +kernel
theorem d6_95 : decode method_3_code 95 = .ok (.ladd, 1) := by decide +kernel
theorem d6_96 : decode method_3_code 96 = .ok (.lastore, 1) := by decide +kernel
theorem d6_97 : decode method_3_code 97 = .ok (.iload 9, 2) := by decide +kernel
theorem d6_99 : decode method_3_code 99 = .ok (.ireturn, 1) := by decide +kernel
theorem pn_rm6 : plainName "com/example/ladel/ladel/broker/RoomTakePinLaw" = true := by first | (simp [plainName, overriddenIn]; done) | decide +kernel
theorem ef_rm6 (m : MethodId) (o0 : Addr) (o1 : Addr) (p2 : Int32) (o3 : Addr) (p4 : Int32) (q5 : Int64) : entryFrame m #[(.ref o0), (.ref o1), (.int p2), (.ref o3), (.int p4), (.long q5)] 10 = mkF m 0 #[.val (.ref o0), .val (.ref o1), .val (.int p2), .val (.ref o3), .val (.int p4), .val (.long q5), .second, .unset, .unset, .unset] [] := by first | (simp [entryFrame, mkF, argsToLocals, Value.category, maxLocals]; done) | rfl
def rm6_Q (Z : State) (o0 : Addr) (o1 : Addr) (p2 : Int32) (o3 : Addr) (p4 : Int32) (q5 : Int64) (cx : Addr) (k3 : ClassId) (m_ : Int32) (B : Int64) (u : Int32) (h0 : Heap) (n0 : Nat) (v : Option Value) (h : Heap) (L : List Loc) : Prop := ∃ (m' : Int32) (B' : Int64) (u' : Int32), v = some (.int (1 : Int32)) ∧ Fr n0 L ∧ Keep h0 h [o0, o3] ∧ (0 ≤ m'.toInt ∧ m'.toInt ≤ p4.toInt) ∧ Exa Z h o0 "com/example/ladel/ladel/broker/Room" ∧ Fld Z h o0 "com/example/ladel/ladel/broker/Room" "maxMessages" "I" (.int p4) ∧ Fld Z h o0 "com/example/ladel/ladel/broker/Room" "maxBytes" "J" (.long q5) ∧ Fld Z h o0 "com/example/ladel/ladel/broker/Room" "messages" "I" (.int m') ∧ Fld Z h o0 "com/example/ladel/ladel/broker/Room" "bytes" "J" (.long B') ∧ Fld Z h o0 "com/example/ladel/ladel/broker/Room" "full" "Z" (.int u') ∧ Arv Z h o3 k3 .long (2 : Int32) [(.long m'.toInt64), (.long B')] (.long (0 : Int64))
set_option maxRecDepth 65536 in
set_option maxHeartbeats 40000000 in
theorem rm6 (l : Launch) (Z : State) (a0 : Array Value) (hw : ∀ d ∈ tables_1, d.before a0 Z = true) (ws : List Jvm.Cond) (o0 : Addr) (o1 : Addr) (p2 : Int32) (o3 : Addr) (p4 : Int32) (q5 : Int64) (cx : Addr) (k3 : ClassId) (m_ : Int32) (B : Int64) (u : Int32) (h0 : Heap) (n0 : Nat) (Z0 : n0 ≤ h0.size) (hm : 0 ≤ m_.toInt ∧ m_.toInt ≤ p4.toInt) (ne30 : o3 ≠ o0) (E_o0 : Exa Z h0 o0 "com/example/ladel/ladel/broker/Room") (F_maxMessages_o0 : Fld Z h0 o0 "com/example/ladel/ladel/broker/Room" "maxMessages" "I" (.int p4)) (F_maxBytes_o0 : Fld Z h0 o0 "com/example/ladel/ladel/broker/Room" "maxBytes" "J" (.long q5)) (F_messages_o0 : Fld Z h0 o0 "com/example/ladel/ladel/broker/Room" "messages" "I" (.int m_)) (F_bytes_o0 : Fld Z h0 o0 "com/example/ladel/ladel/broker/Room" "bytes" "J" (.long B)) (F_full_o0 : Fld Z h0 o0 "com/example/ladel/ladel/broker/Room" "full" "Z" (.int u)) (g_o0 : n0 ≤ o0) (E_o1 : Exa Z h0 o1 "com/example/ladel/ladel/broker/Topic$Message") (F_content_o1 : Fld Z h0 o1 "com/example/ladel/ladel/broker/Topic$Message" "content" "Lcom/example/ladel/ladel/store/Journal$Location;" (.ref cx)) (E_cx : Exa Z h0 cx "com/example/ladel/ladel/store/Journal$Location") (F_length_cx : Fld Z h0 cx "com/example/ladel/ladel/store/Journal$Location" "length" "I" (.int p2)) (V_o3 : Arv Z h0 o3 k3 .long (2 : Int32) [(.long m_.toInt64), (.long B)] (.long (0 : Int64))) (g_o3 : n0 ≤ o3) :
    MetFree l (⟨"com/example/ladel/ladel/broker/RoomTakePinLaw", "offer", "(Lcom/example/ladel/ladel/broker/Room;Lcom/example/ladel/ladel/broker/Topic$Message;I[JIJ)Z"⟩ : MethodName) (head1 (Jvm.Cond.code (⟨"com/example/ladel/ladel/broker/RoomTakePinLaw", "offer", "(Lcom/example/ladel/ladel/broker/Room;Lcom/example/ladel/ladel/broker/Topic$Message;I[JIJ)Z"⟩ : MethodName) method_3_code 10 (some .boolean) :: ws) ({ frames := 2, cells := 0, slots := 0, locals := 29 } : Room)) (fun a U => a = #[(.ref o0), (.ref o1), (.int p2), (.ref o3), (.int p4), (.long q5)] ∧ Z.Warmed39 U.vm ∧ U.heap = h0) (fun _ _ _ _ _ => True) (fun _ U o U' => ∃ v L, o = .returned v ∧ rm6_Q Z o0 o1 p2 o3 p4 q5 cx k3 m_ B u h0 n0 v U'.heap L ∧ FrameEnd U o U' L ({ frames := 2, cells := 0, slots := 0, locals := 29 } : Room).cells ({ frames := 2, cells := 0, slots := 0, locals := 29 } : Room).slots) := by
  refine MetFree.of_bodySF (plainFor_of_name pn_rm6) hisR ?_
  intro p e s m args below meth c s₁ Bd hml0 hP hK
  obtain ⟨rfl, hZ, hh⟩ := hP
  have hx := Bd.exec
  have hby := Bd.bytes
  have hml : c.maxLocals = 10 := hml0
  have hown : s.vm.findClass "com/example/ladel/ladel/broker/RoomTakePinLaw" = some m.cls := findClass_of_methodNamed Bd.named
  have hnm := (name_of_methodNamed Bd.named Bd.method).1
  have X0 : Stand p l e ({ frames := 2, cells := 0, slots := 0, locals := 29 } : Room) s m #[(.ref o0), (.ref o1), (.int p2), (.ref o3), (.int p4), (.long q5)] below meth c s₁ [] 0 0 := Stand.of_body Bd
  have e0 : s₁.heap = h0 := by rw [← hh, Bd.state]; rfl
  have N0 := Fr.nil n0
  have K0 := Keep.refl h0 [o0, o3]
  refine own_enter (QQ := rm6_Q Z o0 o1 p2 o3 p4 q5 cx k3 m_ B u h0 n0) (ef_rm6 m o0 o1 p2 o3 p4 q5) ?_
  show own_Run p e below s _ _ _ s₁ (mkF m 0 #[.val (.ref o0), .val (.ref o1), .val (.int p2), .val (.ref o3), .val (.int p4), .val (.long q5), .second, .unset, .unset, .unset] [])
  refine own_step (T' := s₁) (g' := (mkF m 2 #[.val (.ref o0), .val (.ref o1), .val (.int p2), .val (.ref o3), .val (.int p4), .val (.long q5), .second, .unset, .unset, .unset] [(.int (0 : Int32)), (.ref o3)])) (fun t k => ?_) ?_
  · show Steps p.tables e below (s₁.setTop (mkF m 0 #[.val (.ref o0), .val (.ref o1), .val (.int p2), .val (.ref o3), .val (.int p4), .val (.long q5), .second, .unset, .unset, .unset] [])) _
    refine XS.aloadN X0.here hx rfl (hb hby d6_0) rfl rfl ?_
    show Steps p.tables e below (s₁.setTop (mkF m 1 #[.val (.ref o0), .val (.ref o1), .val (.int p2), .val (.ref o3), .val (.int p4), .val (.long q5), .second, .unset, .unset, .unset] [(.ref o3)])) _
    refine XS.iconst X0.here hx rfl (hb hby d6_1) ?_
    show Steps p.tables e below (s₁.setTop (mkF m 2 #[.val (.ref o0), .val (.ref o1), .val (.int p2), .val (.ref o3), .val (.int p4), .val (.long q5), .second, .unset, .unset, .unset] [(.int (0 : Int32)), (.ref o3)])) _
    exact k
  obtain ⟨cl1, Arcl1, qcl1, Scl1, Mcl1, Hcl1, Gcl1⟩ := id V_o3
  have hincl1 : ¬ ((0 : Int32) < 0 ∨ cl1.slots.size ≤ ((0 : Int32)).toNatClampNeg) := inb_of Scl1 ⟨by decide, by decide⟩
  have hatcl1 : cl1.slots[((0 : Int32)).toNatClampNeg]? = some (.long m_.toInt64) := Hcl1.at hincl1 rfl
  refine own_step (T' := s₁) (g' := (mkF m 7 #[.val (.ref o0), .val (.ref o1), .val (.int p2), .val (.ref o3), .val (.int p4), .val (.long q5), .second, .unset, .unset, .unset] [(.int (lcmpW m_.toInt64 (p4.toInt64)))])) (fun t k => ?_) ?_
  · show Steps p.tables e below (s₁.setTop (mkF m 2 #[.val (.ref o0), .val (.ref o1), .val (.int p2), .val (.ref o3), .val (.int p4), .val (.long q5), .second, .unset, .unset, .unset] [(.int (0 : Int32)), (.ref o3)])) _
    refine X0.laload hx (j := (0 : Int32)) (v := (.long m_.toInt64)) (by rw [e0]; exact Arcl1.1) (State.isArrayOf_alike hZ.alike Arcl1.2.1) Arcl1.2.2 hincl1 hatcl1 (g := (mkF m 2 #[.val (.ref o0), .val (.ref o1), .val (.int p2), .val (.ref o3), .val (.int p4), .val (.long q5), .second, .unset, .unset, .unset] [(.int (0 : Int32)), (.ref o3)])) rfl rfl (hb hby d6_2) _ ?_
    show Steps p.tables e below (s₁.setTop (mkF m 3 #[.val (.ref o0), .val (.ref o1), .val (.int p2), .val (.ref o3), .val (.int p4), .val (.long q5), .second, .unset, .unset, .unset] [(.long m_.toInt64)])) _
    refine XS.iload X0.here hx rfl (hb hby d6_3) rfl ?_
    show Steps p.tables e below (s₁.setTop (mkF m 5 #[.val (.ref o0), .val (.ref o1), .val (.int p2), .val (.ref o3), .val (.int p4), .val (.long q5), .second, .unset, .unset, .unset] [(.int p4), (.long m_.toInt64)])) _
    refine XS.i2l X0.here hx rfl (hb hby d6_5) rfl ?_
    show Steps p.tables e below (s₁.setTop (mkF m 6 #[.val (.ref o0), .val (.ref o1), .val (.int p2), .val (.ref o3), .val (.int p4), .val (.long q5), .second, .unset, .unset, .unset] [(.long (p4.toInt64)), (.long m_.toInt64)])) _
    refine XS.lcmp X0.here hx rfl (hb hby d6_6) rfl ?_
    show Steps p.tables e below (s₁.setTop (mkF m 7 #[.val (.ref o0), .val (.ref o1), .val (.int p2), .val (.ref o3), .val (.int p4), .val (.long q5), .second, .unset, .unset, .unset] [(.int (lcmpW m_.toInt64 (p4.toInt64)))])) _
    exact k
  by_cases hc2 : (lcmpW m_.toInt64 (p4.toInt64)) < (0 : Int32)
  · skip
    refine own_step (T' := s₁) (g' := (mkF m 12 #[.val (.ref o0), .val (.ref o1), .val (.int p2), .val (.ref o3), .val (.int p4), .val (.long q5), .second, .unset, .unset, .unset] [(.int (0 : Int32)), (.ref o3)])) (fun t k => ?_) ?_
    · show Steps p.tables e below (s₁.setTop (mkF m 7 #[.val (.ref o0), .val (.ref o1), .val (.int p2), .val (.ref o3), .val (.int p4), .val (.long q5), .second, .unset, .unset, .unset] [(.int (lcmpW m_.toInt64 (p4.toInt64)))])) _
      refine XS.ifNo X0.here hx rfl (hb hby d6_7) rfl ((if0 _ _).trans (tlt hc2).2.1) ?_
      show Steps p.tables e below (s₁.setTop (mkF m 10 #[.val (.ref o0), .val (.ref o1), .val (.int p2), .val (.ref o3), .val (.int p4), .val (.long q5), .second, .unset, .unset, .unset] [])) _
      refine XS.aloadN X0.here hx rfl (hb hby d6_10) rfl rfl ?_
      show Steps p.tables e below (s₁.setTop (mkF m 11 #[.val (.ref o0), .val (.ref o1), .val (.int p2), .val (.ref o3), .val (.int p4), .val (.long q5), .second, .unset, .unset, .unset] [(.ref o3)])) _
      refine XS.iconst X0.here hx rfl (hb hby d6_11) ?_
      show Steps p.tables e below (s₁.setTop (mkF m 12 #[.val (.ref o0), .val (.ref o1), .val (.int p2), .val (.ref o3), .val (.int p4), .val (.long q5), .second, .unset, .unset, .unset] [(.int (0 : Int32)), (.ref o3)])) _
      exact k
    obtain ⟨cl3, Arcl3, qcl3, Scl3, Mcl3, Hcl3, Gcl3⟩ := id V_o3
    have hincl3 : ¬ ((0 : Int32) < 0 ∨ cl3.slots.size ≤ ((0 : Int32)).toNatClampNeg) := inb_of Scl3 ⟨by decide, by decide⟩
    have hatcl3 : cl3.slots[((0 : Int32)).toNatClampNeg]? = some (.long m_.toInt64) := Hcl3.at hincl3 rfl
    refine own_step (T' := s₁) (g' := (mkF m 15 #[.val (.ref o0), .val (.ref o1), .val (.int p2), .val (.ref o3), .val (.int p4), .val (.long q5), .second, .unset, .unset, .unset] [(.int (lcmpW m_.toInt64 (0 : Int64)))])) (fun t k => ?_) ?_
    · show Steps p.tables e below (s₁.setTop (mkF m 12 #[.val (.ref o0), .val (.ref o1), .val (.int p2), .val (.ref o3), .val (.int p4), .val (.long q5), .second, .unset, .unset, .unset] [(.int (0 : Int32)), (.ref o3)])) _
      refine X0.laload hx (j := (0 : Int32)) (v := (.long m_.toInt64)) (by rw [e0]; exact Arcl3.1) (State.isArrayOf_alike hZ.alike Arcl3.2.1) Arcl3.2.2 hincl3 hatcl3 (g := (mkF m 12 #[.val (.ref o0), .val (.ref o1), .val (.int p2), .val (.ref o3), .val (.int p4), .val (.long q5), .second, .unset, .unset, .unset] [(.int (0 : Int32)), (.ref o3)])) rfl rfl (hb hby d6_12) _ ?_
      show Steps p.tables e below (s₁.setTop (mkF m 13 #[.val (.ref o0), .val (.ref o1), .val (.int p2), .val (.ref o3), .val (.int p4), .val (.long q5), .second, .unset, .unset, .unset] [(.long m_.toInt64)])) _
      refine XS.lconst X0.here hx rfl (hb hby d6_13) ?_
      show Steps p.tables e below (s₁.setTop (mkF m 14 #[.val (.ref o0), .val (.ref o1), .val (.int p2), .val (.ref o3), .val (.int p4), .val (.long q5), .second, .unset, .unset, .unset] [(.long (0 : Int64)), (.long m_.toInt64)])) _
      refine XS.lcmp X0.here hx rfl (hb hby d6_14) rfl ?_
      show Steps p.tables e below (s₁.setTop (mkF m 15 #[.val (.ref o0), .val (.ref o1), .val (.int p2), .val (.ref o3), .val (.int p4), .val (.long q5), .second, .unset, .unset, .unset] [(.int (lcmpW m_.toInt64 (0 : Int64)))])) _
      exact k
    by_cases hc4 : (lcmpW m_.toInt64 (0 : Int64)) = (0 : Int32)
    · skip
      refine own_step (T' := s₁) (g' := (mkF m 39 #[.val (.ref o0), .val (.ref o1), .val (.int p2), .val (.ref o3), .val (.int p4), .val (.long q5), .second, .val (.int (1 : Int32)), .unset, .unset] [(.ref o1), (.ref o0)])) (fun t k => ?_) ?_
      · show Steps p.tables e below (s₁.setTop (mkF m 15 #[.val (.ref o0), .val (.ref o1), .val (.int p2), .val (.ref o3), .val (.int p4), .val (.long q5), .second, .unset, .unset, .unset] [(.int (lcmpW m_.toInt64 (0 : Int64)))])) _
        refine XS.ifYes X0.here hx rfl (pc0 := 15) (pc' := 30) rfl (hb hby d6_15) rfl ((if0 _ _).trans (teq hc4).1) (by decide) (by decide) ?_
        show Steps p.tables e below (s₁.setTop (mkF m 30 #[.val (.ref o0), .val (.ref o1), .val (.int p2), .val (.ref o3), .val (.int p4), .val (.long q5), .second, .unset, .unset, .unset] [])) _
        refine XS.iconst X0.here hx rfl (hb hby d6_30) ?_
        show Steps p.tables e below (s₁.setTop (mkF m 31 #[.val (.ref o0), .val (.ref o1), .val (.int p2), .val (.ref o3), .val (.int p4), .val (.long q5), .second, .unset, .unset, .unset] [(.int (1 : Int32))])) _
        refine XS.goto X0.here hx rfl (pc0 := 31) (pc' := 35) rfl (hb hby d6_31) (by decide) (by decide) ?_
        show Steps p.tables e below (s₁.setTop (mkF m 35 #[.val (.ref o0), .val (.ref o1), .val (.int p2), .val (.ref o3), .val (.int p4), .val (.long q5), .second, .unset, .unset, .unset] [(.int (1 : Int32))])) _
        refine XS.istore X0.here hx rfl (hb hby d6_35) rfl (l' := #[.val (.ref o0), .val (.ref o1), .val (.int p2), .val (.ref o3), .val (.int p4), .val (.long q5), .second, .val (.int (1 : Int32)), .unset, .unset]) rfl ?_
        show Steps p.tables e below (s₁.setTop (mkF m 37 #[.val (.ref o0), .val (.ref o1), .val (.int p2), .val (.ref o3), .val (.int p4), .val (.long q5), .second, .val (.int (1 : Int32)), .unset, .unset] [])) _
        refine XS.aloadN X0.here hx rfl (hb hby d6_37) rfl rfl ?_
        show Steps p.tables e below (s₁.setTop (mkF m 38 #[.val (.ref o0), .val (.ref o1), .val (.int p2), .val (.ref o3), .val (.int p4), .val (.long q5), .second, .val (.int (1 : Int32)), .unset, .unset] [(.ref o0)])) _
        refine XS.aloadN X0.here hx rfl (hb hby d6_38) rfl rfl ?_
        show Steps p.tables e below (s₁.setTop (mkF m 39 #[.val (.ref o0), .val (.ref o1), .val (.int p2), .val (.ref o3), .val (.int p4), .val (.long q5), .second, .val (.int (1 : Int32)), .unset, .unset] [(.ref o1), (.ref o0)])) _
        exact k
      obtain ⟨cq5, kq5, q5a, q5b, q5c⟩ := isOf hZ e0 E_o0
      obtain ⟨_, _, ⟨T5, L5, k5, n5⟩, -, X5, ⟨Lc5, hQ5, l5, y5, z5⟩, st5⟩ := X0.virtualBack hx (y := (⟨"com/example/ladel/ladel/broker/Room", "take", "(Lcom/example/ladel/ladel/broker/Topic$Message;)Z"⟩ : MethodName)) (z := (⟨"com/example/ladel/ladel/broker/Room", "take", "(Lcom/example/ladel/ladel/broker/Topic$Message;)Z"⟩ : MethodName)) hown (mvT hZ (hw _ (List.mem_of_getElem? (i := 48) rfl))) (mvT hZ (hw _ (List.mem_of_getElem? (i := 49) rfl))) (notFace_of_selects (args := #[]) (mvT hZ (hw _ (List.mem_of_getElem? (i := 51) rfl)))) (mvT hZ (hw _ (List.mem_of_getElem? (i := 51) rfl))) (mvT hZ (hw _ (List.mem_of_getElem? (i := 50) rfl))) (by decide) (backOf (W := 0) (rm7 l Z a0 hw [] o0 o1 cx p4 q5 m_ B u p2 (0 : Int32) h0 n0 Z0 (own_fits1 hm hc2 hc4) E_o0 F_maxMessages_o0 F_maxBytes_o0 F_messages_o0 F_bytes_o0 F_full_o0 g_o0 E_o1 F_content_o1 E_cx F_length_cx) hZ (hw _ (List.mem_of_getElem? (i := 52) rfl)) (hw _ (List.mem_of_getElem? (i := 34) rfl)) (by decide) (by decide)) q5a q5c (g := (mkF m 39 #[.val (.ref o0), .val (.ref o1), .val (.int p2), .val (.ref o3), .val (.int p4), .val (.long q5), .second, .val (.int (1 : Int32)), .unset, .unset] [(.ref o1), (.ref o0)])) rfl (by rw [hml]; rfl) (Steps.refl _) (argsL := [(.ref o1)]) (rest := []) (lenOf pd_3 rfl) rfl (by show 2 * 0 + _ ≤ _; exact Nat.le_of_eq rfl) (hb hby d6_39) (fun _ _ => ⟨rfl, e0, (by decide : 0 + 0 ≤ _), (by decide : 0 + 0 ≤ _)⟩)
      dsimp only [Pt.U, Pt.locs, Pt.cells, Pt.slots] at X5 l5 y5 z5 st5 hQ5
      subst l5 y5 z5
      obtain ⟨rfl, N5q, Kq5, Eq5, Fa5, Fb5, Fc5, Fd5, Fe5⟩ := hQ5
      have N5 := Fr.app N0 N5q
      refine own_step (fun t k => st5.trans k) ?_
      show own_Run p e below s _ _ _ T5 (mkF m 42 #[.val (.ref o0), .val (.ref o1), .val (.int p2), .val (.ref o3), .val (.int p4), .val (.long q5), .second, .val (.int (1 : Int32)), .unset, .unset] [(.int (1 : Int32))])
      have K6 := K0.trans Kq5 (allS (Or.inl (List.mem_of_getElem? (i := 0) rfl)) all0)
      have A7 := E_o0.keep Kq5
      have V8 := V_o3.keep Kq5 (ninS ne30 nin0)
      have Z9 := Nat.le_trans Z0 Kq5.1
      have F10 : Fld Z T5.heap o0 "com/example/ladel/ladel/broker/Room" "maxMessages" "I" (.int p4) := Fa5
      have F11 : Fld Z T5.heap o0 "com/example/ladel/ladel/broker/Room" "maxBytes" "J" (.long q5) := Fb5
      have F12 : Fld Z T5.heap o0 "com/example/ladel/ladel/broker/Room" "messages" "I" (.int (m_ + 1)) := Fc5
      have F13 : Fld Z T5.heap o0 "com/example/ladel/ladel/broker/Room" "bytes" "J" (.long (B + p2.toInt64)) := Fd5
      have F14 : Fld Z T5.heap o0 "com/example/ladel/ladel/broker/Room" "full" "Z" (.int (0 : Int32)) := Fe5
      refine own_step (T' := T5) (g' := (mkF m 52 #[.val (.ref o0), .val (.ref o1), .val (.int p2), .val (.ref o3), .val (.int p4), .val (.long q5), .second, .val (.int (1 : Int32)), .val (.int (1 : Int32)), .unset] [(.ref o0)])) (fun t k => ?_) ?_
      · show Steps p.tables e below (T5.setTop (mkF m 42 #[.val (.ref o0), .val (.ref o1), .val (.int p2), .val (.ref o3), .val (.int p4), .val (.long q5), .second, .val (.int (1 : Int32)), .unset, .unset] [(.int (1 : Int32))])) _
        refine XS.istore X5.here hx rfl (hb hby d6_42) rfl (l' := #[.val (.ref o0), .val (.ref o1), .val (.int p2), .val (.ref o3), .val (.int p4), .val (.long q5), .second, .val (.int (1 : Int32)), .val (.int (1 : Int32)), .unset]) rfl ?_
        show Steps p.tables e below (T5.setTop (mkF m 44 #[.val (.ref o0), .val (.ref o1), .val (.int p2), .val (.ref o3), .val (.int p4), .val (.long q5), .second, .val (.int (1 : Int32)), .val (.int (1 : Int32)), .unset] [])) _
        refine XS.iload X5.here hx rfl (hb hby d6_44) rfl ?_
        show Steps p.tables e below (T5.setTop (mkF m 46 #[.val (.ref o0), .val (.ref o1), .val (.int p2), .val (.ref o3), .val (.int p4), .val (.long q5), .second, .val (.int (1 : Int32)), .val (.int (1 : Int32)), .unset] [(.int (1 : Int32))])) _
        refine XS.iload X5.here hx rfl (hb hby d6_46) rfl ?_
        show Steps p.tables e below (T5.setTop (mkF m 48 #[.val (.ref o0), .val (.ref o1), .val (.int p2), .val (.ref o3), .val (.int p4), .val (.long q5), .second, .val (.int (1 : Int32)), .val (.int (1 : Int32)), .unset] [(.int (1 : Int32)), (.int (1 : Int32))])) _
        refine XS.icmpNo X5.here hx rfl (hb hby d6_48) rfl (teq rfl).2 ?_
        show Steps p.tables e below (T5.setTop (mkF m 51 #[.val (.ref o0), .val (.ref o1), .val (.int p2), .val (.ref o3), .val (.int p4), .val (.long q5), .second, .val (.int (1 : Int32)), .val (.int (1 : Int32)), .unset] [])) _
        refine XS.aloadN X5.here hx rfl (hb hby d6_51) rfl rfl ?_
        show Steps p.tables e below (T5.setTop (mkF m 52 #[.val (.ref o0), .val (.ref o1), .val (.int p2), .val (.ref o3), .val (.int p4), .val (.long q5), .second, .val (.int (1 : Int32)), .val (.int (1 : Int32)), .unset] [(.ref o0)])) _
        exact k
      obtain ⟨cq16, kq16, q16a, q16b, q16c⟩ := isOf hZ rfl Eq5
      obtain ⟨_, _, ⟨T16, L16, k16, n16⟩, -, X16, ⟨Lc16, hQ16, l16, y16, z16⟩, st16⟩ := X5.virtualBack hx (y := (⟨"com/example/ladel/ladel/broker/Room", "full", "()Z"⟩ : MethodName)) (z := (⟨"com/example/ladel/ladel/broker/Room", "full", "()Z"⟩ : MethodName)) hown (mvT hZ (hw _ (List.mem_of_getElem? (i := 69) rfl))) (mvT hZ (hw _ (List.mem_of_getElem? (i := 70) rfl))) (notFace_of_selects (args := #[]) (mvT hZ (hw _ (List.mem_of_getElem? (i := 72) rfl)))) (mvT hZ (hw _ (List.mem_of_getElem? (i := 72) rfl))) (mvT hZ (hw _ (List.mem_of_getElem? (i := 71) rfl))) (by decide) (backOf (W := 0) (rm10 l Z a0 hw [] o0 (0 : Int32) T5.heap n0 Z9 F14) hZ (hw _ (List.mem_of_getElem? (i := 73) rfl)) (hw _ (List.mem_of_getElem? (i := 34) rfl)) (by decide) (by decide)) q16a q16c (g := (mkF m 52 #[.val (.ref o0), .val (.ref o1), .val (.int p2), .val (.ref o3), .val (.int p4), .val (.long q5), .second, .val (.int (1 : Int32)), .val (.int (1 : Int32)), .unset] [(.ref o0)])) rfl (by rw [hml]; rfl) (Steps.refl _) (argsL := []) (rest := []) (lenOf pd_4 rfl) rfl (by show 2 * 0 + _ ≤ _; exact Nat.le_of_eq rfl) (hb hby d6_52) (fun _ _ => ⟨rfl, rfl, (by decide : 0 + 0 ≤ _), (by decide : 0 + 0 ≤ _)⟩)
      dsimp only [Pt.U, Pt.locs, Pt.cells, Pt.slots] at X16 l16 y16 z16 st16 hQ16
      subst l16 y16 z16
      obtain ⟨rfl, N16q, eq16⟩ := hQ16
      have N16 := Fr.app N5 N16q
      refine own_step (fun t k => st16.trans k) ?_
      show own_Run p e below s _ _ _ T16 (mkF m 55 #[.val (.ref o0), .val (.ref o1), .val (.int p2), .val (.ref o3), .val (.int p4), .val (.long q5), .second, .val (.int (1 : Int32)), .val (.int (1 : Int32)), .unset] [(.int (0 : Int32))])
      refine own_step (T' := T16) (g' := (mkF m 84 #[.val (.ref o0), .val (.ref o1), .val (.int p2), .val (.ref o3), .val (.int p4), .val (.long q5), .second, .val (.int (1 : Int32)), .val (.int (1 : Int32)), .val (.int (1 : Int32))] [(.int (0 : Int32)), (.ref o3), (.int (0 : Int32)), (.ref o3)])) (fun t k => ?_) ?_
      · show Steps p.tables e below (T16.setTop (mkF m 55 #[.val (.ref o0), .val (.ref o1), .val (.int p2), .val (.ref o3), .val (.int p4), .val (.long q5), .second, .val (.int (1 : Int32)), .val (.int (1 : Int32)), .unset] [(.int (0 : Int32))])) _
        refine XS.iload X16.here hx rfl (hb hby d6_55) rfl ?_
        show Steps p.tables e below (T16.setTop (mkF m 57 #[.val (.ref o0), .val (.ref o1), .val (.int p2), .val (.ref o3), .val (.int p4), .val (.long q5), .second, .val (.int (1 : Int32)), .val (.int (1 : Int32)), .unset] [(.int (1 : Int32)), (.int (0 : Int32))])) _
        refine XS.ifYes X16.here hx rfl (pc0 := 57) (pc' := 64) rfl (hb hby d6_57) rfl ((if0 _ _).trans (feq (by decide)).2) (by decide) (by decide) ?_
        show Steps p.tables e below (T16.setTop (mkF m 64 #[.val (.ref o0), .val (.ref o1), .val (.int p2), .val (.ref o3), .val (.int p4), .val (.long q5), .second, .val (.int (1 : Int32)), .val (.int (1 : Int32)), .unset] [(.int (0 : Int32))])) _
        refine XS.iconst X16.here hx rfl (hb hby d6_64) ?_
        show Steps p.tables e below (T16.setTop (mkF m 65 #[.val (.ref o0), .val (.ref o1), .val (.int p2), .val (.ref o3), .val (.int p4), .val (.long q5), .second, .val (.int (1 : Int32)), .val (.int (1 : Int32)), .unset] [(.int (0 : Int32)), (.int (0 : Int32))])) _
        refine XS.icmpNo X16.here hx rfl (hb hby d6_65) rfl (teq rfl).2 ?_
        show Steps p.tables e below (T16.setTop (mkF m 68 #[.val (.ref o0), .val (.ref o1), .val (.int p2), .val (.ref o3), .val (.int p4), .val (.long q5), .second, .val (.int (1 : Int32)), .val (.int (1 : Int32)), .unset] [])) _
        refine XS.iconst X16.here hx rfl (hb hby d6_68) ?_
        show Steps p.tables e below (T16.setTop (mkF m 69 #[.val (.ref o0), .val (.ref o1), .val (.int p2), .val (.ref o3), .val (.int p4), .val (.long q5), .second, .val (.int (1 : Int32)), .val (.int (1 : Int32)), .unset] [(.int (1 : Int32))])) _
        refine XS.goto X16.here hx rfl (pc0 := 69) (pc' := 73) rfl (hb hby d6_69) (by decide) (by decide) ?_
        show Steps p.tables e below (T16.setTop (mkF m 73 #[.val (.ref o0), .val (.ref o1), .val (.int p2), .val (.ref o3), .val (.int p4), .val (.long q5), .second, .val (.int (1 : Int32)), .val (.int (1 : Int32)), .unset] [(.int (1 : Int32))])) _
        refine XS.istore X16.here hx rfl (hb hby d6_73) rfl (l' := #[.val (.ref o0), .val (.ref o1), .val (.int p2), .val (.ref o3), .val (.int p4), .val (.long q5), .second, .val (.int (1 : Int32)), .val (.int (1 : Int32)), .val (.int (1 : Int32))]) rfl ?_
        show Steps p.tables e below (T16.setTop (mkF m 75 #[.val (.ref o0), .val (.ref o1), .val (.int p2), .val (.ref o3), .val (.int p4), .val (.long q5), .second, .val (.int (1 : Int32)), .val (.int (1 : Int32)), .val (.int (1 : Int32))] [])) _
        refine XS.iload X16.here hx rfl (hb hby d6_75) rfl ?_
        show Steps p.tables e below (T16.setTop (mkF m 77 #[.val (.ref o0), .val (.ref o1), .val (.int p2), .val (.ref o3), .val (.int p4), .val (.long q5), .second, .val (.int (1 : Int32)), .val (.int (1 : Int32)), .val (.int (1 : Int32))] [(.int (1 : Int32))])) _
        refine XS.ifNo X16.here hx rfl (hb hby d6_77) rfl ((if0 _ _).trans (feq (by decide)).1) ?_
        show Steps p.tables e below (T16.setTop (mkF m 80 #[.val (.ref o0), .val (.ref o1), .val (.int p2), .val (.ref o3), .val (.int p4), .val (.long q5), .second, .val (.int (1 : Int32)), .val (.int (1 : Int32)), .val (.int (1 : Int32))] [])) _
        refine XS.aloadN X16.here hx rfl (hb hby d6_80) rfl rfl ?_
        show Steps p.tables e below (T16.setTop (mkF m 81 #[.val (.ref o0), .val (.ref o1), .val (.int p2), .val (.ref o3), .val (.int p4), .val (.long q5), .second, .val (.int (1 : Int32)), .val (.int (1 : Int32)), .val (.int (1 : Int32))] [(.ref o3)])) _
        refine XS.iconst X16.here hx rfl (hb hby d6_81) ?_
        show Steps p.tables e below (T16.setTop (mkF m 82 #[.val (.ref o0), .val (.ref o1), .val (.int p2), .val (.ref o3), .val (.int p4), .val (.long q5), .second, .val (.int (1 : Int32)), .val (.int (1 : Int32)), .val (.int (1 : Int32))] [(.int (0 : Int32)), (.ref o3)])) _
        refine XS.aloadN X16.here hx rfl (hb hby d6_82) rfl rfl ?_
        show Steps p.tables e below (T16.setTop (mkF m 83 #[.val (.ref o0), .val (.ref o1), .val (.int p2), .val (.ref o3), .val (.int p4), .val (.long q5), .second, .val (.int (1 : Int32)), .val (.int (1 : Int32)), .val (.int (1 : Int32))] [(.ref o3), (.int (0 : Int32)), (.ref o3)])) _
        refine XS.iconst X16.here hx rfl (hb hby d6_83) ?_
        show Steps p.tables e below (T16.setTop (mkF m 84 #[.val (.ref o0), .val (.ref o1), .val (.int p2), .val (.ref o3), .val (.int p4), .val (.long q5), .second, .val (.int (1 : Int32)), .val (.int (1 : Int32)), .val (.int (1 : Int32))] [(.int (0 : Int32)), (.ref o3), (.int (0 : Int32)), (.ref o3)])) _
        exact k
      obtain ⟨cl20, Arcl20, qcl20, Scl20, Mcl20, Hcl20, Gcl20⟩ := id V8
      have hincl20 : ¬ ((0 : Int32) < 0 ∨ cl20.slots.size ≤ ((0 : Int32)).toNatClampNeg) := inb_of Scl20 ⟨by decide, by decide⟩
      have hatcl20 : cl20.slots[((0 : Int32)).toNatClampNeg]? = some (.long m_.toInt64) := Hcl20.at hincl20 rfl
      refine own_step (T' := T16) (g' := (mkF m 87 #[.val (.ref o0), .val (.ref o1), .val (.int p2), .val (.ref o3), .val (.int p4), .val (.long q5), .second, .val (.int (1 : Int32)), .val (.int (1 : Int32)), .val (.int (1 : Int32))] [(.long (m_.toInt64 + (1 : Int64))), (.int (0 : Int32)), (.ref o3)])) (fun t k => ?_) ?_
      · show Steps p.tables e below (T16.setTop (mkF m 84 #[.val (.ref o0), .val (.ref o1), .val (.int p2), .val (.ref o3), .val (.int p4), .val (.long q5), .second, .val (.int (1 : Int32)), .val (.int (1 : Int32)), .val (.int (1 : Int32))] [(.int (0 : Int32)), (.ref o3), (.int (0 : Int32)), (.ref o3)])) _
        refine X16.laload hx (j := (0 : Int32)) (v := (.long m_.toInt64)) (by rw [eq16]; exact Arcl20.1) (State.isArrayOf_alike hZ.alike Arcl20.2.1) Arcl20.2.2 hincl20 hatcl20 (g := (mkF m 84 #[.val (.ref o0), .val (.ref o1), .val (.int p2), .val (.ref o3), .val (.int p4), .val (.long q5), .second, .val (.int (1 : Int32)), .val (.int (1 : Int32)), .val (.int (1 : Int32))] [(.int (0 : Int32)), (.ref o3), (.int (0 : Int32)), (.ref o3)])) rfl rfl (hb hby d6_84) _ ?_
        show Steps p.tables e below (T16.setTop (mkF m 85 #[.val (.ref o0), .val (.ref o1), .val (.int p2), .val (.ref o3), .val (.int p4), .val (.long q5), .second, .val (.int (1 : Int32)), .val (.int (1 : Int32)), .val (.int (1 : Int32))] [(.long m_.toInt64), (.int (0 : Int32)), (.ref o3)])) _
        refine XS.lconst X16.here hx rfl (hb hby d6_85) ?_
        show Steps p.tables e below (T16.setTop (mkF m 86 #[.val (.ref o0), .val (.ref o1), .val (.int p2), .val (.ref o3), .val (.int p4), .val (.long q5), .second, .val (.int (1 : Int32)), .val (.int (1 : Int32)), .val (.int (1 : Int32))] [(.long (1 : Int64)), (.long m_.toInt64), (.int (0 : Int32)), (.ref o3)])) _
        refine XS.ladd X16.here hx rfl (hb hby d6_86) rfl ?_
        show Steps p.tables e below (T16.setTop (mkF m 87 #[.val (.ref o0), .val (.ref o1), .val (.int p2), .val (.ref o3), .val (.int p4), .val (.long q5), .second, .val (.int (1 : Int32)), .val (.int (1 : Int32)), .val (.int (1 : Int32))] [(.long (m_.toInt64 + (1 : Int64))), (.int (0 : Int32)), (.ref o3)])) _
        exact k
      obtain ⟨cl21, Arcl21, qcl21, Scl21, Mcl21, Hcl21, Gcl21⟩ := V8
      have hincl21 : ¬ ((0 : Int32) < 0 ∨ cl21.slots.size ≤ ((0 : Int32)).toNatClampNeg) := inb_of Scl21 ⟨by decide, by decide⟩
      obtain ⟨T22, h22, X22, e22, W22, st22⟩ := stJ X16 hx hZ eq16 Arcl21 (j := (0 : Int32)) hincl21 (g := (mkF m 87 #[.val (.ref o0), .val (.ref o1), .val (.int p2), .val (.ref o3), .val (.int p4), .val (.long q5), .second, .val (.int (1 : Int32)), .val (.int (1 : Int32)), .val (.int (1 : Int32))] [(.long (m_.toInt64 + (1 : Int64))), (.int (0 : Int32)), (.ref o3)])) rfl rfl (hb hby d6_87)
      have V23 := Arv.set Arcl21 qcl21 Scl21 Mcl21 Hcl21 Gcl21 rfl W22 0 rfl (Nat.le_of_ble_eq_true rfl)
      have V23l : Arv Z h22 o3 k3 .long (2 : Int32) [(.long (m_.toInt64 + (1 : Int64))), (.long B)] (.long (0 : Int64)) := V23
      have F24 := F10.other W22 (Or.inl (Ne.symm ne30))
      have F25 := F11.other W22 (Or.inl (Ne.symm ne30))
      have F26 := F12.other W22 (Or.inl (Ne.symm ne30))
      have F27 := F13.other W22 (Or.inl (Ne.symm ne30))
      have F28 := F14.other W22 (Or.inl (Ne.symm ne30))
      have A29 := Eq5.wr W22
      have Z30 := Nat.le_trans Z9 (Keep.of_wr W22).1
      have K22 := K6.wr W22 (Or.inl (List.mem_of_getElem? (i := 1) rfl))
      have N22 := Fr.snoc X22 N16 g_o3
      refine own_step st22 ?_
      show own_Run p e below s _ _ _ T22 (mkF m 88 #[.val (.ref o0), .val (.ref o1), .val (.int p2), .val (.ref o3), .val (.int p4), .val (.long q5), .second, .val (.int (1 : Int32)), .val (.int (1 : Int32)), .val (.int (1 : Int32))] [])
      refine own_step (T' := T22) (g' := (mkF m 92 #[.val (.ref o0), .val (.ref o1), .val (.int p2), .val (.ref o3), .val (.int p4), .val (.long q5), .second, .val (.int (1 : Int32)), .val (.int (1 : Int32)), .val (.int (1 : Int32))] [(.int (1 : Int32)), (.ref o3), (.int (1 : Int32)), (.ref o3)])) (fun t k => ?_) ?_
      · show Steps p.tables e below (T22.setTop (mkF m 88 #[.val (.ref o0), .val (.ref o1), .val (.int p2), .val (.ref o3), .val (.int p4), .val (.long q5), .second, .val (.int (1 : Int32)), .val (.int (1 : Int32)), .val (.int (1 : Int32))] [])) _
        refine XS.aloadN X22.here hx rfl (hb hby d6_88) rfl rfl ?_
        show Steps p.tables e below (T22.setTop (mkF m 89 #[.val (.ref o0), .val (.ref o1), .val (.int p2), .val (.ref o3), .val (.int p4), .val (.long q5), .second, .val (.int (1 : Int32)), .val (.int (1 : Int32)), .val (.int (1 : Int32))] [(.ref o3)])) _
        refine XS.iconst X22.here hx rfl (hb hby d6_89) ?_
        show Steps p.tables e below (T22.setTop (mkF m 90 #[.val (.ref o0), .val (.ref o1), .val (.int p2), .val (.ref o3), .val (.int p4), .val (.long q5), .second, .val (.int (1 : Int32)), .val (.int (1 : Int32)), .val (.int (1 : Int32))] [(.int (1 : Int32)), (.ref o3)])) _
        refine XS.aloadN X22.here hx rfl (hb hby d6_90) rfl rfl ?_
        show Steps p.tables e below (T22.setTop (mkF m 91 #[.val (.ref o0), .val (.ref o1), .val (.int p2), .val (.ref o3), .val (.int p4), .val (.long q5), .second, .val (.int (1 : Int32)), .val (.int (1 : Int32)), .val (.int (1 : Int32))] [(.ref o3), (.int (1 : Int32)), (.ref o3)])) _
        refine XS.iconst X22.here hx rfl (hb hby d6_91) ?_
        show Steps p.tables e below (T22.setTop (mkF m 92 #[.val (.ref o0), .val (.ref o1), .val (.int p2), .val (.ref o3), .val (.int p4), .val (.long q5), .second, .val (.int (1 : Int32)), .val (.int (1 : Int32)), .val (.int (1 : Int32))] [(.int (1 : Int32)), (.ref o3), (.int (1 : Int32)), (.ref o3)])) _
        exact k
      obtain ⟨cl31, Arcl31, qcl31, Scl31, Mcl31, Hcl31, Gcl31⟩ := id V23l
      have hincl31 : ¬ ((1 : Int32) < 0 ∨ cl31.slots.size ≤ ((1 : Int32)).toNatClampNeg) := inb_of Scl31 ⟨by decide, by decide⟩
      have hatcl31 : cl31.slots[((1 : Int32)).toNatClampNeg]? = some (.long B) := Hcl31.at hincl31 rfl
      refine own_step (T' := T22) (g' := (mkF m 96 #[.val (.ref o0), .val (.ref o1), .val (.int p2), .val (.ref o3), .val (.int p4), .val (.long q5), .second, .val (.int (1 : Int32)), .val (.int (1 : Int32)), .val (.int (1 : Int32))] [(.long (B + (p2.toInt64))), (.int (1 : Int32)), (.ref o3)])) (fun t k => ?_) ?_
      · show Steps p.tables e below (T22.setTop (mkF m 92 #[.val (.ref o0), .val (.ref o1), .val (.int p2), .val (.ref o3), .val (.int p4), .val (.long q5), .second, .val (.int (1 : Int32)), .val (.int (1 : Int32)), .val (.int (1 : Int32))] [(.int (1 : Int32)), (.ref o3), (.int (1 : Int32)), (.ref o3)])) _
        refine X22.laload hx (j := (1 : Int32)) (v := (.long B)) (by rw [e22]; exact Arcl31.1) (State.isArrayOf_alike hZ.alike Arcl31.2.1) Arcl31.2.2 hincl31 hatcl31 (g := (mkF m 92 #[.val (.ref o0), .val (.ref o1), .val (.int p2), .val (.ref o3), .val (.int p4), .val (.long q5), .second, .val (.int (1 : Int32)), .val (.int (1 : Int32)), .val (.int (1 : Int32))] [(.int (1 : Int32)), (.ref o3), (.int (1 : Int32)), (.ref o3)])) rfl rfl (hb hby d6_92) _ ?_
        show Steps p.tables e below (T22.setTop (mkF m 93 #[.val (.ref o0), .val (.ref o1), .val (.int p2), .val (.ref o3), .val (.int p4), .val (.long q5), .second, .val (.int (1 : Int32)), .val (.int (1 : Int32)), .val (.int (1 : Int32))] [(.long B), (.int (1 : Int32)), (.ref o3)])) _
        refine XS.iloadN X22.here hx rfl (hb hby d6_93) rfl ?_
        show Steps p.tables e below (T22.setTop (mkF m 94 #[.val (.ref o0), .val (.ref o1), .val (.int p2), .val (.ref o3), .val (.int p4), .val (.long q5), .second, .val (.int (1 : Int32)), .val (.int (1 : Int32)), .val (.int (1 : Int32))] [(.int p2), (.long B), (.int (1 : Int32)), (.ref o3)])) _
        refine XS.i2l X22.here hx rfl (hb hby d6_94) rfl ?_
        show Steps p.tables e below (T22.setTop (mkF m 95 #[.val (.ref o0), .val (.ref o1), .val (.int p2), .val (.ref o3), .val (.int p4), .val (.long q5), .second, .val (.int (1 : Int32)), .val (.int (1 : Int32)), .val (.int (1 : Int32))] [(.long (p2.toInt64)), (.long B), (.int (1 : Int32)), (.ref o3)])) _
        refine XS.ladd X22.here hx rfl (hb hby d6_95) rfl ?_
        show Steps p.tables e below (T22.setTop (mkF m 96 #[.val (.ref o0), .val (.ref o1), .val (.int p2), .val (.ref o3), .val (.int p4), .val (.long q5), .second, .val (.int (1 : Int32)), .val (.int (1 : Int32)), .val (.int (1 : Int32))] [(.long (B + (p2.toInt64))), (.int (1 : Int32)), (.ref o3)])) _
        exact k
      obtain ⟨cl32, Arcl32, qcl32, Scl32, Mcl32, Hcl32, Gcl32⟩ := V23l
      have hincl32 : ¬ ((1 : Int32) < 0 ∨ cl32.slots.size ≤ ((1 : Int32)).toNatClampNeg) := inb_of Scl32 ⟨by decide, by decide⟩
      obtain ⟨T33, h33, X33, e33, W33, st33⟩ := stJ X22 hx hZ e22 Arcl32 (j := (1 : Int32)) hincl32 (g := (mkF m 96 #[.val (.ref o0), .val (.ref o1), .val (.int p2), .val (.ref o3), .val (.int p4), .val (.long q5), .second, .val (.int (1 : Int32)), .val (.int (1 : Int32)), .val (.int (1 : Int32))] [(.long (B + (p2.toInt64))), (.int (1 : Int32)), (.ref o3)])) rfl rfl (hb hby d6_96)
      have V34 := Arv.set Arcl32 qcl32 Scl32 Mcl32 Hcl32 Gcl32 rfl W33 1 rfl (Nat.le_of_ble_eq_true rfl)
      have V34l : Arv Z h33 o3 k3 .long (2 : Int32) [(.long (m_.toInt64 + (1 : Int64))), (.long (B + (p2.toInt64)))] (.long (0 : Int64)) := V34
      have F35 := F24.other W33 (Or.inl (Ne.symm ne30))
      have F36 := F25.other W33 (Or.inl (Ne.symm ne30))
      have F37 := F26.other W33 (Or.inl (Ne.symm ne30))
      have F38 := F27.other W33 (Or.inl (Ne.symm ne30))
      have F39 := F28.other W33 (Or.inl (Ne.symm ne30))
      have A40 := A29.wr W33
      have Z41 := Nat.le_trans Z30 (Keep.of_wr W33).1
      have K33 := K22.wr W33 (Or.inl (List.mem_of_getElem? (i := 1) rfl))
      have N33 := Fr.snoc X33 N22 g_o3
      refine own_step st33 ?_
      show own_Run p e below s _ _ _ T33 (mkF m 97 #[.val (.ref o0), .val (.ref o1), .val (.int p2), .val (.ref o3), .val (.int p4), .val (.long q5), .second, .val (.int (1 : Int32)), .val (.int (1 : Int32)), .val (.int (1 : Int32))] [])
      refine own_step (T' := T33) (g' := (mkF m 99 #[.val (.ref o0), .val (.ref o1), .val (.int p2), .val (.ref o3), .val (.int p4), .val (.long q5), .second, .val (.int (1 : Int32)), .val (.int (1 : Int32)), .val (.int (1 : Int32))] [(.int (1 : Int32))])) (fun t k => ?_) ?_
      · show Steps p.tables e below (T33.setTop (mkF m 97 #[.val (.ref o0), .val (.ref o1), .val (.int p2), .val (.ref o3), .val (.int p4), .val (.long q5), .second, .val (.int (1 : Int32)), .val (.int (1 : Int32)), .val (.int (1 : Int32))] [])) _
        refine XS.iload X33.here hx rfl (hb hby d6_97) rfl ?_
        show Steps p.tables e below (T33.setTop (mkF m 99 #[.val (.ref o0), .val (.ref o1), .val (.int p2), .val (.ref o3), .val (.int p4), .val (.long q5), .second, .val (.int (1 : Int32)), .val (.int (1 : Int32)), .val (.int (1 : Int32))] [(.int (1 : Int32))])) _
        exact k
      refine own_retN X33 hx (t := .boolean) Bd.returns (by simp) (hb hby d6_99) (BodyLoose.notSynchronized Bd) (by decide) (by decide) ?_
      rw [show T33.heap = h33 from e33]
      exact ⟨m_ + 1, (B + p2.toInt64), (0 : Int32), rfl, N33, K33, own_up hm hc2, A40, F35, F36, F37, F38, F39, own_arv hm hc2 V34l⟩
    · skip
      refine own_step (T' := s₁) (g' := (mkF m 20 #[.val (.ref o0), .val (.ref o1), .val (.int p2), .val (.ref o3), .val (.int p4), .val (.long q5), .second, .unset, .unset, .unset] [(.int (1 : Int32)), (.ref o3)])) (fun t k => ?_) ?_
      · show Steps p.tables e below (s₁.setTop (mkF m 15 #[.val (.ref o0), .val (.ref o1), .val (.int p2), .val (.ref o3), .val (.int p4), .val (.long q5), .second, .unset, .unset, .unset] [(.int (lcmpW m_.toInt64 (0 : Int64)))])) _
        refine XS.ifNo X0.here hx rfl (hb hby d6_15) rfl ((if0 _ _).trans (feq hc4).1) ?_
        show Steps p.tables e below (s₁.setTop (mkF m 18 #[.val (.ref o0), .val (.ref o1), .val (.int p2), .val (.ref o3), .val (.int p4), .val (.long q5), .second, .unset, .unset, .unset] [])) _
        refine XS.aloadN X0.here hx rfl (hb hby d6_18) rfl rfl ?_
        show Steps p.tables e below (s₁.setTop (mkF m 19 #[.val (.ref o0), .val (.ref o1), .val (.int p2), .val (.ref o3), .val (.int p4), .val (.long q5), .second, .unset, .unset, .unset] [(.ref o3)])) _
        refine XS.iconst X0.here hx rfl (hb hby d6_19) ?_
        show Steps p.tables e below (s₁.setTop (mkF m 20 #[.val (.ref o0), .val (.ref o1), .val (.int p2), .val (.ref o3), .val (.int p4), .val (.long q5), .second, .unset, .unset, .unset] [(.int (1 : Int32)), (.ref o3)])) _
        exact k
      obtain ⟨cl42, Arcl42, qcl42, Scl42, Mcl42, Hcl42, Gcl42⟩ := id V_o3
      have hincl42 : ¬ ((1 : Int32) < 0 ∨ cl42.slots.size ≤ ((1 : Int32)).toNatClampNeg) := inb_of Scl42 ⟨by decide, by decide⟩
      have hatcl42 : cl42.slots[((1 : Int32)).toNatClampNeg]? = some (.long B) := Hcl42.at hincl42 rfl
      refine own_step (T' := s₁) (g' := (mkF m 27 #[.val (.ref o0), .val (.ref o1), .val (.int p2), .val (.ref o3), .val (.int p4), .val (.long q5), .second, .unset, .unset, .unset] [(.int (lcmpW (B + (p2.toInt64)) q5))])) (fun t k => ?_) ?_
      · show Steps p.tables e below (s₁.setTop (mkF m 20 #[.val (.ref o0), .val (.ref o1), .val (.int p2), .val (.ref o3), .val (.int p4), .val (.long q5), .second, .unset, .unset, .unset] [(.int (1 : Int32)), (.ref o3)])) _
        refine X0.laload hx (j := (1 : Int32)) (v := (.long B)) (by rw [e0]; exact Arcl42.1) (State.isArrayOf_alike hZ.alike Arcl42.2.1) Arcl42.2.2 hincl42 hatcl42 (g := (mkF m 20 #[.val (.ref o0), .val (.ref o1), .val (.int p2), .val (.ref o3), .val (.int p4), .val (.long q5), .second, .unset, .unset, .unset] [(.int (1 : Int32)), (.ref o3)])) rfl rfl (hb hby d6_20) _ ?_
        show Steps p.tables e below (s₁.setTop (mkF m 21 #[.val (.ref o0), .val (.ref o1), .val (.int p2), .val (.ref o3), .val (.int p4), .val (.long q5), .second, .unset, .unset, .unset] [(.long B)])) _
        refine XS.iloadN X0.here hx rfl (hb hby d6_21) rfl ?_
        show Steps p.tables e below (s₁.setTop (mkF m 22 #[.val (.ref o0), .val (.ref o1), .val (.int p2), .val (.ref o3), .val (.int p4), .val (.long q5), .second, .unset, .unset, .unset] [(.int p2), (.long B)])) _
        refine XS.i2l X0.here hx rfl (hb hby d6_22) rfl ?_
        show Steps p.tables e below (s₁.setTop (mkF m 23 #[.val (.ref o0), .val (.ref o1), .val (.int p2), .val (.ref o3), .val (.int p4), .val (.long q5), .second, .unset, .unset, .unset] [(.long (p2.toInt64)), (.long B)])) _
        refine XS.ladd X0.here hx rfl (hb hby d6_23) rfl ?_
        show Steps p.tables e below (s₁.setTop (mkF m 24 #[.val (.ref o0), .val (.ref o1), .val (.int p2), .val (.ref o3), .val (.int p4), .val (.long q5), .second, .unset, .unset, .unset] [(.long (B + (p2.toInt64)))])) _
        refine XS.lload X0.here hx rfl (hb hby d6_24) rfl ?_
        show Steps p.tables e below (s₁.setTop (mkF m 26 #[.val (.ref o0), .val (.ref o1), .val (.int p2), .val (.ref o3), .val (.int p4), .val (.long q5), .second, .unset, .unset, .unset] [(.long q5), (.long (B + (p2.toInt64)))])) _
        refine XS.lcmp X0.here hx rfl (hb hby d6_26) rfl ?_
        show Steps p.tables e below (s₁.setTop (mkF m 27 #[.val (.ref o0), .val (.ref o1), .val (.int p2), .val (.ref o3), .val (.int p4), .val (.long q5), .second, .unset, .unset, .unset] [(.int (lcmpW (B + (p2.toInt64)) q5))])) _
        exact k
      by_cases hc43 : (0 : Int32) < (lcmpW (B + (p2.toInt64)) q5)
      · skip
        refine own_step (T' := s₁) (g' := (mkF m 39 #[.val (.ref o0), .val (.ref o1), .val (.int p2), .val (.ref o3), .val (.int p4), .val (.long q5), .second, .val (.int (0 : Int32)), .unset, .unset] [(.ref o1), (.ref o0)])) (fun t k => ?_) ?_
        · show Steps p.tables e below (s₁.setTop (mkF m 27 #[.val (.ref o0), .val (.ref o1), .val (.int p2), .val (.ref o3), .val (.int p4), .val (.long q5), .second, .unset, .unset, .unset] [(.int (lcmpW (B + (p2.toInt64)) q5))])) _
          refine XS.ifYes X0.here hx rfl (pc0 := 27) (pc' := 34) rfl (hb hby d6_27) rfl ((if0 _ _).trans (tlt hc43).2.2.1) (by decide) (by decide) ?_
          show Steps p.tables e below (s₁.setTop (mkF m 34 #[.val (.ref o0), .val (.ref o1), .val (.int p2), .val (.ref o3), .val (.int p4), .val (.long q5), .second, .unset, .unset, .unset] [])) _
          refine XS.iconst X0.here hx rfl (hb hby d6_34) ?_
          show Steps p.tables e below (s₁.setTop (mkF m 35 #[.val (.ref o0), .val (.ref o1), .val (.int p2), .val (.ref o3), .val (.int p4), .val (.long q5), .second, .unset, .unset, .unset] [(.int (0 : Int32))])) _
          refine XS.istore X0.here hx rfl (hb hby d6_35) rfl (l' := #[.val (.ref o0), .val (.ref o1), .val (.int p2), .val (.ref o3), .val (.int p4), .val (.long q5), .second, .val (.int (0 : Int32)), .unset, .unset]) rfl ?_
          show Steps p.tables e below (s₁.setTop (mkF m 37 #[.val (.ref o0), .val (.ref o1), .val (.int p2), .val (.ref o3), .val (.int p4), .val (.long q5), .second, .val (.int (0 : Int32)), .unset, .unset] [])) _
          refine XS.aloadN X0.here hx rfl (hb hby d6_37) rfl rfl ?_
          show Steps p.tables e below (s₁.setTop (mkF m 38 #[.val (.ref o0), .val (.ref o1), .val (.int p2), .val (.ref o3), .val (.int p4), .val (.long q5), .second, .val (.int (0 : Int32)), .unset, .unset] [(.ref o0)])) _
          refine XS.aloadN X0.here hx rfl (hb hby d6_38) rfl rfl ?_
          show Steps p.tables e below (s₁.setTop (mkF m 39 #[.val (.ref o0), .val (.ref o1), .val (.int p2), .val (.ref o3), .val (.int p4), .val (.long q5), .second, .val (.int (0 : Int32)), .unset, .unset] [(.ref o1), (.ref o0)])) _
          exact k
        obtain ⟨cq44, kq44, q44a, q44b, q44c⟩ := isOf hZ e0 E_o0
        obtain ⟨_, _, ⟨T44, L44, k44, n44⟩, -, X44, ⟨Lc44, hQ44, l44, y44, z44⟩, st44⟩ := X0.virtualBack hx (y := (⟨"com/example/ladel/ladel/broker/Room", "take", "(Lcom/example/ladel/ladel/broker/Topic$Message;)Z"⟩ : MethodName)) (z := (⟨"com/example/ladel/ladel/broker/Room", "take", "(Lcom/example/ladel/ladel/broker/Topic$Message;)Z"⟩ : MethodName)) hown (mvT hZ (hw _ (List.mem_of_getElem? (i := 48) rfl))) (mvT hZ (hw _ (List.mem_of_getElem? (i := 49) rfl))) (notFace_of_selects (args := #[]) (mvT hZ (hw _ (List.mem_of_getElem? (i := 51) rfl)))) (mvT hZ (hw _ (List.mem_of_getElem? (i := 51) rfl))) (mvT hZ (hw _ (List.mem_of_getElem? (i := 50) rfl))) (by decide) (backOf (W := 0) (rm7 l Z a0 hw [] o0 o1 cx p4 q5 m_ B u p2 (1 : Int32) h0 n0 Z0 (own_no2 hm hc2 hc4 hc43) E_o0 F_maxMessages_o0 F_maxBytes_o0 F_messages_o0 F_bytes_o0 F_full_o0 g_o0 E_o1 F_content_o1 E_cx F_length_cx) hZ (hw _ (List.mem_of_getElem? (i := 52) rfl)) (hw _ (List.mem_of_getElem? (i := 34) rfl)) (by decide) (by decide)) q44a q44c (g := (mkF m 39 #[.val (.ref o0), .val (.ref o1), .val (.int p2), .val (.ref o3), .val (.int p4), .val (.long q5), .second, .val (.int (0 : Int32)), .unset, .unset] [(.ref o1), (.ref o0)])) rfl (by rw [hml]; rfl) (Steps.refl _) (argsL := [(.ref o1)]) (rest := []) (lenOf pd_3 rfl) rfl (by show 2 * 0 + _ ≤ _; exact Nat.le_of_eq rfl) (hb hby d6_39) (fun _ _ => ⟨rfl, e0, (by decide : 0 + 0 ≤ _), (by decide : 0 + 0 ≤ _)⟩)
        dsimp only [Pt.U, Pt.locs, Pt.cells, Pt.slots] at X44 l44 y44 z44 st44 hQ44
        subst l44 y44 z44
        obtain ⟨rfl, N44q, Kq44, Eq44, Fa44, Fb44, Fc44, Fd44, Fe44⟩ := hQ44
        have N44 := Fr.app N0 N44q
        refine own_step (fun t k => st44.trans k) ?_
        show own_Run p e below s _ _ _ T44 (mkF m 42 #[.val (.ref o0), .val (.ref o1), .val (.int p2), .val (.ref o3), .val (.int p4), .val (.long q5), .second, .val (.int (0 : Int32)), .unset, .unset] [(.int (0 : Int32))])
        have K45 := K0.trans Kq44 (allS (Or.inl (List.mem_of_getElem? (i := 0) rfl)) all0)
        have A46 := E_o0.keep Kq44
        have V47 := V_o3.keep Kq44 (ninS ne30 nin0)
        have Z48 := Nat.le_trans Z0 Kq44.1
        have F49 : Fld Z T44.heap o0 "com/example/ladel/ladel/broker/Room" "maxMessages" "I" (.int p4) := Fa44
        have F50 : Fld Z T44.heap o0 "com/example/ladel/ladel/broker/Room" "maxBytes" "J" (.long q5) := Fb44
        have F51 : Fld Z T44.heap o0 "com/example/ladel/ladel/broker/Room" "messages" "I" (.int m_) := Fc44
        have F52 : Fld Z T44.heap o0 "com/example/ladel/ladel/broker/Room" "bytes" "J" (.long B) := Fd44
        have F53 : Fld Z T44.heap o0 "com/example/ladel/ladel/broker/Room" "full" "Z" (.int (1 : Int32)) := Fe44
        refine own_step (T' := T44) (g' := (mkF m 52 #[.val (.ref o0), .val (.ref o1), .val (.int p2), .val (.ref o3), .val (.int p4), .val (.long q5), .second, .val (.int (0 : Int32)), .val (.int (0 : Int32)), .unset] [(.ref o0)])) (fun t k => ?_) ?_
        · show Steps p.tables e below (T44.setTop (mkF m 42 #[.val (.ref o0), .val (.ref o1), .val (.int p2), .val (.ref o3), .val (.int p4), .val (.long q5), .second, .val (.int (0 : Int32)), .unset, .unset] [(.int (0 : Int32))])) _
          refine XS.istore X44.here hx rfl (hb hby d6_42) rfl (l' := #[.val (.ref o0), .val (.ref o1), .val (.int p2), .val (.ref o3), .val (.int p4), .val (.long q5), .second, .val (.int (0 : Int32)), .val (.int (0 : Int32)), .unset]) rfl ?_
          show Steps p.tables e below (T44.setTop (mkF m 44 #[.val (.ref o0), .val (.ref o1), .val (.int p2), .val (.ref o3), .val (.int p4), .val (.long q5), .second, .val (.int (0 : Int32)), .val (.int (0 : Int32)), .unset] [])) _
          refine XS.iload X44.here hx rfl (hb hby d6_44) rfl ?_
          show Steps p.tables e below (T44.setTop (mkF m 46 #[.val (.ref o0), .val (.ref o1), .val (.int p2), .val (.ref o3), .val (.int p4), .val (.long q5), .second, .val (.int (0 : Int32)), .val (.int (0 : Int32)), .unset] [(.int (0 : Int32))])) _
          refine XS.iload X44.here hx rfl (hb hby d6_46) rfl ?_
          show Steps p.tables e below (T44.setTop (mkF m 48 #[.val (.ref o0), .val (.ref o1), .val (.int p2), .val (.ref o3), .val (.int p4), .val (.long q5), .second, .val (.int (0 : Int32)), .val (.int (0 : Int32)), .unset] [(.int (0 : Int32)), (.int (0 : Int32))])) _
          refine XS.icmpNo X44.here hx rfl (hb hby d6_48) rfl (teq rfl).2 ?_
          show Steps p.tables e below (T44.setTop (mkF m 51 #[.val (.ref o0), .val (.ref o1), .val (.int p2), .val (.ref o3), .val (.int p4), .val (.long q5), .second, .val (.int (0 : Int32)), .val (.int (0 : Int32)), .unset] [])) _
          refine XS.aloadN X44.here hx rfl (hb hby d6_51) rfl rfl ?_
          show Steps p.tables e below (T44.setTop (mkF m 52 #[.val (.ref o0), .val (.ref o1), .val (.int p2), .val (.ref o3), .val (.int p4), .val (.long q5), .second, .val (.int (0 : Int32)), .val (.int (0 : Int32)), .unset] [(.ref o0)])) _
          exact k
        obtain ⟨cq55, kq55, q55a, q55b, q55c⟩ := isOf hZ rfl Eq44
        obtain ⟨_, _, ⟨T55, L55, k55, n55⟩, -, X55, ⟨Lc55, hQ55, l55, y55, z55⟩, st55⟩ := X44.virtualBack hx (y := (⟨"com/example/ladel/ladel/broker/Room", "full", "()Z"⟩ : MethodName)) (z := (⟨"com/example/ladel/ladel/broker/Room", "full", "()Z"⟩ : MethodName)) hown (mvT hZ (hw _ (List.mem_of_getElem? (i := 69) rfl))) (mvT hZ (hw _ (List.mem_of_getElem? (i := 70) rfl))) (notFace_of_selects (args := #[]) (mvT hZ (hw _ (List.mem_of_getElem? (i := 72) rfl)))) (mvT hZ (hw _ (List.mem_of_getElem? (i := 72) rfl))) (mvT hZ (hw _ (List.mem_of_getElem? (i := 71) rfl))) (by decide) (backOf (W := 0) (rm10 l Z a0 hw [] o0 (1 : Int32) T44.heap n0 Z48 F53) hZ (hw _ (List.mem_of_getElem? (i := 73) rfl)) (hw _ (List.mem_of_getElem? (i := 34) rfl)) (by decide) (by decide)) q55a q55c (g := (mkF m 52 #[.val (.ref o0), .val (.ref o1), .val (.int p2), .val (.ref o3), .val (.int p4), .val (.long q5), .second, .val (.int (0 : Int32)), .val (.int (0 : Int32)), .unset] [(.ref o0)])) rfl (by rw [hml]; rfl) (Steps.refl _) (argsL := []) (rest := []) (lenOf pd_4 rfl) rfl (by show 2 * 0 + _ ≤ _; exact Nat.le_of_eq rfl) (hb hby d6_52) (fun _ _ => ⟨rfl, rfl, (by decide : 0 + 0 ≤ _), (by decide : 0 + 0 ≤ _)⟩)
        dsimp only [Pt.U, Pt.locs, Pt.cells, Pt.slots] at X55 l55 y55 z55 st55 hQ55
        subst l55 y55 z55
        obtain ⟨rfl, N55q, eq55⟩ := hQ55
        have N55 := Fr.app N44 N55q
        refine own_step (fun t k => st55.trans k) ?_
        show own_Run p e below s _ _ _ T55 (mkF m 55 #[.val (.ref o0), .val (.ref o1), .val (.int p2), .val (.ref o3), .val (.int p4), .val (.long q5), .second, .val (.int (0 : Int32)), .val (.int (0 : Int32)), .unset] [(.int (1 : Int32))])
        refine own_step (T' := T55) (g' := (mkF m 99 #[.val (.ref o0), .val (.ref o1), .val (.int p2), .val (.ref o3), .val (.int p4), .val (.long q5), .second, .val (.int (0 : Int32)), .val (.int (0 : Int32)), .val (.int (1 : Int32))] [(.int (1 : Int32))])) (fun t k => ?_) ?_
        · show Steps p.tables e below (T55.setTop (mkF m 55 #[.val (.ref o0), .val (.ref o1), .val (.int p2), .val (.ref o3), .val (.int p4), .val (.long q5), .second, .val (.int (0 : Int32)), .val (.int (0 : Int32)), .unset] [(.int (1 : Int32))])) _
          refine XS.iload X55.here hx rfl (hb hby d6_55) rfl ?_
          show Steps p.tables e below (T55.setTop (mkF m 57 #[.val (.ref o0), .val (.ref o1), .val (.int p2), .val (.ref o3), .val (.int p4), .val (.long q5), .second, .val (.int (0 : Int32)), .val (.int (0 : Int32)), .unset] [(.int (0 : Int32)), (.int (1 : Int32))])) _
          refine XS.ifNo X55.here hx rfl (hb hby d6_57) rfl ((if0 _ _).trans (teq rfl).2) ?_
          show Steps p.tables e below (T55.setTop (mkF m 60 #[.val (.ref o0), .val (.ref o1), .val (.int p2), .val (.ref o3), .val (.int p4), .val (.long q5), .second, .val (.int (0 : Int32)), .val (.int (0 : Int32)), .unset] [(.int (1 : Int32))])) _
          refine XS.iconst X55.here hx rfl (hb hby d6_60) ?_
          show Steps p.tables e below (T55.setTop (mkF m 61 #[.val (.ref o0), .val (.ref o1), .val (.int p2), .val (.ref o3), .val (.int p4), .val (.long q5), .second, .val (.int (0 : Int32)), .val (.int (0 : Int32)), .unset] [(.int (1 : Int32)), (.int (1 : Int32))])) _
          refine XS.goto X55.here hx rfl (pc0 := 61) (pc' := 65) rfl (hb hby d6_61) (by decide) (by decide) ?_
          show Steps p.tables e below (T55.setTop (mkF m 65 #[.val (.ref o0), .val (.ref o1), .val (.int p2), .val (.ref o3), .val (.int p4), .val (.long q5), .second, .val (.int (0 : Int32)), .val (.int (0 : Int32)), .unset] [(.int (1 : Int32)), (.int (1 : Int32))])) _
          refine XS.icmpNo X55.here hx rfl (hb hby d6_65) rfl (teq rfl).2 ?_
          show Steps p.tables e below (T55.setTop (mkF m 68 #[.val (.ref o0), .val (.ref o1), .val (.int p2), .val (.ref o3), .val (.int p4), .val (.long q5), .second, .val (.int (0 : Int32)), .val (.int (0 : Int32)), .unset] [])) _
          refine XS.iconst X55.here hx rfl (hb hby d6_68) ?_
          show Steps p.tables e below (T55.setTop (mkF m 69 #[.val (.ref o0), .val (.ref o1), .val (.int p2), .val (.ref o3), .val (.int p4), .val (.long q5), .second, .val (.int (0 : Int32)), .val (.int (0 : Int32)), .unset] [(.int (1 : Int32))])) _
          refine XS.goto X55.here hx rfl (pc0 := 69) (pc' := 73) rfl (hb hby d6_69) (by decide) (by decide) ?_
          show Steps p.tables e below (T55.setTop (mkF m 73 #[.val (.ref o0), .val (.ref o1), .val (.int p2), .val (.ref o3), .val (.int p4), .val (.long q5), .second, .val (.int (0 : Int32)), .val (.int (0 : Int32)), .unset] [(.int (1 : Int32))])) _
          refine XS.istore X55.here hx rfl (hb hby d6_73) rfl (l' := #[.val (.ref o0), .val (.ref o1), .val (.int p2), .val (.ref o3), .val (.int p4), .val (.long q5), .second, .val (.int (0 : Int32)), .val (.int (0 : Int32)), .val (.int (1 : Int32))]) rfl ?_
          show Steps p.tables e below (T55.setTop (mkF m 75 #[.val (.ref o0), .val (.ref o1), .val (.int p2), .val (.ref o3), .val (.int p4), .val (.long q5), .second, .val (.int (0 : Int32)), .val (.int (0 : Int32)), .val (.int (1 : Int32))] [])) _
          refine XS.iload X55.here hx rfl (hb hby d6_75) rfl ?_
          show Steps p.tables e below (T55.setTop (mkF m 77 #[.val (.ref o0), .val (.ref o1), .val (.int p2), .val (.ref o3), .val (.int p4), .val (.long q5), .second, .val (.int (0 : Int32)), .val (.int (0 : Int32)), .val (.int (1 : Int32))] [(.int (0 : Int32))])) _
          refine XS.ifYes X55.here hx rfl (pc0 := 77) (pc' := 97) rfl (hb hby d6_77) rfl ((if0 _ _).trans (teq rfl).1) (by decide) (by decide) ?_
          show Steps p.tables e below (T55.setTop (mkF m 97 #[.val (.ref o0), .val (.ref o1), .val (.int p2), .val (.ref o3), .val (.int p4), .val (.long q5), .second, .val (.int (0 : Int32)), .val (.int (0 : Int32)), .val (.int (1 : Int32))] [])) _
          refine XS.iload X55.here hx rfl (hb hby d6_97) rfl ?_
          show Steps p.tables e below (T55.setTop (mkF m 99 #[.val (.ref o0), .val (.ref o1), .val (.int p2), .val (.ref o3), .val (.int p4), .val (.long q5), .second, .val (.int (0 : Int32)), .val (.int (0 : Int32)), .val (.int (1 : Int32))] [(.int (1 : Int32))])) _
          exact k
        refine own_retN X55 hx (t := .boolean) Bd.returns (by simp) (hb hby d6_99) (BodyLoose.notSynchronized Bd) (by decide) (by decide) ?_
        rw [show T55.heap = T44.heap from eq55]
        exact ⟨m_, B, (1 : Int32), rfl, N55, K45, hm, Eq44, F49, F50, F51, F52, F53, V47⟩
      · skip
        refine own_step (T' := s₁) (g' := (mkF m 39 #[.val (.ref o0), .val (.ref o1), .val (.int p2), .val (.ref o3), .val (.int p4), .val (.long q5), .second, .val (.int (1 : Int32)), .unset, .unset] [(.ref o1), (.ref o0)])) (fun t k => ?_) ?_
        · show Steps p.tables e below (s₁.setTop (mkF m 27 #[.val (.ref o0), .val (.ref o1), .val (.int p2), .val (.ref o3), .val (.int p4), .val (.long q5), .second, .unset, .unset, .unset] [(.int (lcmpW (B + (p2.toInt64)) q5))])) _
          refine XS.ifNo X0.here hx rfl (hb hby d6_27) rfl ((if0 _ _).trans (flt hc43).2.2.1) ?_
          show Steps p.tables e below (s₁.setTop (mkF m 30 #[.val (.ref o0), .val (.ref o1), .val (.int p2), .val (.ref o3), .val (.int p4), .val (.long q5), .second, .unset, .unset, .unset] [])) _
          refine XS.iconst X0.here hx rfl (hb hby d6_30) ?_
          show Steps p.tables e below (s₁.setTop (mkF m 31 #[.val (.ref o0), .val (.ref o1), .val (.int p2), .val (.ref o3), .val (.int p4), .val (.long q5), .second, .unset, .unset, .unset] [(.int (1 : Int32))])) _
          refine XS.goto X0.here hx rfl (pc0 := 31) (pc' := 35) rfl (hb hby d6_31) (by decide) (by decide) ?_
          show Steps p.tables e below (s₁.setTop (mkF m 35 #[.val (.ref o0), .val (.ref o1), .val (.int p2), .val (.ref o3), .val (.int p4), .val (.long q5), .second, .unset, .unset, .unset] [(.int (1 : Int32))])) _
          refine XS.istore X0.here hx rfl (hb hby d6_35) rfl (l' := #[.val (.ref o0), .val (.ref o1), .val (.int p2), .val (.ref o3), .val (.int p4), .val (.long q5), .second, .val (.int (1 : Int32)), .unset, .unset]) rfl ?_
          show Steps p.tables e below (s₁.setTop (mkF m 37 #[.val (.ref o0), .val (.ref o1), .val (.int p2), .val (.ref o3), .val (.int p4), .val (.long q5), .second, .val (.int (1 : Int32)), .unset, .unset] [])) _
          refine XS.aloadN X0.here hx rfl (hb hby d6_37) rfl rfl ?_
          show Steps p.tables e below (s₁.setTop (mkF m 38 #[.val (.ref o0), .val (.ref o1), .val (.int p2), .val (.ref o3), .val (.int p4), .val (.long q5), .second, .val (.int (1 : Int32)), .unset, .unset] [(.ref o0)])) _
          refine XS.aloadN X0.here hx rfl (hb hby d6_38) rfl rfl ?_
          show Steps p.tables e below (s₁.setTop (mkF m 39 #[.val (.ref o0), .val (.ref o1), .val (.int p2), .val (.ref o3), .val (.int p4), .val (.long q5), .second, .val (.int (1 : Int32)), .unset, .unset] [(.ref o1), (.ref o0)])) _
          exact k
        obtain ⟨cq59, kq59, q59a, q59b, q59c⟩ := isOf hZ e0 E_o0
        obtain ⟨_, _, ⟨T59, L59, k59, n59⟩, -, X59, ⟨Lc59, hQ59, l59, y59, z59⟩, st59⟩ := X0.virtualBack hx (y := (⟨"com/example/ladel/ladel/broker/Room", "take", "(Lcom/example/ladel/ladel/broker/Topic$Message;)Z"⟩ : MethodName)) (z := (⟨"com/example/ladel/ladel/broker/Room", "take", "(Lcom/example/ladel/ladel/broker/Topic$Message;)Z"⟩ : MethodName)) hown (mvT hZ (hw _ (List.mem_of_getElem? (i := 48) rfl))) (mvT hZ (hw _ (List.mem_of_getElem? (i := 49) rfl))) (notFace_of_selects (args := #[]) (mvT hZ (hw _ (List.mem_of_getElem? (i := 51) rfl)))) (mvT hZ (hw _ (List.mem_of_getElem? (i := 51) rfl))) (mvT hZ (hw _ (List.mem_of_getElem? (i := 50) rfl))) (by decide) (backOf (W := 0) (rm7 l Z a0 hw [] o0 o1 cx p4 q5 m_ B u p2 (0 : Int32) h0 n0 Z0 (own_fits2 hm hc2 hc4 hc43) E_o0 F_maxMessages_o0 F_maxBytes_o0 F_messages_o0 F_bytes_o0 F_full_o0 g_o0 E_o1 F_content_o1 E_cx F_length_cx) hZ (hw _ (List.mem_of_getElem? (i := 52) rfl)) (hw _ (List.mem_of_getElem? (i := 34) rfl)) (by decide) (by decide)) q59a q59c (g := (mkF m 39 #[.val (.ref o0), .val (.ref o1), .val (.int p2), .val (.ref o3), .val (.int p4), .val (.long q5), .second, .val (.int (1 : Int32)), .unset, .unset] [(.ref o1), (.ref o0)])) rfl (by rw [hml]; rfl) (Steps.refl _) (argsL := [(.ref o1)]) (rest := []) (lenOf pd_3 rfl) rfl (by show 2 * 0 + _ ≤ _; exact Nat.le_of_eq rfl) (hb hby d6_39) (fun _ _ => ⟨rfl, e0, (by decide : 0 + 0 ≤ _), (by decide : 0 + 0 ≤ _)⟩)
        dsimp only [Pt.U, Pt.locs, Pt.cells, Pt.slots] at X59 l59 y59 z59 st59 hQ59
        subst l59 y59 z59
        obtain ⟨rfl, N59q, Kq59, Eq59, Fa59, Fb59, Fc59, Fd59, Fe59⟩ := hQ59
        have N59 := Fr.app N0 N59q
        refine own_step (fun t k => st59.trans k) ?_
        show own_Run p e below s _ _ _ T59 (mkF m 42 #[.val (.ref o0), .val (.ref o1), .val (.int p2), .val (.ref o3), .val (.int p4), .val (.long q5), .second, .val (.int (1 : Int32)), .unset, .unset] [(.int (1 : Int32))])
        have K60 := K0.trans Kq59 (allS (Or.inl (List.mem_of_getElem? (i := 0) rfl)) all0)
        have A61 := E_o0.keep Kq59
        have V62 := V_o3.keep Kq59 (ninS ne30 nin0)
        have Z63 := Nat.le_trans Z0 Kq59.1
        have F64 : Fld Z T59.heap o0 "com/example/ladel/ladel/broker/Room" "maxMessages" "I" (.int p4) := Fa59
        have F65 : Fld Z T59.heap o0 "com/example/ladel/ladel/broker/Room" "maxBytes" "J" (.long q5) := Fb59
        have F66 : Fld Z T59.heap o0 "com/example/ladel/ladel/broker/Room" "messages" "I" (.int (m_ + 1)) := Fc59
        have F67 : Fld Z T59.heap o0 "com/example/ladel/ladel/broker/Room" "bytes" "J" (.long (B + p2.toInt64)) := Fd59
        have F68 : Fld Z T59.heap o0 "com/example/ladel/ladel/broker/Room" "full" "Z" (.int (0 : Int32)) := Fe59
        refine own_step (T' := T59) (g' := (mkF m 52 #[.val (.ref o0), .val (.ref o1), .val (.int p2), .val (.ref o3), .val (.int p4), .val (.long q5), .second, .val (.int (1 : Int32)), .val (.int (1 : Int32)), .unset] [(.ref o0)])) (fun t k => ?_) ?_
        · show Steps p.tables e below (T59.setTop (mkF m 42 #[.val (.ref o0), .val (.ref o1), .val (.int p2), .val (.ref o3), .val (.int p4), .val (.long q5), .second, .val (.int (1 : Int32)), .unset, .unset] [(.int (1 : Int32))])) _
          refine XS.istore X59.here hx rfl (hb hby d6_42) rfl (l' := #[.val (.ref o0), .val (.ref o1), .val (.int p2), .val (.ref o3), .val (.int p4), .val (.long q5), .second, .val (.int (1 : Int32)), .val (.int (1 : Int32)), .unset]) rfl ?_
          show Steps p.tables e below (T59.setTop (mkF m 44 #[.val (.ref o0), .val (.ref o1), .val (.int p2), .val (.ref o3), .val (.int p4), .val (.long q5), .second, .val (.int (1 : Int32)), .val (.int (1 : Int32)), .unset] [])) _
          refine XS.iload X59.here hx rfl (hb hby d6_44) rfl ?_
          show Steps p.tables e below (T59.setTop (mkF m 46 #[.val (.ref o0), .val (.ref o1), .val (.int p2), .val (.ref o3), .val (.int p4), .val (.long q5), .second, .val (.int (1 : Int32)), .val (.int (1 : Int32)), .unset] [(.int (1 : Int32))])) _
          refine XS.iload X59.here hx rfl (hb hby d6_46) rfl ?_
          show Steps p.tables e below (T59.setTop (mkF m 48 #[.val (.ref o0), .val (.ref o1), .val (.int p2), .val (.ref o3), .val (.int p4), .val (.long q5), .second, .val (.int (1 : Int32)), .val (.int (1 : Int32)), .unset] [(.int (1 : Int32)), (.int (1 : Int32))])) _
          refine XS.icmpNo X59.here hx rfl (hb hby d6_48) rfl (teq rfl).2 ?_
          show Steps p.tables e below (T59.setTop (mkF m 51 #[.val (.ref o0), .val (.ref o1), .val (.int p2), .val (.ref o3), .val (.int p4), .val (.long q5), .second, .val (.int (1 : Int32)), .val (.int (1 : Int32)), .unset] [])) _
          refine XS.aloadN X59.here hx rfl (hb hby d6_51) rfl rfl ?_
          show Steps p.tables e below (T59.setTop (mkF m 52 #[.val (.ref o0), .val (.ref o1), .val (.int p2), .val (.ref o3), .val (.int p4), .val (.long q5), .second, .val (.int (1 : Int32)), .val (.int (1 : Int32)), .unset] [(.ref o0)])) _
          exact k
        obtain ⟨cq70, kq70, q70a, q70b, q70c⟩ := isOf hZ rfl Eq59
        obtain ⟨_, _, ⟨T70, L70, k70, n70⟩, -, X70, ⟨Lc70, hQ70, l70, y70, z70⟩, st70⟩ := X59.virtualBack hx (y := (⟨"com/example/ladel/ladel/broker/Room", "full", "()Z"⟩ : MethodName)) (z := (⟨"com/example/ladel/ladel/broker/Room", "full", "()Z"⟩ : MethodName)) hown (mvT hZ (hw _ (List.mem_of_getElem? (i := 69) rfl))) (mvT hZ (hw _ (List.mem_of_getElem? (i := 70) rfl))) (notFace_of_selects (args := #[]) (mvT hZ (hw _ (List.mem_of_getElem? (i := 72) rfl)))) (mvT hZ (hw _ (List.mem_of_getElem? (i := 72) rfl))) (mvT hZ (hw _ (List.mem_of_getElem? (i := 71) rfl))) (by decide) (backOf (W := 0) (rm10 l Z a0 hw [] o0 (0 : Int32) T59.heap n0 Z63 F68) hZ (hw _ (List.mem_of_getElem? (i := 73) rfl)) (hw _ (List.mem_of_getElem? (i := 34) rfl)) (by decide) (by decide)) q70a q70c (g := (mkF m 52 #[.val (.ref o0), .val (.ref o1), .val (.int p2), .val (.ref o3), .val (.int p4), .val (.long q5), .second, .val (.int (1 : Int32)), .val (.int (1 : Int32)), .unset] [(.ref o0)])) rfl (by rw [hml]; rfl) (Steps.refl _) (argsL := []) (rest := []) (lenOf pd_4 rfl) rfl (by show 2 * 0 + _ ≤ _; exact Nat.le_of_eq rfl) (hb hby d6_52) (fun _ _ => ⟨rfl, rfl, (by decide : 0 + 0 ≤ _), (by decide : 0 + 0 ≤ _)⟩)
        dsimp only [Pt.U, Pt.locs, Pt.cells, Pt.slots] at X70 l70 y70 z70 st70 hQ70
        subst l70 y70 z70
        obtain ⟨rfl, N70q, eq70⟩ := hQ70
        have N70 := Fr.app N59 N70q
        refine own_step (fun t k => st70.trans k) ?_
        show own_Run p e below s _ _ _ T70 (mkF m 55 #[.val (.ref o0), .val (.ref o1), .val (.int p2), .val (.ref o3), .val (.int p4), .val (.long q5), .second, .val (.int (1 : Int32)), .val (.int (1 : Int32)), .unset] [(.int (0 : Int32))])
        refine own_step (T' := T70) (g' := (mkF m 84 #[.val (.ref o0), .val (.ref o1), .val (.int p2), .val (.ref o3), .val (.int p4), .val (.long q5), .second, .val (.int (1 : Int32)), .val (.int (1 : Int32)), .val (.int (1 : Int32))] [(.int (0 : Int32)), (.ref o3), (.int (0 : Int32)), (.ref o3)])) (fun t k => ?_) ?_
        · show Steps p.tables e below (T70.setTop (mkF m 55 #[.val (.ref o0), .val (.ref o1), .val (.int p2), .val (.ref o3), .val (.int p4), .val (.long q5), .second, .val (.int (1 : Int32)), .val (.int (1 : Int32)), .unset] [(.int (0 : Int32))])) _
          refine XS.iload X70.here hx rfl (hb hby d6_55) rfl ?_
          show Steps p.tables e below (T70.setTop (mkF m 57 #[.val (.ref o0), .val (.ref o1), .val (.int p2), .val (.ref o3), .val (.int p4), .val (.long q5), .second, .val (.int (1 : Int32)), .val (.int (1 : Int32)), .unset] [(.int (1 : Int32)), (.int (0 : Int32))])) _
          refine XS.ifYes X70.here hx rfl (pc0 := 57) (pc' := 64) rfl (hb hby d6_57) rfl ((if0 _ _).trans (feq (by decide)).2) (by decide) (by decide) ?_
          show Steps p.tables e below (T70.setTop (mkF m 64 #[.val (.ref o0), .val (.ref o1), .val (.int p2), .val (.ref o3), .val (.int p4), .val (.long q5), .second, .val (.int (1 : Int32)), .val (.int (1 : Int32)), .unset] [(.int (0 : Int32))])) _
          refine XS.iconst X70.here hx rfl (hb hby d6_64) ?_
          show Steps p.tables e below (T70.setTop (mkF m 65 #[.val (.ref o0), .val (.ref o1), .val (.int p2), .val (.ref o3), .val (.int p4), .val (.long q5), .second, .val (.int (1 : Int32)), .val (.int (1 : Int32)), .unset] [(.int (0 : Int32)), (.int (0 : Int32))])) _
          refine XS.icmpNo X70.here hx rfl (hb hby d6_65) rfl (teq rfl).2 ?_
          show Steps p.tables e below (T70.setTop (mkF m 68 #[.val (.ref o0), .val (.ref o1), .val (.int p2), .val (.ref o3), .val (.int p4), .val (.long q5), .second, .val (.int (1 : Int32)), .val (.int (1 : Int32)), .unset] [])) _
          refine XS.iconst X70.here hx rfl (hb hby d6_68) ?_
          show Steps p.tables e below (T70.setTop (mkF m 69 #[.val (.ref o0), .val (.ref o1), .val (.int p2), .val (.ref o3), .val (.int p4), .val (.long q5), .second, .val (.int (1 : Int32)), .val (.int (1 : Int32)), .unset] [(.int (1 : Int32))])) _
          refine XS.goto X70.here hx rfl (pc0 := 69) (pc' := 73) rfl (hb hby d6_69) (by decide) (by decide) ?_
          show Steps p.tables e below (T70.setTop (mkF m 73 #[.val (.ref o0), .val (.ref o1), .val (.int p2), .val (.ref o3), .val (.int p4), .val (.long q5), .second, .val (.int (1 : Int32)), .val (.int (1 : Int32)), .unset] [(.int (1 : Int32))])) _
          refine XS.istore X70.here hx rfl (hb hby d6_73) rfl (l' := #[.val (.ref o0), .val (.ref o1), .val (.int p2), .val (.ref o3), .val (.int p4), .val (.long q5), .second, .val (.int (1 : Int32)), .val (.int (1 : Int32)), .val (.int (1 : Int32))]) rfl ?_
          show Steps p.tables e below (T70.setTop (mkF m 75 #[.val (.ref o0), .val (.ref o1), .val (.int p2), .val (.ref o3), .val (.int p4), .val (.long q5), .second, .val (.int (1 : Int32)), .val (.int (1 : Int32)), .val (.int (1 : Int32))] [])) _
          refine XS.iload X70.here hx rfl (hb hby d6_75) rfl ?_
          show Steps p.tables e below (T70.setTop (mkF m 77 #[.val (.ref o0), .val (.ref o1), .val (.int p2), .val (.ref o3), .val (.int p4), .val (.long q5), .second, .val (.int (1 : Int32)), .val (.int (1 : Int32)), .val (.int (1 : Int32))] [(.int (1 : Int32))])) _
          refine XS.ifNo X70.here hx rfl (hb hby d6_77) rfl ((if0 _ _).trans (feq (by decide)).1) ?_
          show Steps p.tables e below (T70.setTop (mkF m 80 #[.val (.ref o0), .val (.ref o1), .val (.int p2), .val (.ref o3), .val (.int p4), .val (.long q5), .second, .val (.int (1 : Int32)), .val (.int (1 : Int32)), .val (.int (1 : Int32))] [])) _
          refine XS.aloadN X70.here hx rfl (hb hby d6_80) rfl rfl ?_
          show Steps p.tables e below (T70.setTop (mkF m 81 #[.val (.ref o0), .val (.ref o1), .val (.int p2), .val (.ref o3), .val (.int p4), .val (.long q5), .second, .val (.int (1 : Int32)), .val (.int (1 : Int32)), .val (.int (1 : Int32))] [(.ref o3)])) _
          refine XS.iconst X70.here hx rfl (hb hby d6_81) ?_
          show Steps p.tables e below (T70.setTop (mkF m 82 #[.val (.ref o0), .val (.ref o1), .val (.int p2), .val (.ref o3), .val (.int p4), .val (.long q5), .second, .val (.int (1 : Int32)), .val (.int (1 : Int32)), .val (.int (1 : Int32))] [(.int (0 : Int32)), (.ref o3)])) _
          refine XS.aloadN X70.here hx rfl (hb hby d6_82) rfl rfl ?_
          show Steps p.tables e below (T70.setTop (mkF m 83 #[.val (.ref o0), .val (.ref o1), .val (.int p2), .val (.ref o3), .val (.int p4), .val (.long q5), .second, .val (.int (1 : Int32)), .val (.int (1 : Int32)), .val (.int (1 : Int32))] [(.ref o3), (.int (0 : Int32)), (.ref o3)])) _
          refine XS.iconst X70.here hx rfl (hb hby d6_83) ?_
          show Steps p.tables e below (T70.setTop (mkF m 84 #[.val (.ref o0), .val (.ref o1), .val (.int p2), .val (.ref o3), .val (.int p4), .val (.long q5), .second, .val (.int (1 : Int32)), .val (.int (1 : Int32)), .val (.int (1 : Int32))] [(.int (0 : Int32)), (.ref o3), (.int (0 : Int32)), (.ref o3)])) _
          exact k
        obtain ⟨cl74, Arcl74, qcl74, Scl74, Mcl74, Hcl74, Gcl74⟩ := id V62
        have hincl74 : ¬ ((0 : Int32) < 0 ∨ cl74.slots.size ≤ ((0 : Int32)).toNatClampNeg) := inb_of Scl74 ⟨by decide, by decide⟩
        have hatcl74 : cl74.slots[((0 : Int32)).toNatClampNeg]? = some (.long m_.toInt64) := Hcl74.at hincl74 rfl
        refine own_step (T' := T70) (g' := (mkF m 87 #[.val (.ref o0), .val (.ref o1), .val (.int p2), .val (.ref o3), .val (.int p4), .val (.long q5), .second, .val (.int (1 : Int32)), .val (.int (1 : Int32)), .val (.int (1 : Int32))] [(.long (m_.toInt64 + (1 : Int64))), (.int (0 : Int32)), (.ref o3)])) (fun t k => ?_) ?_
        · show Steps p.tables e below (T70.setTop (mkF m 84 #[.val (.ref o0), .val (.ref o1), .val (.int p2), .val (.ref o3), .val (.int p4), .val (.long q5), .second, .val (.int (1 : Int32)), .val (.int (1 : Int32)), .val (.int (1 : Int32))] [(.int (0 : Int32)), (.ref o3), (.int (0 : Int32)), (.ref o3)])) _
          refine X70.laload hx (j := (0 : Int32)) (v := (.long m_.toInt64)) (by rw [eq70]; exact Arcl74.1) (State.isArrayOf_alike hZ.alike Arcl74.2.1) Arcl74.2.2 hincl74 hatcl74 (g := (mkF m 84 #[.val (.ref o0), .val (.ref o1), .val (.int p2), .val (.ref o3), .val (.int p4), .val (.long q5), .second, .val (.int (1 : Int32)), .val (.int (1 : Int32)), .val (.int (1 : Int32))] [(.int (0 : Int32)), (.ref o3), (.int (0 : Int32)), (.ref o3)])) rfl rfl (hb hby d6_84) _ ?_
          show Steps p.tables e below (T70.setTop (mkF m 85 #[.val (.ref o0), .val (.ref o1), .val (.int p2), .val (.ref o3), .val (.int p4), .val (.long q5), .second, .val (.int (1 : Int32)), .val (.int (1 : Int32)), .val (.int (1 : Int32))] [(.long m_.toInt64), (.int (0 : Int32)), (.ref o3)])) _
          refine XS.lconst X70.here hx rfl (hb hby d6_85) ?_
          show Steps p.tables e below (T70.setTop (mkF m 86 #[.val (.ref o0), .val (.ref o1), .val (.int p2), .val (.ref o3), .val (.int p4), .val (.long q5), .second, .val (.int (1 : Int32)), .val (.int (1 : Int32)), .val (.int (1 : Int32))] [(.long (1 : Int64)), (.long m_.toInt64), (.int (0 : Int32)), (.ref o3)])) _
          refine XS.ladd X70.here hx rfl (hb hby d6_86) rfl ?_
          show Steps p.tables e below (T70.setTop (mkF m 87 #[.val (.ref o0), .val (.ref o1), .val (.int p2), .val (.ref o3), .val (.int p4), .val (.long q5), .second, .val (.int (1 : Int32)), .val (.int (1 : Int32)), .val (.int (1 : Int32))] [(.long (m_.toInt64 + (1 : Int64))), (.int (0 : Int32)), (.ref o3)])) _
          exact k
        obtain ⟨cl75, Arcl75, qcl75, Scl75, Mcl75, Hcl75, Gcl75⟩ := V62
        have hincl75 : ¬ ((0 : Int32) < 0 ∨ cl75.slots.size ≤ ((0 : Int32)).toNatClampNeg) := inb_of Scl75 ⟨by decide, by decide⟩
        obtain ⟨T76, h76, X76, e76, W76, st76⟩ := stJ X70 hx hZ eq70 Arcl75 (j := (0 : Int32)) hincl75 (g := (mkF m 87 #[.val (.ref o0), .val (.ref o1), .val (.int p2), .val (.ref o3), .val (.int p4), .val (.long q5), .second, .val (.int (1 : Int32)), .val (.int (1 : Int32)), .val (.int (1 : Int32))] [(.long (m_.toInt64 + (1 : Int64))), (.int (0 : Int32)), (.ref o3)])) rfl rfl (hb hby d6_87)
        have V77 := Arv.set Arcl75 qcl75 Scl75 Mcl75 Hcl75 Gcl75 rfl W76 0 rfl (Nat.le_of_ble_eq_true rfl)
        have V77l : Arv Z h76 o3 k3 .long (2 : Int32) [(.long (m_.toInt64 + (1 : Int64))), (.long B)] (.long (0 : Int64)) := V77
        have F78 := F64.other W76 (Or.inl (Ne.symm ne30))
        have F79 := F65.other W76 (Or.inl (Ne.symm ne30))
        have F80 := F66.other W76 (Or.inl (Ne.symm ne30))
        have F81 := F67.other W76 (Or.inl (Ne.symm ne30))
        have F82 := F68.other W76 (Or.inl (Ne.symm ne30))
        have A83 := Eq59.wr W76
        have Z84 := Nat.le_trans Z63 (Keep.of_wr W76).1
        have K76 := K60.wr W76 (Or.inl (List.mem_of_getElem? (i := 1) rfl))
        have N76 := Fr.snoc X76 N70 g_o3
        refine own_step st76 ?_
        show own_Run p e below s _ _ _ T76 (mkF m 88 #[.val (.ref o0), .val (.ref o1), .val (.int p2), .val (.ref o3), .val (.int p4), .val (.long q5), .second, .val (.int (1 : Int32)), .val (.int (1 : Int32)), .val (.int (1 : Int32))] [])
        refine own_step (T' := T76) (g' := (mkF m 92 #[.val (.ref o0), .val (.ref o1), .val (.int p2), .val (.ref o3), .val (.int p4), .val (.long q5), .second, .val (.int (1 : Int32)), .val (.int (1 : Int32)), .val (.int (1 : Int32))] [(.int (1 : Int32)), (.ref o3), (.int (1 : Int32)), (.ref o3)])) (fun t k => ?_) ?_
        · show Steps p.tables e below (T76.setTop (mkF m 88 #[.val (.ref o0), .val (.ref o1), .val (.int p2), .val (.ref o3), .val (.int p4), .val (.long q5), .second, .val (.int (1 : Int32)), .val (.int (1 : Int32)), .val (.int (1 : Int32))] [])) _
          refine XS.aloadN X76.here hx rfl (hb hby d6_88) rfl rfl ?_
          show Steps p.tables e below (T76.setTop (mkF m 89 #[.val (.ref o0), .val (.ref o1), .val (.int p2), .val (.ref o3), .val (.int p4), .val (.long q5), .second, .val (.int (1 : Int32)), .val (.int (1 : Int32)), .val (.int (1 : Int32))] [(.ref o3)])) _
          refine XS.iconst X76.here hx rfl (hb hby d6_89) ?_
          show Steps p.tables e below (T76.setTop (mkF m 90 #[.val (.ref o0), .val (.ref o1), .val (.int p2), .val (.ref o3), .val (.int p4), .val (.long q5), .second, .val (.int (1 : Int32)), .val (.int (1 : Int32)), .val (.int (1 : Int32))] [(.int (1 : Int32)), (.ref o3)])) _
          refine XS.aloadN X76.here hx rfl (hb hby d6_90) rfl rfl ?_
          show Steps p.tables e below (T76.setTop (mkF m 91 #[.val (.ref o0), .val (.ref o1), .val (.int p2), .val (.ref o3), .val (.int p4), .val (.long q5), .second, .val (.int (1 : Int32)), .val (.int (1 : Int32)), .val (.int (1 : Int32))] [(.ref o3), (.int (1 : Int32)), (.ref o3)])) _
          refine XS.iconst X76.here hx rfl (hb hby d6_91) ?_
          show Steps p.tables e below (T76.setTop (mkF m 92 #[.val (.ref o0), .val (.ref o1), .val (.int p2), .val (.ref o3), .val (.int p4), .val (.long q5), .second, .val (.int (1 : Int32)), .val (.int (1 : Int32)), .val (.int (1 : Int32))] [(.int (1 : Int32)), (.ref o3), (.int (1 : Int32)), (.ref o3)])) _
          exact k
        obtain ⟨cl85, Arcl85, qcl85, Scl85, Mcl85, Hcl85, Gcl85⟩ := id V77l
        have hincl85 : ¬ ((1 : Int32) < 0 ∨ cl85.slots.size ≤ ((1 : Int32)).toNatClampNeg) := inb_of Scl85 ⟨by decide, by decide⟩
        have hatcl85 : cl85.slots[((1 : Int32)).toNatClampNeg]? = some (.long B) := Hcl85.at hincl85 rfl
        refine own_step (T' := T76) (g' := (mkF m 96 #[.val (.ref o0), .val (.ref o1), .val (.int p2), .val (.ref o3), .val (.int p4), .val (.long q5), .second, .val (.int (1 : Int32)), .val (.int (1 : Int32)), .val (.int (1 : Int32))] [(.long (B + (p2.toInt64))), (.int (1 : Int32)), (.ref o3)])) (fun t k => ?_) ?_
        · show Steps p.tables e below (T76.setTop (mkF m 92 #[.val (.ref o0), .val (.ref o1), .val (.int p2), .val (.ref o3), .val (.int p4), .val (.long q5), .second, .val (.int (1 : Int32)), .val (.int (1 : Int32)), .val (.int (1 : Int32))] [(.int (1 : Int32)), (.ref o3), (.int (1 : Int32)), (.ref o3)])) _
          refine X76.laload hx (j := (1 : Int32)) (v := (.long B)) (by rw [e76]; exact Arcl85.1) (State.isArrayOf_alike hZ.alike Arcl85.2.1) Arcl85.2.2 hincl85 hatcl85 (g := (mkF m 92 #[.val (.ref o0), .val (.ref o1), .val (.int p2), .val (.ref o3), .val (.int p4), .val (.long q5), .second, .val (.int (1 : Int32)), .val (.int (1 : Int32)), .val (.int (1 : Int32))] [(.int (1 : Int32)), (.ref o3), (.int (1 : Int32)), (.ref o3)])) rfl rfl (hb hby d6_92) _ ?_
          show Steps p.tables e below (T76.setTop (mkF m 93 #[.val (.ref o0), .val (.ref o1), .val (.int p2), .val (.ref o3), .val (.int p4), .val (.long q5), .second, .val (.int (1 : Int32)), .val (.int (1 : Int32)), .val (.int (1 : Int32))] [(.long B), (.int (1 : Int32)), (.ref o3)])) _
          refine XS.iloadN X76.here hx rfl (hb hby d6_93) rfl ?_
          show Steps p.tables e below (T76.setTop (mkF m 94 #[.val (.ref o0), .val (.ref o1), .val (.int p2), .val (.ref o3), .val (.int p4), .val (.long q5), .second, .val (.int (1 : Int32)), .val (.int (1 : Int32)), .val (.int (1 : Int32))] [(.int p2), (.long B), (.int (1 : Int32)), (.ref o3)])) _
          refine XS.i2l X76.here hx rfl (hb hby d6_94) rfl ?_
          show Steps p.tables e below (T76.setTop (mkF m 95 #[.val (.ref o0), .val (.ref o1), .val (.int p2), .val (.ref o3), .val (.int p4), .val (.long q5), .second, .val (.int (1 : Int32)), .val (.int (1 : Int32)), .val (.int (1 : Int32))] [(.long (p2.toInt64)), (.long B), (.int (1 : Int32)), (.ref o3)])) _
          refine XS.ladd X76.here hx rfl (hb hby d6_95) rfl ?_
          show Steps p.tables e below (T76.setTop (mkF m 96 #[.val (.ref o0), .val (.ref o1), .val (.int p2), .val (.ref o3), .val (.int p4), .val (.long q5), .second, .val (.int (1 : Int32)), .val (.int (1 : Int32)), .val (.int (1 : Int32))] [(.long (B + (p2.toInt64))), (.int (1 : Int32)), (.ref o3)])) _
          exact k
        obtain ⟨cl86, Arcl86, qcl86, Scl86, Mcl86, Hcl86, Gcl86⟩ := V77l
        have hincl86 : ¬ ((1 : Int32) < 0 ∨ cl86.slots.size ≤ ((1 : Int32)).toNatClampNeg) := inb_of Scl86 ⟨by decide, by decide⟩
        obtain ⟨T87, h87, X87, e87, W87, st87⟩ := stJ X76 hx hZ e76 Arcl86 (j := (1 : Int32)) hincl86 (g := (mkF m 96 #[.val (.ref o0), .val (.ref o1), .val (.int p2), .val (.ref o3), .val (.int p4), .val (.long q5), .second, .val (.int (1 : Int32)), .val (.int (1 : Int32)), .val (.int (1 : Int32))] [(.long (B + (p2.toInt64))), (.int (1 : Int32)), (.ref o3)])) rfl rfl (hb hby d6_96)
        have V88 := Arv.set Arcl86 qcl86 Scl86 Mcl86 Hcl86 Gcl86 rfl W87 1 rfl (Nat.le_of_ble_eq_true rfl)
        have V88l : Arv Z h87 o3 k3 .long (2 : Int32) [(.long (m_.toInt64 + (1 : Int64))), (.long (B + (p2.toInt64)))] (.long (0 : Int64)) := V88
        have F89 := F78.other W87 (Or.inl (Ne.symm ne30))
        have F90 := F79.other W87 (Or.inl (Ne.symm ne30))
        have F91 := F80.other W87 (Or.inl (Ne.symm ne30))
        have F92 := F81.other W87 (Or.inl (Ne.symm ne30))
        have F93 := F82.other W87 (Or.inl (Ne.symm ne30))
        have A94 := A83.wr W87
        have Z95 := Nat.le_trans Z84 (Keep.of_wr W87).1
        have K87 := K76.wr W87 (Or.inl (List.mem_of_getElem? (i := 1) rfl))
        have N87 := Fr.snoc X87 N76 g_o3
        refine own_step st87 ?_
        show own_Run p e below s _ _ _ T87 (mkF m 97 #[.val (.ref o0), .val (.ref o1), .val (.int p2), .val (.ref o3), .val (.int p4), .val (.long q5), .second, .val (.int (1 : Int32)), .val (.int (1 : Int32)), .val (.int (1 : Int32))] [])
        refine own_step (T' := T87) (g' := (mkF m 99 #[.val (.ref o0), .val (.ref o1), .val (.int p2), .val (.ref o3), .val (.int p4), .val (.long q5), .second, .val (.int (1 : Int32)), .val (.int (1 : Int32)), .val (.int (1 : Int32))] [(.int (1 : Int32))])) (fun t k => ?_) ?_
        · show Steps p.tables e below (T87.setTop (mkF m 97 #[.val (.ref o0), .val (.ref o1), .val (.int p2), .val (.ref o3), .val (.int p4), .val (.long q5), .second, .val (.int (1 : Int32)), .val (.int (1 : Int32)), .val (.int (1 : Int32))] [])) _
          refine XS.iload X87.here hx rfl (hb hby d6_97) rfl ?_
          show Steps p.tables e below (T87.setTop (mkF m 99 #[.val (.ref o0), .val (.ref o1), .val (.int p2), .val (.ref o3), .val (.int p4), .val (.long q5), .second, .val (.int (1 : Int32)), .val (.int (1 : Int32)), .val (.int (1 : Int32))] [(.int (1 : Int32))])) _
          exact k
        refine own_retN X87 hx (t := .boolean) Bd.returns (by simp) (hb hby d6_99) (BodyLoose.notSynchronized Bd) (by decide) (by decide) ?_
        rw [show T87.heap = h87 from e87]
        exact ⟨m_ + 1, (B + p2.toInt64), (0 : Int32), rfl, N87, K87, own_up hm hc2, A94, F89, F90, F91, F92, F93, own_arv hm hc2 V88l⟩
  · skip
    refine own_step (T' := s₁) (g' := (mkF m 39 #[.val (.ref o0), .val (.ref o1), .val (.int p2), .val (.ref o3), .val (.int p4), .val (.long q5), .second, .val (.int (0 : Int32)), .unset, .unset] [(.ref o1), (.ref o0)])) (fun t k => ?_) ?_
    · show Steps p.tables e below (s₁.setTop (mkF m 7 #[.val (.ref o0), .val (.ref o1), .val (.int p2), .val (.ref o3), .val (.int p4), .val (.long q5), .second, .unset, .unset, .unset] [(.int (lcmpW m_.toInt64 (p4.toInt64)))])) _
      refine XS.ifYes X0.here hx rfl (pc0 := 7) (pc' := 34) rfl (hb hby d6_7) rfl ((if0 _ _).trans (flt hc2).2.1) (by decide) (by decide) ?_
      show Steps p.tables e below (s₁.setTop (mkF m 34 #[.val (.ref o0), .val (.ref o1), .val (.int p2), .val (.ref o3), .val (.int p4), .val (.long q5), .second, .unset, .unset, .unset] [])) _
      refine XS.iconst X0.here hx rfl (hb hby d6_34) ?_
      show Steps p.tables e below (s₁.setTop (mkF m 35 #[.val (.ref o0), .val (.ref o1), .val (.int p2), .val (.ref o3), .val (.int p4), .val (.long q5), .second, .unset, .unset, .unset] [(.int (0 : Int32))])) _
      refine XS.istore X0.here hx rfl (hb hby d6_35) rfl (l' := #[.val (.ref o0), .val (.ref o1), .val (.int p2), .val (.ref o3), .val (.int p4), .val (.long q5), .second, .val (.int (0 : Int32)), .unset, .unset]) rfl ?_
      show Steps p.tables e below (s₁.setTop (mkF m 37 #[.val (.ref o0), .val (.ref o1), .val (.int p2), .val (.ref o3), .val (.int p4), .val (.long q5), .second, .val (.int (0 : Int32)), .unset, .unset] [])) _
      refine XS.aloadN X0.here hx rfl (hb hby d6_37) rfl rfl ?_
      show Steps p.tables e below (s₁.setTop (mkF m 38 #[.val (.ref o0), .val (.ref o1), .val (.int p2), .val (.ref o3), .val (.int p4), .val (.long q5), .second, .val (.int (0 : Int32)), .unset, .unset] [(.ref o0)])) _
      refine XS.aloadN X0.here hx rfl (hb hby d6_38) rfl rfl ?_
      show Steps p.tables e below (s₁.setTop (mkF m 39 #[.val (.ref o0), .val (.ref o1), .val (.int p2), .val (.ref o3), .val (.int p4), .val (.long q5), .second, .val (.int (0 : Int32)), .unset, .unset] [(.ref o1), (.ref o0)])) _
      exact k
    obtain ⟨cq96, kq96, q96a, q96b, q96c⟩ := isOf hZ e0 E_o0
    obtain ⟨_, _, ⟨T96, L96, k96, n96⟩, -, X96, ⟨Lc96, hQ96, l96, y96, z96⟩, st96⟩ := X0.virtualBack hx (y := (⟨"com/example/ladel/ladel/broker/Room", "take", "(Lcom/example/ladel/ladel/broker/Topic$Message;)Z"⟩ : MethodName)) (z := (⟨"com/example/ladel/ladel/broker/Room", "take", "(Lcom/example/ladel/ladel/broker/Topic$Message;)Z"⟩ : MethodName)) hown (mvT hZ (hw _ (List.mem_of_getElem? (i := 48) rfl))) (mvT hZ (hw _ (List.mem_of_getElem? (i := 49) rfl))) (notFace_of_selects (args := #[]) (mvT hZ (hw _ (List.mem_of_getElem? (i := 51) rfl)))) (mvT hZ (hw _ (List.mem_of_getElem? (i := 51) rfl))) (mvT hZ (hw _ (List.mem_of_getElem? (i := 50) rfl))) (by decide) (backOf (W := 0) (rm7 l Z a0 hw [] o0 o1 cx p4 q5 m_ B u p2 (1 : Int32) h0 n0 Z0 (own_no1 hm hc2) E_o0 F_maxMessages_o0 F_maxBytes_o0 F_messages_o0 F_bytes_o0 F_full_o0 g_o0 E_o1 F_content_o1 E_cx F_length_cx) hZ (hw _ (List.mem_of_getElem? (i := 52) rfl)) (hw _ (List.mem_of_getElem? (i := 34) rfl)) (by decide) (by decide)) q96a q96c (g := (mkF m 39 #[.val (.ref o0), .val (.ref o1), .val (.int p2), .val (.ref o3), .val (.int p4), .val (.long q5), .second, .val (.int (0 : Int32)), .unset, .unset] [(.ref o1), (.ref o0)])) rfl (by rw [hml]; rfl) (Steps.refl _) (argsL := [(.ref o1)]) (rest := []) (lenOf pd_3 rfl) rfl (by show 2 * 0 + _ ≤ _; exact Nat.le_of_eq rfl) (hb hby d6_39) (fun _ _ => ⟨rfl, e0, (by decide : 0 + 0 ≤ _), (by decide : 0 + 0 ≤ _)⟩)
    dsimp only [Pt.U, Pt.locs, Pt.cells, Pt.slots] at X96 l96 y96 z96 st96 hQ96
    subst l96 y96 z96
    obtain ⟨rfl, N96q, Kq96, Eq96, Fa96, Fb96, Fc96, Fd96, Fe96⟩ := hQ96
    have N96 := Fr.app N0 N96q
    refine own_step (fun t k => st96.trans k) ?_
    show own_Run p e below s _ _ _ T96 (mkF m 42 #[.val (.ref o0), .val (.ref o1), .val (.int p2), .val (.ref o3), .val (.int p4), .val (.long q5), .second, .val (.int (0 : Int32)), .unset, .unset] [(.int (0 : Int32))])
    have K97 := K0.trans Kq96 (allS (Or.inl (List.mem_of_getElem? (i := 0) rfl)) all0)
    have A98 := E_o0.keep Kq96
    have V99 := V_o3.keep Kq96 (ninS ne30 nin0)
    have Z100 := Nat.le_trans Z0 Kq96.1
    have F101 : Fld Z T96.heap o0 "com/example/ladel/ladel/broker/Room" "maxMessages" "I" (.int p4) := Fa96
    have F102 : Fld Z T96.heap o0 "com/example/ladel/ladel/broker/Room" "maxBytes" "J" (.long q5) := Fb96
    have F103 : Fld Z T96.heap o0 "com/example/ladel/ladel/broker/Room" "messages" "I" (.int m_) := Fc96
    have F104 : Fld Z T96.heap o0 "com/example/ladel/ladel/broker/Room" "bytes" "J" (.long B) := Fd96
    have F105 : Fld Z T96.heap o0 "com/example/ladel/ladel/broker/Room" "full" "Z" (.int (1 : Int32)) := Fe96
    refine own_step (T' := T96) (g' := (mkF m 52 #[.val (.ref o0), .val (.ref o1), .val (.int p2), .val (.ref o3), .val (.int p4), .val (.long q5), .second, .val (.int (0 : Int32)), .val (.int (0 : Int32)), .unset] [(.ref o0)])) (fun t k => ?_) ?_
    · show Steps p.tables e below (T96.setTop (mkF m 42 #[.val (.ref o0), .val (.ref o1), .val (.int p2), .val (.ref o3), .val (.int p4), .val (.long q5), .second, .val (.int (0 : Int32)), .unset, .unset] [(.int (0 : Int32))])) _
      refine XS.istore X96.here hx rfl (hb hby d6_42) rfl (l' := #[.val (.ref o0), .val (.ref o1), .val (.int p2), .val (.ref o3), .val (.int p4), .val (.long q5), .second, .val (.int (0 : Int32)), .val (.int (0 : Int32)), .unset]) rfl ?_
      show Steps p.tables e below (T96.setTop (mkF m 44 #[.val (.ref o0), .val (.ref o1), .val (.int p2), .val (.ref o3), .val (.int p4), .val (.long q5), .second, .val (.int (0 : Int32)), .val (.int (0 : Int32)), .unset] [])) _
      refine XS.iload X96.here hx rfl (hb hby d6_44) rfl ?_
      show Steps p.tables e below (T96.setTop (mkF m 46 #[.val (.ref o0), .val (.ref o1), .val (.int p2), .val (.ref o3), .val (.int p4), .val (.long q5), .second, .val (.int (0 : Int32)), .val (.int (0 : Int32)), .unset] [(.int (0 : Int32))])) _
      refine XS.iload X96.here hx rfl (hb hby d6_46) rfl ?_
      show Steps p.tables e below (T96.setTop (mkF m 48 #[.val (.ref o0), .val (.ref o1), .val (.int p2), .val (.ref o3), .val (.int p4), .val (.long q5), .second, .val (.int (0 : Int32)), .val (.int (0 : Int32)), .unset] [(.int (0 : Int32)), (.int (0 : Int32))])) _
      refine XS.icmpNo X96.here hx rfl (hb hby d6_48) rfl (teq rfl).2 ?_
      show Steps p.tables e below (T96.setTop (mkF m 51 #[.val (.ref o0), .val (.ref o1), .val (.int p2), .val (.ref o3), .val (.int p4), .val (.long q5), .second, .val (.int (0 : Int32)), .val (.int (0 : Int32)), .unset] [])) _
      refine XS.aloadN X96.here hx rfl (hb hby d6_51) rfl rfl ?_
      show Steps p.tables e below (T96.setTop (mkF m 52 #[.val (.ref o0), .val (.ref o1), .val (.int p2), .val (.ref o3), .val (.int p4), .val (.long q5), .second, .val (.int (0 : Int32)), .val (.int (0 : Int32)), .unset] [(.ref o0)])) _
      exact k
    obtain ⟨cq107, kq107, q107a, q107b, q107c⟩ := isOf hZ rfl Eq96
    obtain ⟨_, _, ⟨T107, L107, k107, n107⟩, -, X107, ⟨Lc107, hQ107, l107, y107, z107⟩, st107⟩ := X96.virtualBack hx (y := (⟨"com/example/ladel/ladel/broker/Room", "full", "()Z"⟩ : MethodName)) (z := (⟨"com/example/ladel/ladel/broker/Room", "full", "()Z"⟩ : MethodName)) hown (mvT hZ (hw _ (List.mem_of_getElem? (i := 69) rfl))) (mvT hZ (hw _ (List.mem_of_getElem? (i := 70) rfl))) (notFace_of_selects (args := #[]) (mvT hZ (hw _ (List.mem_of_getElem? (i := 72) rfl)))) (mvT hZ (hw _ (List.mem_of_getElem? (i := 72) rfl))) (mvT hZ (hw _ (List.mem_of_getElem? (i := 71) rfl))) (by decide) (backOf (W := 0) (rm10 l Z a0 hw [] o0 (1 : Int32) T96.heap n0 Z100 F105) hZ (hw _ (List.mem_of_getElem? (i := 73) rfl)) (hw _ (List.mem_of_getElem? (i := 34) rfl)) (by decide) (by decide)) q107a q107c (g := (mkF m 52 #[.val (.ref o0), .val (.ref o1), .val (.int p2), .val (.ref o3), .val (.int p4), .val (.long q5), .second, .val (.int (0 : Int32)), .val (.int (0 : Int32)), .unset] [(.ref o0)])) rfl (by rw [hml]; rfl) (Steps.refl _) (argsL := []) (rest := []) (lenOf pd_4 rfl) rfl (by show 2 * 0 + _ ≤ _; exact Nat.le_of_eq rfl) (hb hby d6_52) (fun _ _ => ⟨rfl, rfl, (by decide : 0 + 0 ≤ _), (by decide : 0 + 0 ≤ _)⟩)
    dsimp only [Pt.U, Pt.locs, Pt.cells, Pt.slots] at X107 l107 y107 z107 st107 hQ107
    subst l107 y107 z107
    obtain ⟨rfl, N107q, eq107⟩ := hQ107
    have N107 := Fr.app N96 N107q
    refine own_step (fun t k => st107.trans k) ?_
    show own_Run p e below s _ _ _ T107 (mkF m 55 #[.val (.ref o0), .val (.ref o1), .val (.int p2), .val (.ref o3), .val (.int p4), .val (.long q5), .second, .val (.int (0 : Int32)), .val (.int (0 : Int32)), .unset] [(.int (1 : Int32))])
    refine own_step (T' := T107) (g' := (mkF m 99 #[.val (.ref o0), .val (.ref o1), .val (.int p2), .val (.ref o3), .val (.int p4), .val (.long q5), .second, .val (.int (0 : Int32)), .val (.int (0 : Int32)), .val (.int (1 : Int32))] [(.int (1 : Int32))])) (fun t k => ?_) ?_
    · show Steps p.tables e below (T107.setTop (mkF m 55 #[.val (.ref o0), .val (.ref o1), .val (.int p2), .val (.ref o3), .val (.int p4), .val (.long q5), .second, .val (.int (0 : Int32)), .val (.int (0 : Int32)), .unset] [(.int (1 : Int32))])) _
      refine XS.iload X107.here hx rfl (hb hby d6_55) rfl ?_
      show Steps p.tables e below (T107.setTop (mkF m 57 #[.val (.ref o0), .val (.ref o1), .val (.int p2), .val (.ref o3), .val (.int p4), .val (.long q5), .second, .val (.int (0 : Int32)), .val (.int (0 : Int32)), .unset] [(.int (0 : Int32)), (.int (1 : Int32))])) _
      refine XS.ifNo X107.here hx rfl (hb hby d6_57) rfl ((if0 _ _).trans (teq rfl).2) ?_
      show Steps p.tables e below (T107.setTop (mkF m 60 #[.val (.ref o0), .val (.ref o1), .val (.int p2), .val (.ref o3), .val (.int p4), .val (.long q5), .second, .val (.int (0 : Int32)), .val (.int (0 : Int32)), .unset] [(.int (1 : Int32))])) _
      refine XS.iconst X107.here hx rfl (hb hby d6_60) ?_
      show Steps p.tables e below (T107.setTop (mkF m 61 #[.val (.ref o0), .val (.ref o1), .val (.int p2), .val (.ref o3), .val (.int p4), .val (.long q5), .second, .val (.int (0 : Int32)), .val (.int (0 : Int32)), .unset] [(.int (1 : Int32)), (.int (1 : Int32))])) _
      refine XS.goto X107.here hx rfl (pc0 := 61) (pc' := 65) rfl (hb hby d6_61) (by decide) (by decide) ?_
      show Steps p.tables e below (T107.setTop (mkF m 65 #[.val (.ref o0), .val (.ref o1), .val (.int p2), .val (.ref o3), .val (.int p4), .val (.long q5), .second, .val (.int (0 : Int32)), .val (.int (0 : Int32)), .unset] [(.int (1 : Int32)), (.int (1 : Int32))])) _
      refine XS.icmpNo X107.here hx rfl (hb hby d6_65) rfl (teq rfl).2 ?_
      show Steps p.tables e below (T107.setTop (mkF m 68 #[.val (.ref o0), .val (.ref o1), .val (.int p2), .val (.ref o3), .val (.int p4), .val (.long q5), .second, .val (.int (0 : Int32)), .val (.int (0 : Int32)), .unset] [])) _
      refine XS.iconst X107.here hx rfl (hb hby d6_68) ?_
      show Steps p.tables e below (T107.setTop (mkF m 69 #[.val (.ref o0), .val (.ref o1), .val (.int p2), .val (.ref o3), .val (.int p4), .val (.long q5), .second, .val (.int (0 : Int32)), .val (.int (0 : Int32)), .unset] [(.int (1 : Int32))])) _
      refine XS.goto X107.here hx rfl (pc0 := 69) (pc' := 73) rfl (hb hby d6_69) (by decide) (by decide) ?_
      show Steps p.tables e below (T107.setTop (mkF m 73 #[.val (.ref o0), .val (.ref o1), .val (.int p2), .val (.ref o3), .val (.int p4), .val (.long q5), .second, .val (.int (0 : Int32)), .val (.int (0 : Int32)), .unset] [(.int (1 : Int32))])) _
      refine XS.istore X107.here hx rfl (hb hby d6_73) rfl (l' := #[.val (.ref o0), .val (.ref o1), .val (.int p2), .val (.ref o3), .val (.int p4), .val (.long q5), .second, .val (.int (0 : Int32)), .val (.int (0 : Int32)), .val (.int (1 : Int32))]) rfl ?_
      show Steps p.tables e below (T107.setTop (mkF m 75 #[.val (.ref o0), .val (.ref o1), .val (.int p2), .val (.ref o3), .val (.int p4), .val (.long q5), .second, .val (.int (0 : Int32)), .val (.int (0 : Int32)), .val (.int (1 : Int32))] [])) _
      refine XS.iload X107.here hx rfl (hb hby d6_75) rfl ?_
      show Steps p.tables e below (T107.setTop (mkF m 77 #[.val (.ref o0), .val (.ref o1), .val (.int p2), .val (.ref o3), .val (.int p4), .val (.long q5), .second, .val (.int (0 : Int32)), .val (.int (0 : Int32)), .val (.int (1 : Int32))] [(.int (0 : Int32))])) _
      refine XS.ifYes X107.here hx rfl (pc0 := 77) (pc' := 97) rfl (hb hby d6_77) rfl ((if0 _ _).trans (teq rfl).1) (by decide) (by decide) ?_
      show Steps p.tables e below (T107.setTop (mkF m 97 #[.val (.ref o0), .val (.ref o1), .val (.int p2), .val (.ref o3), .val (.int p4), .val (.long q5), .second, .val (.int (0 : Int32)), .val (.int (0 : Int32)), .val (.int (1 : Int32))] [])) _
      refine XS.iload X107.here hx rfl (hb hby d6_97) rfl ?_
      show Steps p.tables e below (T107.setTop (mkF m 99 #[.val (.ref o0), .val (.ref o1), .val (.int p2), .val (.ref o3), .val (.int p4), .val (.long q5), .second, .val (.int (0 : Int32)), .val (.int (0 : Int32)), .val (.int (1 : Int32))] [(.int (1 : Int32))])) _
      exact k
    refine own_retN X107 hx (t := .boolean) Bd.returns (by simp) (hb hby d6_99) (BodyLoose.notSynchronized Bd) (by decide) (by decide) ?_
    rw [show T107.heap = T96.heap from eq107]
    exact ⟨m_, B, (1 : Int32), rfl, N107, K97, hm, Eq96, F101, F102, F103, F104, F105, V99⟩
theorem pn_rm0 : plainName "com/example/ladel/ladel/broker/RoomTakePinLaw" = true := by first | (simp [plainName, overriddenIn]; done) | decide +kernel
theorem ef_rm0 (m : MethodId) (p0 : Int32) (q1 : Int64) (p2 : Int32) (p3 : Int32) (p4 : Int32) : entryFrame m #[(.int p0), (.long q1), (.int p2), (.int p3), (.int p4)] maxLocals = mkF m 0 #[.val (.int p0), .val (.long q1), .second, .val (.int p2), .val (.int p3), .val (.int p4), .unset, .unset, .unset, .unset, .unset, .unset, .unset, .unset, .unset, .unset, .unset, .unset] [] := by first | (simp [entryFrame, mkF, argsToLocals, Value.category, maxLocals]; done) | rfl
def rm0_Q (Z : State) (p0 : Int32) (q1 : Int64) (p2 : Int32) (p3 : Int32) (p4 : Int32)  (h0 : Heap) (n0 : Nat) (v : Option Value) (h : Heap) (L : List Loc) : Prop := v = some (.int (1 : Int32)) ∧ Fr n0 L
set_option maxRecDepth 65536 in
set_option maxHeartbeats 40000000 in
theorem rm0 (l : Launch) (Z : State) (a0 : Array Value) (hw : ∀ d ∈ tables_1, d.before a0 Z = true) (ws : List Jvm.Cond) (p0 : Int32) (q1 : Int64) (p2 : Int32) (p3 : Int32) (p4 : Int32)  (h0 : Heap) (n0 : Nat) (Z0 : n0 ≤ h0.size)  :
    MetFree l x (head1 (Jvm.Cond.code x code maxLocals ret :: ws) room_1) (fun a U => a = #[(.int p0), (.long q1), (.int p2), (.int p3), (.int p4)] ∧ Z.Warmed39 U.vm ∧ U.heap = h0) (fun _ _ _ _ _ => True) (fun _ U o U' => ∃ v L, o = .returned v ∧ rm0_Q Z p0 q1 p2 p3 p4 h0 n0 v U'.heap L ∧ FrameEnd U o U' L room_1.cells room_1.slots) := by
  refine MetFree.of_bodySF (plainFor_of_name pn_rm0) hisR ?_
  intro p e s m args below meth c s₁ Bd hml0 hP hK
  obtain ⟨rfl, hZ, hh⟩ := hP
  have hx := Bd.exec
  have hby := Bd.bytes
  have hml : c.maxLocals = 18 := hml0
  have hown : s.vm.findClass "com/example/ladel/ladel/broker/RoomTakePinLaw" = some m.cls := findClass_of_methodNamed Bd.named
  have hnm := (name_of_methodNamed Bd.named Bd.method).1
  have X0 : Stand p l e room_1 s m #[(.int p0), (.long q1), (.int p2), (.int p3), (.int p4)] below meth c s₁ [] 0 0 := Stand.of_body Bd
  have e0 : s₁.heap = h0 := by rw [← hh, Bd.state]; rfl
  have N0 := Fr.nil n0
  refine own_enter (QQ := rm0_Q Z p0 q1 p2 p3 p4 h0 n0) (ef_rm0 m p0 q1 p2 p3 p4) ?_
  show own_Run p e below s _ _ _ s₁ (mkF m 0 #[.val (.int p0), .val (.long q1), .second, .val (.int p2), .val (.int p3), .val (.int p4), .unset, .unset, .unset, .unset, .unset, .unset, .unset, .unset, .unset, .unset, .unset, .unset] [])
  refine own_step (T' := s₁) (g' := (mkF m 7 #[.val (.int p0), .val (.long q1), .second, .val (.int p2), .val (.int p3), .val (.int p4), .val (.int ((1 : Int32) + (p0 &&& (3 : Int32)))), .unset, .unset, .unset, .unset, .unset, .unset, .unset, .unset, .unset, .unset, .unset] [])) (fun t k => ?_) ?_
  · show Steps p.tables e below (s₁.setTop (mkF m 0 #[.val (.int p0), .val (.long q1), .second, .val (.int p2), .val (.int p3), .val (.int p4), .unset, .unset, .unset, .unset, .unset, .unset, .unset, .unset, .unset, .unset, .unset, .unset] [])) _
    refine XS.iconst X0.here hx rfl (hb hby at_0) ?_
    show Steps p.tables e below (s₁.setTop (mkF m 1 #[.val (.int p0), .val (.long q1), .second, .val (.int p2), .val (.int p3), .val (.int p4), .unset, .unset, .unset, .unset, .unset, .unset, .unset, .unset, .unset, .unset, .unset, .unset] [(.int (1 : Int32))])) _
    refine XS.iloadN X0.here hx rfl (hb hby at_1) rfl ?_
    show Steps p.tables e below (s₁.setTop (mkF m 2 #[.val (.int p0), .val (.long q1), .second, .val (.int p2), .val (.int p3), .val (.int p4), .unset, .unset, .unset, .unset, .unset, .unset, .unset, .unset, .unset, .unset, .unset, .unset] [(.int p0), (.int (1 : Int32))])) _
    refine XS.iconst X0.here hx rfl (hb hby at_2) ?_
    show Steps p.tables e below (s₁.setTop (mkF m 3 #[.val (.int p0), .val (.long q1), .second, .val (.int p2), .val (.int p3), .val (.int p4), .unset, .unset, .unset, .unset, .unset, .unset, .unset, .unset, .unset, .unset, .unset, .unset] [(.int (3 : Int32)), (.int p0), (.int (1 : Int32))])) _
    refine XS.iand X0.here hx rfl (hb hby at_3) rfl ?_
    show Steps p.tables e below (s₁.setTop (mkF m 4 #[.val (.int p0), .val (.long q1), .second, .val (.int p2), .val (.int p3), .val (.int p4), .unset, .unset, .unset, .unset, .unset, .unset, .unset, .unset, .unset, .unset, .unset, .unset] [(.int (p0 &&& (3 : Int32))), (.int (1 : Int32))])) _
    refine XS.iadd X0.here hx rfl (hb hby at_4) rfl ?_
    show Steps p.tables e below (s₁.setTop (mkF m 5 #[.val (.int p0), .val (.long q1), .second, .val (.int p2), .val (.int p3), .val (.int p4), .unset, .unset, .unset, .unset, .unset, .unset, .unset, .unset, .unset, .unset, .unset, .unset] [(.int ((1 : Int32) + (p0 &&& (3 : Int32))))])) _
    refine XS.istore X0.here hx rfl (hb hby at_5) rfl (l' := #[.val (.int p0), .val (.long q1), .second, .val (.int p2), .val (.int p3), .val (.int p4), .val (.int ((1 : Int32) + (p0 &&& (3 : Int32)))), .unset, .unset, .unset, .unset, .unset, .unset, .unset, .unset, .unset, .unset, .unset]) rfl ?_
    show Steps p.tables e below (s₁.setTop (mkF m 7 #[.val (.int p0), .val (.long q1), .second, .val (.int p2), .val (.int p3), .val (.int p4), .val (.int ((1 : Int32) + (p0 &&& (3 : Int32)))), .unset, .unset, .unset, .unset, .unset, .unset, .unset, .unset, .unset, .unset, .unset] [])) _
    exact k
  have hmx : 0 ≤ (((1 : Int32) + (p0 &&& (3 : Int32)))).toInt := own_max p0
  generalize e_mx : ((1 : Int32) + (p0 &&& (3 : Int32))) = mx at hmx ⊢
  show own_Run p e below s _ _ _ s₁ (mkF m 7 #[.val (.int p0), .val (.long q1), .second, .val (.int p2), .val (.int p3), .val (.int p4), .val (.int mx), .unset, .unset, .unset, .unset, .unset, .unset, .unset, .unset, .unset, .unset, .unset] [])
  refine own_step (T' := s₁) (g' := (mkF m 13 #[.val (.int p0), .val (.long q1), .second, .val (.int p2), .val (.int p3), .val (.int p4), .val (.int mx), .val (.int (p2 &&& (2147483647 : Int32))), .unset, .unset, .unset, .unset, .unset, .unset, .unset, .unset, .unset, .unset] [])) (fun t k => ?_) ?_
  · show Steps p.tables e below (s₁.setTop (mkF m 7 #[.val (.int p0), .val (.long q1), .second, .val (.int p2), .val (.int p3), .val (.int p4), .val (.int mx), .unset, .unset, .unset, .unset, .unset, .unset, .unset, .unset, .unset, .unset, .unset] [])) _
    refine XS.iloadN X0.here hx rfl (hb hby at_7) rfl ?_
    show Steps p.tables e below (s₁.setTop (mkF m 8 #[.val (.int p0), .val (.long q1), .second, .val (.int p2), .val (.int p3), .val (.int p4), .val (.int mx), .unset, .unset, .unset, .unset, .unset, .unset, .unset, .unset, .unset, .unset, .unset] [(.int p2)])) _
    refine X0.ldcInt hx hown (mvT hZ (hw _ (List.mem_of_getElem? (i := 0) rfl))) (g := (mkF m 8 #[.val (.int p0), .val (.long q1), .second, .val (.int p2), .val (.int p3), .val (.int p4), .val (.int mx), .unset, .unset, .unset, .unset, .unset, .unset, .unset, .unset, .unset, .unset, .unset] [(.int p2)])) rfl (hb hby at_8) _ ?_
    show Steps p.tables e below (s₁.setTop (mkF m 10 #[.val (.int p0), .val (.long q1), .second, .val (.int p2), .val (.int p3), .val (.int p4), .val (.int mx), .unset, .unset, .unset, .unset, .unset, .unset, .unset, .unset, .unset, .unset, .unset] [(.int (2147483647 : Int32)), (.int p2)])) _
    refine XS.iand X0.here hx rfl (hb hby at_10) rfl ?_
    show Steps p.tables e below (s₁.setTop (mkF m 11 #[.val (.int p0), .val (.long q1), .second, .val (.int p2), .val (.int p3), .val (.int p4), .val (.int mx), .unset, .unset, .unset, .unset, .unset, .unset, .unset, .unset, .unset, .unset, .unset] [(.int (p2 &&& (2147483647 : Int32)))])) _
    refine XS.istore X0.here hx rfl (hb hby at_11) rfl (l' := #[.val (.int p0), .val (.long q1), .second, .val (.int p2), .val (.int p3), .val (.int p4), .val (.int mx), .val (.int (p2 &&& (2147483647 : Int32))), .unset, .unset, .unset, .unset, .unset, .unset, .unset, .unset, .unset, .unset]) rfl ?_
    show Steps p.tables e below (s₁.setTop (mkF m 13 #[.val (.int p0), .val (.long q1), .second, .val (.int p2), .val (.int p3), .val (.int p4), .val (.int mx), .val (.int (p2 &&& (2147483647 : Int32))), .unset, .unset, .unset, .unset, .unset, .unset, .unset, .unset, .unset, .unset] [])) _
    exact k
  generalize e_la : (p2 &&& (2147483647 : Int32)) = la
  show own_Run p e below s _ _ _ s₁ (mkF m 13 #[.val (.int p0), .val (.long q1), .second, .val (.int p2), .val (.int p3), .val (.int p4), .val (.int mx), .val (.int la), .unset, .unset, .unset, .unset, .unset, .unset, .unset, .unset, .unset, .unset] [])
  refine own_step (T' := s₁) (g' := (mkF m 20 #[.val (.int p0), .val (.long q1), .second, .val (.int p2), .val (.int p3), .val (.int p4), .val (.int mx), .val (.int la), .val (.int (p3 &&& (2147483647 : Int32))), .unset, .unset, .unset, .unset, .unset, .unset, .unset, .unset, .unset] [])) (fun t k => ?_) ?_
  · show Steps p.tables e below (s₁.setTop (mkF m 13 #[.val (.int p0), .val (.long q1), .second, .val (.int p2), .val (.int p3), .val (.int p4), .val (.int mx), .val (.int la), .unset, .unset, .unset, .unset, .unset, .unset, .unset, .unset, .unset, .unset] [])) _
    refine XS.iload X0.here hx rfl (hb hby at_13) rfl ?_
    show Steps p.tables e below (s₁.setTop (mkF m 15 #[.val (.int p0), .val (.long q1), .second, .val (.int p2), .val (.int p3), .val (.int p4), .val (.int mx), .val (.int la), .unset, .unset, .unset, .unset, .unset, .unset, .unset, .unset, .unset, .unset] [(.int p3)])) _
    refine X0.ldcInt hx hown (mvT hZ (hw _ (List.mem_of_getElem? (i := 0) rfl))) (g := (mkF m 15 #[.val (.int p0), .val (.long q1), .second, .val (.int p2), .val (.int p3), .val (.int p4), .val (.int mx), .val (.int la), .unset, .unset, .unset, .unset, .unset, .unset, .unset, .unset, .unset, .unset] [(.int p3)])) rfl (hb hby at_15) _ ?_
    show Steps p.tables e below (s₁.setTop (mkF m 17 #[.val (.int p0), .val (.long q1), .second, .val (.int p2), .val (.int p3), .val (.int p4), .val (.int mx), .val (.int la), .unset, .unset, .unset, .unset, .unset, .unset, .unset, .unset, .unset, .unset] [(.int (2147483647 : Int32)), (.int p3)])) _
    refine XS.iand X0.here hx rfl (hb hby at_17) rfl ?_
    show Steps p.tables e below (s₁.setTop (mkF m 18 #[.val (.int p0), .val (.long q1), .second, .val (.int p2), .val (.int p3), .val (.int p4), .val (.int mx), .val (.int la), .unset, .unset, .unset, .unset, .unset, .unset, .unset, .unset, .unset, .unset] [(.int (p3 &&& (2147483647 : Int32)))])) _
    refine XS.istore X0.here hx rfl (hb hby at_18) rfl (l' := #[.val (.int p0), .val (.long q1), .second, .val (.int p2), .val (.int p3), .val (.int p4), .val (.int mx), .val (.int la), .val (.int (p3 &&& (2147483647 : Int32))), .unset, .unset, .unset, .unset, .unset, .unset, .unset, .unset, .unset]) rfl ?_
    show Steps p.tables e below (s₁.setTop (mkF m 20 #[.val (.int p0), .val (.long q1), .second, .val (.int p2), .val (.int p3), .val (.int p4), .val (.int mx), .val (.int la), .val (.int (p3 &&& (2147483647 : Int32))), .unset, .unset, .unset, .unset, .unset, .unset, .unset, .unset, .unset] [])) _
    exact k
  generalize e_lb : (p3 &&& (2147483647 : Int32)) = lb
  show own_Run p e below s _ _ _ s₁ (mkF m 20 #[.val (.int p0), .val (.long q1), .second, .val (.int p2), .val (.int p3), .val (.int p4), .val (.int mx), .val (.int la), .val (.int lb), .unset, .unset, .unset, .unset, .unset, .unset, .unset, .unset, .unset] [])
  refine own_step (T' := s₁) (g' := (mkF m 27 #[.val (.int p0), .val (.long q1), .second, .val (.int p2), .val (.int p3), .val (.int p4), .val (.int mx), .val (.int la), .val (.int lb), .val (.int (p4 &&& (2147483647 : Int32))), .unset, .unset, .unset, .unset, .unset, .unset, .unset, .unset] [])) (fun t k => ?_) ?_
  · show Steps p.tables e below (s₁.setTop (mkF m 20 #[.val (.int p0), .val (.long q1), .second, .val (.int p2), .val (.int p3), .val (.int p4), .val (.int mx), .val (.int la), .val (.int lb), .unset, .unset, .unset, .unset, .unset, .unset, .unset, .unset, .unset] [])) _
    refine XS.iload X0.here hx rfl (hb hby at_20) rfl ?_
    show Steps p.tables e below (s₁.setTop (mkF m 22 #[.val (.int p0), .val (.long q1), .second, .val (.int p2), .val (.int p3), .val (.int p4), .val (.int mx), .val (.int la), .val (.int lb), .unset, .unset, .unset, .unset, .unset, .unset, .unset, .unset, .unset] [(.int p4)])) _
    refine X0.ldcInt hx hown (mvT hZ (hw _ (List.mem_of_getElem? (i := 0) rfl))) (g := (mkF m 22 #[.val (.int p0), .val (.long q1), .second, .val (.int p2), .val (.int p3), .val (.int p4), .val (.int mx), .val (.int la), .val (.int lb), .unset, .unset, .unset, .unset, .unset, .unset, .unset, .unset, .unset] [(.int p4)])) rfl (hb hby at_22) _ ?_
    show Steps p.tables e below (s₁.setTop (mkF m 24 #[.val (.int p0), .val (.long q1), .second, .val (.int p2), .val (.int p3), .val (.int p4), .val (.int mx), .val (.int la), .val (.int lb), .unset, .unset, .unset, .unset, .unset, .unset, .unset, .unset, .unset] [(.int (2147483647 : Int32)), (.int p4)])) _
    refine XS.iand X0.here hx rfl (hb hby at_24) rfl ?_
    show Steps p.tables e below (s₁.setTop (mkF m 25 #[.val (.int p0), .val (.long q1), .second, .val (.int p2), .val (.int p3), .val (.int p4), .val (.int mx), .val (.int la), .val (.int lb), .unset, .unset, .unset, .unset, .unset, .unset, .unset, .unset, .unset] [(.int (p4 &&& (2147483647 : Int32)))])) _
    refine XS.istore X0.here hx rfl (hb hby at_25) rfl (l' := #[.val (.int p0), .val (.long q1), .second, .val (.int p2), .val (.int p3), .val (.int p4), .val (.int mx), .val (.int la), .val (.int lb), .val (.int (p4 &&& (2147483647 : Int32))), .unset, .unset, .unset, .unset, .unset, .unset, .unset, .unset]) rfl ?_
    show Steps p.tables e below (s₁.setTop (mkF m 27 #[.val (.int p0), .val (.long q1), .second, .val (.int p2), .val (.int p3), .val (.int p4), .val (.int mx), .val (.int la), .val (.int lb), .val (.int (p4 &&& (2147483647 : Int32))), .unset, .unset, .unset, .unset, .unset, .unset, .unset, .unset] [])) _
    exact k
  generalize e_lc : (p4 &&& (2147483647 : Int32)) = lc
  show own_Run p e below s _ _ _ s₁ (mkF m 27 #[.val (.int p0), .val (.long q1), .second, .val (.int p2), .val (.int p3), .val (.int p4), .val (.int mx), .val (.int la), .val (.int lb), .val (.int lc), .unset, .unset, .unset, .unset, .unset, .unset, .unset, .unset] [])
  obtain ⟨T1, h1, X1, e1, E1, A1, D1, -, st1⟩ := newO X0 hx hZ hown (hw _ (List.mem_of_getElem? (i := 1) rfl)) (hw _ (List.mem_of_getElem? (i := 2) rfl)) (hw _ (List.mem_of_getElem? (i := 3) rfl)) e0 (g := (mkF m 27 #[.val (.int p0), .val (.long q1), .second, .val (.int p2), .val (.int p3), .val (.int p4), .val (.int mx), .val (.int la), .val (.int lb), .val (.int lc), .unset, .unset, .unset, .unset, .unset, .unset, .unset, .unset] [])) rfl (hb hby at_27) (by decide) (by decide)
  obtain ⟨b1, g1⟩ : ∃ z, z = h0.size := ⟨_, rfl⟩
  have g_b1 : n0 ≤ b1 := Nat.le_trans Z0 (Nat.le_of_eq g1.symm)
  rw [← g1] at A1 D1 st1
  have F2 : Fld Z h1 b1 "com/example/ladel/ladel/broker/Topic$Message" "seq" "J" (.long (0 : Int64)) := D1 (Or.inr (hw _ (List.mem_of_getElem? (i := 27) rfl))) (ty := .long) (by decide)
  have F3 : Fld Z h1 b1 "com/example/ladel/ladel/broker/Topic$Message" "content" "Lcom/example/ladel/ladel/store/Journal$Location;" .null := D1 (Or.inr (hw _ (List.mem_of_getElem? (i := 29) rfl))) (ty := (.object "com/example/ladel/ladel/store/Journal$Location")) (by decide)
  have Z4 := Nat.le_trans Z0 E1.1
  refine own_step st1 ?_
  show own_Run p e below s _ _ _ T1 (mkF m 30 #[.val (.int p0), .val (.long q1), .second, .val (.int p2), .val (.int p3), .val (.int p4), .val (.int mx), .val (.int la), .val (.int lb), .val (.int lc), .unset, .unset, .unset, .unset, .unset, .unset, .unset, .unset] [(.ref b1)])
  refine own_step (T' := T1) (g' := (mkF m 32 #[.val (.int p0), .val (.long q1), .second, .val (.int p2), .val (.int p3), .val (.int p4), .val (.int mx), .val (.int la), .val (.int lb), .val (.int lc), .unset, .unset, .unset, .unset, .unset, .unset, .unset, .unset] [(.long (1 : Int64)), (.ref b1), (.ref b1)])) (fun t k => ?_) ?_
  · show Steps p.tables e below (T1.setTop (mkF m 30 #[.val (.int p0), .val (.long q1), .second, .val (.int p2), .val (.int p3), .val (.int p4), .val (.int mx), .val (.int la), .val (.int lb), .val (.int lc), .unset, .unset, .unset, .unset, .unset, .unset, .unset, .unset] [(.ref b1)])) _
    refine XS.dup X1.here hx rfl (hb hby at_30) rfl rfl ?_
    show Steps p.tables e below (T1.setTop (mkF m 31 #[.val (.int p0), .val (.long q1), .second, .val (.int p2), .val (.int p3), .val (.int p4), .val (.int mx), .val (.int la), .val (.int lb), .val (.int lc), .unset, .unset, .unset, .unset, .unset, .unset, .unset, .unset] [(.ref b1), (.ref b1)])) _
    refine XS.lconst X1.here hx rfl (hb hby at_31) ?_
    show Steps p.tables e below (T1.setTop (mkF m 32 #[.val (.int p0), .val (.long q1), .second, .val (.int p2), .val (.int p3), .val (.int p4), .val (.int mx), .val (.int la), .val (.int lb), .val (.int lc), .unset, .unset, .unset, .unset, .unset, .unset, .unset, .unset] [(.long (1 : Int64)), (.ref b1), (.ref b1)])) _
    exact k
  obtain ⟨T5, h5, X5, e5, E5, A5, D5, -, st5⟩ := newO X1 hx hZ hown (hw _ (List.mem_of_getElem? (i := 4) rfl)) (hw _ (List.mem_of_getElem? (i := 5) rfl)) (hw _ (List.mem_of_getElem? (i := 6) rfl)) e1 (g := (mkF m 32 #[.val (.int p0), .val (.long q1), .second, .val (.int p2), .val (.int p3), .val (.int p4), .val (.int mx), .val (.int la), .val (.int lb), .val (.int lc), .unset, .unset, .unset, .unset, .unset, .unset, .unset, .unset] [(.long (1 : Int64)), (.ref b1), (.ref b1)])) rfl (hb hby at_32) (by decide) (by decide)
  obtain ⟨b5, g5⟩ : ∃ z, z = h1.size := ⟨_, rfl⟩
  have ne6 : b1 ≠ b5 := Nat.ne_of_lt (Nat.lt_of_lt_of_le F2.lt (Nat.le_of_eq g5.symm))
  have g_b5 : n0 ≤ b5 := Nat.le_trans Z4 (Nat.le_of_eq g5.symm)
  rw [← g5] at A5 D5 st5
  have F7 := F2.ext E5
  have F8 := F3.ext E5
  have A9 := A1.ext E5
  have F10 : Fld Z h5 b5 "com/example/ladel/ladel/store/Journal$Location" "offset" "J" (.long (0 : Int64)) := D5 (Or.inr (hw _ (List.mem_of_getElem? (i := 19) rfl))) (ty := .long) (by decide)
  have F11 : Fld Z h5 b5 "com/example/ladel/ladel/store/Journal$Location" "length" "I" (.int (0 : Int32)) := D5 (Or.inr (hw _ (List.mem_of_getElem? (i := 21) rfl))) (ty := .int) (by decide)
  have Z12 := Nat.le_trans Z4 E5.1
  refine own_step st5 ?_
  show own_Run p e below s _ _ _ T5 (mkF m 35 #[.val (.int p0), .val (.long q1), .second, .val (.int p2), .val (.int p3), .val (.int p4), .val (.int mx), .val (.int la), .val (.int lb), .val (.int lc), .unset, .unset, .unset, .unset, .unset, .unset, .unset, .unset] [(.ref b5), (.long (1 : Int64)), (.ref b1), (.ref b1)])
  refine own_step (T' := T5) (g' := (mkF m 39 #[.val (.int p0), .val (.long q1), .second, .val (.int p2), .val (.int p3), .val (.int p4), .val (.int mx), .val (.int la), .val (.int lb), .val (.int lc), .unset, .unset, .unset, .unset, .unset, .unset, .unset, .unset] [(.int la), (.long (0 : Int64)), (.ref b5), (.ref b5), (.long (1 : Int64)), (.ref b1), (.ref b1)])) (fun t k => ?_) ?_
  · show Steps p.tables e below (T5.setTop (mkF m 35 #[.val (.int p0), .val (.long q1), .second, .val (.int p2), .val (.int p3), .val (.int p4), .val (.int mx), .val (.int la), .val (.int lb), .val (.int lc), .unset, .unset, .unset, .unset, .unset, .unset, .unset, .unset] [(.ref b5), (.long (1 : Int64)), (.ref b1), (.ref b1)])) _
    refine XS.dup X5.here hx rfl (hb hby at_35) rfl rfl ?_
    show Steps p.tables e below (T5.setTop (mkF m 36 #[.val (.int p0), .val (.long q1), .second, .val (.int p2), .val (.int p3), .val (.int p4), .val (.int mx), .val (.int la), .val (.int lb), .val (.int lc), .unset, .unset, .unset, .unset, .unset, .unset, .unset, .unset] [(.ref b5), (.ref b5), (.long (1 : Int64)), (.ref b1), (.ref b1)])) _
    refine XS.lconst X5.here hx rfl (hb hby at_36) ?_
    show Steps p.tables e below (T5.setTop (mkF m 37 #[.val (.int p0), .val (.long q1), .second, .val (.int p2), .val (.int p3), .val (.int p4), .val (.int mx), .val (.int la), .val (.int lb), .val (.int lc), .unset, .unset, .unset, .unset, .unset, .unset, .unset, .unset] [(.long (0 : Int64)), (.ref b5), (.ref b5), (.long (1 : Int64)), (.ref b1), (.ref b1)])) _
    refine XS.iload X5.here hx rfl (hb hby at_37) rfl ?_
    show Steps p.tables e below (T5.setTop (mkF m 39 #[.val (.int p0), .val (.long q1), .second, .val (.int p2), .val (.int p3), .val (.int p4), .val (.int mx), .val (.int la), .val (.int lb), .val (.int lc), .unset, .unset, .unset, .unset, .unset, .unset, .unset, .unset] [(.int la), (.long (0 : Int64)), (.ref b5), (.ref b5), (.long (1 : Int64)), (.ref b1), (.ref b1)])) _
    exact k
  obtain ⟨_, _, ⟨T13, L13, k13, n13⟩, -, X13, ⟨Lc13, hQ13, l13, y13, z13⟩, st13⟩ := X5.specialBack hx (y := (⟨"com/example/ladel/ladel/store/Journal$Location", "<init>", "(JI)V"⟩ : MethodName)) rfl hown (mvT hZ (hw _ (List.mem_of_getElem? (i := 7) rfl))) (mvT hZ (hw _ (List.mem_of_getElem? (i := 8) rfl))) (mvT hZ (hw _ (List.mem_of_getElem? (i := 9) rfl))) (by decide) (backOf (W := 5) (rm1 l Z a0 hw [] b5 (0 : Int64) la  h5 n0 Z12 A5 F10 F11 g_b5) hZ (hw _ (List.mem_of_getElem? (i := 9) rfl)) (hw _ (List.mem_of_getElem? (i := 6) rfl)) (by decide) (by decide)) (g := (mkF m 39 #[.val (.int p0), .val (.long q1), .second, .val (.int p2), .val (.int p3), .val (.int p4), .val (.int mx), .val (.int la), .val (.int lb), .val (.int lc), .unset, .unset, .unset, .unset, .unset, .unset, .unset, .unset] [(.int la), (.long (0 : Int64)), (.ref b5), (.ref b5), (.long (1 : Int64)), (.ref b1), (.ref b1)])) rfl (by rw [hml]; rfl) (Steps.refl _) (a := b5) (argsL := [(.long (0 : Int64)), (.int la)]) (rest := [(.ref b5), (.long (1 : Int64)), (.ref b1), (.ref b1)]) (lenOf pd_5 rfl) rfl (by show 2 * 0 + _ ≤ _; exact Nat.le_of_eq rfl) (hb hby at_39) (fun _ _ => ⟨rfl, e5, (by decide : 2 + 0 ≤ _), (by decide : 4 + 0 ≤ _)⟩)
  dsimp only [Pt.U, Pt.locs, Pt.cells, Pt.slots] at X13 l13 y13 z13 st13 hQ13
  subst l13 y13 z13
  obtain ⟨rfl, N13q, Kq13, Fa13⟩ := hQ13
  have N13 := Fr.app N0 N13q
  refine own_step (fun t k => st13.trans k) ?_
  show own_Run p e below s _ _ _ T13 (mkF m 42 #[.val (.int p0), .val (.long q1), .second, .val (.int p2), .val (.int p3), .val (.int p4), .val (.int mx), .val (.int la), .val (.int lb), .val (.int lc), .unset, .unset, .unset, .unset, .unset, .unset, .unset, .unset] [(.ref b5), (.long (1 : Int64)), (.ref b1), (.ref b1)])
  have F14 := F7.keep Kq13 (ninS ne6 nin0)
  have F15 := F8.keep Kq13 (ninS ne6 nin0)
  have A16 := A9.keep Kq13
  have A17 := A5.keep Kq13
  have Z18 := Nat.le_trans Z12 Kq13.1
  obtain ⟨_, _, ⟨T19, L19, k19, n19⟩, -, X19, ⟨Lc19, hQ19, l19, y19, z19⟩, st19⟩ := X13.specialBack hx (y := (⟨"com/example/ladel/ladel/broker/Topic$Message", "<init>", "(JLcom/example/ladel/ladel/store/Journal$Location;)V"⟩ : MethodName)) rfl hown (mvT hZ (hw _ (List.mem_of_getElem? (i := 22) rfl))) (mvT hZ (hw _ (List.mem_of_getElem? (i := 23) rfl))) (mvT hZ (hw _ (List.mem_of_getElem? (i := 24) rfl))) (by decide) (backOf (W := 1) (rm4 l Z a0 hw [] b1 (1 : Int64) b5  T13.heap n0 Z18 A16 F14 F15 g_b1) hZ (hw _ (List.mem_of_getElem? (i := 24) rfl)) (hw _ (List.mem_of_getElem? (i := 3) rfl)) (by decide) (by decide)) (g := (mkF m 42 #[.val (.int p0), .val (.long q1), .second, .val (.int p2), .val (.int p3), .val (.int p4), .val (.int mx), .val (.int la), .val (.int lb), .val (.int lc), .unset, .unset, .unset, .unset, .unset, .unset, .unset, .unset] [(.ref b5), (.long (1 : Int64)), (.ref b1), (.ref b1)])) rfl (by rw [hml]; rfl) (Steps.refl _) (a := b1) (argsL := [(.long (1 : Int64)), (.ref b5)]) (rest := [(.ref b1)]) (lenOf pd_6 rfl) rfl (by show 2 * 0 + _ ≤ _; exact Nat.le_of_eq rfl) (hb hby at_42) (fun _ _ => ⟨rfl, rfl, (by decide : 2 + 0 ≤ _), (by decide : 4 + 0 ≤ _)⟩)
  dsimp only [Pt.U, Pt.locs, Pt.cells, Pt.slots] at X19 l19 y19 z19 st19 hQ19
  subst l19 y19 z19
  obtain ⟨rfl, N19q, Kq19, Fa19⟩ := hQ19
  have N19 := Fr.app N13 N19q
  refine own_step (fun t k => st19.trans k) ?_
  show own_Run p e below s _ _ _ T19 (mkF m 45 #[.val (.int p0), .val (.long q1), .second, .val (.int p2), .val (.int p3), .val (.int p4), .val (.int mx), .val (.int la), .val (.int lb), .val (.int lc), .unset, .unset, .unset, .unset, .unset, .unset, .unset, .unset] [(.ref b1)])
  have F20 := Fa13.keep Kq19 (ninS (Ne.symm ne6) nin0)
  have A21 := A16.keep Kq19
  have A22 := A17.keep Kq19
  have Z23 := Nat.le_trans Z18 Kq19.1
  refine own_step (T' := T19) (g' := (mkF m 47 #[.val (.int p0), .val (.long q1), .second, .val (.int p2), .val (.int p3), .val (.int p4), .val (.int mx), .val (.int la), .val (.int lb), .val (.int lc), .val (.ref b1), .unset, .unset, .unset, .unset, .unset, .unset, .unset] [])) (fun t k => ?_) ?_
  · show Steps p.tables e below (T19.setTop (mkF m 45 #[.val (.int p0), .val (.long q1), .second, .val (.int p2), .val (.int p3), .val (.int p4), .val (.int mx), .val (.int la), .val (.int lb), .val (.int lc), .unset, .unset, .unset, .unset, .unset, .unset, .unset, .unset] [(.ref b1)])) _
    refine XS.astore X19.here hx rfl (hb hby at_45) rfl rfl (l' := #[.val (.int p0), .val (.long q1), .second, .val (.int p2), .val (.int p3), .val (.int p4), .val (.int mx), .val (.int la), .val (.int lb), .val (.int lc), .val (.ref b1), .unset, .unset, .unset, .unset, .unset, .unset, .unset]) rfl ?_
    show Steps p.tables e below (T19.setTop (mkF m 47 #[.val (.int p0), .val (.long q1), .second, .val (.int p2), .val (.int p3), .val (.int p4), .val (.int mx), .val (.int la), .val (.int lb), .val (.int lc), .val (.ref b1), .unset, .unset, .unset, .unset, .unset, .unset, .unset] [])) _
    exact k
  obtain ⟨T24, h24, X24, e24, E24, A24, D24, -, st24⟩ := newO X19 hx hZ hown (hw _ (List.mem_of_getElem? (i := 1) rfl)) (hw _ (List.mem_of_getElem? (i := 2) rfl)) (hw _ (List.mem_of_getElem? (i := 3) rfl)) rfl (g := (mkF m 47 #[.val (.int p0), .val (.long q1), .second, .val (.int p2), .val (.int p3), .val (.int p4), .val (.int mx), .val (.int la), .val (.int lb), .val (.int lc), .val (.ref b1), .unset, .unset, .unset, .unset, .unset, .unset, .unset] [])) rfl (hb hby at_47) (by decide) (by decide)
  obtain ⟨b24, g24⟩ : ∃ z, z = T19.heap.size := ⟨_, rfl⟩
  have ne25 : b5 ≠ b24 := Nat.ne_of_lt (Nat.lt_of_lt_of_le F20.lt (Nat.le_of_eq g24.symm))
  have ne26 : b1 ≠ b24 := Nat.ne_of_lt (Nat.lt_of_lt_of_le Fa19.lt (Nat.le_of_eq g24.symm))
  have g_b24 : n0 ≤ b24 := Nat.le_trans Z23 (Nat.le_of_eq g24.symm)
  rw [← g24] at A24 D24 st24
  have F27 := F20.ext E24
  have F28 := Fa19.ext E24
  have A29 := A21.ext E24
  have A30 := A22.ext E24
  have F31 : Fld Z h24 b24 "com/example/ladel/ladel/broker/Topic$Message" "seq" "J" (.long (0 : Int64)) := D24 (Or.inr (hw _ (List.mem_of_getElem? (i := 27) rfl))) (ty := .long) (by decide)
  have F32 : Fld Z h24 b24 "com/example/ladel/ladel/broker/Topic$Message" "content" "Lcom/example/ladel/ladel/store/Journal$Location;" .null := D24 (Or.inr (hw _ (List.mem_of_getElem? (i := 29) rfl))) (ty := (.object "com/example/ladel/ladel/store/Journal$Location")) (by decide)
  have Z33 := Nat.le_trans Z23 E24.1
  refine own_step st24 ?_
  show own_Run p e below s _ _ _ T24 (mkF m 50 #[.val (.int p0), .val (.long q1), .second, .val (.int p2), .val (.int p3), .val (.int p4), .val (.int mx), .val (.int la), .val (.int lb), .val (.int lc), .val (.ref b1), .unset, .unset, .unset, .unset, .unset, .unset, .unset] [(.ref b24)])
  refine own_step (T' := T24) (g' := (mkF m 54 #[.val (.int p0), .val (.long q1), .second, .val (.int p2), .val (.int p3), .val (.int p4), .val (.int mx), .val (.int la), .val (.int lb), .val (.int lc), .val (.ref b1), .unset, .unset, .unset, .unset, .unset, .unset, .unset] [(.long (2 : Int64)), (.ref b24), (.ref b24)])) (fun t k => ?_) ?_
  · show Steps p.tables e below (T24.setTop (mkF m 50 #[.val (.int p0), .val (.long q1), .second, .val (.int p2), .val (.int p3), .val (.int p4), .val (.int mx), .val (.int la), .val (.int lb), .val (.int lc), .val (.ref b1), .unset, .unset, .unset, .unset, .unset, .unset, .unset] [(.ref b24)])) _
    refine XS.dup X24.here hx rfl (hb hby at_50) rfl rfl ?_
    show Steps p.tables e below (T24.setTop (mkF m 51 #[.val (.int p0), .val (.long q1), .second, .val (.int p2), .val (.int p3), .val (.int p4), .val (.int mx), .val (.int la), .val (.int lb), .val (.int lc), .val (.ref b1), .unset, .unset, .unset, .unset, .unset, .unset, .unset] [(.ref b24), (.ref b24)])) _
    refine X24.ldc2Long hx hown (mvT hZ (hw _ (List.mem_of_getElem? (i := 30) rfl))) (g := (mkF m 51 #[.val (.int p0), .val (.long q1), .second, .val (.int p2), .val (.int p3), .val (.int p4), .val (.int mx), .val (.int la), .val (.int lb), .val (.int lc), .val (.ref b1), .unset, .unset, .unset, .unset, .unset, .unset, .unset] [(.ref b24), (.ref b24)])) rfl (hb hby at_51) _ ?_
    show Steps p.tables e below (T24.setTop (mkF m 54 #[.val (.int p0), .val (.long q1), .second, .val (.int p2), .val (.int p3), .val (.int p4), .val (.int mx), .val (.int la), .val (.int lb), .val (.int lc), .val (.ref b1), .unset, .unset, .unset, .unset, .unset, .unset, .unset] [(.long (2 : Int64)), (.ref b24), (.ref b24)])) _
    exact k
  obtain ⟨T34, h34, X34, e34, E34, A34, D34, -, st34⟩ := newO X24 hx hZ hown (hw _ (List.mem_of_getElem? (i := 4) rfl)) (hw _ (List.mem_of_getElem? (i := 5) rfl)) (hw _ (List.mem_of_getElem? (i := 6) rfl)) e24 (g := (mkF m 54 #[.val (.int p0), .val (.long q1), .second, .val (.int p2), .val (.int p3), .val (.int p4), .val (.int mx), .val (.int la), .val (.int lb), .val (.int lc), .val (.ref b1), .unset, .unset, .unset, .unset, .unset, .unset, .unset] [(.long (2 : Int64)), (.ref b24), (.ref b24)])) rfl (hb hby at_54) (by decide) (by decide)
  obtain ⟨b34, g34⟩ : ∃ z, z = h24.size := ⟨_, rfl⟩
  have ne35 : b5 ≠ b34 := Nat.ne_of_lt (Nat.lt_of_lt_of_le F27.lt (Nat.le_of_eq g34.symm))
  have ne36 : b1 ≠ b34 := Nat.ne_of_lt (Nat.lt_of_lt_of_le F28.lt (Nat.le_of_eq g34.symm))
  have ne37 : b24 ≠ b34 := Nat.ne_of_lt (Nat.lt_of_lt_of_le F31.lt (Nat.le_of_eq g34.symm))
  have g_b34 : n0 ≤ b34 := Nat.le_trans Z33 (Nat.le_of_eq g34.symm)
  rw [← g34] at A34 D34 st34
  have F38 := F27.ext E34
  have F39 := F28.ext E34
  have F40 := F31.ext E34
  have F41 := F32.ext E34
  have A42 := A29.ext E34
  have A43 := A30.ext E34
  have A44 := A24.ext E34
  have F45 : Fld Z h34 b34 "com/example/ladel/ladel/store/Journal$Location" "offset" "J" (.long (0 : Int64)) := D34 (Or.inr (hw _ (List.mem_of_getElem? (i := 19) rfl))) (ty := .long) (by decide)
  have F46 : Fld Z h34 b34 "com/example/ladel/ladel/store/Journal$Location" "length" "I" (.int (0 : Int32)) := D34 (Or.inr (hw _ (List.mem_of_getElem? (i := 21) rfl))) (ty := .int) (by decide)
  have Z47 := Nat.le_trans Z33 E34.1
  refine own_step st34 ?_
  show own_Run p e below s _ _ _ T34 (mkF m 57 #[.val (.int p0), .val (.long q1), .second, .val (.int p2), .val (.int p3), .val (.int p4), .val (.int mx), .val (.int la), .val (.int lb), .val (.int lc), .val (.ref b1), .unset, .unset, .unset, .unset, .unset, .unset, .unset] [(.ref b34), (.long (2 : Int64)), (.ref b24), (.ref b24)])
  refine own_step (T' := T34) (g' := (mkF m 61 #[.val (.int p0), .val (.long q1), .second, .val (.int p2), .val (.int p3), .val (.int p4), .val (.int mx), .val (.int la), .val (.int lb), .val (.int lc), .val (.ref b1), .unset, .unset, .unset, .unset, .unset, .unset, .unset] [(.int lb), (.long (0 : Int64)), (.ref b34), (.ref b34), (.long (2 : Int64)), (.ref b24), (.ref b24)])) (fun t k => ?_) ?_
  · show Steps p.tables e below (T34.setTop (mkF m 57 #[.val (.int p0), .val (.long q1), .second, .val (.int p2), .val (.int p3), .val (.int p4), .val (.int mx), .val (.int la), .val (.int lb), .val (.int lc), .val (.ref b1), .unset, .unset, .unset, .unset, .unset, .unset, .unset] [(.ref b34), (.long (2 : Int64)), (.ref b24), (.ref b24)])) _
    refine XS.dup X34.here hx rfl (hb hby at_57) rfl rfl ?_
    show Steps p.tables e below (T34.setTop (mkF m 58 #[.val (.int p0), .val (.long q1), .second, .val (.int p2), .val (.int p3), .val (.int p4), .val (.int mx), .val (.int la), .val (.int lb), .val (.int lc), .val (.ref b1), .unset, .unset, .unset, .unset, .unset, .unset, .unset] [(.ref b34), (.ref b34), (.long (2 : Int64)), (.ref b24), (.ref b24)])) _
    refine XS.lconst X34.here hx rfl (hb hby at_58) ?_
    show Steps p.tables e below (T34.setTop (mkF m 59 #[.val (.int p0), .val (.long q1), .second, .val (.int p2), .val (.int p3), .val (.int p4), .val (.int mx), .val (.int la), .val (.int lb), .val (.int lc), .val (.ref b1), .unset, .unset, .unset, .unset, .unset, .unset, .unset] [(.long (0 : Int64)), (.ref b34), (.ref b34), (.long (2 : Int64)), (.ref b24), (.ref b24)])) _
    refine XS.iload X34.here hx rfl (hb hby at_59) rfl ?_
    show Steps p.tables e below (T34.setTop (mkF m 61 #[.val (.int p0), .val (.long q1), .second, .val (.int p2), .val (.int p3), .val (.int p4), .val (.int mx), .val (.int la), .val (.int lb), .val (.int lc), .val (.ref b1), .unset, .unset, .unset, .unset, .unset, .unset, .unset] [(.int lb), (.long (0 : Int64)), (.ref b34), (.ref b34), (.long (2 : Int64)), (.ref b24), (.ref b24)])) _
    exact k
  obtain ⟨_, _, ⟨T48, L48, k48, n48⟩, -, X48, ⟨Lc48, hQ48, l48, y48, z48⟩, st48⟩ := X34.specialBack hx (y := (⟨"com/example/ladel/ladel/store/Journal$Location", "<init>", "(JI)V"⟩ : MethodName)) rfl hown (mvT hZ (hw _ (List.mem_of_getElem? (i := 7) rfl))) (mvT hZ (hw _ (List.mem_of_getElem? (i := 8) rfl))) (mvT hZ (hw _ (List.mem_of_getElem? (i := 9) rfl))) (by decide) (backOf (W := 5) (rm1 l Z a0 hw [] b34 (0 : Int64) lb  h34 n0 Z47 A34 F45 F46 g_b34) hZ (hw _ (List.mem_of_getElem? (i := 9) rfl)) (hw _ (List.mem_of_getElem? (i := 6) rfl)) (by decide) (by decide)) (g := (mkF m 61 #[.val (.int p0), .val (.long q1), .second, .val (.int p2), .val (.int p3), .val (.int p4), .val (.int mx), .val (.int la), .val (.int lb), .val (.int lc), .val (.ref b1), .unset, .unset, .unset, .unset, .unset, .unset, .unset] [(.int lb), (.long (0 : Int64)), (.ref b34), (.ref b34), (.long (2 : Int64)), (.ref b24), (.ref b24)])) rfl (by rw [hml]; rfl) (Steps.refl _) (a := b34) (argsL := [(.long (0 : Int64)), (.int lb)]) (rest := [(.ref b34), (.long (2 : Int64)), (.ref b24), (.ref b24)]) (lenOf pd_5 rfl) rfl (by show 2 * 0 + _ ≤ _; exact Nat.le_of_eq rfl) (hb hby at_61) (fun _ _ => ⟨rfl, e34, (by decide : 4 + 0 ≤ _), (by decide : 8 + 0 ≤ _)⟩)
  dsimp only [Pt.U, Pt.locs, Pt.cells, Pt.slots] at X48 l48 y48 z48 st48 hQ48
  subst l48 y48 z48
  obtain ⟨rfl, N48q, Kq48, Fa48⟩ := hQ48
  have N48 := Fr.app N19 N48q
  refine own_step (fun t k => st48.trans k) ?_
  show own_Run p e below s _ _ _ T48 (mkF m 64 #[.val (.int p0), .val (.long q1), .second, .val (.int p2), .val (.int p3), .val (.int p4), .val (.int mx), .val (.int la), .val (.int lb), .val (.int lc), .val (.ref b1), .unset, .unset, .unset, .unset, .unset, .unset, .unset] [(.ref b34), (.long (2 : Int64)), (.ref b24), (.ref b24)])
  have F49 := F38.keep Kq48 (ninS ne35 nin0)
  have F50 := F39.keep Kq48 (ninS ne36 nin0)
  have F51 := F40.keep Kq48 (ninS ne37 nin0)
  have F52 := F41.keep Kq48 (ninS ne37 nin0)
  have A53 := A42.keep Kq48
  have A54 := A43.keep Kq48
  have A55 := A44.keep Kq48
  have A56 := A34.keep Kq48
  have Z57 := Nat.le_trans Z47 Kq48.1
  obtain ⟨_, _, ⟨T58, L58, k58, n58⟩, -, X58, ⟨Lc58, hQ58, l58, y58, z58⟩, st58⟩ := X48.specialBack hx (y := (⟨"com/example/ladel/ladel/broker/Topic$Message", "<init>", "(JLcom/example/ladel/ladel/store/Journal$Location;)V"⟩ : MethodName)) rfl hown (mvT hZ (hw _ (List.mem_of_getElem? (i := 22) rfl))) (mvT hZ (hw _ (List.mem_of_getElem? (i := 23) rfl))) (mvT hZ (hw _ (List.mem_of_getElem? (i := 24) rfl))) (by decide) (backOf (W := 1) (rm4 l Z a0 hw [] b24 (2 : Int64) b34  T48.heap n0 Z57 A55 F51 F52 g_b24) hZ (hw _ (List.mem_of_getElem? (i := 24) rfl)) (hw _ (List.mem_of_getElem? (i := 3) rfl)) (by decide) (by decide)) (g := (mkF m 64 #[.val (.int p0), .val (.long q1), .second, .val (.int p2), .val (.int p3), .val (.int p4), .val (.int mx), .val (.int la), .val (.int lb), .val (.int lc), .val (.ref b1), .unset, .unset, .unset, .unset, .unset, .unset, .unset] [(.ref b34), (.long (2 : Int64)), (.ref b24), (.ref b24)])) rfl (by rw [hml]; rfl) (Steps.refl _) (a := b24) (argsL := [(.long (2 : Int64)), (.ref b34)]) (rest := [(.ref b24)]) (lenOf pd_6 rfl) rfl (by show 2 * 0 + _ ≤ _; exact Nat.le_of_eq rfl) (hb hby at_64) (fun _ _ => ⟨rfl, rfl, (by decide : 4 + 0 ≤ _), (by decide : 8 + 0 ≤ _)⟩)
  dsimp only [Pt.U, Pt.locs, Pt.cells, Pt.slots] at X58 l58 y58 z58 st58 hQ58
  subst l58 y58 z58
  obtain ⟨rfl, N58q, Kq58, Fa58⟩ := hQ58
  have N58 := Fr.app N48 N58q
  refine own_step (fun t k => st58.trans k) ?_
  show own_Run p e below s _ _ _ T58 (mkF m 67 #[.val (.int p0), .val (.long q1), .second, .val (.int p2), .val (.int p3), .val (.int p4), .val (.int mx), .val (.int la), .val (.int lb), .val (.int lc), .val (.ref b1), .unset, .unset, .unset, .unset, .unset, .unset, .unset] [(.ref b24)])
  have F59 := F49.keep Kq58 (ninS ne25 nin0)
  have F60 := F50.keep Kq58 (ninS ne26 nin0)
  have F61 := Fa48.keep Kq58 (ninS (Ne.symm ne37) nin0)
  have A62 := A53.keep Kq58
  have A63 := A54.keep Kq58
  have A64 := A55.keep Kq58
  have A65 := A56.keep Kq58
  have Z66 := Nat.le_trans Z57 Kq58.1
  refine own_step (T' := T58) (g' := (mkF m 69 #[.val (.int p0), .val (.long q1), .second, .val (.int p2), .val (.int p3), .val (.int p4), .val (.int mx), .val (.int la), .val (.int lb), .val (.int lc), .val (.ref b1), .val (.ref b24), .unset, .unset, .unset, .unset, .unset, .unset] [])) (fun t k => ?_) ?_
  · show Steps p.tables e below (T58.setTop (mkF m 67 #[.val (.int p0), .val (.long q1), .second, .val (.int p2), .val (.int p3), .val (.int p4), .val (.int mx), .val (.int la), .val (.int lb), .val (.int lc), .val (.ref b1), .unset, .unset, .unset, .unset, .unset, .unset, .unset] [(.ref b24)])) _
    refine XS.astore X58.here hx rfl (hb hby at_67) rfl rfl (l' := #[.val (.int p0), .val (.long q1), .second, .val (.int p2), .val (.int p3), .val (.int p4), .val (.int mx), .val (.int la), .val (.int lb), .val (.int lc), .val (.ref b1), .val (.ref b24), .unset, .unset, .unset, .unset, .unset, .unset]) rfl ?_
    show Steps p.tables e below (T58.setTop (mkF m 69 #[.val (.int p0), .val (.long q1), .second, .val (.int p2), .val (.int p3), .val (.int p4), .val (.int mx), .val (.int la), .val (.int lb), .val (.int lc), .val (.ref b1), .val (.ref b24), .unset, .unset, .unset, .unset, .unset, .unset] [])) _
    exact k
  obtain ⟨T67, h67, X67, e67, E67, A67, D67, -, st67⟩ := newO X58 hx hZ hown (hw _ (List.mem_of_getElem? (i := 1) rfl)) (hw _ (List.mem_of_getElem? (i := 2) rfl)) (hw _ (List.mem_of_getElem? (i := 3) rfl)) rfl (g := (mkF m 69 #[.val (.int p0), .val (.long q1), .second, .val (.int p2), .val (.int p3), .val (.int p4), .val (.int mx), .val (.int la), .val (.int lb), .val (.int lc), .val (.ref b1), .val (.ref b24), .unset, .unset, .unset, .unset, .unset, .unset] [])) rfl (hb hby at_69) (by decide) (by decide)
  obtain ⟨b67, g67⟩ : ∃ z, z = T58.heap.size := ⟨_, rfl⟩
  have ne68 : b5 ≠ b67 := Nat.ne_of_lt (Nat.lt_of_lt_of_le F59.lt (Nat.le_of_eq g67.symm))
  have ne69 : b1 ≠ b67 := Nat.ne_of_lt (Nat.lt_of_lt_of_le F60.lt (Nat.le_of_eq g67.symm))
  have ne70 : b34 ≠ b67 := Nat.ne_of_lt (Nat.lt_of_lt_of_le F61.lt (Nat.le_of_eq g67.symm))
  have ne71 : b24 ≠ b67 := Nat.ne_of_lt (Nat.lt_of_lt_of_le Fa58.lt (Nat.le_of_eq g67.symm))
  have g_b67 : n0 ≤ b67 := Nat.le_trans Z66 (Nat.le_of_eq g67.symm)
  rw [← g67] at A67 D67 st67
  have F72 := F59.ext E67
  have F73 := F60.ext E67
  have F74 := F61.ext E67
  have F75 := Fa58.ext E67
  have A76 := A62.ext E67
  have A77 := A63.ext E67
  have A78 := A64.ext E67
  have A79 := A65.ext E67
  have F80 : Fld Z h67 b67 "com/example/ladel/ladel/broker/Topic$Message" "seq" "J" (.long (0 : Int64)) := D67 (Or.inr (hw _ (List.mem_of_getElem? (i := 27) rfl))) (ty := .long) (by decide)
  have F81 : Fld Z h67 b67 "com/example/ladel/ladel/broker/Topic$Message" "content" "Lcom/example/ladel/ladel/store/Journal$Location;" .null := D67 (Or.inr (hw _ (List.mem_of_getElem? (i := 29) rfl))) (ty := (.object "com/example/ladel/ladel/store/Journal$Location")) (by decide)
  have Z82 := Nat.le_trans Z66 E67.1
  refine own_step st67 ?_
  show own_Run p e below s _ _ _ T67 (mkF m 72 #[.val (.int p0), .val (.long q1), .second, .val (.int p2), .val (.int p3), .val (.int p4), .val (.int mx), .val (.int la), .val (.int lb), .val (.int lc), .val (.ref b1), .val (.ref b24), .unset, .unset, .unset, .unset, .unset, .unset] [(.ref b67)])
  refine own_step (T' := T67) (g' := (mkF m 76 #[.val (.int p0), .val (.long q1), .second, .val (.int p2), .val (.int p3), .val (.int p4), .val (.int mx), .val (.int la), .val (.int lb), .val (.int lc), .val (.ref b1), .val (.ref b24), .unset, .unset, .unset, .unset, .unset, .unset] [(.long (3 : Int64)), (.ref b67), (.ref b67)])) (fun t k => ?_) ?_
  · show Steps p.tables e below (T67.setTop (mkF m 72 #[.val (.int p0), .val (.long q1), .second, .val (.int p2), .val (.int p3), .val (.int p4), .val (.int mx), .val (.int la), .val (.int lb), .val (.int lc), .val (.ref b1), .val (.ref b24), .unset, .unset, .unset, .unset, .unset, .unset] [(.ref b67)])) _
    refine XS.dup X67.here hx rfl (hb hby at_72) rfl rfl ?_
    show Steps p.tables e below (T67.setTop (mkF m 73 #[.val (.int p0), .val (.long q1), .second, .val (.int p2), .val (.int p3), .val (.int p4), .val (.int mx), .val (.int la), .val (.int lb), .val (.int lc), .val (.ref b1), .val (.ref b24), .unset, .unset, .unset, .unset, .unset, .unset] [(.ref b67), (.ref b67)])) _
    refine X67.ldc2Long hx hown (mvT hZ (hw _ (List.mem_of_getElem? (i := 31) rfl))) (g := (mkF m 73 #[.val (.int p0), .val (.long q1), .second, .val (.int p2), .val (.int p3), .val (.int p4), .val (.int mx), .val (.int la), .val (.int lb), .val (.int lc), .val (.ref b1), .val (.ref b24), .unset, .unset, .unset, .unset, .unset, .unset] [(.ref b67), (.ref b67)])) rfl (hb hby at_73) _ ?_
    show Steps p.tables e below (T67.setTop (mkF m 76 #[.val (.int p0), .val (.long q1), .second, .val (.int p2), .val (.int p3), .val (.int p4), .val (.int mx), .val (.int la), .val (.int lb), .val (.int lc), .val (.ref b1), .val (.ref b24), .unset, .unset, .unset, .unset, .unset, .unset] [(.long (3 : Int64)), (.ref b67), (.ref b67)])) _
    exact k
  obtain ⟨T83, h83, X83, e83, E83, A83, D83, -, st83⟩ := newO X67 hx hZ hown (hw _ (List.mem_of_getElem? (i := 4) rfl)) (hw _ (List.mem_of_getElem? (i := 5) rfl)) (hw _ (List.mem_of_getElem? (i := 6) rfl)) e67 (g := (mkF m 76 #[.val (.int p0), .val (.long q1), .second, .val (.int p2), .val (.int p3), .val (.int p4), .val (.int mx), .val (.int la), .val (.int lb), .val (.int lc), .val (.ref b1), .val (.ref b24), .unset, .unset, .unset, .unset, .unset, .unset] [(.long (3 : Int64)), (.ref b67), (.ref b67)])) rfl (hb hby at_76) (by decide) (by decide)
  obtain ⟨b83, g83⟩ : ∃ z, z = h67.size := ⟨_, rfl⟩
  have ne84 : b5 ≠ b83 := Nat.ne_of_lt (Nat.lt_of_lt_of_le F72.lt (Nat.le_of_eq g83.symm))
  have ne85 : b1 ≠ b83 := Nat.ne_of_lt (Nat.lt_of_lt_of_le F73.lt (Nat.le_of_eq g83.symm))
  have ne86 : b34 ≠ b83 := Nat.ne_of_lt (Nat.lt_of_lt_of_le F74.lt (Nat.le_of_eq g83.symm))
  have ne87 : b24 ≠ b83 := Nat.ne_of_lt (Nat.lt_of_lt_of_le F75.lt (Nat.le_of_eq g83.symm))
  have ne88 : b67 ≠ b83 := Nat.ne_of_lt (Nat.lt_of_lt_of_le F80.lt (Nat.le_of_eq g83.symm))
  have g_b83 : n0 ≤ b83 := Nat.le_trans Z82 (Nat.le_of_eq g83.symm)
  rw [← g83] at A83 D83 st83
  have F89 := F72.ext E83
  have F90 := F73.ext E83
  have F91 := F74.ext E83
  have F92 := F75.ext E83
  have F93 := F80.ext E83
  have F94 := F81.ext E83
  have A95 := A76.ext E83
  have A96 := A77.ext E83
  have A97 := A78.ext E83
  have A98 := A79.ext E83
  have A99 := A67.ext E83
  have F100 : Fld Z h83 b83 "com/example/ladel/ladel/store/Journal$Location" "offset" "J" (.long (0 : Int64)) := D83 (Or.inr (hw _ (List.mem_of_getElem? (i := 19) rfl))) (ty := .long) (by decide)
  have F101 : Fld Z h83 b83 "com/example/ladel/ladel/store/Journal$Location" "length" "I" (.int (0 : Int32)) := D83 (Or.inr (hw _ (List.mem_of_getElem? (i := 21) rfl))) (ty := .int) (by decide)
  have Z102 := Nat.le_trans Z82 E83.1
  refine own_step st83 ?_
  show own_Run p e below s _ _ _ T83 (mkF m 79 #[.val (.int p0), .val (.long q1), .second, .val (.int p2), .val (.int p3), .val (.int p4), .val (.int mx), .val (.int la), .val (.int lb), .val (.int lc), .val (.ref b1), .val (.ref b24), .unset, .unset, .unset, .unset, .unset, .unset] [(.ref b83), (.long (3 : Int64)), (.ref b67), (.ref b67)])
  refine own_step (T' := T83) (g' := (mkF m 83 #[.val (.int p0), .val (.long q1), .second, .val (.int p2), .val (.int p3), .val (.int p4), .val (.int mx), .val (.int la), .val (.int lb), .val (.int lc), .val (.ref b1), .val (.ref b24), .unset, .unset, .unset, .unset, .unset, .unset] [(.int lc), (.long (0 : Int64)), (.ref b83), (.ref b83), (.long (3 : Int64)), (.ref b67), (.ref b67)])) (fun t k => ?_) ?_
  · show Steps p.tables e below (T83.setTop (mkF m 79 #[.val (.int p0), .val (.long q1), .second, .val (.int p2), .val (.int p3), .val (.int p4), .val (.int mx), .val (.int la), .val (.int lb), .val (.int lc), .val (.ref b1), .val (.ref b24), .unset, .unset, .unset, .unset, .unset, .unset] [(.ref b83), (.long (3 : Int64)), (.ref b67), (.ref b67)])) _
    refine XS.dup X83.here hx rfl (hb hby at_79) rfl rfl ?_
    show Steps p.tables e below (T83.setTop (mkF m 80 #[.val (.int p0), .val (.long q1), .second, .val (.int p2), .val (.int p3), .val (.int p4), .val (.int mx), .val (.int la), .val (.int lb), .val (.int lc), .val (.ref b1), .val (.ref b24), .unset, .unset, .unset, .unset, .unset, .unset] [(.ref b83), (.ref b83), (.long (3 : Int64)), (.ref b67), (.ref b67)])) _
    refine XS.lconst X83.here hx rfl (hb hby at_80) ?_
    show Steps p.tables e below (T83.setTop (mkF m 81 #[.val (.int p0), .val (.long q1), .second, .val (.int p2), .val (.int p3), .val (.int p4), .val (.int mx), .val (.int la), .val (.int lb), .val (.int lc), .val (.ref b1), .val (.ref b24), .unset, .unset, .unset, .unset, .unset, .unset] [(.long (0 : Int64)), (.ref b83), (.ref b83), (.long (3 : Int64)), (.ref b67), (.ref b67)])) _
    refine XS.iload X83.here hx rfl (hb hby at_81) rfl ?_
    show Steps p.tables e below (T83.setTop (mkF m 83 #[.val (.int p0), .val (.long q1), .second, .val (.int p2), .val (.int p3), .val (.int p4), .val (.int mx), .val (.int la), .val (.int lb), .val (.int lc), .val (.ref b1), .val (.ref b24), .unset, .unset, .unset, .unset, .unset, .unset] [(.int lc), (.long (0 : Int64)), (.ref b83), (.ref b83), (.long (3 : Int64)), (.ref b67), (.ref b67)])) _
    exact k
  obtain ⟨_, _, ⟨T103, L103, k103, n103⟩, -, X103, ⟨Lc103, hQ103, l103, y103, z103⟩, st103⟩ := X83.specialBack hx (y := (⟨"com/example/ladel/ladel/store/Journal$Location", "<init>", "(JI)V"⟩ : MethodName)) rfl hown (mvT hZ (hw _ (List.mem_of_getElem? (i := 7) rfl))) (mvT hZ (hw _ (List.mem_of_getElem? (i := 8) rfl))) (mvT hZ (hw _ (List.mem_of_getElem? (i := 9) rfl))) (by decide) (backOf (W := 5) (rm1 l Z a0 hw [] b83 (0 : Int64) lc  h83 n0 Z102 A83 F100 F101 g_b83) hZ (hw _ (List.mem_of_getElem? (i := 9) rfl)) (hw _ (List.mem_of_getElem? (i := 6) rfl)) (by decide) (by decide)) (g := (mkF m 83 #[.val (.int p0), .val (.long q1), .second, .val (.int p2), .val (.int p3), .val (.int p4), .val (.int mx), .val (.int la), .val (.int lb), .val (.int lc), .val (.ref b1), .val (.ref b24), .unset, .unset, .unset, .unset, .unset, .unset] [(.int lc), (.long (0 : Int64)), (.ref b83), (.ref b83), (.long (3 : Int64)), (.ref b67), (.ref b67)])) rfl (by rw [hml]; rfl) (Steps.refl _) (a := b83) (argsL := [(.long (0 : Int64)), (.int lc)]) (rest := [(.ref b83), (.long (3 : Int64)), (.ref b67), (.ref b67)]) (lenOf pd_5 rfl) rfl (by show 2 * 0 + _ ≤ _; exact Nat.le_of_eq rfl) (hb hby at_83) (fun _ _ => ⟨rfl, e83, (by decide : 6 + 0 ≤ _), (by decide : 12 + 0 ≤ _)⟩)
  dsimp only [Pt.U, Pt.locs, Pt.cells, Pt.slots] at X103 l103 y103 z103 st103 hQ103
  subst l103 y103 z103
  obtain ⟨rfl, N103q, Kq103, Fa103⟩ := hQ103
  have N103 := Fr.app N58 N103q
  refine own_step (fun t k => st103.trans k) ?_
  show own_Run p e below s _ _ _ T103 (mkF m 86 #[.val (.int p0), .val (.long q1), .second, .val (.int p2), .val (.int p3), .val (.int p4), .val (.int mx), .val (.int la), .val (.int lb), .val (.int lc), .val (.ref b1), .val (.ref b24), .unset, .unset, .unset, .unset, .unset, .unset] [(.ref b83), (.long (3 : Int64)), (.ref b67), (.ref b67)])
  have F104 := F89.keep Kq103 (ninS ne84 nin0)
  have F105 := F90.keep Kq103 (ninS ne85 nin0)
  have F106 := F91.keep Kq103 (ninS ne86 nin0)
  have F107 := F92.keep Kq103 (ninS ne87 nin0)
  have F108 := F93.keep Kq103 (ninS ne88 nin0)
  have F109 := F94.keep Kq103 (ninS ne88 nin0)
  have A110 := A95.keep Kq103
  have A111 := A96.keep Kq103
  have A112 := A97.keep Kq103
  have A113 := A98.keep Kq103
  have A114 := A99.keep Kq103
  have A115 := A83.keep Kq103
  have Z116 := Nat.le_trans Z102 Kq103.1
  obtain ⟨_, _, ⟨T117, L117, k117, n117⟩, -, X117, ⟨Lc117, hQ117, l117, y117, z117⟩, st117⟩ := X103.specialBack hx (y := (⟨"com/example/ladel/ladel/broker/Topic$Message", "<init>", "(JLcom/example/ladel/ladel/store/Journal$Location;)V"⟩ : MethodName)) rfl hown (mvT hZ (hw _ (List.mem_of_getElem? (i := 22) rfl))) (mvT hZ (hw _ (List.mem_of_getElem? (i := 23) rfl))) (mvT hZ (hw _ (List.mem_of_getElem? (i := 24) rfl))) (by decide) (backOf (W := 1) (rm4 l Z a0 hw [] b67 (3 : Int64) b83  T103.heap n0 Z116 A114 F108 F109 g_b67) hZ (hw _ (List.mem_of_getElem? (i := 24) rfl)) (hw _ (List.mem_of_getElem? (i := 3) rfl)) (by decide) (by decide)) (g := (mkF m 86 #[.val (.int p0), .val (.long q1), .second, .val (.int p2), .val (.int p3), .val (.int p4), .val (.int mx), .val (.int la), .val (.int lb), .val (.int lc), .val (.ref b1), .val (.ref b24), .unset, .unset, .unset, .unset, .unset, .unset] [(.ref b83), (.long (3 : Int64)), (.ref b67), (.ref b67)])) rfl (by rw [hml]; rfl) (Steps.refl _) (a := b67) (argsL := [(.long (3 : Int64)), (.ref b83)]) (rest := [(.ref b67)]) (lenOf pd_6 rfl) rfl (by show 2 * 0 + _ ≤ _; exact Nat.le_of_eq rfl) (hb hby at_86) (fun _ _ => ⟨rfl, rfl, (by decide : 6 + 0 ≤ _), (by decide : 12 + 0 ≤ _)⟩)
  dsimp only [Pt.U, Pt.locs, Pt.cells, Pt.slots] at X117 l117 y117 z117 st117 hQ117
  subst l117 y117 z117
  obtain ⟨rfl, N117q, Kq117, Fa117⟩ := hQ117
  have N117 := Fr.app N103 N117q
  refine own_step (fun t k => st117.trans k) ?_
  show own_Run p e below s _ _ _ T117 (mkF m 89 #[.val (.int p0), .val (.long q1), .second, .val (.int p2), .val (.int p3), .val (.int p4), .val (.int mx), .val (.int la), .val (.int lb), .val (.int lc), .val (.ref b1), .val (.ref b24), .unset, .unset, .unset, .unset, .unset, .unset] [(.ref b67)])
  have F118 := F104.keep Kq117 (ninS ne68 nin0)
  have F119 := F105.keep Kq117 (ninS ne69 nin0)
  have F120 := F106.keep Kq117 (ninS ne70 nin0)
  have F121 := F107.keep Kq117 (ninS ne71 nin0)
  have F122 := Fa103.keep Kq117 (ninS (Ne.symm ne88) nin0)
  have A123 := A110.keep Kq117
  have A124 := A111.keep Kq117
  have A125 := A112.keep Kq117
  have A126 := A113.keep Kq117
  have A127 := A114.keep Kq117
  have A128 := A115.keep Kq117
  have Z129 := Nat.le_trans Z116 Kq117.1
  refine own_step (T' := T117) (g' := (mkF m 91 #[.val (.int p0), .val (.long q1), .second, .val (.int p2), .val (.int p3), .val (.int p4), .val (.int mx), .val (.int la), .val (.int lb), .val (.int lc), .val (.ref b1), .val (.ref b24), .val (.ref b67), .unset, .unset, .unset, .unset, .unset] [])) (fun t k => ?_) ?_
  · show Steps p.tables e below (T117.setTop (mkF m 89 #[.val (.int p0), .val (.long q1), .second, .val (.int p2), .val (.int p3), .val (.int p4), .val (.int mx), .val (.int la), .val (.int lb), .val (.int lc), .val (.ref b1), .val (.ref b24), .unset, .unset, .unset, .unset, .unset, .unset] [(.ref b67)])) _
    refine XS.astore X117.here hx rfl (hb hby at_89) rfl rfl (l' := #[.val (.int p0), .val (.long q1), .second, .val (.int p2), .val (.int p3), .val (.int p4), .val (.int mx), .val (.int la), .val (.int lb), .val (.int lc), .val (.ref b1), .val (.ref b24), .val (.ref b67), .unset, .unset, .unset, .unset, .unset]) rfl ?_
    show Steps p.tables e below (T117.setTop (mkF m 91 #[.val (.int p0), .val (.long q1), .second, .val (.int p2), .val (.int p3), .val (.int p4), .val (.int mx), .val (.int la), .val (.int lb), .val (.int lc), .val (.ref b1), .val (.ref b24), .val (.ref b67), .unset, .unset, .unset, .unset, .unset] [])) _
    exact k
  obtain ⟨T130, h130, X130, e130, E130, A130, D130, -, st130⟩ := newO X117 hx hZ hown (hw _ (List.mem_of_getElem? (i := 32) rfl)) (hw _ (List.mem_of_getElem? (i := 33) rfl)) (hw _ (List.mem_of_getElem? (i := 34) rfl)) rfl (g := (mkF m 91 #[.val (.int p0), .val (.long q1), .second, .val (.int p2), .val (.int p3), .val (.int p4), .val (.int mx), .val (.int la), .val (.int lb), .val (.int lc), .val (.ref b1), .val (.ref b24), .val (.ref b67), .unset, .unset, .unset, .unset, .unset] [])) rfl (hb hby at_91) (by decide) (by decide)
  obtain ⟨b130, g130⟩ : ∃ z, z = T117.heap.size := ⟨_, rfl⟩
  have ne131 : b5 ≠ b130 := Nat.ne_of_lt (Nat.lt_of_lt_of_le F118.lt (Nat.le_of_eq g130.symm))
  have ne132 : b1 ≠ b130 := Nat.ne_of_lt (Nat.lt_of_lt_of_le F119.lt (Nat.le_of_eq g130.symm))
  have ne133 : b34 ≠ b130 := Nat.ne_of_lt (Nat.lt_of_lt_of_le F120.lt (Nat.le_of_eq g130.symm))
  have ne134 : b24 ≠ b130 := Nat.ne_of_lt (Nat.lt_of_lt_of_le F121.lt (Nat.le_of_eq g130.symm))
  have ne135 : b83 ≠ b130 := Nat.ne_of_lt (Nat.lt_of_lt_of_le F122.lt (Nat.le_of_eq g130.symm))
  have ne136 : b67 ≠ b130 := Nat.ne_of_lt (Nat.lt_of_lt_of_le Fa117.lt (Nat.le_of_eq g130.symm))
  have g_b130 : n0 ≤ b130 := Nat.le_trans Z129 (Nat.le_of_eq g130.symm)
  rw [← g130] at A130 D130 st130
  have F137 := F118.ext E130
  have F138 := F119.ext E130
  have F139 := F120.ext E130
  have F140 := F121.ext E130
  have F141 := F122.ext E130
  have F142 := Fa117.ext E130
  have A143 := A123.ext E130
  have A144 := A124.ext E130
  have A145 := A125.ext E130
  have A146 := A126.ext E130
  have A147 := A127.ext E130
  have A148 := A128.ext E130
  have F149 : Fld Z h130 b130 "com/example/ladel/ladel/broker/Room" "maxMessages" "I" (.int (0 : Int32)) := D130 (Or.inr (hw _ (List.mem_of_getElem? (i := 40) rfl))) (ty := .int) (by decide)
  have F150 : Fld Z h130 b130 "com/example/ladel/ladel/broker/Room" "maxBytes" "J" (.long (0 : Int64)) := D130 (Or.inr (hw _ (List.mem_of_getElem? (i := 42) rfl))) (ty := .long) (by decide)
  have F151 : Fld Z h130 b130 "com/example/ladel/ladel/broker/Room" "bytes" "J" (.long (0 : Int64)) := D130 (Or.inl (hw _ (List.mem_of_getElem? (i := 54) rfl))) (ty := .long) (by decide)
  have F152 : Fld Z h130 b130 "com/example/ladel/ladel/broker/Room" "messages" "I" (.int (0 : Int32)) := D130 (Or.inl (hw _ (List.mem_of_getElem? (i := 66) rfl))) (ty := .int) (by decide)
  have F153 : Fld Z h130 b130 "com/example/ladel/ladel/broker/Room" "full" "Z" (.int (0 : Int32)) := D130 (Or.inl (hw _ (List.mem_of_getElem? (i := 68) rfl))) (ty := .boolean) (by decide)
  have Z154 := Nat.le_trans Z129 E130.1
  refine own_step st130 ?_
  show own_Run p e below s _ _ _ T130 (mkF m 94 #[.val (.int p0), .val (.long q1), .second, .val (.int p2), .val (.int p3), .val (.int p4), .val (.int mx), .val (.int la), .val (.int lb), .val (.int lc), .val (.ref b1), .val (.ref b24), .val (.ref b67), .unset, .unset, .unset, .unset, .unset] [(.ref b130)])
  refine own_step (T' := T130) (g' := (mkF m 98 #[.val (.int p0), .val (.long q1), .second, .val (.int p2), .val (.int p3), .val (.int p4), .val (.int mx), .val (.int la), .val (.int lb), .val (.int lc), .val (.ref b1), .val (.ref b24), .val (.ref b67), .unset, .unset, .unset, .unset, .unset] [(.long q1), (.int mx), (.ref b130), (.ref b130)])) (fun t k => ?_) ?_
  · show Steps p.tables e below (T130.setTop (mkF m 94 #[.val (.int p0), .val (.long q1), .second, .val (.int p2), .val (.int p3), .val (.int p4), .val (.int mx), .val (.int la), .val (.int lb), .val (.int lc), .val (.ref b1), .val (.ref b24), .val (.ref b67), .unset, .unset, .unset, .unset, .unset] [(.ref b130)])) _
    refine XS.dup X130.here hx rfl (hb hby at_94) rfl rfl ?_
    show Steps p.tables e below (T130.setTop (mkF m 95 #[.val (.int p0), .val (.long q1), .second, .val (.int p2), .val (.int p3), .val (.int p4), .val (.int mx), .val (.int la), .val (.int lb), .val (.int lc), .val (.ref b1), .val (.ref b24), .val (.ref b67), .unset, .unset, .unset, .unset, .unset] [(.ref b130), (.ref b130)])) _
    refine XS.iload X130.here hx rfl (hb hby at_95) rfl ?_
    show Steps p.tables e below (T130.setTop (mkF m 97 #[.val (.int p0), .val (.long q1), .second, .val (.int p2), .val (.int p3), .val (.int p4), .val (.int mx), .val (.int la), .val (.int lb), .val (.int lc), .val (.ref b1), .val (.ref b24), .val (.ref b67), .unset, .unset, .unset, .unset, .unset] [(.int mx), (.ref b130), (.ref b130)])) _
    refine XS.lloadN X130.here hx rfl (hb hby at_97) rfl ?_
    show Steps p.tables e below (T130.setTop (mkF m 98 #[.val (.int p0), .val (.long q1), .second, .val (.int p2), .val (.int p3), .val (.int p4), .val (.int mx), .val (.int la), .val (.int lb), .val (.int lc), .val (.ref b1), .val (.ref b24), .val (.ref b67), .unset, .unset, .unset, .unset, .unset] [(.long q1), (.int mx), (.ref b130), (.ref b130)])) _
    exact k
  obtain ⟨_, _, ⟨T155, L155, k155, n155⟩, -, X155, ⟨Lc155, hQ155, l155, y155, z155⟩, st155⟩ := X130.specialBack hx (y := (⟨"com/example/ladel/ladel/broker/Room", "<init>", "(IJ)V"⟩ : MethodName)) rfl hown (mvT hZ (hw _ (List.mem_of_getElem? (i := 35) rfl))) (mvT hZ (hw _ (List.mem_of_getElem? (i := 36) rfl))) (mvT hZ (hw _ (List.mem_of_getElem? (i := 37) rfl))) (by decide) (backOf (W := 1) (rm5 l Z a0 hw [] b130 mx q1  h130 n0 Z154 A130 F149 F150 F152 F151 F153 g_b130) hZ (hw _ (List.mem_of_getElem? (i := 37) rfl)) (hw _ (List.mem_of_getElem? (i := 34) rfl)) (by decide) (by decide)) (g := (mkF m 98 #[.val (.int p0), .val (.long q1), .second, .val (.int p2), .val (.int p3), .val (.int p4), .val (.int mx), .val (.int la), .val (.int lb), .val (.int lc), .val (.ref b1), .val (.ref b24), .val (.ref b67), .unset, .unset, .unset, .unset, .unset] [(.long q1), (.int mx), (.ref b130), (.ref b130)])) rfl (by rw [hml]; rfl) (Steps.refl _) (a := b130) (argsL := [(.int mx), (.long q1)]) (rest := [(.ref b130)]) (lenOf pd_7 rfl) rfl (by show 2 * 0 + _ ≤ _; exact Nat.le_of_eq rfl) (hb hby at_98) (fun _ _ => ⟨rfl, e130, (by decide : 7 + 0 ≤ _), (by decide : 17 + 0 ≤ _)⟩)
  dsimp only [Pt.U, Pt.locs, Pt.cells, Pt.slots] at X155 l155 y155 z155 st155 hQ155
  subst l155 y155 z155
  obtain ⟨rfl, N155q, Kq155, Fa155, Fb155, Fc155, Fd155, Fe155⟩ := hQ155
  have N155 := Fr.app N117 N155q
  refine own_step (fun t k => st155.trans k) ?_
  show own_Run p e below s _ _ _ T155 (mkF m 101 #[.val (.int p0), .val (.long q1), .second, .val (.int p2), .val (.int p3), .val (.int p4), .val (.int mx), .val (.int la), .val (.int lb), .val (.int lc), .val (.ref b1), .val (.ref b24), .val (.ref b67), .unset, .unset, .unset, .unset, .unset] [(.ref b130)])
  have F156 := F137.keep Kq155 (ninS ne131 nin0)
  have F157 := F138.keep Kq155 (ninS ne132 nin0)
  have F158 := F139.keep Kq155 (ninS ne133 nin0)
  have F159 := F140.keep Kq155 (ninS ne134 nin0)
  have F160 := F141.keep Kq155 (ninS ne135 nin0)
  have F161 := F142.keep Kq155 (ninS ne136 nin0)
  have A162 := A143.keep Kq155
  have A163 := A144.keep Kq155
  have A164 := A145.keep Kq155
  have A165 := A146.keep Kq155
  have A166 := A147.keep Kq155
  have A167 := A148.keep Kq155
  have A168 := A130.keep Kq155
  have Z169 := Nat.le_trans Z154 Kq155.1
  refine own_step (T' := T155) (g' := (mkF m 104 #[.val (.int p0), .val (.long q1), .second, .val (.int p2), .val (.int p3), .val (.int p4), .val (.int mx), .val (.int la), .val (.int lb), .val (.int lc), .val (.ref b1), .val (.ref b24), .val (.ref b67), .val (.ref b130), .unset, .unset, .unset, .unset] [(.int (2 : Int32))])) (fun t k => ?_) ?_
  · show Steps p.tables e below (T155.setTop (mkF m 101 #[.val (.int p0), .val (.long q1), .second, .val (.int p2), .val (.int p3), .val (.int p4), .val (.int mx), .val (.int la), .val (.int lb), .val (.int lc), .val (.ref b1), .val (.ref b24), .val (.ref b67), .unset, .unset, .unset, .unset, .unset] [(.ref b130)])) _
    refine XS.astore X155.here hx rfl (hb hby at_101) rfl rfl (l' := #[.val (.int p0), .val (.long q1), .second, .val (.int p2), .val (.int p3), .val (.int p4), .val (.int mx), .val (.int la), .val (.int lb), .val (.int lc), .val (.ref b1), .val (.ref b24), .val (.ref b67), .val (.ref b130), .unset, .unset, .unset, .unset]) rfl ?_
    show Steps p.tables e below (T155.setTop (mkF m 103 #[.val (.int p0), .val (.long q1), .second, .val (.int p2), .val (.int p3), .val (.int p4), .val (.int mx), .val (.int la), .val (.int lb), .val (.int lc), .val (.ref b1), .val (.ref b24), .val (.ref b67), .val (.ref b130), .unset, .unset, .unset, .unset] [])) _
    refine XS.iconst X155.here hx rfl (hb hby at_103) ?_
    show Steps p.tables e below (T155.setTop (mkF m 104 #[.val (.int p0), .val (.long q1), .second, .val (.int p2), .val (.int p3), .val (.int p4), .val (.int mx), .val (.int la), .val (.int lb), .val (.int lc), .val (.ref b1), .val (.ref b24), .val (.ref b67), .val (.ref b130), .unset, .unset, .unset, .unset] [(.int (2 : Int32))])) _
    exact k
  obtain ⟨T170, h170, k170, X170, e170, E170, B170, A170, st170⟩ := newPE X155 hx hZ (hw _ (List.mem_of_getElem? (i := 43) rfl)) rfl (g := (mkF m 104 #[.val (.int p0), .val (.long q1), .second, .val (.int p2), .val (.int p3), .val (.int p4), .val (.int mx), .val (.int la), .val (.int lb), .val (.int lc), .val (.ref b1), .val (.ref b24), .val (.ref b67), .val (.ref b130), .unset, .unset, .unset, .unset] [(.int (2 : Int32))])) rfl (hb hby at_104) rfl (by decide) (cap := 2) (by decide) (by decide) (by decide) (by decide) (ad := "[J") (by decide)
  obtain ⟨b170, g170⟩ : ∃ z, z = T155.heap.size := ⟨_, rfl⟩
  have ne171 : b5 ≠ b170 := Nat.ne_of_lt (Nat.lt_of_lt_of_le F156.lt (Nat.le_of_eq g170.symm))
  have ne172 : b1 ≠ b170 := Nat.ne_of_lt (Nat.lt_of_lt_of_le F157.lt (Nat.le_of_eq g170.symm))
  have ne173 : b34 ≠ b170 := Nat.ne_of_lt (Nat.lt_of_lt_of_le F158.lt (Nat.le_of_eq g170.symm))
  have ne174 : b24 ≠ b170 := Nat.ne_of_lt (Nat.lt_of_lt_of_le F159.lt (Nat.le_of_eq g170.symm))
  have ne175 : b83 ≠ b170 := Nat.ne_of_lt (Nat.lt_of_lt_of_le F160.lt (Nat.le_of_eq g170.symm))
  have ne176 : b67 ≠ b170 := Nat.ne_of_lt (Nat.lt_of_lt_of_le F161.lt (Nat.le_of_eq g170.symm))
  have ne177 : b130 ≠ b170 := Nat.ne_of_lt (Nat.lt_of_lt_of_le Fa155.lt (Nat.le_of_eq g170.symm))
  have g_b170 : n0 ≤ b170 := Nat.le_trans Z169 (Nat.le_of_eq g170.symm)
  rw [← g170] at A170 B170 st170
  have F178 := F156.ext E170
  have F179 := F157.ext E170
  have F180 := F158.ext E170
  have F181 := F159.ext E170
  have F182 := F160.ext E170
  have F183 := F161.ext E170
  have F184 := Fa155.ext E170
  have F185 := Fb155.ext E170
  have F186 := Fc155.ext E170
  have F187 := Fd155.ext E170
  have F188 := Fe155.ext E170
  have A189 := A162.ext E170
  have A190 := A163.ext E170
  have A191 := A164.ext E170
  have A192 := A165.ext E170
  have A193 := A166.ext E170
  have A194 := A167.ext E170
  have A195 := A168.ext E170
  have V196 : Arv Z h170 b170 k170 .long (2 : Int32) [(.long (0 : Int64)), (.long (0 : Int64))] (.long (0 : Int64)) := (Arv.new B170 (by decide)).pad (pad_rep [] (.long (0 : Int64)) 2)
  have Z197 := Nat.le_trans Z169 E170.1
  refine own_step st170 ?_
  show own_Run p e below s _ _ _ T170 (mkF m 106 #[.val (.int p0), .val (.long q1), .second, .val (.int p2), .val (.int p3), .val (.int p4), .val (.int mx), .val (.int la), .val (.int lb), .val (.int lc), .val (.ref b1), .val (.ref b24), .val (.ref b67), .val (.ref b130), .unset, .unset, .unset, .unset] [(.ref b170)])
  refine own_step (T' := T170) (g' := (mkF m 119 #[.val (.int p0), .val (.long q1), .second, .val (.int p2), .val (.int p3), .val (.int p4), .val (.int mx), .val (.int la), .val (.int lb), .val (.int lc), .val (.ref b1), .val (.ref b24), .val (.ref b67), .val (.ref b130), .val (.ref b170), .unset, .unset, .unset] [(.long q1), (.int mx), (.ref b170), (.int la), (.ref b1), (.ref b130)])) (fun t k => ?_) ?_
  · show Steps p.tables e below (T170.setTop (mkF m 106 #[.val (.int p0), .val (.long q1), .second, .val (.int p2), .val (.int p3), .val (.int p4), .val (.int mx), .val (.int la), .val (.int lb), .val (.int lc), .val (.ref b1), .val (.ref b24), .val (.ref b67), .val (.ref b130), .unset, .unset, .unset, .unset] [(.ref b170)])) _
    refine XS.astore X170.here hx rfl (hb hby at_106) rfl rfl (l' := #[.val (.int p0), .val (.long q1), .second, .val (.int p2), .val (.int p3), .val (.int p4), .val (.int mx), .val (.int la), .val (.int lb), .val (.int lc), .val (.ref b1), .val (.ref b24), .val (.ref b67), .val (.ref b130), .val (.ref b170), .unset, .unset, .unset]) rfl ?_
    show Steps p.tables e below (T170.setTop (mkF m 108 #[.val (.int p0), .val (.long q1), .second, .val (.int p2), .val (.int p3), .val (.int p4), .val (.int mx), .val (.int la), .val (.int lb), .val (.int lc), .val (.ref b1), .val (.ref b24), .val (.ref b67), .val (.ref b130), .val (.ref b170), .unset, .unset, .unset] [])) _
    refine XS.aload X170.here hx rfl (hb hby at_108) rfl rfl ?_
    show Steps p.tables e below (T170.setTop (mkF m 110 #[.val (.int p0), .val (.long q1), .second, .val (.int p2), .val (.int p3), .val (.int p4), .val (.int mx), .val (.int la), .val (.int lb), .val (.int lc), .val (.ref b1), .val (.ref b24), .val (.ref b67), .val (.ref b130), .val (.ref b170), .unset, .unset, .unset] [(.ref b130)])) _
    refine XS.aload X170.here hx rfl (hb hby at_110) rfl rfl ?_
    show Steps p.tables e below (T170.setTop (mkF m 112 #[.val (.int p0), .val (.long q1), .second, .val (.int p2), .val (.int p3), .val (.int p4), .val (.int mx), .val (.int la), .val (.int lb), .val (.int lc), .val (.ref b1), .val (.ref b24), .val (.ref b67), .val (.ref b130), .val (.ref b170), .unset, .unset, .unset] [(.ref b1), (.ref b130)])) _
    refine XS.iload X170.here hx rfl (hb hby at_112) rfl ?_
    show Steps p.tables e below (T170.setTop (mkF m 114 #[.val (.int p0), .val (.long q1), .second, .val (.int p2), .val (.int p3), .val (.int p4), .val (.int mx), .val (.int la), .val (.int lb), .val (.int lc), .val (.ref b1), .val (.ref b24), .val (.ref b67), .val (.ref b130), .val (.ref b170), .unset, .unset, .unset] [(.int la), (.ref b1), (.ref b130)])) _
    refine XS.aload X170.here hx rfl (hb hby at_114) rfl rfl ?_
    show Steps p.tables e below (T170.setTop (mkF m 116 #[.val (.int p0), .val (.long q1), .second, .val (.int p2), .val (.int p3), .val (.int p4), .val (.int mx), .val (.int la), .val (.int lb), .val (.int lc), .val (.ref b1), .val (.ref b24), .val (.ref b67), .val (.ref b130), .val (.ref b170), .unset, .unset, .unset] [(.ref b170), (.int la), (.ref b1), (.ref b130)])) _
    refine XS.iload X170.here hx rfl (hb hby at_116) rfl ?_
    show Steps p.tables e below (T170.setTop (mkF m 118 #[.val (.int p0), .val (.long q1), .second, .val (.int p2), .val (.int p3), .val (.int p4), .val (.int mx), .val (.int la), .val (.int lb), .val (.int lc), .val (.ref b1), .val (.ref b24), .val (.ref b67), .val (.ref b130), .val (.ref b170), .unset, .unset, .unset] [(.int mx), (.ref b170), (.int la), (.ref b1), (.ref b130)])) _
    refine XS.lloadN X170.here hx rfl (hb hby at_118) rfl ?_
    show Steps p.tables e below (T170.setTop (mkF m 119 #[.val (.int p0), .val (.long q1), .second, .val (.int p2), .val (.int p3), .val (.int p4), .val (.int mx), .val (.int la), .val (.int lb), .val (.int lc), .val (.ref b1), .val (.ref b24), .val (.ref b67), .val (.ref b130), .val (.ref b170), .unset, .unset, .unset] [(.long q1), (.int mx), (.ref b170), (.int la), (.ref b1), (.ref b130)])) _
    exact k
  have hm0 : 0 ≤ (0 : Int32).toInt ∧ (0 : Int32).toInt ≤ mx.toInt := ⟨by decide, hmx⟩
  have V198 : Arv Z h170 b170 k170 .long (2 : Int32) [(.long (0 : Int32).toInt64), (.long (0 : Int64))] (.long (0 : Int64)) := V196
  obtain ⟨_, _, ⟨T199, L199, k199, n199⟩, -, X199, ⟨Lc199, hQ199, l199, y199, z199⟩, st199⟩ := Jvm.LawKit.callS X170 hx (y := (⟨"com/example/ladel/ladel/broker/RoomTakePinLaw", "offer", "(Lcom/example/ladel/ladel/broker/Room;Lcom/example/ladel/ladel/broker/Topic$Message;I[JIJ)Z"⟩ : MethodName)) hown (mvT hZ (hw _ (List.mem_of_getElem? (i := 44) rfl))) (mvT hZ (hw _ (List.mem_of_getElem? (i := 45) rfl))) (mvT hZ (hw _ (List.mem_of_getElem? (i := 46) rfl))) (mvT hZ (hw _ (List.mem_of_getElem? (i := 47) rfl))) (by decide) (backOf (W := 0) (rm6 l Z a0 hw [] b130 b1 la b170 mx q1 b5 k170 (0 : Int32) (0 : Int64) (0 : Int32) h170 n0 Z197 hm0 (Ne.symm ne177) A195 F184 F185 F186 F187 F188 g_b130 A189 F179 A190 F178 V198 g_b170) hZ (hw _ (List.mem_of_getElem? (i := 47) rfl)) (hw _ (List.mem_of_getElem? (i := 46) rfl)) (by decide) (by decide)) (g := (mkF m 119 #[.val (.int p0), .val (.long q1), .second, .val (.int p2), .val (.int p3), .val (.int p4), .val (.int mx), .val (.int la), .val (.int lb), .val (.int lc), .val (.ref b1), .val (.ref b24), .val (.ref b67), .val (.ref b130), .val (.ref b170), .unset, .unset, .unset] [(.long q1), (.int mx), (.ref b170), (.int la), (.ref b1), (.ref b130)])) rfl (by rw [hml]; rfl) (argsL := [(.ref b130), (.ref b1), (.int la), (.ref b170), (.int mx), (.long q1)]) (rest := []) (lenOf pd_8 rfl) rfl (by show 2 * 0 + _ ≤ _; exact Nat.le_of_eq rfl) (hb hby at_119) (fun _ _ => ⟨rfl, e170, (by decide : 8 + 0 ≤ _), (by decide : 19 + 0 ≤ _)⟩)
  dsimp only [Pt.U, Pt.locs, Pt.cells, Pt.slots] at X199 l199 y199 z199 st199 hQ199
  subst l199 y199 z199
  obtain ⟨m199, B199, u199, rfl, N199q, Kq199, hm199, Eq199, Fa199, Fb199, Fc199, Fd199, Fe199, Vq199⟩ := hQ199
  have N199 := Fr.app N155 N199q
  refine own_step st199 ?_
  show own_Run p e below s _ _ _ T199 (mkF m 122 #[.val (.int p0), .val (.long q1), .second, .val (.int p2), .val (.int p3), .val (.int p4), .val (.int mx), .val (.int la), .val (.int lb), .val (.int lc), .val (.ref b1), .val (.ref b24), .val (.ref b67), .val (.ref b130), .val (.ref b170), .unset, .unset, .unset] [(.int (1 : Int32))])
  have F200 := F178.keep Kq199 (ninS ne131 (ninS ne171 nin0))
  have F201 := F179.keep Kq199 (ninS ne132 (ninS ne172 nin0))
  have F202 := F180.keep Kq199 (ninS ne133 (ninS ne173 nin0))
  have F203 := F181.keep Kq199 (ninS ne134 (ninS ne174 nin0))
  have F204 := F182.keep Kq199 (ninS ne135 (ninS ne175 nin0))
  have F205 := F183.keep Kq199 (ninS ne136 (ninS ne176 nin0))
  have A206 := A189.keep Kq199
  have A207 := A190.keep Kq199
  have A208 := A191.keep Kq199
  have A209 := A192.keep Kq199
  have A210 := A193.keep Kq199
  have A211 := A194.keep Kq199
  have A212 := A195.keep Kq199
  have A213 := A170.keep Kq199
  have Z214 := Nat.le_trans Z197 Kq199.1
  refine own_step (T' := T199) (g' := (mkF m 135 #[.val (.int p0), .val (.long q1), .second, .val (.int p2), .val (.int p3), .val (.int p4), .val (.int mx), .val (.int la), .val (.int lb), .val (.int lc), .val (.ref b1), .val (.ref b24), .val (.ref b67), .val (.ref b130), .val (.ref b170), .val (.int (1 : Int32)), .unset, .unset] [(.long q1), (.int mx), (.ref b170), (.int lb), (.ref b24), (.ref b130)])) (fun t k => ?_) ?_
  · show Steps p.tables e below (T199.setTop (mkF m 122 #[.val (.int p0), .val (.long q1), .second, .val (.int p2), .val (.int p3), .val (.int p4), .val (.int mx), .val (.int la), .val (.int lb), .val (.int lc), .val (.ref b1), .val (.ref b24), .val (.ref b67), .val (.ref b130), .val (.ref b170), .unset, .unset, .unset] [(.int (1 : Int32))])) _
    refine XS.istore X199.here hx rfl (hb hby at_122) rfl (l' := #[.val (.int p0), .val (.long q1), .second, .val (.int p2), .val (.int p3), .val (.int p4), .val (.int mx), .val (.int la), .val (.int lb), .val (.int lc), .val (.ref b1), .val (.ref b24), .val (.ref b67), .val (.ref b130), .val (.ref b170), .val (.int (1 : Int32)), .unset, .unset]) rfl ?_
    show Steps p.tables e below (T199.setTop (mkF m 124 #[.val (.int p0), .val (.long q1), .second, .val (.int p2), .val (.int p3), .val (.int p4), .val (.int mx), .val (.int la), .val (.int lb), .val (.int lc), .val (.ref b1), .val (.ref b24), .val (.ref b67), .val (.ref b130), .val (.ref b170), .val (.int (1 : Int32)), .unset, .unset] [])) _
    refine XS.aload X199.here hx rfl (hb hby at_124) rfl rfl ?_
    show Steps p.tables e below (T199.setTop (mkF m 126 #[.val (.int p0), .val (.long q1), .second, .val (.int p2), .val (.int p3), .val (.int p4), .val (.int mx), .val (.int la), .val (.int lb), .val (.int lc), .val (.ref b1), .val (.ref b24), .val (.ref b67), .val (.ref b130), .val (.ref b170), .val (.int (1 : Int32)), .unset, .unset] [(.ref b130)])) _
    refine XS.aload X199.here hx rfl (hb hby at_126) rfl rfl ?_
    show Steps p.tables e below (T199.setTop (mkF m 128 #[.val (.int p0), .val (.long q1), .second, .val (.int p2), .val (.int p3), .val (.int p4), .val (.int mx), .val (.int la), .val (.int lb), .val (.int lc), .val (.ref b1), .val (.ref b24), .val (.ref b67), .val (.ref b130), .val (.ref b170), .val (.int (1 : Int32)), .unset, .unset] [(.ref b24), (.ref b130)])) _
    refine XS.iload X199.here hx rfl (hb hby at_128) rfl ?_
    show Steps p.tables e below (T199.setTop (mkF m 130 #[.val (.int p0), .val (.long q1), .second, .val (.int p2), .val (.int p3), .val (.int p4), .val (.int mx), .val (.int la), .val (.int lb), .val (.int lc), .val (.ref b1), .val (.ref b24), .val (.ref b67), .val (.ref b130), .val (.ref b170), .val (.int (1 : Int32)), .unset, .unset] [(.int lb), (.ref b24), (.ref b130)])) _
    refine XS.aload X199.here hx rfl (hb hby at_130) rfl rfl ?_
    show Steps p.tables e below (T199.setTop (mkF m 132 #[.val (.int p0), .val (.long q1), .second, .val (.int p2), .val (.int p3), .val (.int p4), .val (.int mx), .val (.int la), .val (.int lb), .val (.int lc), .val (.ref b1), .val (.ref b24), .val (.ref b67), .val (.ref b130), .val (.ref b170), .val (.int (1 : Int32)), .unset, .unset] [(.ref b170), (.int lb), (.ref b24), (.ref b130)])) _
    refine XS.iload X199.here hx rfl (hb hby at_132) rfl ?_
    show Steps p.tables e below (T199.setTop (mkF m 134 #[.val (.int p0), .val (.long q1), .second, .val (.int p2), .val (.int p3), .val (.int p4), .val (.int mx), .val (.int la), .val (.int lb), .val (.int lc), .val (.ref b1), .val (.ref b24), .val (.ref b67), .val (.ref b130), .val (.ref b170), .val (.int (1 : Int32)), .unset, .unset] [(.int mx), (.ref b170), (.int lb), (.ref b24), (.ref b130)])) _
    refine XS.lloadN X199.here hx rfl (hb hby at_134) rfl ?_
    show Steps p.tables e below (T199.setTop (mkF m 135 #[.val (.int p0), .val (.long q1), .second, .val (.int p2), .val (.int p3), .val (.int p4), .val (.int mx), .val (.int la), .val (.int lb), .val (.int lc), .val (.ref b1), .val (.ref b24), .val (.ref b67), .val (.ref b130), .val (.ref b170), .val (.int (1 : Int32)), .unset, .unset] [(.long q1), (.int mx), (.ref b170), (.int lb), (.ref b24), (.ref b130)])) _
    exact k
  obtain ⟨_, _, ⟨T215, L215, k215, n215⟩, -, X215, ⟨Lc215, hQ215, l215, y215, z215⟩, st215⟩ := Jvm.LawKit.callS X199 hx (y := (⟨"com/example/ladel/ladel/broker/RoomTakePinLaw", "offer", "(Lcom/example/ladel/ladel/broker/Room;Lcom/example/ladel/ladel/broker/Topic$Message;I[JIJ)Z"⟩ : MethodName)) hown (mvT hZ (hw _ (List.mem_of_getElem? (i := 44) rfl))) (mvT hZ (hw _ (List.mem_of_getElem? (i := 45) rfl))) (mvT hZ (hw _ (List.mem_of_getElem? (i := 46) rfl))) (mvT hZ (hw _ (List.mem_of_getElem? (i := 47) rfl))) (by decide) (backOf (W := 0) (rm6 l Z a0 hw [] b130 b24 lb b170 mx q1 b34 k170 m199 B199 u199 T199.heap n0 Z214 hm199 (Ne.symm ne177) Eq199 Fa199 Fb199 Fc199 Fd199 Fe199 g_b130 A208 F203 A209 F202 Vq199 g_b170) hZ (hw _ (List.mem_of_getElem? (i := 47) rfl)) (hw _ (List.mem_of_getElem? (i := 46) rfl)) (by decide) (by decide)) (g := (mkF m 135 #[.val (.int p0), .val (.long q1), .second, .val (.int p2), .val (.int p3), .val (.int p4), .val (.int mx), .val (.int la), .val (.int lb), .val (.int lc), .val (.ref b1), .val (.ref b24), .val (.ref b67), .val (.ref b130), .val (.ref b170), .val (.int (1 : Int32)), .unset, .unset] [(.long q1), (.int mx), (.ref b170), (.int lb), (.ref b24), (.ref b130)])) rfl (by rw [hml]; rfl) (argsL := [(.ref b130), (.ref b24), (.int lb), (.ref b170), (.int mx), (.long q1)]) (rest := []) (lenOf pd_8 rfl) rfl (by show 2 * 0 + _ ≤ _; exact Nat.le_of_eq rfl) (hb hby at_135) (fun _ _ => ⟨rfl, rfl, (by decide : 8 + 0 ≤ _), (by decide : 19 + 0 ≤ _)⟩)
  dsimp only [Pt.U, Pt.locs, Pt.cells, Pt.slots] at X215 l215 y215 z215 st215 hQ215
  subst l215 y215 z215
  obtain ⟨m215, B215, u215, rfl, N215q, Kq215, hm215, Eq215, Fa215, Fb215, Fc215, Fd215, Fe215, Vq215⟩ := hQ215
  have N215 := Fr.app N199 N215q
  refine own_step st215 ?_
  show own_Run p e below s _ _ _ T215 (mkF m 138 #[.val (.int p0), .val (.long q1), .second, .val (.int p2), .val (.int p3), .val (.int p4), .val (.int mx), .val (.int la), .val (.int lb), .val (.int lc), .val (.ref b1), .val (.ref b24), .val (.ref b67), .val (.ref b130), .val (.ref b170), .val (.int (1 : Int32)), .unset, .unset] [(.int (1 : Int32))])
  have F216 := F200.keep Kq215 (ninS ne131 (ninS ne171 nin0))
  have F217 := F201.keep Kq215 (ninS ne132 (ninS ne172 nin0))
  have F218 := F202.keep Kq215 (ninS ne133 (ninS ne173 nin0))
  have F219 := F203.keep Kq215 (ninS ne134 (ninS ne174 nin0))
  have F220 := F204.keep Kq215 (ninS ne135 (ninS ne175 nin0))
  have F221 := F205.keep Kq215 (ninS ne136 (ninS ne176 nin0))
  have A222 := A206.keep Kq215
  have A223 := A207.keep Kq215
  have A224 := A208.keep Kq215
  have A225 := A209.keep Kq215
  have A226 := A210.keep Kq215
  have A227 := A211.keep Kq215
  have A228 := Eq199.keep Kq215
  have A229 := A213.keep Kq215
  have Z230 := Nat.le_trans Z214 Kq215.1
  refine own_step (T' := T215) (g' := (mkF m 151 #[.val (.int p0), .val (.long q1), .second, .val (.int p2), .val (.int p3), .val (.int p4), .val (.int mx), .val (.int la), .val (.int lb), .val (.int lc), .val (.ref b1), .val (.ref b24), .val (.ref b67), .val (.ref b130), .val (.ref b170), .val (.int (1 : Int32)), .val (.int (1 : Int32)), .unset] [(.long q1), (.int mx), (.ref b170), (.int lc), (.ref b67), (.ref b130)])) (fun t k => ?_) ?_
  · show Steps p.tables e below (T215.setTop (mkF m 138 #[.val (.int p0), .val (.long q1), .second, .val (.int p2), .val (.int p3), .val (.int p4), .val (.int mx), .val (.int la), .val (.int lb), .val (.int lc), .val (.ref b1), .val (.ref b24), .val (.ref b67), .val (.ref b130), .val (.ref b170), .val (.int (1 : Int32)), .unset, .unset] [(.int (1 : Int32))])) _
    refine XS.istore X215.here hx rfl (hb hby at_138) rfl (l' := #[.val (.int p0), .val (.long q1), .second, .val (.int p2), .val (.int p3), .val (.int p4), .val (.int mx), .val (.int la), .val (.int lb), .val (.int lc), .val (.ref b1), .val (.ref b24), .val (.ref b67), .val (.ref b130), .val (.ref b170), .val (.int (1 : Int32)), .val (.int (1 : Int32)), .unset]) rfl ?_
    show Steps p.tables e below (T215.setTop (mkF m 140 #[.val (.int p0), .val (.long q1), .second, .val (.int p2), .val (.int p3), .val (.int p4), .val (.int mx), .val (.int la), .val (.int lb), .val (.int lc), .val (.ref b1), .val (.ref b24), .val (.ref b67), .val (.ref b130), .val (.ref b170), .val (.int (1 : Int32)), .val (.int (1 : Int32)), .unset] [])) _
    refine XS.aload X215.here hx rfl (hb hby at_140) rfl rfl ?_
    show Steps p.tables e below (T215.setTop (mkF m 142 #[.val (.int p0), .val (.long q1), .second, .val (.int p2), .val (.int p3), .val (.int p4), .val (.int mx), .val (.int la), .val (.int lb), .val (.int lc), .val (.ref b1), .val (.ref b24), .val (.ref b67), .val (.ref b130), .val (.ref b170), .val (.int (1 : Int32)), .val (.int (1 : Int32)), .unset] [(.ref b130)])) _
    refine XS.aload X215.here hx rfl (hb hby at_142) rfl rfl ?_
    show Steps p.tables e below (T215.setTop (mkF m 144 #[.val (.int p0), .val (.long q1), .second, .val (.int p2), .val (.int p3), .val (.int p4), .val (.int mx), .val (.int la), .val (.int lb), .val (.int lc), .val (.ref b1), .val (.ref b24), .val (.ref b67), .val (.ref b130), .val (.ref b170), .val (.int (1 : Int32)), .val (.int (1 : Int32)), .unset] [(.ref b67), (.ref b130)])) _
    refine XS.iload X215.here hx rfl (hb hby at_144) rfl ?_
    show Steps p.tables e below (T215.setTop (mkF m 146 #[.val (.int p0), .val (.long q1), .second, .val (.int p2), .val (.int p3), .val (.int p4), .val (.int mx), .val (.int la), .val (.int lb), .val (.int lc), .val (.ref b1), .val (.ref b24), .val (.ref b67), .val (.ref b130), .val (.ref b170), .val (.int (1 : Int32)), .val (.int (1 : Int32)), .unset] [(.int lc), (.ref b67), (.ref b130)])) _
    refine XS.aload X215.here hx rfl (hb hby at_146) rfl rfl ?_
    show Steps p.tables e below (T215.setTop (mkF m 148 #[.val (.int p0), .val (.long q1), .second, .val (.int p2), .val (.int p3), .val (.int p4), .val (.int mx), .val (.int la), .val (.int lb), .val (.int lc), .val (.ref b1), .val (.ref b24), .val (.ref b67), .val (.ref b130), .val (.ref b170), .val (.int (1 : Int32)), .val (.int (1 : Int32)), .unset] [(.ref b170), (.int lc), (.ref b67), (.ref b130)])) _
    refine XS.iload X215.here hx rfl (hb hby at_148) rfl ?_
    show Steps p.tables e below (T215.setTop (mkF m 150 #[.val (.int p0), .val (.long q1), .second, .val (.int p2), .val (.int p3), .val (.int p4), .val (.int mx), .val (.int la), .val (.int lb), .val (.int lc), .val (.ref b1), .val (.ref b24), .val (.ref b67), .val (.ref b130), .val (.ref b170), .val (.int (1 : Int32)), .val (.int (1 : Int32)), .unset] [(.int mx), (.ref b170), (.int lc), (.ref b67), (.ref b130)])) _
    refine XS.lloadN X215.here hx rfl (hb hby at_150) rfl ?_
    show Steps p.tables e below (T215.setTop (mkF m 151 #[.val (.int p0), .val (.long q1), .second, .val (.int p2), .val (.int p3), .val (.int p4), .val (.int mx), .val (.int la), .val (.int lb), .val (.int lc), .val (.ref b1), .val (.ref b24), .val (.ref b67), .val (.ref b130), .val (.ref b170), .val (.int (1 : Int32)), .val (.int (1 : Int32)), .unset] [(.long q1), (.int mx), (.ref b170), (.int lc), (.ref b67), (.ref b130)])) _
    exact k
  obtain ⟨_, _, ⟨T231, L231, k231, n231⟩, -, X231, ⟨Lc231, hQ231, l231, y231, z231⟩, st231⟩ := Jvm.LawKit.callS X215 hx (y := (⟨"com/example/ladel/ladel/broker/RoomTakePinLaw", "offer", "(Lcom/example/ladel/ladel/broker/Room;Lcom/example/ladel/ladel/broker/Topic$Message;I[JIJ)Z"⟩ : MethodName)) hown (mvT hZ (hw _ (List.mem_of_getElem? (i := 44) rfl))) (mvT hZ (hw _ (List.mem_of_getElem? (i := 45) rfl))) (mvT hZ (hw _ (List.mem_of_getElem? (i := 46) rfl))) (mvT hZ (hw _ (List.mem_of_getElem? (i := 47) rfl))) (by decide) (backOf (W := 0) (rm6 l Z a0 hw [] b130 b67 lc b170 mx q1 b83 k170 m215 B215 u215 T215.heap n0 Z230 hm215 (Ne.symm ne177) Eq215 Fa215 Fb215 Fc215 Fd215 Fe215 g_b130 A226 F221 A227 F220 Vq215 g_b170) hZ (hw _ (List.mem_of_getElem? (i := 47) rfl)) (hw _ (List.mem_of_getElem? (i := 46) rfl)) (by decide) (by decide)) (g := (mkF m 151 #[.val (.int p0), .val (.long q1), .second, .val (.int p2), .val (.int p3), .val (.int p4), .val (.int mx), .val (.int la), .val (.int lb), .val (.int lc), .val (.ref b1), .val (.ref b24), .val (.ref b67), .val (.ref b130), .val (.ref b170), .val (.int (1 : Int32)), .val (.int (1 : Int32)), .unset] [(.long q1), (.int mx), (.ref b170), (.int lc), (.ref b67), (.ref b130)])) rfl (by rw [hml]; rfl) (argsL := [(.ref b130), (.ref b67), (.int lc), (.ref b170), (.int mx), (.long q1)]) (rest := []) (lenOf pd_8 rfl) rfl (by show 2 * 0 + _ ≤ _; exact Nat.le_of_eq rfl) (hb hby at_151) (fun _ _ => ⟨rfl, rfl, (by decide : 8 + 0 ≤ _), (by decide : 19 + 0 ≤ _)⟩)
  dsimp only [Pt.U, Pt.locs, Pt.cells, Pt.slots] at X231 l231 y231 z231 st231 hQ231
  subst l231 y231 z231
  obtain ⟨m231, B231, u231, rfl, N231q, Kq231, hm231, Eq231, Fa231, Fb231, Fc231, Fd231, Fe231, Vq231⟩ := hQ231
  have N231 := Fr.app N215 N231q
  refine own_step st231 ?_
  show own_Run p e below s _ _ _ T231 (mkF m 154 #[.val (.int p0), .val (.long q1), .second, .val (.int p2), .val (.int p3), .val (.int p4), .val (.int mx), .val (.int la), .val (.int lb), .val (.int lc), .val (.ref b1), .val (.ref b24), .val (.ref b67), .val (.ref b130), .val (.ref b170), .val (.int (1 : Int32)), .val (.int (1 : Int32)), .unset] [(.int (1 : Int32))])
  have F232 := F216.keep Kq231 (ninS ne131 (ninS ne171 nin0))
  have F233 := F217.keep Kq231 (ninS ne132 (ninS ne172 nin0))
  have F234 := F218.keep Kq231 (ninS ne133 (ninS ne173 nin0))
  have F235 := F219.keep Kq231 (ninS ne134 (ninS ne174 nin0))
  have F236 := F220.keep Kq231 (ninS ne135 (ninS ne175 nin0))
  have F237 := F221.keep Kq231 (ninS ne136 (ninS ne176 nin0))
  have A238 := A222.keep Kq231
  have A239 := A223.keep Kq231
  have A240 := A224.keep Kq231
  have A241 := A225.keep Kq231
  have A242 := A226.keep Kq231
  have A243 := A227.keep Kq231
  have A244 := Eq215.keep Kq231
  have A245 := A229.keep Kq231
  have Z246 := Nat.le_trans Z230 Kq231.1
  refine own_step (T' := T231) (g' := (mkF m 176 #[.val (.int p0), .val (.long q1), .second, .val (.int p2), .val (.int p3), .val (.int p4), .val (.int mx), .val (.int la), .val (.int lb), .val (.int lc), .val (.ref b1), .val (.ref b24), .val (.ref b67), .val (.ref b130), .val (.ref b170), .val (.int (1 : Int32)), .val (.int (1 : Int32)), .val (.int (1 : Int32))] [(.int (1 : Int32))])) (fun t k => ?_) ?_
  · show Steps p.tables e below (T231.setTop (mkF m 154 #[.val (.int p0), .val (.long q1), .second, .val (.int p2), .val (.int p3), .val (.int p4), .val (.int mx), .val (.int la), .val (.int lb), .val (.int lc), .val (.ref b1), .val (.ref b24), .val (.ref b67), .val (.ref b130), .val (.ref b170), .val (.int (1 : Int32)), .val (.int (1 : Int32)), .unset] [(.int (1 : Int32))])) _
    refine XS.istore X231.here hx rfl (hb hby at_154) rfl (l' := #[.val (.int p0), .val (.long q1), .second, .val (.int p2), .val (.int p3), .val (.int p4), .val (.int mx), .val (.int la), .val (.int lb), .val (.int lc), .val (.ref b1), .val (.ref b24), .val (.ref b67), .val (.ref b130), .val (.ref b170), .val (.int (1 : Int32)), .val (.int (1 : Int32)), .val (.int (1 : Int32))]) rfl ?_
    show Steps p.tables e below (T231.setTop (mkF m 156 #[.val (.int p0), .val (.long q1), .second, .val (.int p2), .val (.int p3), .val (.int p4), .val (.int mx), .val (.int la), .val (.int lb), .val (.int lc), .val (.ref b1), .val (.ref b24), .val (.ref b67), .val (.ref b130), .val (.ref b170), .val (.int (1 : Int32)), .val (.int (1 : Int32)), .val (.int (1 : Int32))] [])) _
    refine XS.iload X231.here hx rfl (hb hby at_156) rfl ?_
    show Steps p.tables e below (T231.setTop (mkF m 158 #[.val (.int p0), .val (.long q1), .second, .val (.int p2), .val (.int p3), .val (.int p4), .val (.int mx), .val (.int la), .val (.int lb), .val (.int lc), .val (.ref b1), .val (.ref b24), .val (.ref b67), .val (.ref b130), .val (.ref b170), .val (.int (1 : Int32)), .val (.int (1 : Int32)), .val (.int (1 : Int32))] [(.int (1 : Int32))])) _
    refine XS.ifNo X231.here hx rfl (hb hby at_158) rfl ((if0 _ _).trans (feq (by decide)).1) ?_
    show Steps p.tables e below (T231.setTop (mkF m 161 #[.val (.int p0), .val (.long q1), .second, .val (.int p2), .val (.int p3), .val (.int p4), .val (.int mx), .val (.int la), .val (.int lb), .val (.int lc), .val (.ref b1), .val (.ref b24), .val (.ref b67), .val (.ref b130), .val (.ref b170), .val (.int (1 : Int32)), .val (.int (1 : Int32)), .val (.int (1 : Int32))] [])) _
    refine XS.iload X231.here hx rfl (hb hby at_161) rfl ?_
    show Steps p.tables e below (T231.setTop (mkF m 163 #[.val (.int p0), .val (.long q1), .second, .val (.int p2), .val (.int p3), .val (.int p4), .val (.int mx), .val (.int la), .val (.int lb), .val (.int lc), .val (.ref b1), .val (.ref b24), .val (.ref b67), .val (.ref b130), .val (.ref b170), .val (.int (1 : Int32)), .val (.int (1 : Int32)), .val (.int (1 : Int32))] [(.int (1 : Int32))])) _
    refine XS.ifNo X231.here hx rfl (hb hby at_163) rfl ((if0 _ _).trans (feq (by decide)).1) ?_
    show Steps p.tables e below (T231.setTop (mkF m 166 #[.val (.int p0), .val (.long q1), .second, .val (.int p2), .val (.int p3), .val (.int p4), .val (.int mx), .val (.int la), .val (.int lb), .val (.int lc), .val (.ref b1), .val (.ref b24), .val (.ref b67), .val (.ref b130), .val (.ref b170), .val (.int (1 : Int32)), .val (.int (1 : Int32)), .val (.int (1 : Int32))] [])) _
    refine XS.iload X231.here hx rfl (hb hby at_166) rfl ?_
    show Steps p.tables e below (T231.setTop (mkF m 168 #[.val (.int p0), .val (.long q1), .second, .val (.int p2), .val (.int p3), .val (.int p4), .val (.int mx), .val (.int la), .val (.int lb), .val (.int lc), .val (.ref b1), .val (.ref b24), .val (.ref b67), .val (.ref b130), .val (.ref b170), .val (.int (1 : Int32)), .val (.int (1 : Int32)), .val (.int (1 : Int32))] [(.int (1 : Int32))])) _
    refine XS.ifNo X231.here hx rfl (hb hby at_168) rfl ((if0 _ _).trans (feq (by decide)).1) ?_
    show Steps p.tables e below (T231.setTop (mkF m 171 #[.val (.int p0), .val (.long q1), .second, .val (.int p2), .val (.int p3), .val (.int p4), .val (.int mx), .val (.int la), .val (.int lb), .val (.int lc), .val (.ref b1), .val (.ref b24), .val (.ref b67), .val (.ref b130), .val (.ref b170), .val (.int (1 : Int32)), .val (.int (1 : Int32)), .val (.int (1 : Int32))] [])) _
    refine XS.iconst X231.here hx rfl (hb hby at_171) ?_
    show Steps p.tables e below (T231.setTop (mkF m 172 #[.val (.int p0), .val (.long q1), .second, .val (.int p2), .val (.int p3), .val (.int p4), .val (.int mx), .val (.int la), .val (.int lb), .val (.int lc), .val (.ref b1), .val (.ref b24), .val (.ref b67), .val (.ref b130), .val (.ref b170), .val (.int (1 : Int32)), .val (.int (1 : Int32)), .val (.int (1 : Int32))] [(.int (1 : Int32))])) _
    refine XS.goto X231.here hx rfl (pc0 := 172) (pc' := 176) rfl (hb hby at_172) (by decide) (by decide) ?_
    show Steps p.tables e below (T231.setTop (mkF m 176 #[.val (.int p0), .val (.long q1), .second, .val (.int p2), .val (.int p3), .val (.int p4), .val (.int mx), .val (.int la), .val (.int lb), .val (.int lc), .val (.ref b1), .val (.ref b24), .val (.ref b67), .val (.ref b130), .val (.ref b170), .val (.int (1 : Int32)), .val (.int (1 : Int32)), .val (.int (1 : Int32))] [(.int (1 : Int32))])) _
    exact k
  refine own_retN X231 hx (t := .boolean) Bd.returns (by simp) (hb hby at_176) (BodyLoose.notSynchronized Bd) (by decide) (by decide) ?_
  exact ⟨rfl, N231⟩
set_option maxRecDepth 65536 in
set_option maxHeartbeats 40000000 in
theorem comes_1 {Post : Tables → Env → Array Value → State → Outcome → State → Prop} (hpost : ∀ tb e args s v u, (limb_1_1.after args s (.returned v) u = true ∧ limb_1_2.after args s (.returned v) u = true ∧ True) → FrameEnd s (.returned v) u (Jvm.fieldLocs frame_1_writes args s ++ Jvm.arrayLocs frame_1_arrays args s ++ Jvm.staticLocs frame_1_statics s) 24 128 → Post tb e args s (.returned v) u) :
    ArmFor flags0 classFile x code maxLocals ret World_1 tables_1 room_1 Calls_1 rest_1 Pre_1 Post := by
  intro l hfl _ _ p e ha hc hk s m args below hf hA hF happ hP
  obtain ⟨hcalls, hrest, hpre⟩ := hP
  obtain ⟨-, -, -, hnamed, -, -, -, hat⟩ := (Spec.applies_iff hf).mp happ
  obtain ⟨hg, hn⟩ := and_e (Cond.before_iff.mp (show (Jvm.Cond.and given_1 narrow_1).before args s = true from hpre))
  obtain ⟨gc, gr0⟩ := and_e hg
  obtain ⟨ga0, gr1⟩ := and_e gr0
  obtain ⟨ga1, gr2⟩ := and_e gr1
  obtain ⟨ga2, gr3⟩ := and_e gr2
  obtain ⟨ga3, gr4⟩ := and_e gr3
  obtain ⟨w0, w1, w2, w3, w4, rfl⟩ : ∃ w0 w1 w2 w3 w4 : Value, args = #[w0, w1, w2, w3, w4] := by
    have hs : args.size = 5 := by simpa [Cond.value, given_1] using gc
    obtain ⟨L⟩ := args
    match L, hs with
    | [w0, w1, w2, w3, w4], _ => exact ⟨w0, w1, w2, w3, w4, rfl⟩
  have hw := fun d (hd : d ∈ tables_1) => atoms_spec (ws := Jvm.Cond.code x code maxLocals ret :: tables_1) hat d (List.mem_cons_of_mem _ hd)
  obtain ⟨i0, ei0⟩ := is_v ga0
  obtain rfl : w0 = (.int i0) := Option.some.inj ei0
  obtain ⟨i1, ei1⟩ := isL_v ga1
  obtain rfl : w1 = (.long i1) := Option.some.inj ei1
  obtain ⟨i2, ei2⟩ := is_v ga2
  obtain rfl : w2 = (.int i2) := Option.some.inj ei2
  obtain ⟨i3, ei3⟩ := is_v ga3
  obtain rfl : w3 = (.int i3) := Option.some.inj ei3
  obtain ⟨i4, ei4⟩ := is_v gr4
  obtain rfl : w4 = (.int i4) := Option.some.inj ei4
  obtain ⟨n, o, h1, h2, h3, _, L, rfl, ⟨rfl, N⟩, hq⟩ := rm0 l s _ hw tables_1 i0 i1 i2 i3 i4  s.heap s.heap.size (Nat.le_refl _)  p e ha hc hk s m _ below hf ((Spec.applies_iff_loose hf).mp happ).1 ⟨rfl, State.Warmed39.refl s, rfl⟩ trivial
  refine ⟨n, _, h1, h2, h3, hpost _ _ _ _ _ _ ⟨Cond.after_iff.mpr rfl, Cond.after_iff.mpr (eq_i res_at (Term.int_eval (1)) rfl), trivial⟩ ⟨hq.1, hq.2.1, (hq.2.2.sift fun y hy => Or.inr (N y hy)).mono (by decide) (by decide)⟩⟩
theorem main_1_1 : Claimed_1_1 := comes_1 fun _ _ _ _ _ _ h hF => ⟨h.1, hF⟩
theorem main_1_2 : Claimed_1_2 := comes_1 fun _ _ _ _ _ _ h hF => ⟨h.2.1, hF⟩
end Jvm.Pilot.@@N@@
namespace Jvm.Pilot.@@N@@
open Jvm Jvm.ClassFile Sem Op Lib Jvm.Free Jvm.Stand Jvm.Pilot.@@N@@.Jvm.D
/-! MADE BY PROGRAM (witnessworld.py) out of the Statement's table words and the real class files: 14 classes; the members and pool entries that the words name. The judged class is class 1, her method 1. -/
namespace start1
open Jvm.ClassFile
def u (s : String) : CpInfo := .utf8 (stringToUtf16 s)
/-- a pool by its gaps: so many unusable entries, then the entry; so many at the end -/
def gap : Nat → List CpInfo → List CpInfo
  | 0, r => r
  | n + 1, r => .unusable :: gap n r
def poolList (es : List (Nat × CpInfo)) (last : Nat) : List CpInfo := es.foldr (fun e r => gap e.1 (e.2 :: r)) (gap last [])
def pool (es : List (Nat × CpInfo)) (last : Nat) : Array CpInfo := ⟨poolList es last⟩
def fileOf (pool : Array CpInfo) (this : Nat) (attrs : Array Attribute := #[]) (ms : Array MethodInfo := #[]) (fl : Nat := 33) (sup : Nat := 0) (ifs : Array Nat := #[]) (fds : Array FieldInfo := #[]) : ClassFile where
  minorVersion := 0
  majorVersion := 65
  constantPool := pool
  accessFlags := fl
  thisClass := this
  superClass := sup
  interfaces := ifs
  fields := fds
  methods := ms
  attributes := attrs
def plain (name : String) (sup : Option ClassId) : Class where
  name := name
  kind := .ordinary
  loader := none
  accessFlags := 33
  super := sup
  interfaces := #[]
  cf := none
  fields := #[]
  methods := #[]
  instanceTypes := #[]
  staticTypes := #[]
  resolved := #[]
  callSites := []
  init := .initialized
  statics := none
  mirror := none

def pool0 : Array CpInfo := pool [(5, u "<init>"), (0, u "()V"), (1, .class_ 10), (1, u "java/lang/Object")] 113

def k0c0 : Code := { maxStack := 0, maxLocals := 1, code := object_method_1_code, exceptionTable := #[], attributes := #[] }
def k0m0 : Method := { name := "<init>", desc := "()V", sig := { parameters := [], returnType := none }, accessFlags := 1, code := some k0c0 }
/-- java/lang/Object -/
def k0 : Class := { plain "java/lang/Object" none with
  accessFlags := 33
  interfaces := #[]
  cf := some (fileOf pool0 8 #[] #[{ accessFlags := 1, nameIndex := 5, descriptorIndex := 6, attributes := #[] }] 33 0 #[] #[])
  fields := #[]
  methods := #[k0m0]
  instanceTypes := #[]
  staticTypes := #[]
  resolved := Array.replicate 124 none
  statics := none }

def pool1 : Array CpInfo := pool [(2, .class_ 4), (1, u "java/lang/Object"), (0, u "<init>"), (0, u "()V"), (0, .integer 2147483647), (0, .class_ 9), (0, u "com/example/ladel/ladel/broker/Topic$Message"), (0, .class_ 11), (0, u "com/example/ladel/ladel/store/Journal$Location"), (0, .methodref 10 13), (0, .nameAndType 5 14), (0, u "(JI)V"), (0, .methodref 8 16), (0, .nameAndType 5 17), (0, u "(JLcom/example/ladel/ladel/store/Journal$Location;)V"), (0, .long 2), (1, .long 3), (1, .class_ 23), (0, u "com/example/ladel/ladel/broker/Room"), (0, .methodref 22 25), (0, .nameAndType 5 26), (0, u "(IJ)V"), (0, .methodref 28 29), (0, .class_ 30), (0, .nameAndType 31 32), (0, u "com/example/ladel/ladel/broker/RoomTakePinLaw"), (0, u "offer"), (0, u "(Lcom/example/ladel/ladel/broker/Room;Lcom/example/ladel/ladel/broker/Topic$Message;I[JIJ)Z"), (0, .methodref 22 34), (0, .nameAndType 35 36), (0, u "take"), (0, u "(Lcom/example/ladel/ladel/broker/Topic$Message;)Z"), (0, .methodref 22 38), (0, .nameAndType 39 40), (0, u "full"), (0, u "()Z"), (2, u "law"), (0, u "(IJIII)Z")] 12

def k1m0 : Method := { name := "<init>", desc := "()V", sig := { parameters := [], returnType := none }, accessFlags := 1, code := none }
def k1c1 : Code := { maxStack := 9, maxLocals := 18, code := code, exceptionTable := #[], attributes := #[] }
def k1m1 : Method := { name := "law", desc := "(IJIII)Z", sig := { parameters := [.int, .long, .int, .int, .int], returnType := some .boolean }, accessFlags := 9, code := some k1c1 }
def k1c2 : Code := { maxStack := 6, maxLocals := 10, code := method_3_code, exceptionTable := #[], attributes := #[] }
def k1m2 : Method := { name := "offer", desc := "(Lcom/example/ladel/ladel/broker/Room;Lcom/example/ladel/ladel/broker/Topic$Message;I[JIJ)Z", sig := { parameters := [(.object "com/example/ladel/ladel/broker/Room"), (.object "com/example/ladel/ladel/broker/Topic$Message"), .int, (.array .long), .int, .long], returnType := some .boolean }, accessFlags := 10, code := some k1c2 }
/-- com/example/ladel/ladel/broker/RoomTakePinLaw -/
def k1 : Class := { plain "com/example/ladel/ladel/broker/RoomTakePinLaw" (some 0) with
  accessFlags := 49
  interfaces := #[]
  cf := some (fileOf pool1 28 #[] #[{ accessFlags := 1, nameIndex := 5, descriptorIndex := 6, attributes := #[] }, { accessFlags := 9, nameIndex := 43, descriptorIndex := 44, attributes := #[] }, { accessFlags := 10, nameIndex := 31, descriptorIndex := 32, attributes := #[] }] 49 2 #[] #[])
  fields := #[]
  methods := #[k1m0, k1m1, k1m2]
  instanceTypes := #[]
  staticTypes := #[]
  resolved := Array.replicate 57 none
  statics := none }

def pool2 : Array CpInfo := pool [(1, .methodref 2 3), (0, .class_ 4), (0, .nameAndType 5 6), (0, u "java/lang/Object"), (0, u "<init>"), (0, u "()V"), (0, .class_ 8), (0, u "java/lang/Record")] 13

def k2c0 : Code := { maxStack := 1, maxLocals := 1, code := jdk_30_method_1_code, exceptionTable := #[], attributes := #[] }
def k2m0 : Method := { name := "<init>", desc := "()V", sig := { parameters := [], returnType := none }, accessFlags := 4, code := some k2c0 }
/-- java/lang/Record -/
def k2 : Class := { plain "java/lang/Record" (some 0) with
  accessFlags := 1057
  interfaces := #[]
  cf := some (fileOf pool2 7 #[] #[{ accessFlags := 4, nameIndex := 5, descriptorIndex := 6, attributes := #[] }] 1057 2 #[] #[])
  fields := #[]
  methods := #[k2m0]
  instanceTypes := #[]
  staticTypes := #[]
  resolved := Array.replicate 22 none
  statics := none }

def pool3 : Array CpInfo := pool [(1, .methodref 2 3), (0, .class_ 4), (0, .nameAndType 5 6), (0, u "java/lang/Record"), (0, u "<init>"), (0, u "()V"), (0, .fieldref 8 9), (0, .class_ 10), (0, .nameAndType 11 12), (0, u "com/example/ladel/ladel/broker/Topic$Message"), (0, u "seq"), (0, u "J"), (0, .fieldref 8 14), (0, .nameAndType 15 16), (0, u "content"), (0, u "Lcom/example/ladel/ladel/store/Journal$Location;"), (12, u "(JLcom/example/ladel/ladel/store/Journal$Location;)V"), (7, u "()Lcom/example/ladel/ladel/store/Journal$Location;"), (3, .class_ 42), (0, u "com/example/ladel/ladel/broker/Topic")] 25

def k3c0 : Code := { maxStack := 3, maxLocals := 4, code := prog_20_method_1_code, exceptionTable := #[], attributes := #[] }
def k3m0 : Method := { name := "<init>", desc := "(JLcom/example/ladel/ladel/store/Journal$Location;)V", sig := { parameters := [.long, (.object "com/example/ladel/ladel/store/Journal$Location")], returnType := none }, accessFlags := 0, code := some k3c0 }
def k3c1 : Code := { maxStack := 1, maxLocals := 1, code := prog_20_method_6_code, exceptionTable := #[], attributes := #[] }
def k3m1 : Method := { name := "content", desc := "()Lcom/example/ladel/ladel/store/Journal$Location;", sig := { parameters := [], returnType := some (.object "com/example/ladel/ladel/store/Journal$Location") }, accessFlags := 1, code := some k3c1 }
/-- com/example/ladel/ladel/broker/Topic$Message -/
def k3 : Class := { plain "com/example/ladel/ladel/broker/Topic$Message" (some 2) with
  accessFlags := 48
  interfaces := #[]
  cf := some (fileOf pool3 8 #[.nestHost 41] #[{ accessFlags := 0, nameIndex := 5, descriptorIndex := 29, attributes := #[] }, { accessFlags := 1, nameIndex := 15, descriptorIndex := 37, attributes := #[] }] 48 2 #[] #[{ accessFlags := 18, nameIndex := 11, descriptorIndex := 12, attributes := #[] }, { accessFlags := 18, nameIndex := 15, descriptorIndex := 16, attributes := #[] }])
  fields := #[{ name := "seq", type := .long, accessFlags := 18, slot := 0, constantValue := 0 }, { name := "content", type := (.object "com/example/ladel/ladel/store/Journal$Location"), accessFlags := 18, slot := 1, constantValue := 0 }]
  methods := #[k3m0, k3m1]
  instanceTypes := #[.long, (.object "com/example/ladel/ladel/store/Journal$Location")]
  staticTypes := #[]
  resolved := Array.replicate 68 none
  statics := none }

def pool4 : Array CpInfo := pool [(1, .methodref 2 3), (0, .class_ 4), (0, .nameAndType 5 6), (0, u "java/lang/Record"), (0, u "<init>"), (0, u "()V"), (0, .fieldref 8 9), (0, .class_ 10), (0, .nameAndType 11 12), (0, u "com/example/ladel/ladel/store/Journal$Location"), (0, u "offset"), (0, u "J"), (0, .fieldref 8 14), (0, .nameAndType 15 16), (0, u "length"), (0, u "I"), (12, u "(JI)V"), (4, u "()I"), (5, .class_ 41), (0, u "com/example/ladel/ladel/store/Journal")] 20

def k4c0 : Code := { maxStack := 3, maxLocals := 4, code := prog_27_method_1_code, exceptionTable := #[], attributes := #[] }
def k4m0 : Method := { name := "<init>", desc := "(JI)V", sig := { parameters := [.long, .int], returnType := none }, accessFlags := 1, code := some k4c0 }
def k4c1 : Code := { maxStack := 1, maxLocals := 1, code := prog_27_method_6_code, exceptionTable := #[], attributes := #[] }
def k4m1 : Method := { name := "length", desc := "()I", sig := { parameters := [], returnType := some .int }, accessFlags := 1, code := some k4c1 }
/-- com/example/ladel/ladel/store/Journal$Location -/
def k4 : Class := { plain "com/example/ladel/ladel/store/Journal$Location" (some 2) with
  accessFlags := 49
  interfaces := #[]
  cf := some (fileOf pool4 8 #[.nestHost 40] #[{ accessFlags := 1, nameIndex := 5, descriptorIndex := 29, attributes := #[] }, { accessFlags := 1, nameIndex := 15, descriptorIndex := 34, attributes := #[] }] 49 2 #[] #[{ accessFlags := 18, nameIndex := 11, descriptorIndex := 12, attributes := #[] }, { accessFlags := 18, nameIndex := 15, descriptorIndex := 16, attributes := #[] }])
  fields := #[{ name := "offset", type := .long, accessFlags := 18, slot := 0, constantValue := 0 }, { name := "length", type := .int, accessFlags := 18, slot := 1, constantValue := 0 }]
  methods := #[k4m0, k4m1]
  instanceTypes := #[.long, .int]
  staticTypes := #[]
  resolved := Array.replicate 62 none
  statics := none }

def pool5 : Array CpInfo := pool [(1, .methodref 2 3), (0, .class_ 4), (0, .nameAndType 5 6), (0, u "java/lang/Object"), (0, u "<init>"), (0, u "()V"), (0, .fieldref 8 9), (0, .class_ 10), (0, .nameAndType 11 12), (0, u "com/example/ladel/ladel/broker/Room"), (0, u "maxMessages"), (0, u "I"), (0, .fieldref 8 14), (0, .nameAndType 15 16), (0, u "maxBytes"), (0, u "J"), (0, .fieldref 8 18), (0, .nameAndType 19 16), (0, u "bytes"), (0, .methodref 21 22), (0, .class_ 23), (0, .nameAndType 24 25), (0, u "com/example/ladel/ladel/broker/Topic$Message"), (0, u "content"), (0, u "()Lcom/example/ladel/ladel/store/Journal$Location;"), (0, .methodref 27 28), (0, .class_ 29), (0, .nameAndType 30 31), (0, u "com/example/ladel/ladel/store/Journal$Location"), (0, u "length"), (0, u "()I"), (0, .fieldref 8 33), (0, .nameAndType 34 12), (0, u "messages"), (0, .fieldref 8 36), (0, .nameAndType 37 38), (0, u "full"), (0, u "Z"), (0, u "(IJ)V"), (2, u "take"), (0, u "(Lcom/example/ladel/ladel/broker/Topic$Message;)Z"), (1, u "()Z")] 9

def k5c0 : Code := { maxStack := 3, maxLocals := 4, code := prog_15_method_1_code, exceptionTable := #[], attributes := #[] }
def k5m0 : Method := { name := "<init>", desc := "(IJ)V", sig := { parameters := [.int, .long], returnType := none }, accessFlags := 0, code := some k5c0 }
def k5c1 : Code := { maxStack := 5, maxLocals := 4, code := prog_15_method_2_code, exceptionTable := #[], attributes := #[] }
def k5m1 : Method := { name := "take", desc := "(Lcom/example/ladel/ladel/broker/Topic$Message;)Z", sig := { parameters := [(.object "com/example/ladel/ladel/broker/Topic$Message")], returnType := some .boolean }, accessFlags := 0, code := some k5c1 }
def k5c2 : Code := { maxStack := 1, maxLocals := 1, code := prog_15_method_3_code, exceptionTable := #[], attributes := #[] }
def k5m2 : Method := { name := "full", desc := "()Z", sig := { parameters := [], returnType := some .boolean }, accessFlags := 0, code := some k5c2 }
/-- com/example/ladel/ladel/broker/Room -/
def k5 : Class := { plain "com/example/ladel/ladel/broker/Room" (some 0) with
  accessFlags := 48
  interfaces := #[]
  cf := some (fileOf pool5 8 #[] #[{ accessFlags := 0, nameIndex := 5, descriptorIndex := 39, attributes := #[] }, { accessFlags := 0, nameIndex := 42, descriptorIndex := 43, attributes := #[] }, { accessFlags := 0, nameIndex := 37, descriptorIndex := 45, attributes := #[] }] 48 2 #[] #[{ accessFlags := 18, nameIndex := 11, descriptorIndex := 12, attributes := #[] }, { accessFlags := 18, nameIndex := 15, descriptorIndex := 16, attributes := #[] }, { accessFlags := 2, nameIndex := 34, descriptorIndex := 12, attributes := #[] }, { accessFlags := 2, nameIndex := 19, descriptorIndex := 16, attributes := #[] }, { accessFlags := 2, nameIndex := 37, descriptorIndex := 38, attributes := #[] }])
  fields := #[{ name := "maxMessages", type := .int, accessFlags := 18, slot := 0, constantValue := 0 }, { name := "maxBytes", type := .long, accessFlags := 18, slot := 1, constantValue := 0 }, { name := "messages", type := .int, accessFlags := 2, slot := 2, constantValue := 0 }, { name := "bytes", type := .long, accessFlags := 2, slot := 3, constantValue := 0 }, { name := "full", type := .boolean, accessFlags := 2, slot := 4, constantValue := 0 }]
  methods := #[k5m0, k5m1, k5m2]
  instanceTypes := #[.int, .long, .int, .long, .boolean]
  staticTypes := #[]
  resolved := Array.replicate 55 none
  statics := none }

def pool6 : Array CpInfo := pool [(1, u "java/lang/Cloneable"), (0, .class_ 1), (0, u "java/lang/Object"), (0, .class_ 3)] 3

/-- java/lang/Cloneable -/
def k6 : Class := { plain "java/lang/Cloneable" (some 0) with
  accessFlags := 1537
  interfaces := #[]
  cf := some (fileOf pool6 2 #[] #[] 1537 4 #[] #[])
  fields := #[]
  methods := #[]
  instanceTypes := #[]
  staticTypes := #[]
  resolved := Array.replicate 8 none
  statics := none }

def pool7 : Array CpInfo := pool [(1, u "java/io/Serializable"), (0, .class_ 1), (0, u "java/lang/Object"), (0, .class_ 3)] 3

/-- java/io/Serializable -/
def k7 : Class := { plain "java/io/Serializable" (some 0) with
  accessFlags := 1537
  interfaces := #[]
  cf := some (fileOf pool7 2 #[] #[] 1537 4 #[] #[])
  fields := #[]
  methods := #[]
  instanceTypes := #[]
  staticTypes := #[]
  resolved := Array.replicate 8 none
  statics := none }

/-- the primitive byte -/
def k8 : Class := { plain "byte" none with kind := .primitive 'B', accessFlags := 0x411 }
/-- [B -/
def k9 : Class := { plain "[B" (some 0) with kind := .array 8 .byte, interfaces := #[6, 7], accessFlags := 1041 }

/-- the primitive int -/
def k10 : Class := { plain "int" none with kind := .primitive 'I', accessFlags := 0x411 }
/-- [I -/
def k11 : Class := { plain "[I" (some 0) with kind := .array 10 .int, interfaces := #[6, 7], accessFlags := 1041 }

/-- the primitive long -/
def k12 : Class := { plain "long" none with kind := .primitive 'J', accessFlags := 0x411 }
/-- [J -/
def k13 : Class := { plain "[J" (some 0) with kind := .array 12 .long, interfaces := #[6, 7], accessFlags := 1041 }

def heap : Heap := #[]
def classes : Array Class := #[k0, k1, k2, k3, k4, k5, k6, k7, k8, k9, k10, k11, k12, k13]
def interned : List (Array UInt16 × Addr) := []
def slotsUsed : Nat := 0
def theMethod : MethodId := ⟨1, 1⟩
def args0 : Array Value := #[.int 5, .long 6, .int 7, .int 8, .int 1]
def aboutOver (below : List Frame) : State where
  vm := { classes := classes, interned := interned.toArray }
  heap := heap
  slotsUsed := slotsUsed
  threads := #[{ frames := .invoking theMethod args0 :: below }]
def below0 : List Frame := [.native { method := ⟨0, 0⟩, args := #[] }]
def about1 : State := aboutOver below0
def p0 : Program := .bare "" "" ""
def e0 : Env := launch0.env 0 0 0
theorem w_frames : about1.frames = Frame.invoking theMethod args0 :: below0 := rfl
set_option maxRecDepth 65536 in
theorem w_args : argsFit about1.vm theMethod args0 = true := by decide +kernel
set_option maxRecDepth 65536 in
theorem w_heap : heapFits about1 = true := by decide +kernel
set_option maxRecDepth 65536 in
theorem w_runnable : about1.curStatus? = some .runnable := by decide +kernel
set_option maxRecDepth 65536 in
theorem w_alone : about1.alone = true := by decide +kernel
set_option maxRecDepth 65536 in
theorem w_named : about1.methodNamed? x = some theMethod := by decide +kernel
set_option maxRecDepth 65536 in
theorem w_hears : about1.hears theMethod below0 = true := by decide +kernel
set_option maxRecDepth 65536 in
theorem w_ripe : about1.ripe theMethod args0 below0 = true := by decide +kernel
theorem w_running : about1.status = .running := rfl
set_option maxRecDepth 65536 in
theorem w_room : about1.hasRoom e0.platform room_1 = true :=
  launch0.hasRoom_least _ room_1 (by decide +kernel) (by decide +kernel) (by decide +kernel) (by decide +kernel) (by decide +kernel) (by decide +kernel)
theorem allAtoms_all (ts : List Jvm.Cond) (a : Array Jvm.Value) (st : Jvm.State) : (allAtoms ts).before a st = ts.all (fun c => c.before a st) := by
  induction ts with
  | nil => rfl
  | cons c t ih =>
    show (Jvm.Cond.and c (allAtoms t)).before a st = _
    rw [Jvm.Cond.before_and, ih, List.all_cons]
def words1 : List Jvm.Cond := Jvm.Cond.code x code maxLocals ret :: tables_1
/-- a 'code' word, met by the world's own term for the bytes: nothing is compared byte by byte -/
theorem code_word {y : MethodName} {bytes : ByteArray} {mx : Nat} {rt : Option FieldType} {a : Array Value} {s : State} {m : MethodId} {meth : Method} {c : Code} (h1 : s.methodNamed? y = some m) (h2 : s.vm.method? m = some meth) (h3 : meth.code = some c) (h4 : c.code = bytes)
    (h5 : (c.maxLocals == mx && c.exceptionTable.isEmpty && decide (c.maxStack ≤ mostOperands) && decide (meth.sig.returnType = rt) && !meth.locks && decide (parseMethodDescriptor y.desc = some meth.sig)) = true) : (Jvm.Cond.code y bytes mx rt).before a s = true := by
  simp only [Bool.and_eq_true, beq_iff_eq, Bool.not_eq_true', decide_eq_true_eq] at h5
  obtain ⟨⟨⟨⟨⟨g1, g2⟩, g3⟩, g4⟩, g5⟩, g6⟩ := h5
  simp [Cond.before, Cond.holds, Cond.value, h1, h2, h3, h4, g1, g2, g3, g4, g5, g6]
def isCode : Jvm.Cond → Bool
  | .code _ _ _ _ => true
  | _ => false
theorem all_split {L : List Jvm.Cond} {P : Jvm.Cond → Bool} (h1 : L.all (fun c => isCode c || P c) = true) (h2 : ∀ c ∈ L.filter isCode, P c = true) : L.all P = true := by
  refine List.all_eq_true.mpr fun c hc => ?_
  have h := List.all_eq_true.mp h1 c hc
  rcases Bool.eq_false_or_eq_true (isCode c) with hi | hi
  · exact h2 c (List.mem_filter.mpr ⟨hc, hi⟩)
  · simpa [hi] using h
set_option maxRecDepth 65536 in
theorem w_c0 : (Jvm.Cond.code x code maxLocals ret).before args0 about1 = true := code_word (m := ⟨1, 1⟩) (meth := k1m1) (c := k1c1) (by decide +kernel) rfl rfl rfl (by decide +kernel)
set_option maxRecDepth 65536 in
theorem w_c1 : (Jvm.Cond.code ({ cls := "com/example/ladel/ladel/store/Journal$Location", name := "<init>", desc := "(JI)V" } : Jvm.MethodName) prog_27_method_1_code (4 : Nat) (Option.none : Option Jvm.ClassFile.FieldType)).before args0 about1 = true := code_word (m := ⟨4, 0⟩) (meth := k4m0) (c := k4c0) (by decide +kernel) rfl rfl rfl (by decide +kernel)
set_option maxRecDepth 65536 in
theorem w_c2 : (Jvm.Cond.code ({ cls := "java/lang/Record", name := "<init>", desc := "()V" } : Jvm.MethodName) jdk_30_method_1_code (1 : Nat) (Option.none : Option Jvm.ClassFile.FieldType)).before args0 about1 = true := code_word (m := ⟨2, 0⟩) (meth := k2m0) (c := k2c0) (by decide +kernel) rfl rfl rfl (by decide +kernel)
set_option maxRecDepth 65536 in
theorem w_c3 : (Jvm.Cond.code ({ cls := "java/lang/Object", name := "<init>", desc := "()V" } : Jvm.MethodName) object_method_1_code (1 : Nat) (Option.none : Option Jvm.ClassFile.FieldType)).before args0 about1 = true := code_word (m := ⟨0, 0⟩) (meth := k0m0) (c := k0c0) (by decide +kernel) rfl rfl rfl (by decide +kernel)
set_option maxRecDepth 65536 in
theorem w_c4 : (Jvm.Cond.code ({ cls := "com/example/ladel/ladel/broker/Topic$Message", name := "<init>", desc := "(JLcom/example/ladel/ladel/store/Journal$Location;)V" } : Jvm.MethodName) prog_20_method_1_code (4 : Nat) (Option.none : Option Jvm.ClassFile.FieldType)).before args0 about1 = true := code_word (m := ⟨3, 0⟩) (meth := k3m0) (c := k3c0) (by decide +kernel) rfl rfl rfl (by decide +kernel)
set_option maxRecDepth 65536 in
theorem w_c5 : (Jvm.Cond.code ({ cls := "com/example/ladel/ladel/broker/Room", name := "<init>", desc := "(IJ)V" } : Jvm.MethodName) prog_15_method_1_code (4 : Nat) (Option.none : Option Jvm.ClassFile.FieldType)).before args0 about1 = true := code_word (m := ⟨5, 0⟩) (meth := k5m0) (c := k5c0) (by decide +kernel) rfl rfl rfl (by decide +kernel)
set_option maxRecDepth 65536 in
theorem w_c6 : (Jvm.Cond.code ({ cls := "com/example/ladel/ladel/broker/RoomTakePinLaw", name := "offer", desc := "(Lcom/example/ladel/ladel/broker/Room;Lcom/example/ladel/ladel/broker/Topic$Message;I[JIJ)Z" } : Jvm.MethodName) method_3_code (10 : Nat) (Option.some Jvm.ClassFile.FieldType.boolean)).before args0 about1 = true := code_word (m := ⟨1, 2⟩) (meth := k1m2) (c := k1c2) (by decide +kernel) rfl rfl rfl (by decide +kernel)
set_option maxRecDepth 65536 in
theorem w_c7 : (Jvm.Cond.code ({ cls := "com/example/ladel/ladel/broker/Room", name := "take", desc := "(Lcom/example/ladel/ladel/broker/Topic$Message;)Z" } : Jvm.MethodName) prog_15_method_2_code (4 : Nat) (Option.some Jvm.ClassFile.FieldType.boolean)).before args0 about1 = true := code_word (m := ⟨5, 1⟩) (meth := k5m1) (c := k5c1) (by decide +kernel) rfl rfl rfl (by decide +kernel)
set_option maxRecDepth 65536 in
theorem w_c8 : (Jvm.Cond.code ({ cls := "com/example/ladel/ladel/broker/Topic$Message", name := "content", desc := "()Lcom/example/ladel/ladel/store/Journal$Location;" } : Jvm.MethodName) prog_20_method_6_code (1 : Nat) (Option.some (Jvm.ClassFile.FieldType.object "com/example/ladel/ladel/store/Journal$Location"))).before args0 about1 = true := code_word (m := ⟨3, 1⟩) (meth := k3m1) (c := k3c1) (by decide +kernel) rfl rfl rfl (by decide +kernel)
set_option maxRecDepth 65536 in
theorem w_c9 : (Jvm.Cond.code ({ cls := "com/example/ladel/ladel/store/Journal$Location", name := "length", desc := "()I" } : Jvm.MethodName) prog_27_method_6_code (1 : Nat) (Option.some Jvm.ClassFile.FieldType.int)).before args0 about1 = true := code_word (m := ⟨4, 1⟩) (meth := k4m1) (c := k4c1) (by decide +kernel) rfl rfl rfl (by decide +kernel)
set_option maxRecDepth 65536 in
theorem w_c10 : (Jvm.Cond.code ({ cls := "com/example/ladel/ladel/broker/Room", name := "full", desc := "()Z" } : Jvm.MethodName) prog_15_method_3_code (1 : Nat) (Option.some Jvm.ClassFile.FieldType.boolean)).before args0 about1 = true := code_word (m := ⟨5, 2⟩) (meth := k5m2) (c := k5c2) (by decide +kernel) rfl rfl rfl (by decide +kernel)
def codes1 : List Jvm.Cond := [Jvm.Cond.code x code maxLocals ret, Jvm.Cond.code ({ cls := "com/example/ladel/ladel/store/Journal$Location", name := "<init>", desc := "(JI)V" } : Jvm.MethodName) prog_27_method_1_code (4 : Nat) (Option.none : Option Jvm.ClassFile.FieldType), Jvm.Cond.code ({ cls := "java/lang/Record", name := "<init>", desc := "()V" } : Jvm.MethodName) jdk_30_method_1_code (1 : Nat) (Option.none : Option Jvm.ClassFile.FieldType), Jvm.Cond.code ({ cls := "java/lang/Object", name := "<init>", desc := "()V" } : Jvm.MethodName) object_method_1_code (1 : Nat) (Option.none : Option Jvm.ClassFile.FieldType), Jvm.Cond.code ({ cls := "com/example/ladel/ladel/broker/Topic$Message", name := "<init>", desc := "(JLcom/example/ladel/ladel/store/Journal$Location;)V" } : Jvm.MethodName) prog_20_method_1_code (4 : Nat) (Option.none : Option Jvm.ClassFile.FieldType), Jvm.Cond.code ({ cls := "com/example/ladel/ladel/broker/Room", name := "<init>", desc := "(IJ)V" } : Jvm.MethodName) prog_15_method_1_code (4 : Nat) (Option.none : Option Jvm.ClassFile.FieldType), Jvm.Cond.code ({ cls := "com/example/ladel/ladel/broker/RoomTakePinLaw", name := "offer", desc := "(Lcom/example/ladel/ladel/broker/Room;Lcom/example/ladel/ladel/broker/Topic$Message;I[JIJ)Z" } : Jvm.MethodName) method_3_code (10 : Nat) (Option.some Jvm.ClassFile.FieldType.boolean), Jvm.Cond.code ({ cls := "com/example/ladel/ladel/broker/Room", name := "take", desc := "(Lcom/example/ladel/ladel/broker/Topic$Message;)Z" } : Jvm.MethodName) prog_15_method_2_code (4 : Nat) (Option.some Jvm.ClassFile.FieldType.boolean), Jvm.Cond.code ({ cls := "com/example/ladel/ladel/broker/Topic$Message", name := "content", desc := "()Lcom/example/ladel/ladel/store/Journal$Location;" } : Jvm.MethodName) prog_20_method_6_code (1 : Nat) (Option.some (Jvm.ClassFile.FieldType.object "com/example/ladel/ladel/store/Journal$Location")), Jvm.Cond.code ({ cls := "com/example/ladel/ladel/store/Journal$Location", name := "length", desc := "()I" } : Jvm.MethodName) prog_27_method_6_code (1 : Nat) (Option.some Jvm.ClassFile.FieldType.int), Jvm.Cond.code ({ cls := "com/example/ladel/ladel/broker/Room", name := "full", desc := "()Z" } : Jvm.MethodName) prog_15_method_3_code (1 : Nat) (Option.some Jvm.ClassFile.FieldType.boolean)]
set_option maxRecDepth 65536 in
theorem codes_eq : words1.filter isCode = codes1 := rfl
theorem w_codes : ∀ c ∈ words1.filter isCode, c.before args0 about1 = true := by
  rw [codes_eq]
  intro c hc
  simp only [codes1, List.mem_cons, List.not_mem_nil, or_false] at hc
  rcases hc with rfl | rfl | rfl | rfl | rfl | rfl | rfl | rfl | rfl | rfl | rfl
  · exact w_c0
  · exact w_c1
  · exact w_c2
  · exact w_c3
  · exact w_c4
  · exact w_c5
  · exact w_c6
  · exact w_c7
  · exact w_c8
  · exact w_c9
  · exact w_c10
set_option maxRecDepth 65536 in
theorem w_t1 : (words1.take 24).all (fun c => isCode c || c.before args0 about1) = true := by decide +kernel
set_option maxRecDepth 65536 in
theorem w_t2 : ((words1.drop 24).take 24).all (fun c => isCode c || c.before args0 about1) = true := by decide +kernel
set_option maxRecDepth 65536 in
theorem w_t3 : (((words1.drop 24).drop 24).take 24).all (fun c => isCode c || c.before args0 about1) = true := by decide +kernel
set_option maxRecDepth 65536 in
theorem w_t4 : (((words1.drop 24).drop 24).drop 24).all (fun c => isCode c || c.before args0 about1) = true := by decide +kernel
theorem w_tables : (allAtoms (Jvm.Cond.code x code maxLocals ret :: tables_1)).before args0 about1 = true := by
  rw [allAtoms_all]
  show words1.all (fun c => c.before args0 about1) = true
  refine all_split ?_ w_codes
  rw [← List.take_append_drop 24 words1, List.all_append, w_t1, ← List.take_append_drop 24 (words1.drop 24), List.all_append, w_t2, ← List.take_append_drop 24 ((words1.drop 24).drop 24), List.all_append, w_t3, w_t4]
  rfl
set_option maxRecDepth 65536 in
theorem w_case : (Jvm.Cond.and given_1 narrow_1).before args0 about1 = true := by decide +kernel
theorem w_applies : (headSpec (Jvm.Cond.code x code maxLocals ret :: tables_1) room_1).applies x e0.platform about1 = true :=
  (Spec.applies_iff w_frames).mpr ⟨w_running, w_runnable, w_alone, w_named, w_hears, w_ripe, w_room, w_tables⟩
theorem atStart : AtStart classFile x code maxLocals ret World_1 tables_1 room_1 Calls_1 rest_1 Pre_1 launch0 p0 e0 about1 theMethod args0 below0 :=
  ⟨lists_1, trivial, launch0.admits_env _ _ _, launch0.least_env, fairChoices_fair.cas, fairChoices_fair.clock, w_frames, w_args, w_heap, w_applies, trivial, trivial, w_case⟩
end start1
theorem witness_1 : WitnessClaimed_1 := ⟨start1.p0, start1.e0, start1.about1, start1.theMethod, start1.args0, start1.below0, start1.atStart⟩
end Jvm.Pilot.@@N@@
