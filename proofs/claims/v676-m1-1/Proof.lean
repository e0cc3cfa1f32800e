import JvmDerived
import JvmDerived.Pilot.@@N@@Statement
import JvmDerived.Pilot.@@N@@Code
set_option linter.unusedVariables false
set_option linter.unusedSimpArgs false
@@BLOCK:NumsL.lean.txt@@
namespace Jvm.Pilot.@@N@@
open Jvm Jvm.ClassFile Sem Op Lib Jvm.Free Jvm.Stand Jvm.LawKit Jvm.RoadKit Bundle Jvm.Pilot.@@N@@.Jvm.D
section Own
variable {p : Program} {l : Launch} {e : Env} {R : Room} {s : State} {m : MethodId} {args : Array Value} {below : List Frame} {meth : Method} {c : Code} {T : State} {locs : List Loc} {cells slots : Nat}
/-- from the frame g on top of T the invocation comes to its end, and there QQ holds of what it returns, of the heap and of what it wrote -/
def own_Run (p : Program) (e : Env) (below : List Frame) (s : State) (QQ : Option Value → Heap → List Loc → Prop) (C S : Nat) (T : State) (g : JFrame) : Prop :=
  ∃ s₂ v L, Steps p.tables e below (T.setTop g) s₂ ∧ s₂.status = .running ∧ Ended s₂ below (.returned v) ∧ QQ v s₂.heap L ∧ FrameEnd s (.returned v) s₂ L C S
variable {QQ : Option Value → Heap → List Loc → Prop} {C S : Nat}
theorem own_enter {g : JFrame} {ml : Nat} (q : entryFrame m args ml = g) (k : own_Run p e below s QQ C S T g) :
    ∃ s₂ o, Steps p.tables e below (T.setTop (entryFrame m args ml)) s₂ ∧ s₂.status = .running ∧ Ended s₂ below o ∧ ∃ v L, o = .returned v ∧ QQ v s₂.heap L ∧ FrameEnd s o s₂ L C S := by
  subst q
  obtain ⟨s₂, v, L, h1, h2, h3, h4, h5⟩ := k
  exact ⟨s₂, _, h1, h2, h3, v, L, rfl, h4, h5⟩
theorem own_step {g g' : JFrame} {T' : State} (h : ∀ t, Steps p.tables e below (T'.setTop g') t → Steps p.tables e below (T.setTop g) t) (k : own_Run p e below s QQ C S T' g') : own_Run p e below s QQ C S T g := by
  obtain ⟨s₂, v, L, h1, h2⟩ := k
  exact ⟨s₂, v, L, h _ h1, h2⟩
theorem own_end (X : Stand p l e R s m args below meth c T locs cells slots) {v : Option Value} (hv : meth.sig.returnType = none → v = none) (hlocks : meth.locks = false) {g : JFrame} (hc : cells ≤ C) (hs : slots ≤ S) (hq : QQ v T.heap locs)
    (k : ∀ fs, (∀ (f : JFrame) (acts : List Action), f.method = m → f.locked = none → f.entered = [] → (doReturn e (T.setTop f) acts v).1 = T.setFrames fs) → Steps p.tables e below (T.setTop g) (T.setFrames fs)) : own_Run p e below s QQ C S T g := by
  obtain ⟨fs, hr, hrun, hended, hW, hsame⟩ := X.leave (v := v) hv hlocks
  exact ⟨_, v, locs, k fs hr, hrun, hended, hq, ⟨_, rfl⟩, hW, hsame.mono hc hs⟩
theorem own_retN (X : Stand p l e R s m args below meth c T locs cells slots) (hx : p.tables.exec = Jvm.exec) {pc : Nat} {Ls : Array Slot} {z : Int32} {t : FieldType} {rest : List Value} (hret : meth.sig.returnType = some t) (ht : t = .boolean ∨ t = .byte ∨ t = .char ∨ t = .short)
    (hd : decode c.code pc = .ok (.ireturn, 1)) (hlocks : meth.locks = false) (hc : cells ≤ C) (hs : slots ≤ S) (hq : QQ (some (.int (nar t z))) T.heap locs) : own_Run p e below s QQ C S T (mkF m pc Ls (.int z :: rest)) :=
  own_end X (fun h => by rw [hret] at h; cases h) hlocks hc hs hq (fun fs hr => retN X hx hret ht hd hr)
theorem own_retI (X : Stand p l e R s m args below meth c T locs cells slots) (hx : p.tables.exec = Jvm.exec) {pc : Nat} {Ls : Array Slot} {z : Int32} {rest : List Value} (hret : meth.sig.returnType = some .int)
    (hd : decode c.code pc = .ok (.ireturn, 1)) (hlocks : meth.locks = false) (hc : cells ≤ C) (hs : slots ≤ S) (hq : QQ (some (.int z)) T.heap locs) : own_Run p e below s QQ C S T (mkF m pc Ls (.int z :: rest)) :=
  own_end X (fun h => by rw [hret] at h; cases h) hlocks hc hs hq (fun fs hr => retOut X hx hret rfl (Or.inl ⟨rfl, Or.inl rfl, _, rfl⟩) hd hr)
theorem own_retJ (X : Stand p l e R s m args below meth c T locs cells slots) (hx : p.tables.exec = Jvm.exec) {pc : Nat} {Ls : Array Slot} {z : Int64} {rest : List Value} (hret : meth.sig.returnType = some .long)
    (hd : decode c.code pc = .ok (.lreturn, 1)) (hlocks : meth.locks = false) (hc : cells ≤ C) (hs : slots ≤ S) (hq : QQ (some (.long z)) T.heap locs) : own_Run p e below s QQ C S T (mkF m pc Ls (.long z :: rest)) :=
  own_end X (fun h => by rw [hret] at h; cases h) hlocks hc hs hq (fun fs hr => retOut X hx hret rfl (Or.inr (Or.inl ⟨rfl, rfl, _, rfl⟩)) hd hr)
theorem own_retA (X : Stand p l e R s m args below meth c T locs cells slots) (hx : p.tables.exec = Jvm.exec) {pc : Nat} {Ls : Array Slot} {w : Value} {t : FieldType} {rest : List Value} (hret : meth.sig.returnType = some t) (ht : t.isReference = true) (hw : w.isRef = true)
    (hd : decode c.code pc = .ok (.areturn, 1)) (hlocks : meth.locks = false) (hc : cells ≤ C) (hs : slots ≤ S) (hq : QQ (some w) T.heap locs) : own_Run p e below s QQ C S T (mkF m pc Ls (w :: rest)) :=
  own_end X (fun h => by rw [hret] at h; cases h) hlocks hc hs hq (fun fs hr => retOut X hx hret (by cases t <;> first | rfl | cases ht) (Or.inr (Or.inr (Or.inr (Or.inr ⟨rfl, ht, hw⟩)))) hd hr)
theorem own_retV (X : Stand p l e R s m args below meth c T locs cells slots) (hx : p.tables.exec = Jvm.exec) {pc : Nat} {Ls : Array Slot} (hret : meth.sig.returnType = none)
    (hd : decode c.code pc = .ok (.return_, 1)) (hlocks : meth.locks = false) (hc : cells ≤ C) (hs : slots ≤ S) (hq : QQ none T.heap locs) : own_Run p e below s QQ C S T (mkF m pc Ls []) :=
  own_end X (fun _ => rfl) hlocks hc hs hq (fun fs hr => X.returnOut hx hret hd hr)
end Own
/-- one of two ints, by a proposition -/
def own_pick (P : Prop) [Decidable P] (a b : Int32) : Int32 := if P then a else b
def own_pickJ (P : Prop) [Decidable P] (a b : Int64) : Int64 := if P then a else b
theorem own_pick_pos {P : Prop} [Decidable P] {a b : Int32} (h : P) : own_pick P a b = a := if_pos h
theorem own_pick_neg {P : Prop} [Decidable P] {a b : Int32} (h : ¬ P) : own_pick P a b = b := if_neg h
theorem own_pickJ_pos {P : Prop} [Decidable P] {a b : Int64} (h : P) : own_pickJ P a b = a := if_pos h
theorem own_pickJ_neg {P : Prop} [Decidable P] {a b : Int64} (h : ¬ P) : own_pickJ P a b = b := if_neg h
section OwnMat
variable {tb : Tables} [Ours tb] {e : Env} {below : List Frame} {T target : State} {m : MethodId} {c : Code} {pc : Nat} {Ls : Array Slot} {x y : Int32} {rest : List Value} {a b : Int} {cd : ClassFile.Cond}
theorem own_mat_i (h : At T m c below) (hx : tb.exec = Jvm.exec) (hd0 : decode c.code pc = .ok (.if_icmp cd 7, 3)) (hd1 : decode c.code (pc + 3) = .ok (.iconst a, 1)) (hd2 : decode c.code (pc + 4) = .ok (.goto 4, 3)) (hd3 : decode c.code (pc + 7) = .ok (.iconst b, 1))
    {w : Int32} (hT : if_icmp.holds cd x y = true → w = Int32.ofInt b) (hF : if_icmp.holds cd x y = false → w = Int32.ofInt a) (hr : Steps tb e below (T.setTop (mkF m (pc + 8) Ls (.int w :: rest))) target) : Steps tb e below (T.setTop (mkF m pc Ls (.int y :: .int x :: rest))) target := by
  cases q : if_icmp.holds cd x y
  · rw [hF q] at hr
    exact XS.icmpNo h hx rfl hd0 rfl q (XS.iconst h hx rfl hd1 (XS.goto h hx rfl (pc0 := pc + 4) (pc' := pc + 8) rfl hd2 (by omega) (by omega) hr))
  · rw [hT q] at hr
    exact XS.icmpYes h hx rfl (pc0 := pc) (pc' := pc + 7) rfl hd0 rfl q (by omega) (by omega) (XS.iconst h hx rfl hd3 hr)
theorem own_mat_c (h : At T m c below) (hx : tb.exec = Jvm.exec) (hd0 : decode c.code pc = .ok (.ifCond cd 7, 3)) (hd1 : decode c.code (pc + 3) = .ok (.iconst a, 1)) (hd2 : decode c.code (pc + 4) = .ok (.goto 4, 3)) (hd3 : decode c.code (pc + 7) = .ok (.iconst b, 1))
    {w : Int32} (hT : if_icmp.holds cd x 0 = true → w = Int32.ofInt b) (hF : if_icmp.holds cd x 0 = false → w = Int32.ofInt a) (hr : Steps tb e below (T.setTop (mkF m (pc + 8) Ls (.int w :: rest))) target) : Steps tb e below (T.setTop (mkF m pc Ls (.int x :: rest))) target := by
  cases q : if_icmp.holds cd x 0
  · rw [hF q] at hr
    exact XS.ifNo h hx rfl hd0 rfl ((if0 _ _).trans q) (XS.iconst h hx rfl hd1 (XS.goto h hx rfl (pc0 := pc + 4) (pc' := pc + 8) rfl hd2 (by omega) (by omega) hr))
  · rw [hT q] at hr
    exact XS.ifYes h hx rfl (pc0 := pc) (pc' := pc + 7) rfl hd0 rfl ((if0 _ _).trans q) (by omega) (by omega) (XS.iconst h hx rfl hd3 hr)
theorem own_mat_i_eq (h : At T m c below) (hx : tb.exec = Jvm.exec) (hg : m = m) (hd0 : decode c.code pc = .ok (.if_icmp .eq 7, 3)) (hd1 : decode c.code (pc + 3) = .ok (.iconst a, 1)) (hd2 : decode c.code (pc + 4) = .ok (.goto 4, 3)) (hd3 : decode c.code (pc + 7) = .ok (.iconst b, 1))
    (hr : Steps tb e below (T.setTop (mkF m (pc + 8) Ls (.int (own_pick (x = y) (Int32.ofInt b) (Int32.ofInt a)) :: rest))) target) : Steps tb e below (T.setTop (mkF m pc Ls (.int y :: .int x :: rest))) target :=
  own_mat_i h hx hd0 hd1 hd2 hd3 (fun q => by by_cases z : x = y <;> simp [own_pick, z] <;> (first | rw [(teq z).1] at q | rw [(feq z).1] at q) <;> cases q) (fun q => by by_cases z : x = y <;> simp [own_pick, z] <;> (first | rw [(teq z).1] at q | rw [(feq z).1] at q) <;> cases q) hr
theorem own_mat_i_ne (h : At T m c below) (hx : tb.exec = Jvm.exec) (hg : m = m) (hd0 : decode c.code pc = .ok (.if_icmp .ne 7, 3)) (hd1 : decode c.code (pc + 3) = .ok (.iconst a, 1)) (hd2 : decode c.code (pc + 4) = .ok (.goto 4, 3)) (hd3 : decode c.code (pc + 7) = .ok (.iconst b, 1))
    (hr : Steps tb e below (T.setTop (mkF m (pc + 8) Ls (.int (own_pick (x = y) (Int32.ofInt a) (Int32.ofInt b)) :: rest))) target) : Steps tb e below (T.setTop (mkF m pc Ls (.int y :: .int x :: rest))) target :=
  own_mat_i h hx hd0 hd1 hd2 hd3 (fun q => by by_cases z : x = y <;> simp [own_pick, z] <;> (first | rw [(teq z).2] at q | rw [(feq z).2] at q) <;> cases q) (fun q => by by_cases z : x = y <;> simp [own_pick, z] <;> (first | rw [(teq z).2] at q | rw [(feq z).2] at q) <;> cases q) hr
theorem own_mat_i_lt (h : At T m c below) (hx : tb.exec = Jvm.exec) (hg : m = m) (hd0 : decode c.code pc = .ok (.if_icmp .lt 7, 3)) (hd1 : decode c.code (pc + 3) = .ok (.iconst a, 1)) (hd2 : decode c.code (pc + 4) = .ok (.goto 4, 3)) (hd3 : decode c.code (pc + 7) = .ok (.iconst b, 1))
    (hr : Steps tb e below (T.setTop (mkF m (pc + 8) Ls (.int (own_pick (x < y) (Int32.ofInt b) (Int32.ofInt a)) :: rest))) target) : Steps tb e below (T.setTop (mkF m pc Ls (.int y :: .int x :: rest))) target :=
  own_mat_i h hx hd0 hd1 hd2 hd3 (fun q => by by_cases z : x < y <;> simp [own_pick, z] <;> (first | rw [(tlt z).1] at q | rw [(flt z).1] at q) <;> cases q) (fun q => by by_cases z : x < y <;> simp [own_pick, z] <;> (first | rw [(tlt z).1] at q | rw [(flt z).1] at q) <;> cases q) hr
theorem own_mat_i_ge (h : At T m c below) (hx : tb.exec = Jvm.exec) (hg : m = m) (hd0 : decode c.code pc = .ok (.if_icmp .ge 7, 3)) (hd1 : decode c.code (pc + 3) = .ok (.iconst a, 1)) (hd2 : decode c.code (pc + 4) = .ok (.goto 4, 3)) (hd3 : decode c.code (pc + 7) = .ok (.iconst b, 1))
    (hr : Steps tb e below (T.setTop (mkF m (pc + 8) Ls (.int (own_pick (x < y) (Int32.ofInt a) (Int32.ofInt b)) :: rest))) target) : Steps tb e below (T.setTop (mkF m pc Ls (.int y :: .int x :: rest))) target :=
  own_mat_i h hx hd0 hd1 hd2 hd3 (fun q => by by_cases z : x < y <;> simp [own_pick, z] <;> (first | rw [(tlt z).2.1] at q | rw [(flt z).2.1] at q) <;> cases q) (fun q => by by_cases z : x < y <;> simp [own_pick, z] <;> (first | rw [(tlt z).2.1] at q | rw [(flt z).2.1] at q) <;> cases q) hr
theorem own_mat_i_gt (h : At T m c below) (hx : tb.exec = Jvm.exec) (hg : m = m) (hd0 : decode c.code pc = .ok (.if_icmp .gt 7, 3)) (hd1 : decode c.code (pc + 3) = .ok (.iconst a, 1)) (hd2 : decode c.code (pc + 4) = .ok (.goto 4, 3)) (hd3 : decode c.code (pc + 7) = .ok (.iconst b, 1))
    (hr : Steps tb e below (T.setTop (mkF m (pc + 8) Ls (.int (own_pick (y < x) (Int32.ofInt b) (Int32.ofInt a)) :: rest))) target) : Steps tb e below (T.setTop (mkF m pc Ls (.int y :: .int x :: rest))) target :=
  own_mat_i h hx hd0 hd1 hd2 hd3 (fun q => by by_cases z : y < x <;> simp [own_pick, z] <;> (first | rw [(tlt z).2.2.1] at q | rw [(flt z).2.2.1] at q) <;> cases q) (fun q => by by_cases z : y < x <;> simp [own_pick, z] <;> (first | rw [(tlt z).2.2.1] at q | rw [(flt z).2.2.1] at q) <;> cases q) hr
theorem own_mat_i_le (h : At T m c below) (hx : tb.exec = Jvm.exec) (hg : m = m) (hd0 : decode c.code pc = .ok (.if_icmp .le 7, 3)) (hd1 : decode c.code (pc + 3) = .ok (.iconst a, 1)) (hd2 : decode c.code (pc + 4) = .ok (.goto 4, 3)) (hd3 : decode c.code (pc + 7) = .ok (.iconst b, 1))
    (hr : Steps tb e below (T.setTop (mkF m (pc + 8) Ls (.int (own_pick (y < x) (Int32.ofInt a) (Int32.ofInt b)) :: rest))) target) : Steps tb e below (T.setTop (mkF m pc Ls (.int y :: .int x :: rest))) target :=
  own_mat_i h hx hd0 hd1 hd2 hd3 (fun q => by by_cases z : y < x <;> simp [own_pick, z] <;> (first | rw [(tlt z).2.2.2] at q | rw [(flt z).2.2.2] at q) <;> cases q) (fun q => by by_cases z : y < x <;> simp [own_pick, z] <;> (first | rw [(tlt z).2.2.2] at q | rw [(flt z).2.2.2] at q) <;> cases q) hr
theorem own_mat_c_eq (h : At T m c below) (hx : tb.exec = Jvm.exec) (hg : m = m) (hd0 : decode c.code pc = .ok (.ifCond .eq 7, 3)) (hd1 : decode c.code (pc + 3) = .ok (.iconst a, 1)) (hd2 : decode c.code (pc + 4) = .ok (.goto 4, 3)) (hd3 : decode c.code (pc + 7) = .ok (.iconst b, 1))
    (hr : Steps tb e below (T.setTop (mkF m (pc + 8) Ls (.int (own_pick (x = (0 : Int32)) (Int32.ofInt b) (Int32.ofInt a)) :: rest))) target) : Steps tb e below (T.setTop (mkF m pc Ls (.int x :: rest))) target :=
  own_mat_c h hx hd0 hd1 hd2 hd3 (fun q => by by_cases z : x = (0 : Int32) <;> simp [own_pick, z] <;> (first | rw [(teq z).1] at q | rw [(feq z).1] at q) <;> cases q) (fun q => by by_cases z : x = (0 : Int32) <;> simp [own_pick, z] <;> (first | rw [(teq z).1] at q | rw [(feq z).1] at q) <;> cases q) hr
theorem own_mat_c_ne (h : At T m c below) (hx : tb.exec = Jvm.exec) (hg : m = m) (hd0 : decode c.code pc = .ok (.ifCond .ne 7, 3)) (hd1 : decode c.code (pc + 3) = .ok (.iconst a, 1)) (hd2 : decode c.code (pc + 4) = .ok (.goto 4, 3)) (hd3 : decode c.code (pc + 7) = .ok (.iconst b, 1))
    (hr : Steps tb e below (T.setTop (mkF m (pc + 8) Ls (.int (own_pick (x = (0 : Int32)) (Int32.ofInt a) (Int32.ofInt b)) :: rest))) target) : Steps tb e below (T.setTop (mkF m pc Ls (.int x :: rest))) target :=
  own_mat_c h hx hd0 hd1 hd2 hd3 (fun q => by by_cases z : x = (0 : Int32) <;> simp [own_pick, z] <;> (first | rw [(teq z).2] at q | rw [(feq z).2] at q) <;> cases q) (fun q => by by_cases z : x = (0 : Int32) <;> simp [own_pick, z] <;> (first | rw [(teq z).2] at q | rw [(feq z).2] at q) <;> cases q) hr
theorem own_mat_c_lt (h : At T m c below) (hx : tb.exec = Jvm.exec) (hg : m = m) (hd0 : decode c.code pc = .ok (.ifCond .lt 7, 3)) (hd1 : decode c.code (pc + 3) = .ok (.iconst a, 1)) (hd2 : decode c.code (pc + 4) = .ok (.goto 4, 3)) (hd3 : decode c.code (pc + 7) = .ok (.iconst b, 1))
    (hr : Steps tb e below (T.setTop (mkF m (pc + 8) Ls (.int (own_pick (x < (0 : Int32)) (Int32.ofInt b) (Int32.ofInt a)) :: rest))) target) : Steps tb e below (T.setTop (mkF m pc Ls (.int x :: rest))) target :=
  own_mat_c h hx hd0 hd1 hd2 hd3 (fun q => by by_cases z : x < (0 : Int32) <;> simp [own_pick, z] <;> (first | rw [(tlt z).1] at q | rw [(flt z).1] at q) <;> cases q) (fun q => by by_cases z : x < (0 : Int32) <;> simp [own_pick, z] <;> (first | rw [(tlt z).1] at q | rw [(flt z).1] at q) <;> cases q) hr
theorem own_mat_c_ge (h : At T m c below) (hx : tb.exec = Jvm.exec) (hg : m = m) (hd0 : decode c.code pc = .ok (.ifCond .ge 7, 3)) (hd1 : decode c.code (pc + 3) = .ok (.iconst a, 1)) (hd2 : decode c.code (pc + 4) = .ok (.goto 4, 3)) (hd3 : decode c.code (pc + 7) = .ok (.iconst b, 1))
    (hr : Steps tb e below (T.setTop (mkF m (pc + 8) Ls (.int (own_pick (x < (0 : Int32)) (Int32.ofInt a) (Int32.ofInt b)) :: rest))) target) : Steps tb e below (T.setTop (mkF m pc Ls (.int x :: rest))) target :=
  own_mat_c h hx hd0 hd1 hd2 hd3 (fun q => by by_cases z : x < (0 : Int32) <;> simp [own_pick, z] <;> (first | rw [(tlt z).2.1] at q | rw [(flt z).2.1] at q) <;> cases q) (fun q => by by_cases z : x < (0 : Int32) <;> simp [own_pick, z] <;> (first | rw [(tlt z).2.1] at q | rw [(flt z).2.1] at q) <;> cases q) hr
theorem own_mat_c_gt (h : At T m c below) (hx : tb.exec = Jvm.exec) (hg : m = m) (hd0 : decode c.code pc = .ok (.ifCond .gt 7, 3)) (hd1 : decode c.code (pc + 3) = .ok (.iconst a, 1)) (hd2 : decode c.code (pc + 4) = .ok (.goto 4, 3)) (hd3 : decode c.code (pc + 7) = .ok (.iconst b, 1))
    (hr : Steps tb e below (T.setTop (mkF m (pc + 8) Ls (.int (own_pick ((0 : Int32) < x) (Int32.ofInt b) (Int32.ofInt a)) :: rest))) target) : Steps tb e below (T.setTop (mkF m pc Ls (.int x :: rest))) target :=
  own_mat_c h hx hd0 hd1 hd2 hd3 (fun q => by by_cases z : (0 : Int32) < x <;> simp [own_pick, z] <;> (first | rw [(tlt z).2.2.1] at q | rw [(flt z).2.2.1] at q) <;> cases q) (fun q => by by_cases z : (0 : Int32) < x <;> simp [own_pick, z] <;> (first | rw [(tlt z).2.2.1] at q | rw [(flt z).2.2.1] at q) <;> cases q) hr
theorem own_mat_c_le (h : At T m c below) (hx : tb.exec = Jvm.exec) (hg : m = m) (hd0 : decode c.code pc = .ok (.ifCond .le 7, 3)) (hd1 : decode c.code (pc + 3) = .ok (.iconst a, 1)) (hd2 : decode c.code (pc + 4) = .ok (.goto 4, 3)) (hd3 : decode c.code (pc + 7) = .ok (.iconst b, 1))
    (hr : Steps tb e below (T.setTop (mkF m (pc + 8) Ls (.int (own_pick ((0 : Int32) < x) (Int32.ofInt a) (Int32.ofInt b)) :: rest))) target) : Steps tb e below (T.setTop (mkF m pc Ls (.int x :: rest))) target :=
  own_mat_c h hx hd0 hd1 hd2 hd3 (fun q => by by_cases z : (0 : Int32) < x <;> simp [own_pick, z] <;> (first | rw [(tlt z).2.2.2] at q | rw [(flt z).2.2.2] at q) <;> cases q) (fun q => by by_cases z : (0 : Int32) < x <;> simp [own_pick, z] <;> (first | rw [(tlt z).2.2.2] at q | rw [(flt z).2.2.2] at q) <;> cases q) hr
end OwnMat
theorem pd_0 : parseMethodDescriptor "()[B" = some ⟨[], some (.array .byte)⟩ := by decide +kernel
theorem pd_1 : parseMethodDescriptor "([B)Z" = some ⟨[(.array .byte)], some .boolean⟩ := by decide +kernel
theorem own_and7 (p : Int32) : 0 ≤ (p &&& (7 : Int32)).toInt ∧ (p &&& (7 : Int32)).toInt < 8 := by
  have e : (p &&& 7).toInt = p.toInt % 2 ^ 3 := Jvm.Kit.i32_mask p 7 (k := 3) (by decide) (by decide)
  rw [e]; omega
theorem own_in7 (p : Int32) : ¬ (p &&& (7 : Int32)) < 0 ∧ (p &&& (7 : Int32)) < (8 : Int32) := by
  have h := own_and7 p
  have e8 : (8 : Int32).toInt = 8 := rfl
  have e0 : (0 : Int32).toInt = 0 := rfl
  simp only [Int32.lt_iff_toInt_lt, e8, e0]; omega
theorem own_lt8 (p : Int32) : (p &&& (7 : Int32)).toNatClampNeg < 8 := by
  have h := own_and7 p
  simp only [Int32.toNatClampNeg]; omega
theorem d1_0 : decode prog_29_method_2_code 0 = .ok (.bipush 8, 2) := by decide +kernel
theorem d1_2 : decode prog_29_method_2_code 2 = .ok (.newarray .byte, 2) := by decide +kernel
theorem d1_4 : decode prog_29_method_2_code 4 = .ok (.dup, 1) := by decide +kernel
theorem d1_5 : decode prog_29_method_2_code 5 = .ok (.iconst 0, 1) := by decide +kernel
theorem d1_6 : decode prog_29_method_2_code 6 = .ok (.bipush 65, 2) := by decide +kernel
theorem d1_8 : decode prog_29_method_2_code 8 = .ok (.bastore, 1) := by decide +kernel
theorem d1_9 : decode prog_29_method_2_code 9 = .ok (.dup, 1) := by decide +kernel
theorem d1_10 : decode prog_29_method_2_code 10 = .ok (.iconst 1, 1) := by decide +kernel
theorem d1_11 : decode prog_29_method_2_code 11 = .ok (.bipush 77, 2) := by decide +kernel
theorem d1_13 : decode prog_29_method_2_code 13 = .ok (.bastore, 1) := by decide +kernel
theorem d1_14 : decode prog_29_method_2_code 14 = .ok (.dup, 1) := by decide +kernel
theorem d1_15 : decode prog_29_method_2_code 15 = .ok (.iconst 2, 1) := by decide +kernel
theorem d1_16 : decode prog_29_method_2_code 16 = .ok (.bipush 81, 2) := by decide +kernel
theorem d1_18 : decode prog_29_method_2_code 18 = .ok (.bastore, 1) := by decide +kernel
theorem d1_19 : decode prog_29_method_2_code 19 = .ok (.dup, 1) := by decide +kernel
theorem d1_20 : decode prog_29_method_2_code 20 = .ok (.iconst 3, 1) := by decide +kernel
theorem d1_21 : decode prog_29_method_2_code 21 = .ok (.bipush 80, 2) := by decide +kernel
theorem d1_23 : decode prog_29_method_2_code 23 = .ok (.bastore, 1) := by decide +kernel
theorem d1_24 : decode prog_29_method_2_code 24 = .ok (.dup, 1) := by decide +kernel
theorem d1_25 : decode prog_29_method_2_code 25 = .ok (.iconst 4, 1) := by decide +kernel
theorem d1_26 : decode prog_29_method_2_code 26 = .ok (.iconst 0, 1) := by decide +kernel
theorem d1_27 : decode prog_29_method_2_code 27 = .ok (.bastore, 1) := by decide +kernel
theorem d1_28 : decode prog_29_method_2_code 28 = .ok (.dup, 1) := by decide +kernel
theorem d1_29 : decode prog_29_method_2_code 29 = .ok (.iconst 5, 1) := by decide +kernel
theorem d1_30 : decode prog_29_method_2_code 30 = .ok (.iconst 0, 1) := by decide +kernel
theorem d1_31 : decode prog_29_method_2_code 31 = .ok (.bastore, 1) := by decide +kernel
theorem d1_32 : decode prog_29_method_2_code 32 = .ok (.dup, 1) := by decide +kernel
theorem d1_33 : decode prog_29_method_2_code 33 = .ok (.bipush 6, 2) := by decide +kernel
theorem d1_35 : decode prog_29_method_2_code 35 = .ok (.bipush 9, 2) := by decide +kernel
theorem d1_37 : decode prog_29_method_2_code 37 = .ok (.bastore, 1) := by decide +kernel
theorem d1_38 : decode prog_29_method_2_code 38 = .ok (.dup, 1) := by decide +kernel
theorem d1_39 : decode prog_29_method_2_code 39 = .ok (.bipush 7, 2) := by decide +kernel
theorem d1_41 : decode prog_29_method_2_code 41 = .ok (.iconst 1, 1) := by decide +kernel
theorem d1_42 : decode prog_29_method_2_code 42 = .ok (.bastore, 1) := by decide +kernel
theorem d1_43 : decode prog_29_method_2_code 43 = .ok (.areturn, 1) := by decide +kernel
theorem pn_rm1 : plainName "com/example/dequeue/dequeue/Frame" = true := by first | (simp [plainName, overriddenIn]; done) | decide +kernel
theorem ef_rm1 (m : MethodId)  : entryFrame m #[] 0 = mkF m 0 #[] [] := by first | (simp [entryFrame, mkF, argsToLocals, Value.category, maxLocals]; done) | rfl
def rm1_Q (Z : State)   (h0 : Heap) (n0 : Nat) (v : Option Value) (h : Heap) (L : List Loc) : Prop := ∃ b k, v = some (.ref b) ∧ Fr n0 L ∧ b = h0.size ∧ Keep h0 h [] ∧ Arv Z h b k .byte (8 : Int32) [(.int (65 : Int32)), (.int (77 : Int32)), (.int (81 : Int32)), (.int (80 : Int32)), (.int (0 : Int32)), (.int (0 : Int32)), (.int (9 : Int32)), (.int (1 : Int32))] (.int (0 : Int32))
set_option maxRecDepth 65536 in
set_option maxHeartbeats 40000000 in
theorem rm1 (l : Launch) (Z : State) (a0 : Array Value) (hw : ∀ d ∈ tables_1, d.before a0 Z = true) (ws : List Jvm.Cond)   (h0 : Heap) (n0 : Nat) (Z0 : n0 ≤ h0.size)  :
    MetFree l (⟨"com/example/dequeue/dequeue/Frame", "protocolHeader", "()[B"⟩ : MethodName) (head1 (Jvm.Cond.code (⟨"com/example/dequeue/dequeue/Frame", "protocolHeader", "()[B"⟩ : MethodName) prog_29_method_2_code 0 (some (.array .byte)) :: ws) ({ frames := 0, cells := 1, slots := 8, locals := 0 } : Room)) (fun a U => a = #[] ∧ Z.Warmed39 U.vm ∧ U.heap = h0) (fun _ _ _ _ _ => True) (fun _ U o U' => ∃ v L, o = .returned v ∧ rm1_Q Z  h0 n0 v U'.heap L ∧ FrameEnd U o U' L ({ frames := 0, cells := 1, slots := 8, locals := 0 } : Room).cells ({ frames := 0, cells := 1, slots := 8, locals := 0 } : Room).slots) := by
  refine MetFree.of_bodySF (plainFor_of_name pn_rm1) hisR ?_
  intro p e s m args below meth c s₁ Bd hml0 hP hK
  obtain ⟨rfl, hZ, hh⟩ := hP
  have hx := Bd.exec
  have hby := Bd.bytes
  have hml : c.maxLocals = 0 := hml0
  have hown : s.vm.findClass "com/example/dequeue/dequeue/Frame" = some m.cls := findClass_of_methodNamed Bd.named
  have hnm := (name_of_methodNamed Bd.named Bd.method).1
  have X0 : Stand p l e ({ frames := 0, cells := 1, slots := 8, locals := 0 } : Room) s m #[] below meth c s₁ [] 0 0 := Stand.of_body Bd
  have e0 : s₁.heap = h0 := by rw [← hh, Bd.state]; rfl
  have N0 := Fr.nil n0
  have K0 := Keep.refl h0 []
  refine own_enter (QQ := rm1_Q Z  h0 n0) (ef_rm1 m ) ?_
  show own_Run p e below s _ _ _ s₁ (mkF m 0 #[] [])
  refine own_step (T' := s₁) (g' := (mkF m 2 #[] [(.int (8 : Int32))])) (fun t k => ?_) ?_
  · show Steps p.tables e below (s₁.setTop (mkF m 0 #[] [])) _
    refine XS.bipush X0.here hx rfl (hb hby d1_0) ?_
    show Steps p.tables e below (s₁.setTop (mkF m 2 #[] [(.int (8 : Int32))])) _
    exact k
  obtain ⟨T1, h1, k1, X1, e1, E1, B1, A1, st1⟩ := newPE X0 hx hZ (hw _ (List.mem_of_getElem? (i := 4) rfl)) e0 (g := (mkF m 2 #[] [(.int (8 : Int32))])) rfl (hb hby d1_2) rfl (by decide) (cap := 8) (by decide) (by decide) (by decide) (by decide) (ad := "[B") (by decide)
  obtain ⟨b1, g1⟩ : ∃ z, z = h0.size := ⟨_, rfl⟩
  have g_b1 : n0 ≤ b1 := Nat.le_trans Z0 (Nat.le_of_eq g1.symm)
  have sz_b1 : h0.size ≤ b1 := Nat.le_trans K0.1 (Nat.le_of_eq g1.symm)
  rw [← g1] at A1 B1 st1
  have K1 := K0.ext E1
  have V2 : Arv Z h1 b1 k1 .byte (8 : Int32) [(.int (0 : Int32)), (.int (0 : Int32)), (.int (0 : Int32)), (.int (0 : Int32)), (.int (0 : Int32)), (.int (0 : Int32)), (.int (0 : Int32)), (.int (0 : Int32))] (.int (0 : Int32)) := (Arv.new B1 (by decide)).pad (pad_rep [] (.int (0 : Int32)) 8)
  have Z3 := Nat.le_trans Z0 E1.1
  refine own_step st1 ?_
  show own_Run p e below s _ _ _ T1 (mkF m 4 #[] [(.ref b1)])
  refine own_step (T' := T1) (g' := (mkF m 8 #[] [(.int (65 : Int32)), (.int (0 : Int32)), (.ref b1), (.ref b1)])) (fun t k => ?_) ?_
  · show Steps p.tables e below (T1.setTop (mkF m 4 #[] [(.ref b1)])) _
    refine XS.dup X1.here hx rfl (hb hby d1_4) rfl rfl ?_
    show Steps p.tables e below (T1.setTop (mkF m 5 #[] [(.ref b1), (.ref b1)])) _
    refine XS.iconst X1.here hx rfl (hb hby d1_5) ?_
    show Steps p.tables e below (T1.setTop (mkF m 6 #[] [(.int (0 : Int32)), (.ref b1), (.ref b1)])) _
    refine XS.bipush X1.here hx rfl (hb hby d1_6) ?_
    show Steps p.tables e below (T1.setTop (mkF m 8 #[] [(.int (65 : Int32)), (.int (0 : Int32)), (.ref b1), (.ref b1)])) _
    exact k
  obtain ⟨c4, Arc4, qc4, Sc4, Mc4, Hc4, Gc4⟩ := V2
  have hinc4 : ¬ ((0 : Int32) < 0 ∨ c4.slots.size ≤ ((0 : Int32)).toNatClampNeg) := inb_of Sc4 ⟨by decide, by decide⟩
  obtain ⟨T5, h5, X5, e5, W5, st5⟩ := stB X1 hx hZ e1 Arc4 (j := (0 : Int32)) hinc4 (g := (mkF m 8 #[] [(.int (65 : Int32)), (.int (0 : Int32)), (.ref b1), (.ref b1)])) rfl rfl (hb hby d1_8)
  have V6 := Arv.set Arc4 qc4 Sc4 Mc4 Hc4 Gc4 (fits_nar_byte _) W5 0 rfl (Nat.le_of_ble_eq_true rfl)
  have V6l : Arv Z h5 b1 k1 .byte (8 : Int32) [(.int (nar .byte (65 : Int32))), (.int (0 : Int32)), (.int (0 : Int32)), (.int (0 : Int32)), (.int (0 : Int32)), (.int (0 : Int32)), (.int (0 : Int32)), (.int (0 : Int32))] (.int (0 : Int32)) := V6
  have A7 := A1.wr W5
  have Z8 := Nat.le_trans Z3 (Keep.of_wr W5).1
  have K5 := K1.wr W5 (Or.inr sz_b1)
  have N5 := Fr.snoc X5 N0 g_b1
  refine own_step st5 ?_
  show own_Run p e below s _ _ _ T5 (mkF m 9 #[] [(.ref b1)])
  refine own_step (T' := T5) (g' := (mkF m 13 #[] [(.int (77 : Int32)), (.int (1 : Int32)), (.ref b1), (.ref b1)])) (fun t k => ?_) ?_
  · show Steps p.tables e below (T5.setTop (mkF m 9 #[] [(.ref b1)])) _
    refine XS.dup X5.here hx rfl (hb hby d1_9) rfl rfl ?_
    show Steps p.tables e below (T5.setTop (mkF m 10 #[] [(.ref b1), (.ref b1)])) _
    refine XS.iconst X5.here hx rfl (hb hby d1_10) ?_
    show Steps p.tables e below (T5.setTop (mkF m 11 #[] [(.int (1 : Int32)), (.ref b1), (.ref b1)])) _
    refine XS.bipush X5.here hx rfl (hb hby d1_11) ?_
    show Steps p.tables e below (T5.setTop (mkF m 13 #[] [(.int (77 : Int32)), (.int (1 : Int32)), (.ref b1), (.ref b1)])) _
    exact k
  obtain ⟨c9, Arc9, qc9, Sc9, Mc9, Hc9, Gc9⟩ := V6l
  have hinc9 : ¬ ((1 : Int32) < 0 ∨ c9.slots.size ≤ ((1 : Int32)).toNatClampNeg) := inb_of Sc9 ⟨by decide, by decide⟩
  obtain ⟨T10, h10, X10, e10, W10, st10⟩ := stB X5 hx hZ e5 Arc9 (j := (1 : Int32)) hinc9 (g := (mkF m 13 #[] [(.int (77 : Int32)), (.int (1 : Int32)), (.ref b1), (.ref b1)])) rfl rfl (hb hby d1_13)
  have V11 := Arv.set Arc9 qc9 Sc9 Mc9 Hc9 Gc9 (fits_nar_byte _) W10 1 rfl (Nat.le_of_ble_eq_true rfl)
  have V11l : Arv Z h10 b1 k1 .byte (8 : Int32) [(.int (nar .byte (65 : Int32))), (.int (nar .byte (77 : Int32))), (.int (0 : Int32)), (.int (0 : Int32)), (.int (0 : Int32)), (.int (0 : Int32)), (.int (0 : Int32)), (.int (0 : Int32))] (.int (0 : Int32)) := V11
  have A12 := A7.wr W10
  have Z13 := Nat.le_trans Z8 (Keep.of_wr W10).1
  have K10 := K5.wr W10 (Or.inr sz_b1)
  have N10 := Fr.snoc X10 N5 g_b1
  refine own_step st10 ?_
  show own_Run p e below s _ _ _ T10 (mkF m 14 #[] [(.ref b1)])
  refine own_step (T' := T10) (g' := (mkF m 18 #[] [(.int (81 : Int32)), (.int (2 : Int32)), (.ref b1), (.ref b1)])) (fun t k => ?_) ?_
  · show Steps p.tables e below (T10.setTop (mkF m 14 #[] [(.ref b1)])) _
    refine XS.dup X10.here hx rfl (hb hby d1_14) rfl rfl ?_
    show Steps p.tables e below (T10.setTop (mkF m 15 #[] [(.ref b1), (.ref b1)])) _
    refine XS.iconst X10.here hx rfl (hb hby d1_15) ?_
    show Steps p.tables e below (T10.setTop (mkF m 16 #[] [(.int (2 : Int32)), (.ref b1), (.ref b1)])) _
    refine XS.bipush X10.here hx rfl (hb hby d1_16) ?_
    show Steps p.tables e below (T10.setTop (mkF m 18 #[] [(.int (81 : Int32)), (.int (2 : Int32)), (.ref b1), (.ref b1)])) _
    exact k
  obtain ⟨c14, Arc14, qc14, Sc14, Mc14, Hc14, Gc14⟩ := V11l
  have hinc14 : ¬ ((2 : Int32) < 0 ∨ c14.slots.size ≤ ((2 : Int32)).toNatClampNeg) := inb_of Sc14 ⟨by decide, by decide⟩
  obtain ⟨T15, h15, X15, e15, W15, st15⟩ := stB X10 hx hZ e10 Arc14 (j := (2 : Int32)) hinc14 (g := (mkF m 18 #[] [(.int (81 : Int32)), (.int (2 : Int32)), (.ref b1), (.ref b1)])) rfl rfl (hb hby d1_18)
  have V16 := Arv.set Arc14 qc14 Sc14 Mc14 Hc14 Gc14 (fits_nar_byte _) W15 2 rfl (Nat.le_of_ble_eq_true rfl)
  have V16l : Arv Z h15 b1 k1 .byte (8 : Int32) [(.int (nar .byte (65 : Int32))), (.int (nar .byte (77 : Int32))), (.int (nar .byte (81 : Int32))), (.int (0 : Int32)), (.int (0 : Int32)), (.int (0 : Int32)), (.int (0 : Int32)), (.int (0 : Int32))] (.int (0 : Int32)) := V16
  have A17 := A12.wr W15
  have Z18 := Nat.le_trans Z13 (Keep.of_wr W15).1
  have K15 := K10.wr W15 (Or.inr sz_b1)
  have N15 := Fr.snoc X15 N10 g_b1
  refine own_step st15 ?_
  show own_Run p e below s _ _ _ T15 (mkF m 19 #[] [(.ref b1)])
  refine own_step (T' := T15) (g' := (mkF m 23 #[] [(.int (80 : Int32)), (.int (3 : Int32)), (.ref b1), (.ref b1)])) (fun t k => ?_) ?_
  · show Steps p.tables e below (T15.setTop (mkF m 19 #[] [(.ref b1)])) _
    refine XS.dup X15.here hx rfl (hb hby d1_19) rfl rfl ?_
    show Steps p.tables e below (T15.setTop (mkF m 20 #[] [(.ref b1), (.ref b1)])) _
    refine XS.iconst X15.here hx rfl (hb hby d1_20) ?_
    show Steps p.tables e below (T15.setTop (mkF m 21 #[] [(.int (3 : Int32)), (.ref b1), (.ref b1)])) _
    refine XS.bipush X15.here hx rfl (hb hby d1_21) ?_
    show Steps p.tables e below (T15.setTop (mkF m 23 #[] [(.int (80 : Int32)), (.int (3 : Int32)), (.ref b1), (.ref b1)])) _
    exact k
  obtain ⟨c19, Arc19, qc19, Sc19, Mc19, Hc19, Gc19⟩ := V16l
  have hinc19 : ¬ ((3 : Int32) < 0 ∨ c19.slots.size ≤ ((3 : Int32)).toNatClampNeg) := inb_of Sc19 ⟨by decide, by decide⟩
  obtain ⟨T20, h20, X20, e20, W20, st20⟩ := stB X15 hx hZ e15 Arc19 (j := (3 : Int32)) hinc19 (g := (mkF m 23 #[] [(.int (80 : Int32)), (.int (3 : Int32)), (.ref b1), (.ref b1)])) rfl rfl (hb hby d1_23)
  have V21 := Arv.set Arc19 qc19 Sc19 Mc19 Hc19 Gc19 (fits_nar_byte _) W20 3 rfl (Nat.le_of_ble_eq_true rfl)
  have V21l : Arv Z h20 b1 k1 .byte (8 : Int32) [(.int (nar .byte (65 : Int32))), (.int (nar .byte (77 : Int32))), (.int (nar .byte (81 : Int32))), (.int (nar .byte (80 : Int32))), (.int (0 : Int32)), (.int (0 : Int32)), (.int (0 : Int32)), (.int (0 : Int32))] (.int (0 : Int32)) := V21
  have A22 := A17.wr W20
  have Z23 := Nat.le_trans Z18 (Keep.of_wr W20).1
  have K20 := K15.wr W20 (Or.inr sz_b1)
  have N20 := Fr.snoc X20 N15 g_b1
  refine own_step st20 ?_
  show own_Run p e below s _ _ _ T20 (mkF m 24 #[] [(.ref b1)])
  refine own_step (T' := T20) (g' := (mkF m 27 #[] [(.int (0 : Int32)), (.int (4 : Int32)), (.ref b1), (.ref b1)])) (fun t k => ?_) ?_
  · show Steps p.tables e below (T20.setTop (mkF m 24 #[] [(.ref b1)])) _
    refine XS.dup X20.here hx rfl (hb hby d1_24) rfl rfl ?_
    show Steps p.tables e below (T20.setTop (mkF m 25 #[] [(.ref b1), (.ref b1)])) _
    refine XS.iconst X20.here hx rfl (hb hby d1_25) ?_
    show Steps p.tables e below (T20.setTop (mkF m 26 #[] [(.int (4 : Int32)), (.ref b1), (.ref b1)])) _
    refine XS.iconst X20.here hx rfl (hb hby d1_26) ?_
    show Steps p.tables e below (T20.setTop (mkF m 27 #[] [(.int (0 : Int32)), (.int (4 : Int32)), (.ref b1), (.ref b1)])) _
    exact k
  obtain ⟨c24, Arc24, qc24, Sc24, Mc24, Hc24, Gc24⟩ := V21l
  have hinc24 : ¬ ((4 : Int32) < 0 ∨ c24.slots.size ≤ ((4 : Int32)).toNatClampNeg) := inb_of Sc24 ⟨by decide, by decide⟩
  obtain ⟨T25, h25, X25, e25, W25, st25⟩ := stB X20 hx hZ e20 Arc24 (j := (4 : Int32)) hinc24 (g := (mkF m 27 #[] [(.int (0 : Int32)), (.int (4 : Int32)), (.ref b1), (.ref b1)])) rfl rfl (hb hby d1_27)
  have V26 := Arv.set Arc24 qc24 Sc24 Mc24 Hc24 Gc24 (fits_nar_byte _) W25 4 rfl (Nat.le_of_ble_eq_true rfl)
  have V26l : Arv Z h25 b1 k1 .byte (8 : Int32) [(.int (nar .byte (65 : Int32))), (.int (nar .byte (77 : Int32))), (.int (nar .byte (81 : Int32))), (.int (nar .byte (80 : Int32))), (.int (nar .byte (0 : Int32))), (.int (0 : Int32)), (.int (0 : Int32)), (.int (0 : Int32))] (.int (0 : Int32)) := V26
  have A27 := A22.wr W25
  have Z28 := Nat.le_trans Z23 (Keep.of_wr W25).1
  have K25 := K20.wr W25 (Or.inr sz_b1)
  have N25 := Fr.snoc X25 N20 g_b1
  refine own_step st25 ?_
  show own_Run p e below s _ _ _ T25 (mkF m 28 #[] [(.ref b1)])
  refine own_step (T' := T25) (g' := (mkF m 31 #[] [(.int (0 : Int32)), (.int (5 : Int32)), (.ref b1), (.ref b1)])) (fun t k => ?_) ?_
  · show Steps p.tables e below (T25.setTop (mkF m 28 #[] [(.ref b1)])) _
    refine XS.dup X25.here hx rfl (hb hby d1_28) rfl rfl ?_
    show Steps p.tables e below (T25.setTop (mkF m 29 #[] [(.ref b1), (.ref b1)])) _
    refine XS.iconst X25.here hx rfl (hb hby d1_29) ?_
    show Steps p.tables e below (T25.setTop (mkF m 30 #[] [(.int (5 : Int32)), (.ref b1), (.ref b1)])) _
    refine XS.iconst X25.here hx rfl (hb hby d1_30) ?_
    show Steps p.tables e below (T25.setTop (mkF m 31 #[] [(.int (0 : Int32)), (.int (5 : Int32)), (.ref b1), (.ref b1)])) _
    exact k
  obtain ⟨c29, Arc29, qc29, Sc29, Mc29, Hc29, Gc29⟩ := V26l
  have hinc29 : ¬ ((5 : Int32) < 0 ∨ c29.slots.size ≤ ((5 : Int32)).toNatClampNeg) := inb_of Sc29 ⟨by decide, by decide⟩
  obtain ⟨T30, h30, X30, e30, W30, st30⟩ := stB X25 hx hZ e25 Arc29 (j := (5 : Int32)) hinc29 (g := (mkF m 31 #[] [(.int (0 : Int32)), (.int (5 : Int32)), (.ref b1), (.ref b1)])) rfl rfl (hb hby d1_31)
  have V31 := Arv.set Arc29 qc29 Sc29 Mc29 Hc29 Gc29 (fits_nar_byte _) W30 5 rfl (Nat.le_of_ble_eq_true rfl)
  have V31l : Arv Z h30 b1 k1 .byte (8 : Int32) [(.int (nar .byte (65 : Int32))), (.int (nar .byte (77 : Int32))), (.int (nar .byte (81 : Int32))), (.int (nar .byte (80 : Int32))), (.int (nar .byte (0 : Int32))), (.int (nar .byte (0 : Int32))), (.int (0 : Int32)), (.int (0 : Int32))] (.int (0 : Int32)) := V31
  have A32 := A27.wr W30
  have Z33 := Nat.le_trans Z28 (Keep.of_wr W30).1
  have K30 := K25.wr W30 (Or.inr sz_b1)
  have N30 := Fr.snoc X30 N25 g_b1
  refine own_step st30 ?_
  show own_Run p e below s _ _ _ T30 (mkF m 32 #[] [(.ref b1)])
  refine own_step (T' := T30) (g' := (mkF m 37 #[] [(.int (9 : Int32)), (.int (6 : Int32)), (.ref b1), (.ref b1)])) (fun t k => ?_) ?_
  · show Steps p.tables e below (T30.setTop (mkF m 32 #[] [(.ref b1)])) _
    refine XS.dup X30.here hx rfl (hb hby d1_32) rfl rfl ?_
    show Steps p.tables e below (T30.setTop (mkF m 33 #[] [(.ref b1), (.ref b1)])) _
    refine XS.bipush X30.here hx rfl (hb hby d1_33) ?_
    show Steps p.tables e below (T30.setTop (mkF m 35 #[] [(.int (6 : Int32)), (.ref b1), (.ref b1)])) _
    refine XS.bipush X30.here hx rfl (hb hby d1_35) ?_
    show Steps p.tables e below (T30.setTop (mkF m 37 #[] [(.int (9 : Int32)), (.int (6 : Int32)), (.ref b1), (.ref b1)])) _
    exact k
  obtain ⟨c34, Arc34, qc34, Sc34, Mc34, Hc34, Gc34⟩ := V31l
  have hinc34 : ¬ ((6 : Int32) < 0 ∨ c34.slots.size ≤ ((6 : Int32)).toNatClampNeg) := inb_of Sc34 ⟨by decide, by decide⟩
  obtain ⟨T35, h35, X35, e35, W35, st35⟩ := stB X30 hx hZ e30 Arc34 (j := (6 : Int32)) hinc34 (g := (mkF m 37 #[] [(.int (9 : Int32)), (.int (6 : Int32)), (.ref b1), (.ref b1)])) rfl rfl (hb hby d1_37)
  have V36 := Arv.set Arc34 qc34 Sc34 Mc34 Hc34 Gc34 (fits_nar_byte _) W35 6 rfl (Nat.le_of_ble_eq_true rfl)
  have V36l : Arv Z h35 b1 k1 .byte (8 : Int32) [(.int (nar .byte (65 : Int32))), (.int (nar .byte (77 : Int32))), (.int (nar .byte (81 : Int32))), (.int (nar .byte (80 : Int32))), (.int (nar .byte (0 : Int32))), (.int (nar .byte (0 : Int32))), (.int (nar .byte (9 : Int32))), (.int (0 : Int32))] (.int (0 : Int32)) := V36
  have A37 := A32.wr W35
  have Z38 := Nat.le_trans Z33 (Keep.of_wr W35).1
  have K35 := K30.wr W35 (Or.inr sz_b1)
  have N35 := Fr.snoc X35 N30 g_b1
  refine own_step st35 ?_
  show own_Run p e below s _ _ _ T35 (mkF m 38 #[] [(.ref b1)])
  refine own_step (T' := T35) (g' := (mkF m 42 #[] [(.int (1 : Int32)), (.int (7 : Int32)), (.ref b1), (.ref b1)])) (fun t k => ?_) ?_
  · show Steps p.tables e below (T35.setTop (mkF m 38 #[] [(.ref b1)])) _
    refine XS.dup X35.here hx rfl (hb hby d1_38) rfl rfl ?_
    show Steps p.tables e below (T35.setTop (mkF m 39 #[] [(.ref b1), (.ref b1)])) _
    refine XS.bipush X35.here hx rfl (hb hby d1_39) ?_
    show Steps p.tables e below (T35.setTop (mkF m 41 #[] [(.int (7 : Int32)), (.ref b1), (.ref b1)])) _
    refine XS.iconst X35.here hx rfl (hb hby d1_41) ?_
    show Steps p.tables e below (T35.setTop (mkF m 42 #[] [(.int (1 : Int32)), (.int (7 : Int32)), (.ref b1), (.ref b1)])) _
    exact k
  obtain ⟨c39, Arc39, qc39, Sc39, Mc39, Hc39, Gc39⟩ := V36l
  have hinc39 : ¬ ((7 : Int32) < 0 ∨ c39.slots.size ≤ ((7 : Int32)).toNatClampNeg) := inb_of Sc39 ⟨by decide, by decide⟩
  obtain ⟨T40, h40, X40, e40, W40, st40⟩ := stB X35 hx hZ e35 Arc39 (j := (7 : Int32)) hinc39 (g := (mkF m 42 #[] [(.int (1 : Int32)), (.int (7 : Int32)), (.ref b1), (.ref b1)])) rfl rfl (hb hby d1_42)
  have V41 := Arv.set Arc39 qc39 Sc39 Mc39 Hc39 Gc39 (fits_nar_byte _) W40 7 rfl (Nat.le_of_ble_eq_true rfl)
  have V41l : Arv Z h40 b1 k1 .byte (8 : Int32) [(.int (nar .byte (65 : Int32))), (.int (nar .byte (77 : Int32))), (.int (nar .byte (81 : Int32))), (.int (nar .byte (80 : Int32))), (.int (nar .byte (0 : Int32))), (.int (nar .byte (0 : Int32))), (.int (nar .byte (9 : Int32))), (.int (nar .byte (1 : Int32)))] (.int (0 : Int32)) := V41
  have A42 := A37.wr W40
  have Z43 := Nat.le_trans Z38 (Keep.of_wr W40).1
  have K40 := K35.wr W40 (Or.inr sz_b1)
  have N40 := Fr.snoc X40 N35 g_b1
  refine own_step st40 ?_
  show own_Run p e below s _ _ _ T40 (mkF m 43 #[] [(.ref b1)])
  refine own_retA X40 hx Bd.returns rfl rfl (hb hby d1_43) (BodyLoose.notSynchronized Bd) (by decide) (by decide) ?_
  rw [show T40.heap = h40 from e40]
  exact ⟨b1, k1, rfl, N40, g1, K40, V41l⟩
theorem d2_0 : decode method_2_code 0 = .ok (.aload_n 0, 1) := by decide +kernel
theorem d2_1 : decode method_2_code 1 = .ok (.ifnull 10, 3) := by decide +kernel
theorem d2_4 : decode method_2_code 4 = .ok (.aload_n 0, 1) := by decide +kernel
theorem d2_5 : decode method_2_code 5 = .ok (.arraylength, 1) := by decide +kernel
theorem d2_6 : decode method_2_code 6 = .ok (.bipush 8, 2) := by decide +kernel
theorem d2_8 : decode method_2_code 8 = .ok (.if_icmp .eq 5, 3) := by decide +kernel
theorem d2_13 : decode method_2_code 13 = .ok (.aload_n 0, 1) := by decide +kernel
theorem d2_14 : decode method_2_code 14 = .ok (.iconst 0, 1) := by decide +kernel
theorem d2_15 : decode method_2_code 15 = .ok (.baload, 1) := by decide +kernel
theorem d2_16 : decode method_2_code 16 = .ok (.bipush 65, 2) := by decide +kernel
theorem d2_18 : decode method_2_code 18 = .ok (.if_icmp .ne 60, 3) := by decide +kernel
theorem d2_21 : decode method_2_code 21 = .ok (.aload_n 0, 1) := by decide +kernel
theorem d2_22 : decode method_2_code 22 = .ok (.iconst 1, 1) := by decide +kernel
theorem d2_23 : decode method_2_code 23 = .ok (.baload, 1) := by decide +kernel
theorem d2_24 : decode method_2_code 24 = .ok (.bipush 77, 2) := by decide +kernel
theorem d2_26 : decode method_2_code 26 = .ok (.if_icmp .ne 52, 3) := by decide +kernel
theorem d2_29 : decode method_2_code 29 = .ok (.aload_n 0, 1) := by decide +kernel
theorem d2_30 : decode method_2_code 30 = .ok (.iconst 2, 1) := by decide +kernel
theorem d2_31 : decode method_2_code 31 = .ok (.baload, 1) := by decide +kernel
theorem d2_32 : decode method_2_code 32 = .ok (.bipush 81, 2) := by decide +kernel
theorem d2_34 : decode method_2_code 34 = .ok (.if_icmp .ne 44, 3) := by decide +kernel
theorem d2_37 : decode method_2_code 37 = .ok (.aload_n 0, 1) := by decide +kernel
theorem d2_38 : decode method_2_code 38 = .ok (.iconst 3, 1) := by decide +kernel
theorem d2_39 : decode method_2_code 39 = .ok (.baload, 1) := by decide +kernel
theorem d2_40 : decode method_2_code 40 = .ok (.bipush 80, 2) := by decide +kernel
theorem d2_42 : decode method_2_code 42 = .ok (.if_icmp .ne 36, 3) := by decide +kernel
theorem d2_45 : decode method_2_code 45 = .ok (.aload_n 0, 1) := by decide +kernel
theorem d2_46 : decode method_2_code 46 = .ok (.iconst 4, 1) := by decide +kernel
theorem d2_47 : decode method_2_code 47 = .ok (.baload, 1) := by decide +kernel
theorem d2_48 : decode method_2_code 48 = .ok (.ifCond .ne 30, 3) := by decide +kernel
theorem d2_51 : decode method_2_code 51 = .ok (.aload_n 0, 1) := by decide +kernel
theorem d2_52 : decode method_2_code 52 = .ok (.iconst 5, 1) := by decide +kernel
theorem d2_53 : decode method_2_code 53 = .ok (.baload, 1) := by decide +kernel
theorem d2_54 : decode method_2_code 54 = .ok (.ifCond .ne 24, 3) := by decide +kernel
theorem d2_57 : decode method_2_code 57 = .ok (.aload_n 0, 1) := by decide +kernel
theorem d2_58 : decode method_2_code 58 = .ok (.bipush 6, 2) := by decide +kernel
theorem d2_60 : decode method_2_code 60 = .ok (.baload, 1) := by decide +kernel
theorem d2_61 : decode method_2_code 61 = .ok (.bipush 9, 2) := by decide +kernel
theorem d2_63 : decode method_2_code 63 = .ok (.if_icmp .ne 15, 3) := by decide +kernel
theorem d2_66 : decode method_2_code 66 = .ok (.aload_n 0, 1) := by decide +kernel
theorem d2_67 : decode method_2_code 67 = .ok (.bipush 7, 2) := by decide +kernel
theorem d2_69 : decode method_2_code 69 = .ok (.baload, 1) := by decide +kernel
theorem d2_70 : decode method_2_code 70 = .ok (.iconst 1, 1) := by decide +kernel
theorem d2_71 : decode method_2_code 71 = .ok (.if_icmp .ne 7, 3) := by decide +kernel
theorem d2_74 : decode method_2_code 74 = .ok (.iconst 1, 1) := by decide +kernel
theorem d2_75 : decode method_2_code 75 = .ok (.goto 4, 3) := by decide +kernel
theorem d2_78 : decode method_2_code 78 = .ok (.iconst 0, 1) := by decide +kernel
theorem d2_79 : decode method_2_code 79 = .ok (.ireturn, 1) := by decide +kernel
theorem pn_rm2 : plainName "com/example/dequeue/dequeue/FrameProtocolHeaderPinLaw" = true := by first | (simp [plainName, overriddenIn]; done) | decide +kernel
theorem ef_rm2 (m : MethodId) (o0 : Addr) : entryFrame m #[(.ref o0)] 1 = mkF m 0 #[.val (.ref o0)] [] := by first | (simp [entryFrame, mkF, argsToLocals, Value.category, maxLocals]; done) | rfl
def rm2_Q (Z : State) (o0 : Addr) (k0 : ClassId) (h0 : Heap) (n0 : Nat) (v : Option Value) (h : Heap) (L : List Loc) : Prop := v = some (.int (1 : Int32)) ∧ Fr n0 L ∧ h = h0
set_option maxRecDepth 65536 in
set_option maxHeartbeats 40000000 in
theorem rm2 (l : Launch) (Z : State) (a0 : Array Value) (hw : ∀ d ∈ tables_1, d.before a0 Z = true) (ws : List Jvm.Cond) (o0 : Addr) (k0 : ClassId) (h0 : Heap) (n0 : Nat) (Z0 : n0 ≤ h0.size) (V0 : Arv Z h0 o0 k0 .byte (8 : Int32) [(.int (65 : Int32)), (.int (77 : Int32)), (.int (81 : Int32)), (.int (80 : Int32)), (.int (0 : Int32)), (.int (0 : Int32)), (.int (9 : Int32)), (.int (1 : Int32))] (.int (0 : Int32))) :
    MetFree l (⟨"com/example/dequeue/dequeue/FrameProtocolHeaderPinLaw", "isHeader", "([B)Z"⟩ : MethodName) (head1 (Jvm.Cond.code (⟨"com/example/dequeue/dequeue/FrameProtocolHeaderPinLaw", "isHeader", "([B)Z"⟩ : MethodName) method_2_code 1 (some .boolean) :: ws) ({ frames := 0, cells := 0, slots := 0, locals := 0 } : Room)) (fun a U => a = #[(.ref o0)] ∧ Z.Warmed39 U.vm ∧ U.heap = h0) (fun _ _ _ _ _ => True) (fun _ U o U' => ∃ v L, o = .returned v ∧ rm2_Q Z o0 k0 h0 n0 v U'.heap L ∧ FrameEnd U o U' L ({ frames := 0, cells := 0, slots := 0, locals := 0 } : Room).cells ({ frames := 0, cells := 0, slots := 0, locals := 0 } : Room).slots) := by
  refine MetFree.of_bodySF (plainFor_of_name pn_rm2) hisR ?_
  intro p e s m args below meth c s₁ Bd hml0 hP hK
  obtain ⟨rfl, hZ, hh⟩ := hP
  have hx := Bd.exec
  have hby := Bd.bytes
  have hml : c.maxLocals = 1 := hml0
  have hown : s.vm.findClass "com/example/dequeue/dequeue/FrameProtocolHeaderPinLaw" = some m.cls := findClass_of_methodNamed Bd.named
  have hnm := (name_of_methodNamed Bd.named Bd.method).1
  have X0 : Stand p l e ({ frames := 0, cells := 0, slots := 0, locals := 0 } : Room) s m #[(.ref o0)] below meth c s₁ [] 0 0 := Stand.of_body Bd
  have e0 : s₁.heap = h0 := by rw [← hh, Bd.state]; rfl
  have N0 := Fr.nil n0
  refine own_enter (QQ := rm2_Q Z o0 k0 h0 n0) (ef_rm2 m o0) ?_
  show own_Run p e below s _ _ _ s₁ (mkF m 0 #[.val (.ref o0)] [])
  refine own_step (T' := s₁) (g' := (mkF m 5 #[.val (.ref o0)] [(.ref o0)])) (fun t k => ?_) ?_
  · show Steps p.tables e below (s₁.setTop (mkF m 0 #[.val (.ref o0)] [])) _
    refine XS.aloadN X0.here hx rfl (hb hby d2_0) rfl rfl ?_
    show Steps p.tables e below (s₁.setTop (mkF m 1 #[.val (.ref o0)] [(.ref o0)])) _
    refine XS.ifnullNo X0.here hx rfl (hb hby d2_1) rfl ?_
    show Steps p.tables e below (s₁.setTop (mkF m 4 #[.val (.ref o0)] [])) _
    refine XS.aloadN X0.here hx rfl (hb hby d2_4) rfl rfl ?_
    show Steps p.tables e below (s₁.setTop (mkF m 5 #[.val (.ref o0)] [(.ref o0)])) _
    exact k
  obtain ⟨c1, Arc1, -, Sc1, Mc1, -, -⟩ := id V0
  refine own_step (T' := s₁) (g' := (mkF m 15 #[.val (.ref o0)] [(.int (0 : Int32)), (.ref o0)])) (fun t k => ?_) ?_
  · show Steps p.tables e below (s₁.setTop (mkF m 5 #[.val (.ref o0)] [(.ref o0)])) _
    refine X0.arraylength hx (by rw [e0]; exact Arc1.1) (State.isArrayOf_alike hZ.alike Arc1.2.1) (g := (mkF m 5 #[.val (.ref o0)] [(.ref o0)])) rfl rfl (hb hby d2_5) _ ?_
    rw [len_of Sc1 Mc1]
    show Steps p.tables e below (s₁.setTop (mkF m 6 #[.val (.ref o0)] [(.int (8 : Int32))])) _
    refine XS.bipush X0.here hx rfl (hb hby d2_6) ?_
    show Steps p.tables e below (s₁.setTop (mkF m 8 #[.val (.ref o0)] [(.int (8 : Int32)), (.int (8 : Int32))])) _
    refine XS.icmpYes X0.here hx rfl (pc0 := 8) (pc' := 13) rfl (hb hby d2_8) rfl (teq rfl).1 (by decide) (by decide) ?_
    show Steps p.tables e below (s₁.setTop (mkF m 13 #[.val (.ref o0)] [])) _
    refine XS.aloadN X0.here hx rfl (hb hby d2_13) rfl rfl ?_
    show Steps p.tables e below (s₁.setTop (mkF m 14 #[.val (.ref o0)] [(.ref o0)])) _
    refine XS.iconst X0.here hx rfl (hb hby d2_14) ?_
    show Steps p.tables e below (s₁.setTop (mkF m 15 #[.val (.ref o0)] [(.int (0 : Int32)), (.ref o0)])) _
    exact k
  obtain ⟨c3, Arc3, qc3, Sc3, Mc3, Hc3, Gc3⟩ := id V0
  have hinc3 : ¬ ((0 : Int32) < 0 ∨ c3.slots.size ≤ ((0 : Int32)).toNatClampNeg) := inb_of Sc3 ⟨by decide, by decide⟩
  have hatc3 : c3.slots[((0 : Int32)).toNatClampNeg]? = some (.int (65 : Int32)) := Hc3.at hinc3 rfl
  refine own_step (T' := s₁) (g' := (mkF m 23 #[.val (.ref o0)] [(.int (1 : Int32)), (.ref o0)])) (fun t k => ?_) ?_
  · show Steps p.tables e below (s₁.setTop (mkF m 15 #[.val (.ref o0)] [(.int (0 : Int32)), (.ref o0)])) _
    refine X0.baloadBytes hx (j := (0 : Int32)) (v := (.int (65 : Int32))) (by rw [e0]; exact Arc3.1) (State.isArrayOf_alike hZ.alike Arc3.2.1) Arc3.2.2 hinc3 hatc3 (g := (mkF m 15 #[.val (.ref o0)] [(.int (0 : Int32)), (.ref o0)])) rfl rfl (hb hby d2_15) _ ?_
    show Steps p.tables e below (s₁.setTop (mkF m 16 #[.val (.ref o0)] [(.int (65 : Int32))])) _
    refine XS.bipush X0.here hx rfl (hb hby d2_16) ?_
    show Steps p.tables e below (s₁.setTop (mkF m 18 #[.val (.ref o0)] [(.int (65 : Int32)), (.int (65 : Int32))])) _
    refine XS.icmpNo X0.here hx rfl (hb hby d2_18) rfl (teq rfl).2 ?_
    show Steps p.tables e below (s₁.setTop (mkF m 21 #[.val (.ref o0)] [])) _
    refine XS.aloadN X0.here hx rfl (hb hby d2_21) rfl rfl ?_
    show Steps p.tables e below (s₁.setTop (mkF m 22 #[.val (.ref o0)] [(.ref o0)])) _
    refine XS.iconst X0.here hx rfl (hb hby d2_22) ?_
    show Steps p.tables e below (s₁.setTop (mkF m 23 #[.val (.ref o0)] [(.int (1 : Int32)), (.ref o0)])) _
    exact k
  obtain ⟨c5, Arc5, qc5, Sc5, Mc5, Hc5, Gc5⟩ := id V0
  have hinc5 : ¬ ((1 : Int32) < 0 ∨ c5.slots.size ≤ ((1 : Int32)).toNatClampNeg) := inb_of Sc5 ⟨by decide, by decide⟩
  have hatc5 : c5.slots[((1 : Int32)).toNatClampNeg]? = some (.int (77 : Int32)) := Hc5.at hinc5 rfl
  refine own_step (T' := s₁) (g' := (mkF m 31 #[.val (.ref o0)] [(.int (2 : Int32)), (.ref o0)])) (fun t k => ?_) ?_
  · show Steps p.tables e below (s₁.setTop (mkF m 23 #[.val (.ref o0)] [(.int (1 : Int32)), (.ref o0)])) _
    refine X0.baloadBytes hx (j := (1 : Int32)) (v := (.int (77 : Int32))) (by rw [e0]; exact Arc5.1) (State.isArrayOf_alike hZ.alike Arc5.2.1) Arc5.2.2 hinc5 hatc5 (g := (mkF m 23 #[.val (.ref o0)] [(.int (1 : Int32)), (.ref o0)])) rfl rfl (hb hby d2_23) _ ?_
    show Steps p.tables e below (s₁.setTop (mkF m 24 #[.val (.ref o0)] [(.int (77 : Int32))])) _
    refine XS.bipush X0.here hx rfl (hb hby d2_24) ?_
    show Steps p.tables e below (s₁.setTop (mkF m 26 #[.val (.ref o0)] [(.int (77 : Int32)), (.int (77 : Int32))])) _
    refine XS.icmpNo X0.here hx rfl (hb hby d2_26) rfl (teq rfl).2 ?_
    show Steps p.tables e below (s₁.setTop (mkF m 29 #[.val (.ref o0)] [])) _
    refine XS.aloadN X0.here hx rfl (hb hby d2_29) rfl rfl ?_
    show Steps p.tables e below (s₁.setTop (mkF m 30 #[.val (.ref o0)] [(.ref o0)])) _
    refine XS.iconst X0.here hx rfl (hb hby d2_30) ?_
    show Steps p.tables e below (s₁.setTop (mkF m 31 #[.val (.ref o0)] [(.int (2 : Int32)), (.ref o0)])) _
    exact k
  obtain ⟨c7, Arc7, qc7, Sc7, Mc7, Hc7, Gc7⟩ := id V0
  have hinc7 : ¬ ((2 : Int32) < 0 ∨ c7.slots.size ≤ ((2 : Int32)).toNatClampNeg) := inb_of Sc7 ⟨by decide, by decide⟩
  have hatc7 : c7.slots[((2 : Int32)).toNatClampNeg]? = some (.int (81 : Int32)) := Hc7.at hinc7 rfl
  refine own_step (T' := s₁) (g' := (mkF m 39 #[.val (.ref o0)] [(.int (3 : Int32)), (.ref o0)])) (fun t k => ?_) ?_
  · show Steps p.tables e below (s₁.setTop (mkF m 31 #[.val (.ref o0)] [(.int (2 : Int32)), (.ref o0)])) _
    refine X0.baloadBytes hx (j := (2 : Int32)) (v := (.int (81 : Int32))) (by rw [e0]; exact Arc7.1) (State.isArrayOf_alike hZ.alike Arc7.2.1) Arc7.2.2 hinc7 hatc7 (g := (mkF m 31 #[.val (.ref o0)] [(.int (2 : Int32)), (.ref o0)])) rfl rfl (hb hby d2_31) _ ?_
    show Steps p.tables e below (s₁.setTop (mkF m 32 #[.val (.ref o0)] [(.int (81 : Int32))])) _
    refine XS.bipush X0.here hx rfl (hb hby d2_32) ?_
    show Steps p.tables e below (s₁.setTop (mkF m 34 #[.val (.ref o0)] [(.int (81 : Int32)), (.int (81 : Int32))])) _
    refine XS.icmpNo X0.here hx rfl (hb hby d2_34) rfl (teq rfl).2 ?_
    show Steps p.tables e below (s₁.setTop (mkF m 37 #[.val (.ref o0)] [])) _
    refine XS.aloadN X0.here hx rfl (hb hby d2_37) rfl rfl ?_
    show Steps p.tables e below (s₁.setTop (mkF m 38 #[.val (.ref o0)] [(.ref o0)])) _
    refine XS.iconst X0.here hx rfl (hb hby d2_38) ?_
    show Steps p.tables e below (s₁.setTop (mkF m 39 #[.val (.ref o0)] [(.int (3 : Int32)), (.ref o0)])) _
    exact k
  obtain ⟨c9, Arc9, qc9, Sc9, Mc9, Hc9, Gc9⟩ := id V0
  have hinc9 : ¬ ((3 : Int32) < 0 ∨ c9.slots.size ≤ ((3 : Int32)).toNatClampNeg) := inb_of Sc9 ⟨by decide, by decide⟩
  have hatc9 : c9.slots[((3 : Int32)).toNatClampNeg]? = some (.int (80 : Int32)) := Hc9.at hinc9 rfl
  refine own_step (T' := s₁) (g' := (mkF m 47 #[.val (.ref o0)] [(.int (4 : Int32)), (.ref o0)])) (fun t k => ?_) ?_
  · show Steps p.tables e below (s₁.setTop (mkF m 39 #[.val (.ref o0)] [(.int (3 : Int32)), (.ref o0)])) _
    refine X0.baloadBytes hx (j := (3 : Int32)) (v := (.int (80 : Int32))) (by rw [e0]; exact Arc9.1) (State.isArrayOf_alike hZ.alike Arc9.2.1) Arc9.2.2 hinc9 hatc9 (g := (mkF m 39 #[.val (.ref o0)] [(.int (3 : Int32)), (.ref o0)])) rfl rfl (hb hby d2_39) _ ?_
    show Steps p.tables e below (s₁.setTop (mkF m 40 #[.val (.ref o0)] [(.int (80 : Int32))])) _
    refine XS.bipush X0.here hx rfl (hb hby d2_40) ?_
    show Steps p.tables e below (s₁.setTop (mkF m 42 #[.val (.ref o0)] [(.int (80 : Int32)), (.int (80 : Int32))])) _
    refine XS.icmpNo X0.here hx rfl (hb hby d2_42) rfl (teq rfl).2 ?_
    show Steps p.tables e below (s₁.setTop (mkF m 45 #[.val (.ref o0)] [])) _
    refine XS.aloadN X0.here hx rfl (hb hby d2_45) rfl rfl ?_
    show Steps p.tables e below (s₁.setTop (mkF m 46 #[.val (.ref o0)] [(.ref o0)])) _
    refine XS.iconst X0.here hx rfl (hb hby d2_46) ?_
    show Steps p.tables e below (s₁.setTop (mkF m 47 #[.val (.ref o0)] [(.int (4 : Int32)), (.ref o0)])) _
    exact k
  obtain ⟨c11, Arc11, qc11, Sc11, Mc11, Hc11, Gc11⟩ := id V0
  have hinc11 : ¬ ((4 : Int32) < 0 ∨ c11.slots.size ≤ ((4 : Int32)).toNatClampNeg) := inb_of Sc11 ⟨by decide, by decide⟩
  have hatc11 : c11.slots[((4 : Int32)).toNatClampNeg]? = some (.int (0 : Int32)) := Hc11.at hinc11 rfl
  refine own_step (T' := s₁) (g' := (mkF m 53 #[.val (.ref o0)] [(.int (5 : Int32)), (.ref o0)])) (fun t k => ?_) ?_
  · show Steps p.tables e below (s₁.setTop (mkF m 47 #[.val (.ref o0)] [(.int (4 : Int32)), (.ref o0)])) _
    refine X0.baloadBytes hx (j := (4 : Int32)) (v := (.int (0 : Int32))) (by rw [e0]; exact Arc11.1) (State.isArrayOf_alike hZ.alike Arc11.2.1) Arc11.2.2 hinc11 hatc11 (g := (mkF m 47 #[.val (.ref o0)] [(.int (4 : Int32)), (.ref o0)])) rfl rfl (hb hby d2_47) _ ?_
    show Steps p.tables e below (s₁.setTop (mkF m 48 #[.val (.ref o0)] [(.int (0 : Int32))])) _
    refine XS.ifNo X0.here hx rfl (hb hby d2_48) rfl ((if0 _ _).trans (teq rfl).2) ?_
    show Steps p.tables e below (s₁.setTop (mkF m 51 #[.val (.ref o0)] [])) _
    refine XS.aloadN X0.here hx rfl (hb hby d2_51) rfl rfl ?_
    show Steps p.tables e below (s₁.setTop (mkF m 52 #[.val (.ref o0)] [(.ref o0)])) _
    refine XS.iconst X0.here hx rfl (hb hby d2_52) ?_
    show Steps p.tables e below (s₁.setTop (mkF m 53 #[.val (.ref o0)] [(.int (5 : Int32)), (.ref o0)])) _
    exact k
  obtain ⟨c13, Arc13, qc13, Sc13, Mc13, Hc13, Gc13⟩ := id V0
  have hinc13 : ¬ ((5 : Int32) < 0 ∨ c13.slots.size ≤ ((5 : Int32)).toNatClampNeg) := inb_of Sc13 ⟨by decide, by decide⟩
  have hatc13 : c13.slots[((5 : Int32)).toNatClampNeg]? = some (.int (0 : Int32)) := Hc13.at hinc13 rfl
  refine own_step (T' := s₁) (g' := (mkF m 60 #[.val (.ref o0)] [(.int (6 : Int32)), (.ref o0)])) (fun t k => ?_) ?_
  · show Steps p.tables e below (s₁.setTop (mkF m 53 #[.val (.ref o0)] [(.int (5 : Int32)), (.ref o0)])) _
    refine X0.baloadBytes hx (j := (5 : Int32)) (v := (.int (0 : Int32))) (by rw [e0]; exact Arc13.1) (State.isArrayOf_alike hZ.alike Arc13.2.1) Arc13.2.2 hinc13 hatc13 (g := (mkF m 53 #[.val (.ref o0)] [(.int (5 : Int32)), (.ref o0)])) rfl rfl (hb hby d2_53) _ ?_
    show Steps p.tables e below (s₁.setTop (mkF m 54 #[.val (.ref o0)] [(.int (0 : Int32))])) _
    refine XS.ifNo X0.here hx rfl (hb hby d2_54) rfl ((if0 _ _).trans (teq rfl).2) ?_
    show Steps p.tables e below (s₁.setTop (mkF m 57 #[.val (.ref o0)] [])) _
    refine XS.aloadN X0.here hx rfl (hb hby d2_57) rfl rfl ?_
    show Steps p.tables e below (s₁.setTop (mkF m 58 #[.val (.ref o0)] [(.ref o0)])) _
    refine XS.bipush X0.here hx rfl (hb hby d2_58) ?_
    show Steps p.tables e below (s₁.setTop (mkF m 60 #[.val (.ref o0)] [(.int (6 : Int32)), (.ref o0)])) _
    exact k
  obtain ⟨c15, Arc15, qc15, Sc15, Mc15, Hc15, Gc15⟩ := id V0
  have hinc15 : ¬ ((6 : Int32) < 0 ∨ c15.slots.size ≤ ((6 : Int32)).toNatClampNeg) := inb_of Sc15 ⟨by decide, by decide⟩
  have hatc15 : c15.slots[((6 : Int32)).toNatClampNeg]? = some (.int (9 : Int32)) := Hc15.at hinc15 rfl
  refine own_step (T' := s₁) (g' := (mkF m 69 #[.val (.ref o0)] [(.int (7 : Int32)), (.ref o0)])) (fun t k => ?_) ?_
  · show Steps p.tables e below (s₁.setTop (mkF m 60 #[.val (.ref o0)] [(.int (6 : Int32)), (.ref o0)])) _
    refine X0.baloadBytes hx (j := (6 : Int32)) (v := (.int (9 : Int32))) (by rw [e0]; exact Arc15.1) (State.isArrayOf_alike hZ.alike Arc15.2.1) Arc15.2.2 hinc15 hatc15 (g := (mkF m 60 #[.val (.ref o0)] [(.int (6 : Int32)), (.ref o0)])) rfl rfl (hb hby d2_60) _ ?_
    show Steps p.tables e below (s₁.setTop (mkF m 61 #[.val (.ref o0)] [(.int (9 : Int32))])) _
    refine XS.bipush X0.here hx rfl (hb hby d2_61) ?_
    show Steps p.tables e below (s₁.setTop (mkF m 63 #[.val (.ref o0)] [(.int (9 : Int32)), (.int (9 : Int32))])) _
    refine XS.icmpNo X0.here hx rfl (hb hby d2_63) rfl (teq rfl).2 ?_
    show Steps p.tables e below (s₁.setTop (mkF m 66 #[.val (.ref o0)] [])) _
    refine XS.aloadN X0.here hx rfl (hb hby d2_66) rfl rfl ?_
    show Steps p.tables e below (s₁.setTop (mkF m 67 #[.val (.ref o0)] [(.ref o0)])) _
    refine XS.bipush X0.here hx rfl (hb hby d2_67) ?_
    show Steps p.tables e below (s₁.setTop (mkF m 69 #[.val (.ref o0)] [(.int (7 : Int32)), (.ref o0)])) _
    exact k
  obtain ⟨c17, Arc17, qc17, Sc17, Mc17, Hc17, Gc17⟩ := id V0
  have hinc17 : ¬ ((7 : Int32) < 0 ∨ c17.slots.size ≤ ((7 : Int32)).toNatClampNeg) := inb_of Sc17 ⟨by decide, by decide⟩
  have hatc17 : c17.slots[((7 : Int32)).toNatClampNeg]? = some (.int (1 : Int32)) := Hc17.at hinc17 rfl
  refine own_step (T' := s₁) (g' := (mkF m 79 #[.val (.ref o0)] [(.int (own_pick ((1 : Int32) = (1 : Int32)) (1 : Int32) (0 : Int32)))])) (fun t k => ?_) ?_
  · show Steps p.tables e below (s₁.setTop (mkF m 69 #[.val (.ref o0)] [(.int (7 : Int32)), (.ref o0)])) _
    refine X0.baloadBytes hx (j := (7 : Int32)) (v := (.int (1 : Int32))) (by rw [e0]; exact Arc17.1) (State.isArrayOf_alike hZ.alike Arc17.2.1) Arc17.2.2 hinc17 hatc17 (g := (mkF m 69 #[.val (.ref o0)] [(.int (7 : Int32)), (.ref o0)])) rfl rfl (hb hby d2_69) _ ?_
    show Steps p.tables e below (s₁.setTop (mkF m 70 #[.val (.ref o0)] [(.int (1 : Int32))])) _
    refine XS.iconst X0.here hx rfl (hb hby d2_70) ?_
    show Steps p.tables e below (s₁.setTop (mkF m 71 #[.val (.ref o0)] [(.int (1 : Int32)), (.int (1 : Int32))])) _
    refine own_mat_i_ne X0.here hx rfl (hb hby d2_71) (hb hby d2_74) (hb hby d2_75) (hb hby d2_78) ?_
    show Steps p.tables e below (s₁.setTop (mkF m 79 #[.val (.ref o0)] [(.int (own_pick ((1 : Int32) = (1 : Int32)) (1 : Int32) (0 : Int32)))])) _
    exact k
  refine own_retN X0 hx (t := .boolean) Bd.returns (by simp) (hb hby d2_79) (BodyLoose.notSynchronized Bd) (by decide) (by decide) ?_
  rw [show s₁.heap = h0 from e0]
  exact ⟨rfl, N0, rfl⟩
theorem pn_rm0 : plainName "com/example/dequeue/dequeue/FrameProtocolHeaderPinLaw" = true := by first | (simp [plainName, overriddenIn]; done) | decide +kernel
theorem ef_rm0 (m : MethodId) (p0 : Int32) (p1 : Int32) : entryFrame m #[(.int p0), (.int p1)] maxLocals = mkF m 0 #[.val (.int p0), .val (.int p1), .unset, .unset] [] := by first | (simp [entryFrame, mkF, argsToLocals, Value.category, maxLocals]; done) | rfl
def rm0_Q (Z : State) (p0 : Int32) (p1 : Int32)  (h0 : Heap) (n0 : Nat) (v : Option Value) (h : Heap) (L : List Loc) : Prop := v = some (.int (1 : Int32)) ∧ Fr n0 L
set_option maxRecDepth 65536 in
set_option maxHeartbeats 40000000 in
theorem rm0 (l : Launch) (Z : State) (a0 : Array Value) (hw : ∀ d ∈ tables_1, d.before a0 Z = true) (ws : List Jvm.Cond) (p0 : Int32) (p1 : Int32)  (h0 : Heap) (n0 : Nat) (Z0 : n0 ≤ h0.size)  :
    MetFree l x (head1 (Jvm.Cond.code x code maxLocals ret :: ws) room_1) (fun a U => a = #[(.int p0), (.int p1)] ∧ Z.Warmed39 U.vm ∧ U.heap = h0) (fun _ _ _ _ _ => True) (fun _ U o U' => ∃ v L, o = .returned v ∧ rm0_Q Z p0 p1 h0 n0 v U'.heap L ∧ FrameEnd U o U' L room_1.cells room_1.slots) := by
  refine MetFree.of_bodySF (plainFor_of_name pn_rm0) hisR ?_
  intro p e s m args below meth c s₁ Bd hml0 hP hK
  obtain ⟨rfl, hZ, hh⟩ := hP
  have hx := Bd.exec
  have hby := Bd.bytes
  have hml : c.maxLocals = 4 := hml0
  have hown : s.vm.findClass "com/example/dequeue/dequeue/FrameProtocolHeaderPinLaw" = some m.cls := findClass_of_methodNamed Bd.named
  have hnm := (name_of_methodNamed Bd.named Bd.method).1
  have X0 : Stand p l e room_1 s m #[(.int p0), (.int p1)] below meth c s₁ [] 0 0 := Stand.of_body Bd
  have e0 : s₁.heap = h0 := by rw [← hh, Bd.state]; rfl
  have N0 := Fr.nil n0
  refine own_enter (QQ := rm0_Q Z p0 p1 h0 n0) (ef_rm0 m p0 p1) ?_
  show own_Run p e below s _ _ _ s₁ (mkF m 0 #[.val (.int p0), .val (.int p1), .unset, .unset] [])
  obtain ⟨_, _, ⟨T1, L1, k1, n1⟩, -, X1, ⟨Lc1, hQ1, l1, y1, z1⟩, st1⟩ := Jvm.LawKit.callS X0 hx (y := (⟨"com/example/dequeue/dequeue/Frame", "protocolHeader", "()[B"⟩ : MethodName)) hown (mvT hZ (hw _ (List.mem_of_getElem? (i := 0) rfl))) (mvT hZ (hw _ (List.mem_of_getElem? (i := 1) rfl))) (mvT hZ (hw _ (List.mem_of_getElem? (i := 2) rfl))) (mvT hZ (hw _ (List.mem_of_getElem? (i := 3) rfl))) (by decide) (backOf (W := 0) (rm1 l Z a0 hw []   h0 n0 Z0) hZ (hw _ (List.mem_of_getElem? (i := 3) rfl)) (hw _ (List.mem_of_getElem? (i := 2) rfl)) (by decide) (by decide)) (g := (mkF m 0 #[.val (.int p0), .val (.int p1), .unset, .unset] [])) rfl (by rw [hml]; rfl) (argsL := []) (rest := []) (lenOf pd_0 rfl) rfl (by show 2 * 0 + _ ≤ _; exact Nat.le_of_eq rfl) (hb hby at_0) (fun _ _ => ⟨rfl, e0, (by decide : 0 + 1 ≤ _), (by decide : 0 + 8 ≤ _)⟩)
  dsimp only [Pt.U, Pt.locs, Pt.cells, Pt.slots] at X1 l1 y1 z1 st1 hQ1
  subst l1 y1 z1
  obtain ⟨b1, k1, rfl, N1q, g1, Kq1, V1⟩ := hQ1
  have N1 := Fr.app N0 N1q
  refine own_step st1 ?_
  show own_Run p e below s _ _ _ T1 (mkF m 3 #[.val (.int p0), .val (.int p1), .unset, .unset] [(.ref b1)])
  have g_b1 : n0 ≤ b1 := Nat.le_trans Z0 (Nat.le_of_eq g1.symm)
  have Z2 := Nat.le_trans Z0 Kq1.1
  refine own_step (T' := T1) (g' := (mkF m 5 #[.val (.int p0), .val (.int p1), .val (.ref b1), .unset] [(.ref b1)])) (fun t k => ?_) ?_
  · show Steps p.tables e below (T1.setTop (mkF m 3 #[.val (.int p0), .val (.int p1), .unset, .unset] [(.ref b1)])) _
    refine XS.astoreN X1.here hx rfl (hb hby at_3) rfl rfl (l' := #[.val (.int p0), .val (.int p1), .val (.ref b1), .unset]) rfl ?_
    show Steps p.tables e below (T1.setTop (mkF m 4 #[.val (.int p0), .val (.int p1), .val (.ref b1), .unset] [])) _
    refine XS.aloadN X1.here hx rfl (hb hby at_4) rfl rfl ?_
    show Steps p.tables e below (T1.setTop (mkF m 5 #[.val (.int p0), .val (.int p1), .val (.ref b1), .unset] [(.ref b1)])) _
    exact k
  obtain ⟨_, _, ⟨T3, L3, k3, n3⟩, -, X3, ⟨Lc3, hQ3, l3, y3, z3⟩, st3⟩ := Jvm.LawKit.callS X1 hx (y := (⟨"com/example/dequeue/dequeue/FrameProtocolHeaderPinLaw", "isHeader", "([B)Z"⟩ : MethodName)) hown (mvT hZ (hw _ (List.mem_of_getElem? (i := 5) rfl))) (mvT hZ (hw _ (List.mem_of_getElem? (i := 6) rfl))) (mvT hZ (hw _ (List.mem_of_getElem? (i := 7) rfl))) (mvT hZ (hw _ (List.mem_of_getElem? (i := 8) rfl))) (by decide) (backOf (W := 0) (rm2 l Z a0 hw [] b1 k1 T1.heap n0 Z2 V1) hZ (hw _ (List.mem_of_getElem? (i := 8) rfl)) (hw _ (List.mem_of_getElem? (i := 7) rfl)) (by decide) (by decide)) (g := (mkF m 5 #[.val (.int p0), .val (.int p1), .val (.ref b1), .unset] [(.ref b1)])) rfl (by rw [hml]; rfl) (argsL := [(.ref b1)]) (rest := []) (lenOf pd_1 rfl) rfl (by show 2 * 0 + _ ≤ _; exact Nat.le_of_eq rfl) (hb hby at_5) (fun _ _ => ⟨rfl, rfl, (by decide : 1 + 0 ≤ _), (by decide : 8 + 0 ≤ _)⟩)
  dsimp only [Pt.U, Pt.locs, Pt.cells, Pt.slots] at X3 l3 y3 z3 st3 hQ3
  subst l3 y3 z3
  obtain ⟨rfl, N3q, eq3⟩ := hQ3
  have N3 := Fr.app N1 N3q
  refine own_step st3 ?_
  show own_Run p e below s _ _ _ T3 (mkF m 8 #[.val (.int p0), .val (.int p1), .val (.ref b1), .unset] [(.int (1 : Int32))])
  refine own_step (T' := T3) (g' := (mkF m 20 #[.val (.int p0), .val (.int p1), .val (.ref b1), .unset] [(.int (p1.toInt8.toInt32)), (.int (p0 &&& (7 : Int32))), (.ref b1)])) (fun t k => ?_) ?_
  · show Steps p.tables e below (T3.setTop (mkF m 8 #[.val (.int p0), .val (.int p1), .val (.ref b1), .unset] [(.int (1 : Int32))])) _
    refine XS.ifYes X3.here hx rfl (pc0 := 8) (pc' := 13) rfl (hb hby at_8) rfl ((if0 _ _).trans (feq (by decide)).2) (by decide) (by decide) ?_
    show Steps p.tables e below (T3.setTop (mkF m 13 #[.val (.int p0), .val (.int p1), .val (.ref b1), .unset] [])) _
    refine XS.aloadN X3.here hx rfl (hb hby at_13) rfl rfl ?_
    show Steps p.tables e below (T3.setTop (mkF m 14 #[.val (.int p0), .val (.int p1), .val (.ref b1), .unset] [(.ref b1)])) _
    refine XS.iloadN X3.here hx rfl (hb hby at_14) rfl ?_
    show Steps p.tables e below (T3.setTop (mkF m 15 #[.val (.int p0), .val (.int p1), .val (.ref b1), .unset] [(.int p0), (.ref b1)])) _
    refine XS.bipush X3.here hx rfl (hb hby at_15) ?_
    show Steps p.tables e below (T3.setTop (mkF m 17 #[.val (.int p0), .val (.int p1), .val (.ref b1), .unset] [(.int (7 : Int32)), (.int p0), (.ref b1)])) _
    refine XS.iand X3.here hx rfl (hb hby at_17) rfl ?_
    show Steps p.tables e below (T3.setTop (mkF m 18 #[.val (.int p0), .val (.int p1), .val (.ref b1), .unset] [(.int (p0 &&& (7 : Int32))), (.ref b1)])) _
    refine XS.iloadN X3.here hx rfl (hb hby at_18) rfl ?_
    show Steps p.tables e below (T3.setTop (mkF m 19 #[.val (.int p0), .val (.int p1), .val (.ref b1), .unset] [(.int p1), (.int (p0 &&& (7 : Int32))), (.ref b1)])) _
    refine XS.i2b X3.here hx rfl (hb hby at_19) rfl ?_
    show Steps p.tables e below (T3.setTop (mkF m 20 #[.val (.int p0), .val (.int p1), .val (.ref b1), .unset] [(.int (p1.toInt8.toInt32)), (.int (p0 &&& (7 : Int32))), (.ref b1)])) _
    exact k
  obtain ⟨c5, Arc5, qc5, Sc5, Mc5, Hc5, Gc5⟩ := V1
  have hinc5 : ¬ ((p0 &&& (7 : Int32)) < 0 ∨ c5.slots.size ≤ ((p0 &&& (7 : Int32))).toNatClampNeg) := inb_of Sc5 (own_in7 p0)
  obtain ⟨T6, h6, X6, e6, W6, st6⟩ := stB X3 hx hZ eq3 Arc5 (j := (p0 &&& (7 : Int32))) hinc5 (g := (mkF m 20 #[.val (.int p0), .val (.int p1), .val (.ref b1), .unset] [(.int (p1.toInt8.toInt32)), (.int (p0 &&& (7 : Int32))), (.ref b1)])) rfl rfl (hb hby at_20)
  have V7 := Arv.set Arc5 qc5 Sc5 Mc5 Hc5 Gc5 (fits_nar_byte _) W6 ((p0 &&& (7 : Int32))).toNatClampNeg rfl (own_lt8 p0)
  have Z8 := Nat.le_trans Z2 (Keep.of_wr W6).1
  have N6 := Fr.snoc X6 N3 g_b1
  refine own_step st6 ?_
  show own_Run p e below s _ _ _ T6 (mkF m 21 #[.val (.int p0), .val (.int p1), .val (.ref b1), .unset] [])
  obtain ⟨_, _, ⟨T9, L9, k9, n9⟩, -, X9, ⟨Lc9, hQ9, l9, y9, z9⟩, st9⟩ := Jvm.LawKit.callS X6 hx (y := (⟨"com/example/dequeue/dequeue/Frame", "protocolHeader", "()[B"⟩ : MethodName)) hown (mvT hZ (hw _ (List.mem_of_getElem? (i := 0) rfl))) (mvT hZ (hw _ (List.mem_of_getElem? (i := 1) rfl))) (mvT hZ (hw _ (List.mem_of_getElem? (i := 2) rfl))) (mvT hZ (hw _ (List.mem_of_getElem? (i := 3) rfl))) (by decide) (backOf (W := 0) (rm1 l Z a0 hw []   h6 n0 Z8) hZ (hw _ (List.mem_of_getElem? (i := 3) rfl)) (hw _ (List.mem_of_getElem? (i := 2) rfl)) (by decide) (by decide)) (g := (mkF m 21 #[.val (.int p0), .val (.int p1), .val (.ref b1), .unset] [])) rfl (by rw [hml]; rfl) (argsL := []) (rest := []) (lenOf pd_0 rfl) rfl (by show 2 * 0 + _ ≤ _; exact Nat.le_of_eq rfl) (hb hby at_21) (fun _ _ => ⟨rfl, e6, (by decide : 1 + 1 ≤ _), (by decide : 8 + 8 ≤ _)⟩)
  dsimp only [Pt.U, Pt.locs, Pt.cells, Pt.slots] at X9 l9 y9 z9 st9 hQ9
  subst l9 y9 z9
  obtain ⟨b9, k9, rfl, N9q, g9, Kq9, V9⟩ := hQ9
  have N9 := Fr.app N6 N9q
  refine own_step st9 ?_
  show own_Run p e below s _ _ _ T9 (mkF m 24 #[.val (.int p0), .val (.int p1), .val (.ref b1), .unset] [(.ref b9)])
  have ne10 : b1 ≠ b9 := Nat.ne_of_lt (Nat.lt_of_lt_of_le V7.lt (Nat.le_of_eq g9.symm))
  have V11 := V7.keep Kq9 nin0
  have g_b9 : n0 ≤ b9 := Nat.le_trans Z8 (Nat.le_of_eq g9.symm)
  have Z12 := Nat.le_trans Z8 Kq9.1
  refine own_step (T' := T9) (g' := (mkF m 33 #[.val (.int p0), .val (.int p1), .val (.ref b1), .val (.ref b9)] [(.ref b9)])) (fun t k => ?_) ?_
  · show Steps p.tables e below (T9.setTop (mkF m 24 #[.val (.int p0), .val (.int p1), .val (.ref b1), .unset] [(.ref b9)])) _
    refine XS.astoreN X9.here hx rfl (hb hby at_24) rfl rfl (l' := #[.val (.int p0), .val (.int p1), .val (.ref b1), .val (.ref b9)]) rfl ?_
    show Steps p.tables e below (T9.setTop (mkF m 25 #[.val (.int p0), .val (.int p1), .val (.ref b1), .val (.ref b9)] [])) _
    refine XS.aloadN X9.here hx rfl (hb hby at_25) rfl rfl ?_
    show Steps p.tables e below (T9.setTop (mkF m 26 #[.val (.int p0), .val (.int p1), .val (.ref b1), .val (.ref b9)] [(.ref b9)])) _
    refine XS.aloadN X9.here hx rfl (hb hby at_26) rfl rfl ?_
    show Steps p.tables e below (T9.setTop (mkF m 27 #[.val (.int p0), .val (.int p1), .val (.ref b1), .val (.ref b9)] [(.ref b1), (.ref b9)])) _
    refine Jvm.RoadKit.acmp (g := (mkF m 27 #[.val (.int p0), .val (.int p1), .val (.ref b1), .val (.ref b9)] [(.ref b1), (.ref b9)])) X9 hx rfl rfl rfl (pc0 := 27) (pc' := 32) (same := false) rfl (hb hby at_27) rfl (decide_eq_false fun q => (Ne.symm ne10) (Value.ref.inj q)) (by decide) (by decide) ?_
    show Steps p.tables e below (T9.setTop (mkF m 32 #[.val (.int p0), .val (.int p1), .val (.ref b1), .val (.ref b9)] [])) _
    refine XS.aloadN X9.here hx rfl (hb hby at_32) rfl rfl ?_
    show Steps p.tables e below (T9.setTop (mkF m 33 #[.val (.int p0), .val (.int p1), .val (.ref b1), .val (.ref b9)] [(.ref b9)])) _
    exact k
  obtain ⟨_, _, ⟨T13, L13, k13, n13⟩, -, X13, ⟨Lc13, hQ13, l13, y13, z13⟩, st13⟩ := Jvm.LawKit.callS X9 hx (y := (⟨"com/example/dequeue/dequeue/FrameProtocolHeaderPinLaw", "isHeader", "([B)Z"⟩ : MethodName)) hown (mvT hZ (hw _ (List.mem_of_getElem? (i := 5) rfl))) (mvT hZ (hw _ (List.mem_of_getElem? (i := 6) rfl))) (mvT hZ (hw _ (List.mem_of_getElem? (i := 7) rfl))) (mvT hZ (hw _ (List.mem_of_getElem? (i := 8) rfl))) (by decide) (backOf (W := 0) (rm2 l Z a0 hw [] b9 k9 T9.heap n0 Z12 V9) hZ (hw _ (List.mem_of_getElem? (i := 8) rfl)) (hw _ (List.mem_of_getElem? (i := 7) rfl)) (by decide) (by decide)) (g := (mkF m 33 #[.val (.int p0), .val (.int p1), .val (.ref b1), .val (.ref b9)] [(.ref b9)])) rfl (by rw [hml]; rfl) (argsL := [(.ref b9)]) (rest := []) (lenOf pd_1 rfl) rfl (by show 2 * 0 + _ ≤ _; exact Nat.le_of_eq rfl) (hb hby at_33) (fun _ _ => ⟨rfl, rfl, (by decide : 2 + 0 ≤ _), (by decide : 16 + 0 ≤ _)⟩)
  dsimp only [Pt.U, Pt.locs, Pt.cells, Pt.slots] at X13 l13 y13 z13 st13 hQ13
  subst l13 y13 z13
  obtain ⟨rfl, N13q, eq13⟩ := hQ13
  have N13 := Fr.app N9 N13q
  refine own_step st13 ?_
  show own_Run p e below s _ _ _ T13 (mkF m 36 #[.val (.int p0), .val (.int p1), .val (.ref b1), .val (.ref b9)] [(.int (1 : Int32))])
  refine own_retN X13 hx (t := .boolean) Bd.returns (by simp) (hb hby at_36) (BodyLoose.notSynchronized Bd) (by decide) (by decide) ?_
  rw [show T13.heap = T9.heap from eq13]
  exact ⟨rfl, N13⟩
set_option maxRecDepth 65536 in
set_option maxHeartbeats 40000000 in
theorem comes_1 {Post : Tables → Env → Array Value → State → Outcome → State → Prop} (hpost : ∀ tb e args s v u, (limb_1_1.after args s (.returned v) u = true ∧ limb_1_2.after args s (.returned v) u = true ∧ True) → FrameEnd s (.returned v) u (Jvm.fieldLocs frame_1_writes args s ++ Jvm.arrayLocs frame_1_arrays args s ++ Jvm.staticLocs frame_1_statics s) 16 128 → Post tb e args s (.returned v) u) :
    ArmFor flags0 classFile x code maxLocals ret World_1 tables_1 room_1 Calls_1 rest_1 Pre_1 Post := by
  intro l hfl _ _ p e ha hc hk s m args below hf hA hF happ hP
  obtain ⟨hcalls, hrest, hpre⟩ := hP
  obtain ⟨-, -, -, hnamed, -, -, -, hat⟩ := (Spec.applies_iff hf).mp happ
  obtain ⟨hg, hn⟩ := and_e (Cond.before_iff.mp (show (Jvm.Cond.and given_1 narrow_1).before args s = true from hpre))
  obtain ⟨gc, gr0⟩ := and_e hg
  obtain ⟨ga0, gr1⟩ := and_e gr0
  obtain ⟨w0, w1, rfl⟩ : ∃ w0 w1 : Value, args = #[w0, w1] := by
    have hs : args.size = 2 := by simpa [Cond.value, given_1] using gc
    obtain ⟨L⟩ := args
    match L, hs with
    | [w0, w1], _ => exact ⟨w0, w1, rfl⟩
  have hw := fun d (hd : d ∈ tables_1) => atoms_spec (ws := Jvm.Cond.code x code maxLocals ret :: tables_1) hat d (List.mem_cons_of_mem _ hd)
  obtain ⟨i0, ei0⟩ := is_v ga0
  obtain rfl : w0 = (.int i0) := Option.some.inj ei0
  obtain ⟨i1, ei1⟩ := is_v gr1
  obtain rfl : w1 = (.int i1) := Option.some.inj ei1
  obtain ⟨n, o, h1, h2, h3, _, L, rfl, ⟨rfl, N⟩, hq⟩ := rm0 l s _ hw tables_1 i0 i1  s.heap s.heap.size (Nat.le_refl _)  p e ha hc hk s m _ below hf ((Spec.applies_iff_loose hf).mp happ).1 ⟨rfl, State.Warmed39.refl s, rfl⟩ trivial
  refine ⟨n, _, h1, h2, h3, hpost _ _ _ _ _ _ ⟨Cond.after_iff.mpr rfl, Cond.after_iff.mpr (eq_i res_at (Term.int_eval (1)) rfl), trivial⟩ ⟨hq.1, hq.2.1, (hq.2.2.sift fun y hy => Or.inr (N y hy)).mono (by decide) (by decide)⟩⟩
theorem main_1_1 : Claimed_1_1 := comes_1 fun _ _ _ _ _ _ h hF => ⟨h.1, hF⟩
theorem main_1_2 : Claimed_1_2 := comes_1 fun _ _ _ _ _ _ h hF => ⟨h.2.1, hF⟩
end Jvm.Pilot.@@N@@
namespace Jvm.Pilot.@@N@@
open Jvm Jvm.ClassFile Sem Op Lib Jvm.Free Jvm.Stand Jvm.Pilot.@@N@@.Jvm.D
/-! MADE BY PROGRAM (witnessworld.py) out of the Statement's table words and the real class files: 9 classes; the members and pool entries that the words name. The judged class is class 1, her method 2. -/
namespace start1
open Jvm.ClassFile
def u (s : String) : CpInfo := .utf8 (stringToUtf16 s)
/-- a pool by its gaps: so many unusable entries, then the entry; so many at the end -/
def gap : Nat → List CpInfo → List CpInfo
  | 0, r => r
  | n + 1, r => .unusable :: gap n r
def poolList (es : List (Nat × CpInfo)) (last : Nat) : List CpInfo := es.foldr (fun e r => gap e.1 (e.2 :: r)) (gap last [])
def pool (es : List (Nat × CpInfo)) (last : Nat) : Array CpInfo := ⟨poolList es last⟩
def fileOf (pool : Array CpInfo) (this : Nat) (attrs : Array Attribute := #[]) (ms : Array MethodInfo := #[]) (fl : Nat := 33) (sup : Nat := 0) (ifs : Array Nat := #[]) (fds : Array FieldInfo := #[]) : ClassFile where
  minorVersion := 0
  majorVersion := 65
  constantPool := pool
  accessFlags := fl
  thisClass := this
  superClass := sup
  interfaces := ifs
  fields := fds
  methods := ms
  attributes := attrs
def plain (name : String) (sup : Option ClassId) : Class where
  name := name
  kind := .ordinary
  loader := none
  accessFlags := 33
  super := sup
  interfaces := #[]
  cf := none
  fields := #[]
  methods := #[]
  instanceTypes := #[]
  staticTypes := #[]
  resolved := #[]
  callSites := []
  init := .initialized
  statics := none
  mirror := none

def pool0 : Array CpInfo := pool [(5, u "<init>"), (0, u "()V"), (1, .class_ 10), (1, u "java/lang/Object")] 113

def k0m0 : Method := { name := "<init>", desc := "()V", sig := { parameters := [], returnType := none }, accessFlags := 1, code := none }
/-- java/lang/Object -/
def k0 : Class := { plain "java/lang/Object" none with
  accessFlags := 33
  interfaces := #[]
  cf := some (fileOf pool0 8 #[] #[{ accessFlags := 1, nameIndex := 5, descriptorIndex := 6, attributes := #[] }] 33 0 #[] #[])
  fields := #[]
  methods := #[k0m0]
  instanceTypes := #[]
  staticTypes := #[]
  resolved := Array.replicate 124 none
  statics := none }

def pool1 : Array CpInfo := pool [(2, .class_ 4), (1, u "java/lang/Object"), (0, u "<init>"), (0, u "()V"), (0, .methodref 8 9), (0, .class_ 10), (0, .nameAndType 11 12), (0, u "com/example/dequeue/dequeue/Frame"), (0, u "protocolHeader"), (0, u "()[B"), (0, .methodref 14 15), (0, .class_ 16), (0, .nameAndType 17 18), (0, u "com/example/dequeue/dequeue/FrameProtocolHeaderPinLaw"), (0, u "isHeader"), (0, u "([B)Z"), (3, u "law"), (0, u "(II)Z")] 4

def k1m0 : Method := { name := "<init>", desc := "()V", sig := { parameters := [], returnType := none }, accessFlags := 2, code := none }
def k1c1 : Code := { maxStack := 2, maxLocals := 1, code := method_2_code, exceptionTable := #[], attributes := #[] }
def k1m1 : Method := { name := "isHeader", desc := "([B)Z", sig := { parameters := [(.array .byte)], returnType := some .boolean }, accessFlags := 10, code := some k1c1 }
def k1c2 : Code := { maxStack := 3, maxLocals := 4, code := code, exceptionTable := #[], attributes := #[] }
def k1m2 : Method := { name := "law", desc := "(II)Z", sig := { parameters := [.int, .int], returnType := some .boolean }, accessFlags := 9, code := some k1c2 }
/-- com/example/dequeue/dequeue/FrameProtocolHeaderPinLaw -/
def k1 : Class := { plain "com/example/dequeue/dequeue/FrameProtocolHeaderPinLaw" (some 0) with
  accessFlags := 49
  interfaces := #[]
  cf := some (fileOf pool1 14 #[] #[{ accessFlags := 2, nameIndex := 5, descriptorIndex := 6, attributes := #[] }, { accessFlags := 10, nameIndex := 17, descriptorIndex := 18, attributes := #[] }, { accessFlags := 9, nameIndex := 22, descriptorIndex := 23, attributes := #[] }] 49 2 #[] #[])
  fields := #[]
  methods := #[k1m0, k1m1, k1m2]
  instanceTypes := #[]
  staticTypes := #[]
  resolved := Array.replicate 28 none
  statics := none }

def pool2 : Array CpInfo := pool [(1, .class_ 2), (0, u "com/example/dequeue/dequeue/Frame"), (1, .class_ 6), (1, u "java/lang/Object"), (0, u "<init>"), (0, u "()V"), (0, u "METHOD"), (0, u "I"), (2, u "HEADER"), (1, u "BODY"), (1, u "HEARTBEAT"), (1, u "END"), (0, u "B"), (1, u "MIN_SIZE"), (1, u "HEAD_SIZE"), (1, u "OVERHEAD"), (2, u "protocolHeader"), (0, u "()[B")] 2

def k2m0 : Method := { name := "<init>", desc := "()V", sig := { parameters := [], returnType := none }, accessFlags := 2, code := none }
def k2c1 : Code := { maxStack := 4, maxLocals := 0, code := prog_29_method_2_code, exceptionTable := #[], attributes := #[] }
def k2m1 : Method := { name := "protocolHeader", desc := "()[B", sig := { parameters := [], returnType := some (.array .byte) }, accessFlags := 8, code := some k2c1 }
/-- com/example/dequeue/dequeue/Frame -/
def k2 : Class := { plain "com/example/dequeue/dequeue/Frame" (some 0) with
  accessFlags := 48
  interfaces := #[]
  cf := some (fileOf pool2 1 #[] #[{ accessFlags := 2, nameIndex := 7, descriptorIndex := 8, attributes := #[] }, { accessFlags := 8, nameIndex := 29, descriptorIndex := 30, attributes := #[] }] 48 4 #[] #[{ accessFlags := 24, nameIndex := 9, descriptorIndex := 10, attributes := #[] }, { accessFlags := 24, nameIndex := 13, descriptorIndex := 10, attributes := #[] }, { accessFlags := 24, nameIndex := 15, descriptorIndex := 10, attributes := #[] }, { accessFlags := 24, nameIndex := 17, descriptorIndex := 10, attributes := #[] }, { accessFlags := 24, nameIndex := 19, descriptorIndex := 20, attributes := #[] }, { accessFlags := 24, nameIndex := 22, descriptorIndex := 10, attributes := #[] }, { accessFlags := 24, nameIndex := 24, descriptorIndex := 10, attributes := #[] }, { accessFlags := 24, nameIndex := 26, descriptorIndex := 10, attributes := #[] }])
  fields := #[{ name := "METHOD", type := .int, accessFlags := 24, slot := 0, constantValue := 0 }, { name := "HEADER", type := .int, accessFlags := 24, slot := 1, constantValue := 0 }, { name := "BODY", type := .int, accessFlags := 24, slot := 2, constantValue := 0 }, { name := "HEARTBEAT", type := .int, accessFlags := 24, slot := 3, constantValue := 0 }, { name := "END", type := .byte, accessFlags := 24, slot := 4, constantValue := 0 }, { name := "MIN_SIZE", type := .int, accessFlags := 24, slot := 5, constantValue := 0 }, { name := "HEAD_SIZE", type := .int, accessFlags := 24, slot := 6, constantValue := 0 }, { name := "OVERHEAD", type := .int, accessFlags := 24, slot := 7, constantValue := 0 }]
  methods := #[k2m0, k2m1]
  instanceTypes := #[]
  staticTypes := #[.int, .int, .int, .int, .byte, .int, .int, .int]
  resolved := Array.replicate 33 none
  statics := none }

def pool3 : Array CpInfo := pool [(1, u "java/lang/Cloneable"), (0, .class_ 1), (0, u "java/lang/Object"), (0, .class_ 3)] 3

/-- java/lang/Cloneable -/
def k3 : Class := { plain "java/lang/Cloneable" (some 0) with
  accessFlags := 1537
  interfaces := #[]
  cf := some (fileOf pool3 2 #[] #[] 1537 4 #[] #[])
  fields := #[]
  methods := #[]
  instanceTypes := #[]
  staticTypes := #[]
  resolved := Array.replicate 8 none
  statics := none }

def pool4 : Array CpInfo := pool [(1, u "java/io/Serializable"), (0, .class_ 1), (0, u "java/lang/Object"), (0, .class_ 3)] 3

/-- java/io/Serializable -/
def k4 : Class := { plain "java/io/Serializable" (some 0) with
  accessFlags := 1537
  interfaces := #[]
  cf := some (fileOf pool4 2 #[] #[] 1537 4 #[] #[])
  fields := #[]
  methods := #[]
  instanceTypes := #[]
  staticTypes := #[]
  resolved := Array.replicate 8 none
  statics := none }

/-- the primitive byte -/
def k5 : Class := { plain "byte" none with kind := .primitive 'B', accessFlags := 0x411 }
/-- [B -/
def k6 : Class := { plain "[B" (some 0) with kind := .array 5 .byte, interfaces := #[3, 4], accessFlags := 1041 }

/-- the primitive int -/
def k7 : Class := { plain "int" none with kind := .primitive 'I', accessFlags := 0x411 }
/-- [I -/
def k8 : Class := { plain "[I" (some 0) with kind := .array 7 .int, interfaces := #[3, 4], accessFlags := 1041 }

def heap : Heap := #[]
def classes : Array Class := #[k0, k1, k2, k3, k4, k5, k6, k7, k8]
def interned : List (Array UInt16 × Addr) := []
def slotsUsed : Nat := 0
def theMethod : MethodId := ⟨1, 2⟩
def args0 : Array Value := #[.int 3, .int 300]
def aboutOver (below : List Frame) : State where
  vm := { classes := classes, interned := interned.toArray }
  heap := heap
  slotsUsed := slotsUsed
  threads := #[{ frames := .invoking theMethod args0 :: below }]
def below0 : List Frame := [.native { method := ⟨0, 0⟩, args := #[] }]
def about1 : State := aboutOver below0
def p0 : Program := .bare "" "" ""
def e0 : Env := launch0.env 0 0 0
theorem w_frames : about1.frames = Frame.invoking theMethod args0 :: below0 := rfl
set_option maxRecDepth 65536 in
theorem w_args : argsFit about1.vm theMethod args0 = true := by decide +kernel
set_option maxRecDepth 65536 in
theorem w_heap : heapFits about1 = true := by decide +kernel
set_option maxRecDepth 65536 in
theorem w_runnable : about1.curStatus? = some .runnable := by decide +kernel
set_option maxRecDepth 65536 in
theorem w_alone : about1.alone = true := by decide +kernel
set_option maxRecDepth 65536 in
theorem w_named : about1.methodNamed? x = some theMethod := by decide +kernel
set_option maxRecDepth 65536 in
theorem w_hears : about1.hears theMethod below0 = true := by decide +kernel
set_option maxRecDepth 65536 in
theorem w_ripe : about1.ripe theMethod args0 below0 = true := by decide +kernel
theorem w_running : about1.status = .running := rfl
set_option maxRecDepth 65536 in
theorem w_room : about1.hasRoom e0.platform room_1 = true :=
  launch0.hasRoom_least _ room_1 (by decide +kernel) (by decide +kernel) (by decide +kernel) (by decide +kernel) (by decide +kernel) (by decide +kernel)
theorem allAtoms_all (ts : List Jvm.Cond) (a : Array Jvm.Value) (st : Jvm.State) : (allAtoms ts).before a st = ts.all (fun c => c.before a st) := by
  induction ts with
  | nil => rfl
  | cons c t ih =>
    show (Jvm.Cond.and c (allAtoms t)).before a st = _
    rw [Jvm.Cond.before_and, ih, List.all_cons]
def words1 : List Jvm.Cond := Jvm.Cond.code x code maxLocals ret :: tables_1
/-- a 'code' word, met by the world's own term for the bytes: nothing is compared byte by byte -/
theorem code_word {y : MethodName} {bytes : ByteArray} {mx : Nat} {rt : Option FieldType} {a : Array Value} {s : State} {m : MethodId} {meth : Method} {c : Code} (h1 : s.methodNamed? y = some m) (h2 : s.vm.method? m = some meth) (h3 : meth.code = some c) (h4 : c.code = bytes)
    (h5 : (c.maxLocals == mx && c.exceptionTable.isEmpty && decide (c.maxStack ≤ mostOperands) && decide (meth.sig.returnType = rt) && !meth.locks && decide (parseMethodDescriptor y.desc = some meth.sig)) = true) : (Jvm.Cond.code y bytes mx rt).before a s = true := by
  simp only [Bool.and_eq_true, beq_iff_eq, Bool.not_eq_true', decide_eq_true_eq] at h5
  obtain ⟨⟨⟨⟨⟨g1, g2⟩, g3⟩, g4⟩, g5⟩, g6⟩ := h5
  simp [Cond.before, Cond.holds, Cond.value, h1, h2, h3, h4, g1, g2, g3, g4, g5, g6]
def isCode : Jvm.Cond → Bool
  | .code _ _ _ _ => true
  | _ => false
theorem all_split {L : List Jvm.Cond} {P : Jvm.Cond → Bool} (h1 : L.all (fun c => isCode c || P c) = true) (h2 : ∀ c ∈ L.filter isCode, P c = true) : L.all P = true := by
  refine List.all_eq_true.mpr fun c hc => ?_
  have h := List.all_eq_true.mp h1 c hc
  rcases Bool.eq_false_or_eq_true (isCode c) with hi | hi
  · exact h2 c (List.mem_filter.mpr ⟨hc, hi⟩)
  · simpa [hi] using h
set_option maxRecDepth 65536 in
theorem w_c0 : (Jvm.Cond.code x code maxLocals ret).before args0 about1 = true := code_word (m := ⟨1, 2⟩) (meth := k1m2) (c := k1c2) (by decide +kernel) rfl rfl rfl (by decide +kernel)
set_option maxRecDepth 65536 in
theorem w_c1 : (Jvm.Cond.code ({ cls := "com/example/dequeue/dequeue/Frame", name := "protocolHeader", desc := "()[B" } : Jvm.MethodName) prog_29_method_2_code (0 : Nat) (Option.some (Jvm.ClassFile.FieldType.array Jvm.ClassFile.FieldType.byte))).before args0 about1 = true := code_word (m := ⟨2, 1⟩) (meth := k2m1) (c := k2c1) (by decide +kernel) rfl rfl rfl (by decide +kernel)
set_option maxRecDepth 65536 in
theorem w_c2 : (Jvm.Cond.code ({ cls := "com/example/dequeue/dequeue/FrameProtocolHeaderPinLaw", name := "isHeader", desc := "([B)Z" } : Jvm.MethodName) method_2_code (1 : Nat) (Option.some Jvm.ClassFile.FieldType.boolean)).before args0 about1 = true := code_word (m := ⟨1, 1⟩) (meth := k1m1) (c := k1c1) (by decide +kernel) rfl rfl rfl (by decide +kernel)
def codes1 : List Jvm.Cond := [Jvm.Cond.code x code maxLocals ret, Jvm.Cond.code ({ cls := "com/example/dequeue/dequeue/Frame", name := "protocolHeader", desc := "()[B" } : Jvm.MethodName) prog_29_method_2_code (0 : Nat) (Option.some (Jvm.ClassFile.FieldType.array Jvm.ClassFile.FieldType.byte)), Jvm.Cond.code ({ cls := "com/example/dequeue/dequeue/FrameProtocolHeaderPinLaw", name := "isHeader", desc := "([B)Z" } : Jvm.MethodName) method_2_code (1 : Nat) (Option.some Jvm.ClassFile.FieldType.boolean)]
set_option maxRecDepth 65536 in
theorem codes_eq : words1.filter isCode = codes1 := rfl
theorem w_codes : ∀ c ∈ words1.filter isCode, c.before args0 about1 = true := by
  rw [codes_eq]
  intro c hc
  simp only [codes1, List.mem_cons, List.not_mem_nil, or_false] at hc
  rcases hc with rfl | rfl | rfl
  · exact w_c0
  · exact w_c1
  · exact w_c2
set_option maxRecDepth 65536 in
theorem w_t1 : words1.all (fun c => isCode c || c.before args0 about1) = true := by decide +kernel
theorem w_tables : (allAtoms (Jvm.Cond.code x code maxLocals ret :: tables_1)).before args0 about1 = true := by
  rw [allAtoms_all]
  show words1.all (fun c => c.before args0 about1) = true
  refine all_split ?_ w_codes
  rw [w_t1]
set_option maxRecDepth 65536 in
theorem w_case : (Jvm.Cond.and given_1 narrow_1).before args0 about1 = true := by decide +kernel
theorem w_applies : (headSpec (Jvm.Cond.code x code maxLocals ret :: tables_1) room_1).applies x e0.platform about1 = true :=
  (Spec.applies_iff w_frames).mpr ⟨w_running, w_runnable, w_alone, w_named, w_hears, w_ripe, w_room, w_tables⟩
theorem atStart : AtStart classFile x code maxLocals ret World_1 tables_1 room_1 Calls_1 rest_1 Pre_1 launch0 p0 e0 about1 theMethod args0 below0 :=
  ⟨lists_1, trivial, launch0.admits_env _ _ _, launch0.least_env, fairChoices_fair.cas, fairChoices_fair.clock, w_frames, w_args, w_heap, w_applies, trivial, trivial, w_case⟩
end start1
theorem witness_1 : WitnessClaimed_1 := ⟨start1.p0, start1.e0, start1.about1, start1.theMethod, start1.args0, start1.below0, start1.atStart⟩
end Jvm.Pilot.@@N@@
