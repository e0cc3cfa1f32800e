import JvmDerived
import JvmDerived.Pilot.@@N@@Statement
import JvmDerived.Pilot.@@N@@Code
set_option linter.unusedVariables false
set_option linter.unusedSimpArgs false
@@BLOCK:NumsL.lean.txt@@
namespace Jvm.Pilot.@@N@@
open Jvm Jvm.ClassFile Sem Op Lib Jvm.Free Jvm.Stand Jvm.LawKit Jvm.RoadKit Bundle Jvm.Pilot.@@N@@.Jvm.D
section Own
variable {p : Program} {l : Launch} {e : Env} {R : Room} {s : State} {m : MethodId} {args : Array Value} {below : List Frame} {meth : Method} {c : Code} {T : State} {locs : List Loc} {cells slots : Nat}
/-- from the frame g on top of T the invocation comes to its end, and there QQ holds of what it returns, of the heap and of what it wrote -/
def own_Run (p : Program) (e : Env) (below : List Frame) (s : State) (QQ : Option Value → Heap → List Loc → Prop) (C S : Nat) (T : State) (g : JFrame) : Prop :=
  ∃ s₂ v L, Steps p.tables e below (T.setTop g) s₂ ∧ s₂.status = .running ∧ Ended s₂ below (.returned v) ∧ QQ v s₂.heap L ∧ FrameEnd s (.returned v) s₂ L C S
variable {QQ : Option Value → Heap → List Loc → Prop} {C S : Nat}
theorem own_enter {g : JFrame} {ml : Nat} (q : entryFrame m args ml = g) (k : own_Run p e below s QQ C S T g) :
    ∃ s₂ o, Steps p.tables e below (T.setTop (entryFrame m args ml)) s₂ ∧ s₂.status = .running ∧ Ended s₂ below o ∧ ∃ v L, o = .returned v ∧ QQ v s₂.heap L ∧ FrameEnd s o s₂ L C S := by
  subst q
  obtain ⟨s₂, v, L, h1, h2, h3, h4, h5⟩ := k
  exact ⟨s₂, _, h1, h2, h3, v, L, rfl, h4, h5⟩
theorem own_step {g g' : JFrame} {T' : State} (h : ∀ t, Steps p.tables e below (T'.setTop g') t → Steps p.tables e below (T.setTop g) t) (k : own_Run p e below s QQ C S T' g') : own_Run p e below s QQ C S T g := by
  obtain ⟨s₂, v, L, h1, h2⟩ := k
  exact ⟨s₂, v, L, h _ h1, h2⟩
theorem own_end (X : Stand p l e R s m args below meth c T locs cells slots) {v : Option Value} (hv : meth.sig.returnType = none → v = none) (hlocks : meth.locks = false) {g : JFrame} (hc : cells ≤ C) (hs : slots ≤ S) (hq : QQ v T.heap locs)
    (k : ∀ fs, (∀ (f : JFrame) (acts : List Action), f.method = m → f.locked = none → f.entered = [] → (doReturn e (T.setTop f) acts v).1 = T.setFrames fs) → Steps p.tables e below (T.setTop g) (T.setFrames fs)) : own_Run p e below s QQ C S T g := by
  obtain ⟨fs, hr, hrun, hended, hW, hsame⟩ := X.leave (v := v) hv hlocks
  exact ⟨_, v, locs, k fs hr, hrun, hended, hq, ⟨_, rfl⟩, hW, hsame.mono hc hs⟩
theorem own_retN (X : Stand p l e R s m args below meth c T locs cells slots) (hx : p.tables.exec = Jvm.exec) {pc : Nat} {Ls : Array Slot} {z : Int32} {t : FieldType} {rest : List Value} (hret : meth.sig.returnType = some t) (ht : t = .boolean ∨ t = .byte ∨ t = .char ∨ t = .short)
    (hd : decode c.code pc = .ok (.ireturn, 1)) (hlocks : meth.locks = false) (hc : cells ≤ C) (hs : slots ≤ S) (hq : QQ (some (.int (nar t z))) T.heap locs) : own_Run p e below s QQ C S T (mkF m pc Ls (.int z :: rest)) :=
  own_end X (fun h => by rw [hret] at h; cases h) hlocks hc hs hq (fun fs hr => retN X hx hret ht hd hr)
theorem own_retI (X : Stand p l e R s m args below meth c T locs cells slots) (hx : p.tables.exec = Jvm.exec) {pc : Nat} {Ls : Array Slot} {z : Int32} {rest : List Value} (hret : meth.sig.returnType = some .int)
    (hd : decode c.code pc = .ok (.ireturn, 1)) (hlocks : meth.locks = false) (hc : cells ≤ C) (hs : slots ≤ S) (hq : QQ (some (.int z)) T.heap locs) : own_Run p e below s QQ C S T (mkF m pc Ls (.int z :: rest)) :=
  own_end X (fun h => by rw [hret] at h; cases h) hlocks hc hs hq (fun fs hr => retOut X hx hret rfl (Or.inl ⟨rfl, Or.inl rfl, _, rfl⟩) hd hr)
theorem own_retJ (X : Stand p l e R s m args below meth c T locs cells slots) (hx : p.tables.exec = Jvm.exec) {pc : Nat} {Ls : Array Slot} {z : Int64} {rest : List Value} (hret : meth.sig.returnType = some .long)
    (hd : decode c.code pc = .ok (.lreturn, 1)) (hlocks : meth.locks = false) (hc : cells ≤ C) (hs : slots ≤ S) (hq : QQ (some (.long z)) T.heap locs) : own_Run p e below s QQ C S T (mkF m pc Ls (.long z :: rest)) :=
  own_end X (fun h => by rw [hret] at h; cases h) hlocks hc hs hq (fun fs hr => retOut X hx hret rfl (Or.inr (Or.inl ⟨rfl, rfl, _, rfl⟩)) hd hr)
theorem own_retA (X : Stand p l e R s m args below meth c T locs cells slots) (hx : p.tables.exec = Jvm.exec) {pc : Nat} {Ls : Array Slot} {w : Value} {t : FieldType} {rest : List Value} (hret : meth.sig.returnType = some t) (ht : t.isReference = true) (hw : w.isRef = true)
    (hd : decode c.code pc = .ok (.areturn, 1)) (hlocks : meth.locks = false) (hc : cells ≤ C) (hs : slots ≤ S) (hq : QQ (some w) T.heap locs) : own_Run p e below s QQ C S T (mkF m pc Ls (w :: rest)) :=
  own_end X (fun h => by rw [hret] at h; cases h) hlocks hc hs hq (fun fs hr => retOut X hx hret (by cases t <;> first | rfl | cases ht) (Or.inr (Or.inr (Or.inr (Or.inr ⟨rfl, ht, hw⟩)))) hd hr)
theorem own_retV (X : Stand p l e R s m args below meth c T locs cells slots) (hx : p.tables.exec = Jvm.exec) {pc : Nat} {Ls : Array Slot} (hret : meth.sig.returnType = none)
    (hd : decode c.code pc = .ok (.return_, 1)) (hlocks : meth.locks = false) (hc : cells ≤ C) (hs : slots ≤ S) (hq : QQ none T.heap locs) : own_Run p e below s QQ C S T (mkF m pc Ls []) :=
  own_end X (fun _ => rfl) hlocks hc hs hq (fun fs hr => X.returnOut hx hret hd hr)
end Own
/-- one of two ints, by a proposition -/
def own_pick (P : Prop) [Decidable P] (a b : Int32) : Int32 := if P then a else b
def own_pickJ (P : Prop) [Decidable P] (a b : Int64) : Int64 := if P then a else b
theorem own_pick_pos {P : Prop} [Decidable P] {a b : Int32} (h : P) : own_pick P a b = a := if_pos h
theorem own_pick_neg {P : Prop} [Decidable P] {a b : Int32} (h : ¬ P) : own_pick P a b = b := if_neg h
theorem own_pickJ_pos {P : Prop} [Decidable P] {a b : Int64} (h : P) : own_pickJ P a b = a := if_pos h
theorem own_pickJ_neg {P : Prop} [Decidable P] {a b : Int64} (h : ¬ P) : own_pickJ P a b = b := if_neg h
section OwnMat
variable {tb : Tables} [Ours tb] {e : Env} {below : List Frame} {T target : State} {m : MethodId} {c : Code} {pc : Nat} {Ls : Array Slot} {x y : Int32} {rest : List Value} {a b : Int} {cd : ClassFile.Cond}
theorem own_mat_i (h : At T m c below) (hx : tb.exec = Jvm.exec) (hd0 : decode c.code pc = .ok (.if_icmp cd 7, 3)) (hd1 : decode c.code (pc + 3) = .ok (.iconst a, 1)) (hd2 : decode c.code (pc + 4) = .ok (.goto 4, 3)) (hd3 : decode c.code (pc + 7) = .ok (.iconst b, 1))
    {w : Int32} (hT : if_icmp.holds cd x y = true → w = Int32.ofInt b) (hF : if_icmp.holds cd x y = false → w = Int32.ofInt a) (hr : Steps tb e below (T.setTop (mkF m (pc + 8) Ls (.int w :: rest))) target) : Steps tb e below (T.setTop (mkF m pc Ls (.int y :: .int x :: rest))) target := by
  cases q : if_icmp.holds cd x y
  · rw [hF q] at hr
    exact XS.icmpNo h hx rfl hd0 rfl q (XS.iconst h hx rfl hd1 (XS.goto h hx rfl (pc0 := pc + 4) (pc' := pc + 8) rfl hd2 (by omega) (by omega) hr))
  · rw [hT q] at hr
    exact XS.icmpYes h hx rfl (pc0 := pc) (pc' := pc + 7) rfl hd0 rfl q (by omega) (by omega) (XS.iconst h hx rfl hd3 hr)
theorem own_mat_c (h : At T m c below) (hx : tb.exec = Jvm.exec) (hd0 : decode c.code pc = .ok (.ifCond cd 7, 3)) (hd1 : decode c.code (pc + 3) = .ok (.iconst a, 1)) (hd2 : decode c.code (pc + 4) = .ok (.goto 4, 3)) (hd3 : decode c.code (pc + 7) = .ok (.iconst b, 1))
    {w : Int32} (hT : if_icmp.holds cd x 0 = true → w = Int32.ofInt b) (hF : if_icmp.holds cd x 0 = false → w = Int32.ofInt a) (hr : Steps tb e below (T.setTop (mkF m (pc + 8) Ls (.int w :: rest))) target) : Steps tb e below (T.setTop (mkF m pc Ls (.int x :: rest))) target := by
  cases q : if_icmp.holds cd x 0
  · rw [hF q] at hr
    exact XS.ifNo h hx rfl hd0 rfl ((if0 _ _).trans q) (XS.iconst h hx rfl hd1 (XS.goto h hx rfl (pc0 := pc + 4) (pc' := pc + 8) rfl hd2 (by omega) (by omega) hr))
  · rw [hT q] at hr
    exact XS.ifYes h hx rfl (pc0 := pc) (pc' := pc + 7) rfl hd0 rfl ((if0 _ _).trans q) (by omega) (by omega) (XS.iconst h hx rfl hd3 hr)
theorem own_mat_i_eq (h : At T m c below) (hx : tb.exec = Jvm.exec) (hg : m = m) (hd0 : decode c.code pc = .ok (.if_icmp .eq 7, 3)) (hd1 : decode c.code (pc + 3) = .ok (.iconst a, 1)) (hd2 : decode c.code (pc + 4) = .ok (.goto 4, 3)) (hd3 : decode c.code (pc + 7) = .ok (.iconst b, 1))
    (hr : Steps tb e below (T.setTop (mkF m (pc + 8) Ls (.int (own_pick (x = y) (Int32.ofInt b) (Int32.ofInt a)) :: rest))) target) : Steps tb e below (T.setTop (mkF m pc Ls (.int y :: .int x :: rest))) target :=
  own_mat_i h hx hd0 hd1 hd2 hd3 (fun q => by by_cases z : x = y <;> simp [own_pick, z] <;> (first | rw [(teq z).1] at q | rw [(feq z).1] at q) <;> cases q) (fun q => by by_cases z : x = y <;> simp [own_pick, z] <;> (first | rw [(teq z).1] at q | rw [(feq z).1] at q) <;> cases q) hr
theorem own_mat_i_ne (h : At T m c below) (hx : tb.exec = Jvm.exec) (hg : m = m) (hd0 : decode c.code pc = .ok (.if_icmp .ne 7, 3)) (hd1 : decode c.code (pc + 3) = .ok (.iconst a, 1)) (hd2 : decode c.code (pc + 4) = .ok (.goto 4, 3)) (hd3 : decode c.code (pc + 7) = .ok (.iconst b, 1))
    (hr : Steps tb e below (T.setTop (mkF m (pc + 8) Ls (.int (own_pick (x = y) (Int32.ofInt a) (Int32.ofInt b)) :: rest))) target) : Steps tb e below (T.setTop (mkF m pc Ls (.int y :: .int x :: rest))) target :=
  own_mat_i h hx hd0 hd1 hd2 hd3 (fun q => by by_cases z : x = y <;> simp [own_pick, z] <;> (first | rw [(teq z).2] at q | rw [(feq z).2] at q) <;> cases q) (fun q => by by_cases z : x = y <;> simp [own_pick, z] <;> (first | rw [(teq z).2] at q | rw [(feq z).2] at q) <;> cases q) hr
theorem own_mat_i_lt (h : At T m c below) (hx : tb.exec = Jvm.exec) (hg : m = m) (hd0 : decode c.code pc = .ok (.if_icmp .lt 7, 3)) (hd1 : decode c.code (pc + 3) = .ok (.iconst a, 1)) (hd2 : decode c.code (pc + 4) = .ok (.goto 4, 3)) (hd3 : decode c.code (pc + 7) = .ok (.iconst b, 1))
    (hr : Steps tb e below (T.setTop (mkF m (pc + 8) Ls (.int (own_pick (x < y) (Int32.ofInt b) (Int32.ofInt a)) :: rest))) target) : Steps tb e below (T.setTop (mkF m pc Ls (.int y :: .int x :: rest))) target :=
  own_mat_i h hx hd0 hd1 hd2 hd3 (fun q => by by_cases z : x < y <;> simp [own_pick, z] <;> (first | rw [(tlt z).1] at q | rw [(flt z).1] at q) <;> cases q) (fun q => by by_cases z : x < y <;> simp [own_pick, z] <;> (first | rw [(tlt z).1] at q | rw [(flt z).1] at q) <;> cases q) hr
theorem own_mat_i_ge (h : At T m c below) (hx : tb.exec = Jvm.exec) (hg : m = m) (hd0 : decode c.code pc = .ok (.if_icmp .ge 7, 3)) (hd1 : decode c.code (pc + 3) = .ok (.iconst a, 1)) (hd2 : decode c.code (pc + 4) = .ok (.goto 4, 3)) (hd3 : decode c.code (pc + 7) = .ok (.iconst b, 1))
    (hr : Steps tb e below (T.setTop (mkF m (pc + 8) Ls (.int (own_pick (x < y) (Int32.ofInt a) (Int32.ofInt b)) :: rest))) target) : Steps tb e below (T.setTop (mkF m pc Ls (.int y :: .int x :: rest))) target :=
  own_mat_i h hx hd0 hd1 hd2 hd3 (fun q => by by_cases z : x < y <;> simp [own_pick, z] <;> (first | rw [(tlt z).2.1] at q | rw [(flt z).2.1] at q) <;> cases q) (fun q => by by_cases z : x < y <;> simp [own_pick, z] <;> (first | rw [(tlt z).2.1] at q | rw [(flt z).2.1] at q) <;> cases q) hr
theorem own_mat_i_gt (h : At T m c below) (hx : tb.exec = Jvm.exec) (hg : m = m) (hd0 : decode c.code pc = .ok (.if_icmp .gt 7, 3)) (hd1 : decode c.code (pc + 3) = .ok (.iconst a, 1)) (hd2 : decode c.code (pc + 4) = .ok (.goto 4, 3)) (hd3 : decode c.code (pc + 7) = .ok (.iconst b, 1))
    (hr : Steps tb e below (T.setTop (mkF m (pc + 8) Ls (.int (own_pick (y < x) (Int32.ofInt b) (Int32.ofInt a)) :: rest))) target) : Steps tb e below (T.setTop (mkF m pc Ls (.int y :: .int x :: rest))) target :=
  own_mat_i h hx hd0 hd1 hd2 hd3 (fun q => by by_cases z : y < x <;> simp [own_pick, z] <;> (first | rw [(tlt z).2.2.1] at q | rw [(flt z).2.2.1] at q) <;> cases q) (fun q => by by_cases z : y < x <;> simp [own_pick, z] <;> (first | rw [(tlt z).2.2.1] at q | rw [(flt z).2.2.1] at q) <;> cases q) hr
theorem own_mat_i_le (h : At T m c below) (hx : tb.exec = Jvm.exec) (hg : m = m) (hd0 : decode c.code pc = .ok (.if_icmp .le 7, 3)) (hd1 : decode c.code (pc + 3) = .ok (.iconst a, 1)) (hd2 : decode c.code (pc + 4) = .ok (.goto 4, 3)) (hd3 : decode c.code (pc + 7) = .ok (.iconst b, 1))
    (hr : Steps tb e below (T.setTop (mkF m (pc + 8) Ls (.int (own_pick (y < x) (Int32.ofInt a) (Int32.ofInt b)) :: rest))) target) : Steps tb e below (T.setTop (mkF m pc Ls (.int y :: .int x :: rest))) target :=
  own_mat_i h hx hd0 hd1 hd2 hd3 (fun q => by by_cases z : y < x <;> simp [own_pick, z] <;> (first | rw [(tlt z).2.2.2] at q | rw [(flt z).2.2.2] at q) <;> cases q) (fun q => by by_cases z : y < x <;> simp [own_pick, z] <;> (first | rw [(tlt z).2.2.2] at q | rw [(flt z).2.2.2] at q) <;> cases q) hr
theorem own_mat_c_eq (h : At T m c below) (hx : tb.exec = Jvm.exec) (hg : m = m) (hd0 : decode c.code pc = .ok (.ifCond .eq 7, 3)) (hd1 : decode c.code (pc + 3) = .ok (.iconst a, 1)) (hd2 : decode c.code (pc + 4) = .ok (.goto 4, 3)) (hd3 : decode c.code (pc + 7) = .ok (.iconst b, 1))
    (hr : Steps tb e below (T.setTop (mkF m (pc + 8) Ls (.int (own_pick (x = (0 : Int32)) (Int32.ofInt b) (Int32.ofInt a)) :: rest))) target) : Steps tb e below (T.setTop (mkF m pc Ls (.int x :: rest))) target :=
  own_mat_c h hx hd0 hd1 hd2 hd3 (fun q => by by_cases z : x = (0 : Int32) <;> simp [own_pick, z] <;> (first | rw [(teq z).1] at q | rw [(feq z).1] at q) <;> cases q) (fun q => by by_cases z : x = (0 : Int32) <;> simp [own_pick, z] <;> (first | rw [(teq z).1] at q | rw [(feq z).1] at q) <;> cases q) hr
theorem own_mat_c_ne (h : At T m c below) (hx : tb.exec = Jvm.exec) (hg : m = m) (hd0 : decode c.code pc = .ok (.ifCond .ne 7, 3)) (hd1 : decode c.code (pc + 3) = .ok (.iconst a, 1)) (hd2 : decode c.code (pc + 4) = .ok (.goto 4, 3)) (hd3 : decode c.code (pc + 7) = .ok (.iconst b, 1))
    (hr : Steps tb e below (T.setTop (mkF m (pc + 8) Ls (.int (own_pick (x = (0 : Int32)) (Int32.ofInt a) (Int32.ofInt b)) :: rest))) target) : Steps tb e below (T.setTop (mkF m pc Ls (.int x :: rest))) target :=
  own_mat_c h hx hd0 hd1 hd2 hd3 (fun q => by by_cases z : x = (0 : Int32) <;> simp [own_pick, z] <;> (first | rw [(teq z).2] at q | rw [(feq z).2] at q) <;> cases q) (fun q => by by_cases z : x = (0 : Int32) <;> simp [own_pick, z] <;> (first | rw [(teq z).2] at q | rw [(feq z).2] at q) <;> cases q) hr
theorem own_mat_c_lt (h : At T m c below) (hx : tb.exec = Jvm.exec) (hg : m = m) (hd0 : decode c.code pc = .ok (.ifCond .lt 7, 3)) (hd1 : decode c.code (pc + 3) = .ok (.iconst a, 1)) (hd2 : decode c.code (pc + 4) = .ok (.goto 4, 3)) (hd3 : decode c.code (pc + 7) = .ok (.iconst b, 1))
    (hr : Steps tb e below (T.setTop (mkF m (pc + 8) Ls (.int (own_pick (x < (0 : Int32)) (Int32.ofInt b) (Int32.ofInt a)) :: rest))) target) : Steps tb e below (T.setTop (mkF m pc Ls (.int x :: rest))) target :=
  own_mat_c h hx hd0 hd1 hd2 hd3 (fun q => by by_cases z : x < (0 : Int32) <;> simp [own_pick, z] <;> (first | rw [(tlt z).1] at q | rw [(flt z).1] at q) <;> cases q) (fun q => by by_cases z : x < (0 : Int32) <;> simp [own_pick, z] <;> (first | rw [(tlt z).1] at q | rw [(flt z).1] at q) <;> cases q) hr
theorem own_mat_c_ge (h : At T m c below) (hx : tb.exec = Jvm.exec) (hg : m = m) (hd0 : decode c.code pc = .ok (.ifCond .ge 7, 3)) (hd1 : decode c.code (pc + 3) = .ok (.iconst a, 1)) (hd2 : decode c.code (pc + 4) = .ok (.goto 4, 3)) (hd3 : decode c.code (pc + 7) = .ok (.iconst b, 1))
    (hr : Steps tb e below (T.setTop (mkF m (pc + 8) Ls (.int (own_pick (x < (0 : Int32)) (Int32.ofInt a) (Int32.ofInt b)) :: rest))) target) : Steps tb e below (T.setTop (mkF m pc Ls (.int x :: rest))) target :=
  own_mat_c h hx hd0 hd1 hd2 hd3 (fun q => by by_cases z : x < (0 : Int32) <;> simp [own_pick, z] <;> (first | rw [(tlt z).2.1] at q | rw [(flt z).2.1] at q) <;> cases q) (fun q => by by_cases z : x < (0 : Int32) <;> simp [own_pick, z] <;> (first | rw [(tlt z).2.1] at q | rw [(flt z).2.1] at q) <;> cases q) hr
theorem own_mat_c_gt (h : At T m c below) (hx : tb.exec = Jvm.exec) (hg : m = m) (hd0 : decode c.code pc = .ok (.ifCond .gt 7, 3)) (hd1 : decode c.code (pc + 3) = .ok (.iconst a, 1)) (hd2 : decode c.code (pc + 4) = .ok (.goto 4, 3)) (hd3 : decode c.code (pc + 7) = .ok (.iconst b, 1))
    (hr : Steps tb e below (T.setTop (mkF m (pc + 8) Ls (.int (own_pick ((0 : Int32) < x) (Int32.ofInt b) (Int32.ofInt a)) :: rest))) target) : Steps tb e below (T.setTop (mkF m pc Ls (.int x :: rest))) target :=
  own_mat_c h hx hd0 hd1 hd2 hd3 (fun q => by by_cases z : (0 : Int32) < x <;> simp [own_pick, z] <;> (first | rw [(tlt z).2.2.1] at q | rw [(flt z).2.2.1] at q) <;> cases q) (fun q => by by_cases z : (0 : Int32) < x <;> simp [own_pick, z] <;> (first | rw [(tlt z).2.2.1] at q | rw [(flt z).2.2.1] at q) <;> cases q) hr
theorem own_mat_c_le (h : At T m c below) (hx : tb.exec = Jvm.exec) (hg : m = m) (hd0 : decode c.code pc = .ok (.ifCond .le 7, 3)) (hd1 : decode c.code (pc + 3) = .ok (.iconst a, 1)) (hd2 : decode c.code (pc + 4) = .ok (.goto 4, 3)) (hd3 : decode c.code (pc + 7) = .ok (.iconst b, 1))
    (hr : Steps tb e below (T.setTop (mkF m (pc + 8) Ls (.int (own_pick ((0 : Int32) < x) (Int32.ofInt a) (Int32.ofInt b)) :: rest))) target) : Steps tb e below (T.setTop (mkF m pc Ls (.int x :: rest))) target :=
  own_mat_c h hx hd0 hd1 hd2 hd3 (fun q => by by_cases z : (0 : Int32) < x <;> simp [own_pick, z] <;> (first | rw [(tlt z).2.2.2] at q | rw [(flt z).2.2.2] at q) <;> cases q) (fun q => by by_cases z : (0 : Int32) < x <;> simp [own_pick, z] <;> (first | rw [(tlt z).2.2.2] at q | rw [(flt z).2.2.2] at q) <;> cases q) hr
end OwnMat
theorem pd_0 : parseMethodDescriptor "([BI)[B" = some ⟨[(.array .byte), .int], some (.array .byte)⟩ := by decide +kernel
theorem pd_1 : parseMethodDescriptor "(I)I" = some ⟨[.int], some .int⟩ := by decide +kernel
theorem pd_2 : parseMethodDescriptor "(J)J" = some ⟨[.long], some .long⟩ := by decide +kernel
theorem pd_3 : parseMethodDescriptor "([BI)V" = some ⟨[(.array .byte), .int], none⟩ := by decide +kernel
theorem pd_4 : parseMethodDescriptor "(I)V" = some ⟨[.int], none⟩ := by decide +kernel
theorem pd_5 : parseMethodDescriptor "()I" = some ⟨[], some .int⟩ := by decide +kernel
theorem own_clone {p : Program} {l : Launch} {e : Env} {R : Room} {s : State} {m : MethodId} {args : Array Value} {below : List Frame} {meth : Method} {c : Code} {T : State} {locs : List Loc} {cells slots : Nat} {Z : State} {h : Heap} {a : Addr} {ty : FieldType}
    (X : Stand p l e R s m args below meth c T locs cells slots) (hx : p.tables.exec = Jvm.exec) (hZ : Z.Warmed39 s.vm) {a0 : Array Value} {own ad : String} {index : Nat} (hown : s.vm.findClass own = some m.cls)
    (w1 : (Cond.methodLink own index ⟨ad, "clone", "()Ljava/lang/Object;"⟩).before a0 Z = true) (w2 : (Cond.sameMethod ad "java/lang/Object" "clone" "()Ljava/lang/Object;").before a0 Z = true) (w3 : (Cond.native ⟨"java/lang/Object", "clone", "()Ljava/lang/Object;"⟩).before a0 Z = true)
    (w4 : (Cond.instanceMethod ⟨"java/lang/Object", "clone", "()Ljava/lang/Object;"⟩).before a0 Z = true) (w5 : (Cond.selects ad ⟨ad, "clone", "()Ljava/lang/Object;"⟩ ⟨"java/lang/Object", "clone", "()Ljava/lang/Object;"⟩).before a0 Z = true) (w6 : (Cond.castable ad "java/lang/Cloneable").before a0 Z = true)
    (eT : T.heap = h) {k : ClassId} {z : Int32} {vs : List Value} {dv : Value} (F : Arv Z h a k ty z vs dv) (E : Exa Z h a ad) {g : JFrame} (hg : g.method = m) (hsize : g.locals.size = c.maxLocals) {rest : List Value} (hst : g.stack = .ref a :: rest) (hd : decode c.code g.pc = .ok (.invokevirtual index, 3))
    (hf : 1 ≤ R.frames) {W cap : Nat} (hW : 2 * g.monitorRoom + (rest.map fun v => v.category).sum ≤ W) (hl : W + 14 ≤ R.locals) (hcap : z.toNatClampNeg ≤ cap) (hc : cells + 1 ≤ R.cells) (hsl : slots + cap ≤ R.slots) :
    ∃ T' h', Stand p l e R s m args below meth c T' locs (cells + 1) (slots + cap) ∧ T'.heap = h' ∧ Ext h h' ∧ Arv Z h' h.size k ty z vs dv ∧ Exa Z h' h.size ad ∧
      ∀ target, Steps p.tables e below (T'.setTop { g with pc := g.pc + 3, stack := .ref h.size :: rest }) target → Steps p.tables e below (T.setTop g) target := by
  obtain ⟨cl, A, q1, S, q3, H, G⟩ := F
  obtain ⟨T', h', X', e', ex, A', E', st⟩ := cloneA X hx hZ hown w1 w2 w3 w4 w5 w6 eT A E (fitC_of A fun i hi v hv => by rw [H i hi] at hv; cases hv; exact G i hi) hg hsize hst hd hf hW hl (by rw [S]; exact hcap) hc hsl
  exact ⟨T', h', X', e', ex, ⟨cloneOf cl, A', q1, S, q3, H, G⟩, E', st⟩
def own_n1 (y : Int64) : Int64 := (own_pickJ ((lcmpW (((y.toUInt64 >>> ((40 : Int32) &&& 0x3f).toInt64.toUInt64).toInt64) &&& (16777215 : Int64)) (3 : Int64)) = (0 : Int32)) (y ||| (140737488355328 : Int64)) y)
def own_n2 (y : Int64) : Int64 := (own_pickJ ((lcmpW (((y.toUInt64 >>> ((32 : Int32) &&& 0x3f).toInt64.toUInt64).toInt64) &&& (16777215 : Int64)) (3 : Int64)) = (0 : Int32)) (y ||| (549755813888 : Int64)) y)
def own_n3 (y : Int64) : Int64 := (own_pickJ ((lcmpW (((y.toUInt64 >>> ((24 : Int32) &&& 0x3f).toInt64.toUInt64).toInt64) &&& (16777215 : Int64)) (3 : Int64)) = (0 : Int32)) (y ||| (2147483648 : Int64)) y)
def own_n4 (y : Int64) : Int64 := (own_pickJ ((lcmpW (((y.toUInt64 >>> ((16 : Int32) &&& 0x3f).toInt64.toUInt64).toInt64) &&& (16777215 : Int64)) (3 : Int64)) = (0 : Int32)) (y ||| (8388608 : Int64)) y)
def own_n5 (y : Int64) : Int64 := (own_pickJ ((lcmpW (((y.toUInt64 >>> ((8 : Int32) &&& 0x3f).toInt64.toUInt64).toInt64) &&& (16777215 : Int64)) (3 : Int64)) = (0 : Int32)) (y ||| (32768 : Int64)) y)
def own_n6 (y : Int64) : Int64 := (own_pickJ ((lcmpW (y &&& (16777215 : Int64)) (3 : Int64)) = (0 : Int32)) (y ||| (128 : Int64)) y)
def own_ne (q0 : Int64) : Int64 := own_n6 (own_n5 (own_n4 (own_n3 (own_n2 (own_n1 q0)))))
theorem d1_0 : decode method_2_code 0 = .ok (.lload_n 0, 1) := by decide +kernel
theorem d1_1 : decode method_2_code 1 = .ok (.lstore_n 2, 1) := by decide +kernel
theorem d1_2 : decode method_2_code 2 = .ok (.lload_n 2, 1) := by decide +kernel
theorem d1_3 : decode method_2_code 3 = .ok (.bipush 40, 2) := by decide +kernel
theorem d1_5 : decode method_2_code 5 = .ok (.lushr, 1) := by decide +kernel
theorem d1_6 : decode method_2_code 6 = .ok (.ldc2_w 7, 3) := by decide +kernel
theorem d1_9 : decode method_2_code 9 = .ok (.land, 1) := by decide +kernel
theorem d1_10 : decode method_2_code 10 = .ok (.ldc2_w 9, 3) := by decide +kernel
theorem d1_13 : decode method_2_code 13 = .ok (.lcmp, 1) := by decide +kernel
theorem d1_14 : decode method_2_code 14 = .ok (.ifCond .ne 9, 3) := by decide +kernel
theorem d1_17 : decode method_2_code 17 = .ok (.lload_n 2, 1) := by decide +kernel
theorem d1_18 : decode method_2_code 18 = .ok (.ldc2_w 11, 3) := by decide +kernel
theorem d1_21 : decode method_2_code 21 = .ok (.lor, 1) := by decide +kernel
theorem d1_22 : decode method_2_code 22 = .ok (.lstore_n 2, 1) := by decide +kernel
theorem d1_23 : decode method_2_code 23 = .ok (.lload_n 2, 1) := by decide +kernel
theorem d1_24 : decode method_2_code 24 = .ok (.bipush 32, 2) := by decide +kernel
theorem d1_26 : decode method_2_code 26 = .ok (.lushr, 1) := by decide +kernel
theorem d1_27 : decode method_2_code 27 = .ok (.ldc2_w 7, 3) := by decide +kernel
theorem d1_30 : decode method_2_code 30 = .ok (.land, 1) := by decide +kernel
theorem d1_31 : decode method_2_code 31 = .ok (.ldc2_w 9, 3) := by decide +kernel
theorem d1_34 : decode method_2_code 34 = .ok (.lcmp, 1) := by decide +kernel
theorem d1_35 : decode method_2_code 35 = .ok (.ifCond .ne 9, 3) := by decide +kernel
theorem d1_38 : decode method_2_code 38 = .ok (.lload_n 2, 1) := by decide +kernel
theorem d1_39 : decode method_2_code 39 = .ok (.ldc2_w 13, 3) := by decide +kernel
theorem d1_42 : decode method_2_code 42 = .ok (.lor, 1) := by decide +kernel
theorem d1_43 : decode method_2_code 43 = .ok (.lstore_n 2, 1) := by decide +kernel
theorem d1_44 : decode method_2_code 44 = .ok (.lload_n 2, 1) := by decide +kernel
theorem d1_45 : decode method_2_code 45 = .ok (.bipush 24, 2) := by decide +kernel
theorem d1_47 : decode method_2_code 47 = .ok (.lushr, 1) := by decide +kernel
theorem d1_48 : decode method_2_code 48 = .ok (.ldc2_w 7, 3) := by decide +kernel
theorem d1_51 : decode method_2_code 51 = .ok (.land, 1) := by decide +kernel
theorem d1_52 : decode method_2_code 52 = .ok (.ldc2_w 9, 3) := by decide +kernel
theorem d1_55 : decode method_2_code 55 = .ok (.lcmp, 1) := by decide +kernel
theorem d1_56 : decode method_2_code 56 = .ok (.ifCond .ne 9, 3) := by decide +kernel
theorem d1_59 : decode method_2_code 59 = .ok (.lload_n 2, 1) := by decide +kernel
theorem d1_60 : decode method_2_code 60 = .ok (.ldc2_w 15, 3) := by decide +kernel
theorem d1_63 : decode method_2_code 63 = .ok (.lor, 1) := by decide +kernel
theorem d1_64 : decode method_2_code 64 = .ok (.lstore_n 2, 1) := by decide +kernel
theorem d1_65 : decode method_2_code 65 = .ok (.lload_n 2, 1) := by decide +kernel
theorem d1_66 : decode method_2_code 66 = .ok (.bipush 16, 2) := by decide +kernel
theorem d1_68 : decode method_2_code 68 = .ok (.lushr, 1) := by decide +kernel
theorem d1_69 : decode method_2_code 69 = .ok (.ldc2_w 7, 3) := by decide +kernel
theorem d1_72 : decode method_2_code 72 = .ok (.land, 1) := by decide +kernel
theorem d1_73 : decode method_2_code 73 = .ok (.ldc2_w 9, 3) := by decide +kernel
theorem d1_76 : decode method_2_code 76 = .ok (.lcmp, 1) := by decide +kernel
theorem d1_77 : decode method_2_code 77 = .ok (.ifCond .ne 9, 3) := by decide +kernel
theorem d1_80 : decode method_2_code 80 = .ok (.lload_n 2, 1) := by decide +kernel
theorem d1_81 : decode method_2_code 81 = .ok (.ldc2_w 17, 3) := by decide +kernel
theorem d1_84 : decode method_2_code 84 = .ok (.lor, 1) := by decide +kernel
theorem d1_85 : decode method_2_code 85 = .ok (.lstore_n 2, 1) := by decide +kernel
theorem d1_86 : decode method_2_code 86 = .ok (.lload_n 2, 1) := by decide +kernel
theorem d1_87 : decode method_2_code 87 = .ok (.bipush 8, 2) := by decide +kernel
theorem d1_89 : decode method_2_code 89 = .ok (.lushr, 1) := by decide +kernel
theorem d1_90 : decode method_2_code 90 = .ok (.ldc2_w 7, 3) := by decide +kernel
theorem d1_93 : decode method_2_code 93 = .ok (.land, 1) := by decide +kernel
theorem d1_94 : decode method_2_code 94 = .ok (.ldc2_w 9, 3) := by decide +kernel
theorem d1_97 : decode method_2_code 97 = .ok (.lcmp, 1) := by decide +kernel
theorem d1_98 : decode method_2_code 98 = .ok (.ifCond .ne 9, 3) := by decide +kernel
theorem d1_101 : decode method_2_code 101 = .ok (.lload_n 2, 1) := by decide +kernel
theorem d1_102 : decode method_2_code 102 = .ok (.ldc2_w 19, 3) := by decide +kernel
theorem d1_105 : decode method_2_code 105 = .ok (.lor, 1) := by decide +kernel
theorem d1_106 : decode method_2_code 106 = .ok (.lstore_n 2, 1) := by decide +kernel
theorem d1_107 : decode method_2_code 107 = .ok (.lload_n 2, 1) := by decide +kernel
theorem d1_108 : decode method_2_code 108 = .ok (.ldc2_w 7, 3) := by decide +kernel
theorem d1_111 : decode method_2_code 111 = .ok (.land, 1) := by decide +kernel
theorem d1_112 : decode method_2_code 112 = .ok (.ldc2_w 9, 3) := by decide +kernel
theorem d1_115 : decode method_2_code 115 = .ok (.lcmp, 1) := by decide +kernel
theorem d1_116 : decode method_2_code 116 = .ok (.ifCond .ne 9, 3) := by decide +kernel
theorem d1_119 : decode method_2_code 119 = .ok (.lload_n 2, 1) := by decide +kernel
theorem d1_120 : decode method_2_code 120 = .ok (.ldc2_w 21, 3) := by decide +kernel
theorem d1_123 : decode method_2_code 123 = .ok (.lor, 1) := by decide +kernel
theorem d1_124 : decode method_2_code 124 = .ok (.lstore_n 2, 1) := by decide +kernel
theorem d1_125 : decode method_2_code 125 = .ok (.lload_n 2, 1) := by decide +kernel
theorem d1_126 : decode method_2_code 126 = .ok (.lreturn, 1) := by decide +kernel
theorem pn_rm1 : plainName "lazyframe/media/NalPayloadUPinLaw" = true := by first | (simp [plainName, overriddenIn]; done) | decide +kernel
theorem ef_rm1 (m : MethodId) (q0 : Int64) : entryFrame m #[(.long q0)] 4 = mkF m 0 #[.val (.long q0), .second, .unset, .unset] [] := by first | (simp [entryFrame, mkF, argsToLocals, Value.category, maxLocals]; done) | rfl
def rm1_Q (Z : State) (q0 : Int64)  (h0 : Heap) (n0 : Nat) (v : Option Value) (h : Heap) (L : List Loc) : Prop := v = some (.long (own_ne q0)) ∧ Fr n0 L ∧ h = h0
set_option maxRecDepth 65536 in
set_option maxHeartbeats 40000000 in
theorem rm1 (l : Launch) (Z : State) (a0 : Array Value) (hw : ∀ d ∈ tables_1, d.before a0 Z = true) (ws : List Jvm.Cond) (q0 : Int64)  (h0 : Heap) (n0 : Nat) (Z0 : n0 ≤ h0.size)  :
    MetFree l (⟨"lazyframe/media/NalPayloadUPinLaw", "noEmulation", "(J)J"⟩ : MethodName) (head1 (Jvm.Cond.code (⟨"lazyframe/media/NalPayloadUPinLaw", "noEmulation", "(J)J"⟩ : MethodName) method_2_code 4 (some .long) :: ws) ({ frames := 0, cells := 0, slots := 0, locals := 0 } : Room)) (fun a U => a = #[(.long q0)] ∧ Z.Warmed39 U.vm ∧ U.heap = h0) (fun _ _ _ _ _ => True) (fun _ U o U' => ∃ v L, o = .returned v ∧ rm1_Q Z q0 h0 n0 v U'.heap L ∧ FrameEnd U o U' L ({ frames := 0, cells := 0, slots := 0, locals := 0 } : Room).cells ({ frames := 0, cells := 0, slots := 0, locals := 0 } : Room).slots) := by
  refine MetFree.of_bodySF (plainFor_of_name pn_rm1) hisR ?_
  intro p e s m args below meth c s₁ Bd hml0 hP hK
  obtain ⟨rfl, hZ, hh⟩ := hP
  have hx := Bd.exec
  have hby := Bd.bytes
  have hml : c.maxLocals = 4 := hml0
  have hown : s.vm.findClass "lazyframe/media/NalPayloadUPinLaw" = some m.cls := findClass_of_methodNamed Bd.named
  have hnm := (name_of_methodNamed Bd.named Bd.method).1
  have X0 : Stand p l e ({ frames := 0, cells := 0, slots := 0, locals := 0 } : Room) s m #[(.long q0)] below meth c s₁ [] 0 0 := Stand.of_body Bd
  have e0 : s₁.heap = h0 := by rw [← hh, Bd.state]; rfl
  have N0 := Fr.nil n0
  refine own_enter (QQ := rm1_Q Z q0 h0 n0) (ef_rm1 m q0) ?_
  show own_Run p e below s _ _ _ s₁ (mkF m 0 #[.val (.long q0), .second, .unset, .unset] [])
  refine own_step (T' := s₁) (g' := (mkF m 14 #[.val (.long q0), .second, .val (.long q0), .second] [(.int (lcmpW (((q0.toUInt64 >>> ((40 : Int32) &&& 0x3f).toInt64.toUInt64).toInt64) &&& (16777215 : Int64)) (3 : Int64)))])) (fun t k => ?_) ?_
  · show Steps p.tables e below (s₁.setTop (mkF m 0 #[.val (.long q0), .second, .unset, .unset] [])) _
    refine XS.lloadN X0.here hx rfl (hb hby d1_0) rfl ?_
    show Steps p.tables e below (s₁.setTop (mkF m 1 #[.val (.long q0), .second, .unset, .unset] [(.long q0)])) _
    refine XS.lstoreN X0.here hx rfl (hb hby d1_1) rfl (l' := #[.val (.long q0), .second, .val (.long q0), .second]) rfl ?_
    show Steps p.tables e below (s₁.setTop (mkF m 2 #[.val (.long q0), .second, .val (.long q0), .second] [])) _
    refine XS.lloadN X0.here hx rfl (hb hby d1_2) rfl ?_
    show Steps p.tables e below (s₁.setTop (mkF m 3 #[.val (.long q0), .second, .val (.long q0), .second] [(.long q0)])) _
    refine XS.bipush X0.here hx rfl (hb hby d1_3) ?_
    show Steps p.tables e below (s₁.setTop (mkF m 5 #[.val (.long q0), .second, .val (.long q0), .second] [(.int (40 : Int32)), (.long q0)])) _
    refine XS.lushr X0.here hx rfl (hb hby d1_5) rfl ?_
    show Steps p.tables e below (s₁.setTop (mkF m 6 #[.val (.long q0), .second, .val (.long q0), .second] [(.long ((q0.toUInt64 >>> ((40 : Int32) &&& 0x3f).toInt64.toUInt64).toInt64))])) _
    refine X0.ldc2Long hx hown (mvT hZ (hw _ (List.mem_of_getElem? (i := 4) rfl))) (g := (mkF m 6 #[.val (.long q0), .second, .val (.long q0), .second] [(.long ((q0.toUInt64 >>> ((40 : Int32) &&& 0x3f).toInt64.toUInt64).toInt64))])) rfl (hb hby d1_6) _ ?_
    show Steps p.tables e below (s₁.setTop (mkF m 9 #[.val (.long q0), .second, .val (.long q0), .second] [(.long (16777215 : Int64)), (.long ((q0.toUInt64 >>> ((40 : Int32) &&& 0x3f).toInt64.toUInt64).toInt64))])) _
    refine XS.land X0.here hx rfl (hb hby d1_9) rfl ?_
    show Steps p.tables e below (s₁.setTop (mkF m 10 #[.val (.long q0), .second, .val (.long q0), .second] [(.long (((q0.toUInt64 >>> ((40 : Int32) &&& 0x3f).toInt64.toUInt64).toInt64) &&& (16777215 : Int64)))])) _
    refine X0.ldc2Long hx hown (mvT hZ (hw _ (List.mem_of_getElem? (i := 5) rfl))) (g := (mkF m 10 #[.val (.long q0), .second, .val (.long q0), .second] [(.long (((q0.toUInt64 >>> ((40 : Int32) &&& 0x3f).toInt64.toUInt64).toInt64) &&& (16777215 : Int64)))])) rfl (hb hby d1_10) _ ?_
    show Steps p.tables e below (s₁.setTop (mkF m 13 #[.val (.long q0), .second, .val (.long q0), .second] [(.long (3 : Int64)), (.long (((q0.toUInt64 >>> ((40 : Int32) &&& 0x3f).toInt64.toUInt64).toInt64) &&& (16777215 : Int64)))])) _
    refine XS.lcmp X0.here hx rfl (hb hby d1_13) rfl ?_
    show Steps p.tables e below (s₁.setTop (mkF m 14 #[.val (.long q0), .second, .val (.long q0), .second] [(.int (lcmpW (((q0.toUInt64 >>> ((40 : Int32) &&& 0x3f).toInt64.toUInt64).toInt64) &&& (16777215 : Int64)) (3 : Int64)))])) _
    exact k
  refine own_step (T' := s₁) (g' := (mkF m 23 #[.val (.long q0), .second, .val (.long (own_pickJ ((lcmpW (((q0.toUInt64 >>> ((40 : Int32) &&& 0x3f).toInt64.toUInt64).toInt64) &&& (16777215 : Int64)) (3 : Int64)) = (0 : Int32)) (q0 ||| (140737488355328 : Int64)) q0)), .second] [])) (fun t k => ?_) ?_
  · show Steps p.tables e below (s₁.setTop (mkF m 14 #[.val (.long q0), .second, .val (.long q0), .second] [(.int (lcmpW (((q0.toUInt64 >>> ((40 : Int32) &&& 0x3f).toInt64.toUInt64).toInt64) &&& (16777215 : Int64)) (3 : Int64)))])) _
    by_cases hq : (lcmpW (((q0.toUInt64 >>> ((40 : Int32) &&& 0x3f).toInt64.toUInt64).toInt64) &&& (16777215 : Int64)) (3 : Int64)) = (0 : Int32)
    · simp only [own_pick_pos hq, own_pickJ_pos hq] at k
      refine XS.ifNo X0.here hx rfl (hb hby d1_14) rfl ((if0 _ _).trans (teq hq).2) ?_
      show Steps p.tables e below (s₁.setTop (mkF m 17 #[.val (.long q0), .second, .val (.long q0), .second] [])) _
      refine XS.lloadN X0.here hx rfl (hb hby d1_17) rfl ?_
      show Steps p.tables e below (s₁.setTop (mkF m 18 #[.val (.long q0), .second, .val (.long q0), .second] [(.long q0)])) _
      refine X0.ldc2Long hx hown (mvT hZ (hw _ (List.mem_of_getElem? (i := 57) rfl))) (g := (mkF m 18 #[.val (.long q0), .second, .val (.long q0), .second] [(.long q0)])) rfl (hb hby d1_18) _ ?_
      show Steps p.tables e below (s₁.setTop (mkF m 21 #[.val (.long q0), .second, .val (.long q0), .second] [(.long (140737488355328 : Int64)), (.long q0)])) _
      refine XS.lor X0.here hx rfl (hb hby d1_21) rfl ?_
      show Steps p.tables e below (s₁.setTop (mkF m 22 #[.val (.long q0), .second, .val (.long q0), .second] [(.long (q0 ||| (140737488355328 : Int64)))])) _
      refine XS.lstoreN X0.here hx rfl (hb hby d1_22) rfl (l' := #[.val (.long q0), .second, .val (.long (q0 ||| (140737488355328 : Int64))), .second]) rfl ?_
      show Steps p.tables e below (s₁.setTop (mkF m 23 #[.val (.long q0), .second, .val (.long (q0 ||| (140737488355328 : Int64))), .second] [])) _
      exact k
    · simp only [own_pick_neg hq, own_pickJ_neg hq] at k
      refine XS.ifYes X0.here hx rfl (pc0 := 14) (pc' := 23) rfl (hb hby d1_14) rfl ((if0 _ _).trans (feq hq).2) (by decide) (by decide) ?_
      show Steps p.tables e below (s₁.setTop (mkF m 23 #[.val (.long q0), .second, .val (.long q0), .second] [])) _
      exact k
  show own_Run p e below s _ _ _ s₁ (mkF m 23 #[.val (.long q0), .second, .val (.long (own_pickJ ((lcmpW (((q0.toUInt64 >>> ((40 : Int32) &&& 0x3f).toInt64.toUInt64).toInt64) &&& (16777215 : Int64)) (3 : Int64)) = (0 : Int32)) (q0 ||| (140737488355328 : Int64)) q0)), .second] [])
  generalize e_y1 : (own_pickJ ((lcmpW (((q0.toUInt64 >>> ((40 : Int32) &&& 0x3f).toInt64.toUInt64).toInt64) &&& (16777215 : Int64)) (3 : Int64)) = (0 : Int32)) (q0 ||| (140737488355328 : Int64)) q0) = y1
  show own_Run p e below s _ _ _ s₁ (mkF m 23 #[.val (.long q0), .second, .val (.long y1), .second] [])
  refine own_step (T' := s₁) (g' := (mkF m 35 #[.val (.long q0), .second, .val (.long y1), .second] [(.int (lcmpW (((y1.toUInt64 >>> ((32 : Int32) &&& 0x3f).toInt64.toUInt64).toInt64) &&& (16777215 : Int64)) (3 : Int64)))])) (fun t k => ?_) ?_
  · show Steps p.tables e below (s₁.setTop (mkF m 23 #[.val (.long q0), .second, .val (.long y1), .second] [])) _
    refine XS.lloadN X0.here hx rfl (hb hby d1_23) rfl ?_
    show Steps p.tables e below (s₁.setTop (mkF m 24 #[.val (.long q0), .second, .val (.long y1), .second] [(.long y1)])) _
    refine XS.bipush X0.here hx rfl (hb hby d1_24) ?_
    show Steps p.tables e below (s₁.setTop (mkF m 26 #[.val (.long q0), .second, .val (.long y1), .second] [(.int (32 : Int32)), (.long y1)])) _
    refine XS.lushr X0.here hx rfl (hb hby d1_26) rfl ?_
    show Steps p.tables e below (s₁.setTop (mkF m 27 #[.val (.long q0), .second, .val (.long y1), .second] [(.long ((y1.toUInt64 >>> ((32 : Int32) &&& 0x3f).toInt64.toUInt64).toInt64))])) _
    refine X0.ldc2Long hx hown (mvT hZ (hw _ (List.mem_of_getElem? (i := 4) rfl))) (g := (mkF m 27 #[.val (.long q0), .second, .val (.long y1), .second] [(.long ((y1.toUInt64 >>> ((32 : Int32) &&& 0x3f).toInt64.toUInt64).toInt64))])) rfl (hb hby d1_27) _ ?_
    show Steps p.tables e below (s₁.setTop (mkF m 30 #[.val (.long q0), .second, .val (.long y1), .second] [(.long (16777215 : Int64)), (.long ((y1.toUInt64 >>> ((32 : Int32) &&& 0x3f).toInt64.toUInt64).toInt64))])) _
    refine XS.land X0.here hx rfl (hb hby d1_30) rfl ?_
    show Steps p.tables e below (s₁.setTop (mkF m 31 #[.val (.long q0), .second, .val (.long y1), .second] [(.long (((y1.toUInt64 >>> ((32 : Int32) &&& 0x3f).toInt64.toUInt64).toInt64) &&& (16777215 : Int64)))])) _
    refine X0.ldc2Long hx hown (mvT hZ (hw _ (List.mem_of_getElem? (i := 5) rfl))) (g := (mkF m 31 #[.val (.long q0), .second, .val (.long y1), .second] [(.long (((y1.toUInt64 >>> ((32 : Int32) &&& 0x3f).toInt64.toUInt64).toInt64) &&& (16777215 : Int64)))])) rfl (hb hby d1_31) _ ?_
    show Steps p.tables e below (s₁.setTop (mkF m 34 #[.val (.long q0), .second, .val (.long y1), .second] [(.long (3 : Int64)), (.long (((y1.toUInt64 >>> ((32 : Int32) &&& 0x3f).toInt64.toUInt64).toInt64) &&& (16777215 : Int64)))])) _
    refine XS.lcmp X0.here hx rfl (hb hby d1_34) rfl ?_
    show Steps p.tables e below (s₁.setTop (mkF m 35 #[.val (.long q0), .second, .val (.long y1), .second] [(.int (lcmpW (((y1.toUInt64 >>> ((32 : Int32) &&& 0x3f).toInt64.toUInt64).toInt64) &&& (16777215 : Int64)) (3 : Int64)))])) _
    exact k
  refine own_step (T' := s₁) (g' := (mkF m 44 #[.val (.long q0), .second, .val (.long (own_pickJ ((lcmpW (((y1.toUInt64 >>> ((32 : Int32) &&& 0x3f).toInt64.toUInt64).toInt64) &&& (16777215 : Int64)) (3 : Int64)) = (0 : Int32)) (y1 ||| (549755813888 : Int64)) y1)), .second] [])) (fun t k => ?_) ?_
  · show Steps p.tables e below (s₁.setTop (mkF m 35 #[.val (.long q0), .second, .val (.long y1), .second] [(.int (lcmpW (((y1.toUInt64 >>> ((32 : Int32) &&& 0x3f).toInt64.toUInt64).toInt64) &&& (16777215 : Int64)) (3 : Int64)))])) _
    by_cases hq : (lcmpW (((y1.toUInt64 >>> ((32 : Int32) &&& 0x3f).toInt64.toUInt64).toInt64) &&& (16777215 : Int64)) (3 : Int64)) = (0 : Int32)
    · simp only [own_pick_pos hq, own_pickJ_pos hq] at k
      refine XS.ifNo X0.here hx rfl (hb hby d1_35) rfl ((if0 _ _).trans (teq hq).2) ?_
      show Steps p.tables e below (s₁.setTop (mkF m 38 #[.val (.long q0), .second, .val (.long y1), .second] [])) _
      refine XS.lloadN X0.here hx rfl (hb hby d1_38) rfl ?_
      show Steps p.tables e below (s₁.setTop (mkF m 39 #[.val (.long q0), .second, .val (.long y1), .second] [(.long y1)])) _
      refine X0.ldc2Long hx hown (mvT hZ (hw _ (List.mem_of_getElem? (i := 58) rfl))) (g := (mkF m 39 #[.val (.long q0), .second, .val (.long y1), .second] [(.long y1)])) rfl (hb hby d1_39) _ ?_
      show Steps p.tables e below (s₁.setTop (mkF m 42 #[.val (.long q0), .second, .val (.long y1), .second] [(.long (549755813888 : Int64)), (.long y1)])) _
      refine XS.lor X0.here hx rfl (hb hby d1_42) rfl ?_
      show Steps p.tables e below (s₁.setTop (mkF m 43 #[.val (.long q0), .second, .val (.long y1), .second] [(.long (y1 ||| (549755813888 : Int64)))])) _
      refine XS.lstoreN X0.here hx rfl (hb hby d1_43) rfl (l' := #[.val (.long q0), .second, .val (.long (y1 ||| (549755813888 : Int64))), .second]) rfl ?_
      show Steps p.tables e below (s₁.setTop (mkF m 44 #[.val (.long q0), .second, .val (.long (y1 ||| (549755813888 : Int64))), .second] [])) _
      exact k
    · simp only [own_pick_neg hq, own_pickJ_neg hq] at k
      refine XS.ifYes X0.here hx rfl (pc0 := 35) (pc' := 44) rfl (hb hby d1_35) rfl ((if0 _ _).trans (feq hq).2) (by decide) (by decide) ?_
      show Steps p.tables e below (s₁.setTop (mkF m 44 #[.val (.long q0), .second, .val (.long y1), .second] [])) _
      exact k
  show own_Run p e below s _ _ _ s₁ (mkF m 44 #[.val (.long q0), .second, .val (.long (own_pickJ ((lcmpW (((y1.toUInt64 >>> ((32 : Int32) &&& 0x3f).toInt64.toUInt64).toInt64) &&& (16777215 : Int64)) (3 : Int64)) = (0 : Int32)) (y1 ||| (549755813888 : Int64)) y1)), .second] [])
  generalize e_y2 : (own_pickJ ((lcmpW (((y1.toUInt64 >>> ((32 : Int32) &&& 0x3f).toInt64.toUInt64).toInt64) &&& (16777215 : Int64)) (3 : Int64)) = (0 : Int32)) (y1 ||| (549755813888 : Int64)) y1) = y2
  show own_Run p e below s _ _ _ s₁ (mkF m 44 #[.val (.long q0), .second, .val (.long y2), .second] [])
  refine own_step (T' := s₁) (g' := (mkF m 56 #[.val (.long q0), .second, .val (.long y2), .second] [(.int (lcmpW (((y2.toUInt64 >>> ((24 : Int32) &&& 0x3f).toInt64.toUInt64).toInt64) &&& (16777215 : Int64)) (3 : Int64)))])) (fun t k => ?_) ?_
  · show Steps p.tables e below (s₁.setTop (mkF m 44 #[.val (.long q0), .second, .val (.long y2), .second] [])) _
    refine XS.lloadN X0.here hx rfl (hb hby d1_44) rfl ?_
    show Steps p.tables e below (s₁.setTop (mkF m 45 #[.val (.long q0), .second, .val (.long y2), .second] [(.long y2)])) _
    refine XS.bipush X0.here hx rfl (hb hby d1_45) ?_
    show Steps p.tables e below (s₁.setTop (mkF m 47 #[.val (.long q0), .second, .val (.long y2), .second] [(.int (24 : Int32)), (.long y2)])) _
    refine XS.lushr X0.here hx rfl (hb hby d1_47) rfl ?_
    show Steps p.tables e below (s₁.setTop (mkF m 48 #[.val (.long q0), .second, .val (.long y2), .second] [(.long ((y2.toUInt64 >>> ((24 : Int32) &&& 0x3f).toInt64.toUInt64).toInt64))])) _
    refine X0.ldc2Long hx hown (mvT hZ (hw _ (List.mem_of_getElem? (i := 4) rfl))) (g := (mkF m 48 #[.val (.long q0), .second, .val (.long y2), .second] [(.long ((y2.toUInt64 >>> ((24 : Int32) &&& 0x3f).toInt64.toUInt64).toInt64))])) rfl (hb hby d1_48) _ ?_
    show Steps p.tables e below (s₁.setTop (mkF m 51 #[.val (.long q0), .second, .val (.long y2), .second] [(.long (16777215 : Int64)), (.long ((y2.toUInt64 >>> ((24 : Int32) &&& 0x3f).toInt64.toUInt64).toInt64))])) _
    refine XS.land X0.here hx rfl (hb hby d1_51) rfl ?_
    show Steps p.tables e below (s₁.setTop (mkF m 52 #[.val (.long q0), .second, .val (.long y2), .second] [(.long (((y2.toUInt64 >>> ((24 : Int32) &&& 0x3f).toInt64.toUInt64).toInt64) &&& (16777215 : Int64)))])) _
    refine X0.ldc2Long hx hown (mvT hZ (hw _ (List.mem_of_getElem? (i := 5) rfl))) (g := (mkF m 52 #[.val (.long q0), .second, .val (.long y2), .second] [(.long (((y2.toUInt64 >>> ((24 : Int32) &&& 0x3f).toInt64.toUInt64).toInt64) &&& (16777215 : Int64)))])) rfl (hb hby d1_52) _ ?_
    show Steps p.tables e below (s₁.setTop (mkF m 55 #[.val (.long q0), .second, .val (.long y2), .second] [(.long (3 : Int64)), (.long (((y2.toUInt64 >>> ((24 : Int32) &&& 0x3f).toInt64.toUInt64).toInt64) &&& (16777215 : Int64)))])) _
    refine XS.lcmp X0.here hx rfl (hb hby d1_55) rfl ?_
    show Steps p.tables e below (s₁.setTop (mkF m 56 #[.val (.long q0), .second, .val (.long y2), .second] [(.int (lcmpW (((y2.toUInt64 >>> ((24 : Int32) &&& 0x3f).toInt64.toUInt64).toInt64) &&& (16777215 : Int64)) (3 : Int64)))])) _
    exact k
  refine own_step (T' := s₁) (g' := (mkF m 65 #[.val (.long q0), .second, .val (.long (own_pickJ ((lcmpW (((y2.toUInt64 >>> ((24 : Int32) &&& 0x3f).toInt64.toUInt64).toInt64) &&& (16777215 : Int64)) (3 : Int64)) = (0 : Int32)) (y2 ||| (2147483648 : Int64)) y2)), .second] [])) (fun t k => ?_) ?_
  · show Steps p.tables e below (s₁.setTop (mkF m 56 #[.val (.long q0), .second, .val (.long y2), .second] [(.int (lcmpW (((y2.toUInt64 >>> ((24 : Int32) &&& 0x3f).toInt64.toUInt64).toInt64) &&& (16777215 : Int64)) (3 : Int64)))])) _
    by_cases hq : (lcmpW (((y2.toUInt64 >>> ((24 : Int32) &&& 0x3f).toInt64.toUInt64).toInt64) &&& (16777215 : Int64)) (3 : Int64)) = (0 : Int32)
    · simp only [own_pick_pos hq, own_pickJ_pos hq] at k
      refine XS.ifNo X0.here hx rfl (hb hby d1_56) rfl ((if0 _ _).trans (teq hq).2) ?_
      show Steps p.tables e below (s₁.setTop (mkF m 59 #[.val (.long q0), .second, .val (.long y2), .second] [])) _
      refine XS.lloadN X0.here hx rfl (hb hby d1_59) rfl ?_
      show Steps p.tables e below (s₁.setTop (mkF m 60 #[.val (.long q0), .second, .val (.long y2), .second] [(.long y2)])) _
      refine X0.ldc2Long hx hown (mvT hZ (hw _ (List.mem_of_getElem? (i := 59) rfl))) (g := (mkF m 60 #[.val (.long q0), .second, .val (.long y2), .second] [(.long y2)])) rfl (hb hby d1_60) _ ?_
      show Steps p.tables e below (s₁.setTop (mkF m 63 #[.val (.long q0), .second, .val (.long y2), .second] [(.long (2147483648 : Int64)), (.long y2)])) _
      refine XS.lor X0.here hx rfl (hb hby d1_63) rfl ?_
      show Steps p.tables e below (s₁.setTop (mkF m 64 #[.val (.long q0), .second, .val (.long y2), .second] [(.long (y2 ||| (2147483648 : Int64)))])) _
      refine XS.lstoreN X0.here hx rfl (hb hby d1_64) rfl (l' := #[.val (.long q0), .second, .val (.long (y2 ||| (2147483648 : Int64))), .second]) rfl ?_
      show Steps p.tables e below (s₁.setTop (mkF m 65 #[.val (.long q0), .second, .val (.long (y2 ||| (2147483648 : Int64))), .second] [])) _
      exact k
    · simp only [own_pick_neg hq, own_pickJ_neg hq] at k
      refine XS.ifYes X0.here hx rfl (pc0 := 56) (pc' := 65) rfl (hb hby d1_56) rfl ((if0 _ _).trans (feq hq).2) (by decide) (by decide) ?_
      show Steps p.tables e below (s₁.setTop (mkF m 65 #[.val (.long q0), .second, .val (.long y2), .second] [])) _
      exact k
  show own_Run p e below s _ _ _ s₁ (mkF m 65 #[.val (.long q0), .second, .val (.long (own_pickJ ((lcmpW (((y2.toUInt64 >>> ((24 : Int32) &&& 0x3f).toInt64.toUInt64).toInt64) &&& (16777215 : Int64)) (3 : Int64)) = (0 : Int32)) (y2 ||| (2147483648 : Int64)) y2)), .second] [])
  generalize e_y3 : (own_pickJ ((lcmpW (((y2.toUInt64 >>> ((24 : Int32) &&& 0x3f).toInt64.toUInt64).toInt64) &&& (16777215 : Int64)) (3 : Int64)) = (0 : Int32)) (y2 ||| (2147483648 : Int64)) y2) = y3
  show own_Run p e below s _ _ _ s₁ (mkF m 65 #[.val (.long q0), .second, .val (.long y3), .second] [])
  refine own_step (T' := s₁) (g' := (mkF m 77 #[.val (.long q0), .second, .val (.long y3), .second] [(.int (lcmpW (((y3.toUInt64 >>> ((16 : Int32) &&& 0x3f).toInt64.toUInt64).toInt64) &&& (16777215 : Int64)) (3 : Int64)))])) (fun t k => ?_) ?_
  · show Steps p.tables e below (s₁.setTop (mkF m 65 #[.val (.long q0), .second, .val (.long y3), .second] [])) _
    refine XS.lloadN X0.here hx rfl (hb hby d1_65) rfl ?_
    show Steps p.tables e below (s₁.setTop (mkF m 66 #[.val (.long q0), .second, .val (.long y3), .second] [(.long y3)])) _
    refine XS.bipush X0.here hx rfl (hb hby d1_66) ?_
    show Steps p.tables e below (s₁.setTop (mkF m 68 #[.val (.long q0), .second, .val (.long y3), .second] [(.int (16 : Int32)), (.long y3)])) _
    refine XS.lushr X0.here hx rfl (hb hby d1_68) rfl ?_
    show Steps p.tables e below (s₁.setTop (mkF m 69 #[.val (.long q0), .second, .val (.long y3), .second] [(.long ((y3.toUInt64 >>> ((16 : Int32) &&& 0x3f).toInt64.toUInt64).toInt64))])) _
    refine X0.ldc2Long hx hown (mvT hZ (hw _ (List.mem_of_getElem? (i := 4) rfl))) (g := (mkF m 69 #[.val (.long q0), .second, .val (.long y3), .second] [(.long ((y3.toUInt64 >>> ((16 : Int32) &&& 0x3f).toInt64.toUInt64).toInt64))])) rfl (hb hby d1_69) _ ?_
    show Steps p.tables e below (s₁.setTop (mkF m 72 #[.val (.long q0), .second, .val (.long y3), .second] [(.long (16777215 : Int64)), (.long ((y3.toUInt64 >>> ((16 : Int32) &&& 0x3f).toInt64.toUInt64).toInt64))])) _
    refine XS.land X0.here hx rfl (hb hby d1_72) rfl ?_
    show Steps p.tables e below (s₁.setTop (mkF m 73 #[.val (.long q0), .second, .val (.long y3), .second] [(.long (((y3.toUInt64 >>> ((16 : Int32) &&& 0x3f).toInt64.toUInt64).toInt64) &&& (16777215 : Int64)))])) _
    refine X0.ldc2Long hx hown (mvT hZ (hw _ (List.mem_of_getElem? (i := 5) rfl))) (g := (mkF m 73 #[.val (.long q0), .second, .val (.long y3), .second] [(.long (((y3.toUInt64 >>> ((16 : Int32) &&& 0x3f).toInt64.toUInt64).toInt64) &&& (16777215 : Int64)))])) rfl (hb hby d1_73) _ ?_
    show Steps p.tables e below (s₁.setTop (mkF m 76 #[.val (.long q0), .second, .val (.long y3), .second] [(.long (3 : Int64)), (.long (((y3.toUInt64 >>> ((16 : Int32) &&& 0x3f).toInt64.toUInt64).toInt64) &&& (16777215 : Int64)))])) _
    refine XS.lcmp X0.here hx rfl (hb hby d1_76) rfl ?_
    show Steps p.tables e below (s₁.setTop (mkF m 77 #[.val (.long q0), .second, .val (.long y3), .second] [(.int (lcmpW (((y3.toUInt64 >>> ((16 : Int32) &&& 0x3f).toInt64.toUInt64).toInt64) &&& (16777215 : Int64)) (3 : Int64)))])) _
    exact k
  refine own_step (T' := s₁) (g' := (mkF m 86 #[.val (.long q0), .second, .val (.long (own_pickJ ((lcmpW (((y3.toUInt64 >>> ((16 : Int32) &&& 0x3f).toInt64.toUInt64).toInt64) &&& (16777215 : Int64)) (3 : Int64)) = (0 : Int32)) (y3 ||| (8388608 : Int64)) y3)), .second] [])) (fun t k => ?_) ?_
  · show Steps p.tables e below (s₁.setTop (mkF m 77 #[.val (.long q0), .second, .val (.long y3), .second] [(.int (lcmpW (((y3.toUInt64 >>> ((16 : Int32) &&& 0x3f).toInt64.toUInt64).toInt64) &&& (16777215 : Int64)) (3 : Int64)))])) _
    by_cases hq : (lcmpW (((y3.toUInt64 >>> ((16 : Int32) &&& 0x3f).toInt64.toUInt64).toInt64) &&& (16777215 : Int64)) (3 : Int64)) = (0 : Int32)
    · simp only [own_pick_pos hq, own_pickJ_pos hq] at k
      refine XS.ifNo X0.here hx rfl (hb hby d1_77) rfl ((if0 _ _).trans (teq hq).2) ?_
      show Steps p.tables e below (s₁.setTop (mkF m 80 #[.val (.long q0), .second, .val (.long y3), .second] [])) _
      refine XS.lloadN X0.here hx rfl (hb hby d1_80) rfl ?_
      show Steps p.tables e below (s₁.setTop (mkF m 81 #[.val (.long q0), .second, .val (.long y3), .second] [(.long y3)])) _
      refine X0.ldc2Long hx hown (mvT hZ (hw _ (List.mem_of_getElem? (i := 60) rfl))) (g := (mkF m 81 #[.val (.long q0), .second, .val (.long y3), .second] [(.long y3)])) rfl (hb hby d1_81) _ ?_
      show Steps p.tables e below (s₁.setTop (mkF m 84 #[.val (.long q0), .second, .val (.long y3), .second] [(.long (8388608 : Int64)), (.long y3)])) _
      refine XS.lor X0.here hx rfl (hb hby d1_84) rfl ?_
      show Steps p.tables e below (s₁.setTop (mkF m 85 #[.val (.long q0), .second, .val (.long y3), .second] [(.long (y3 ||| (8388608 : Int64)))])) _
      refine XS.lstoreN X0.here hx rfl (hb hby d1_85) rfl (l' := #[.val (.long q0), .second, .val (.long (y3 ||| (8388608 : Int64))), .second]) rfl ?_
      show Steps p.tables e below (s₁.setTop (mkF m 86 #[.val (.long q0), .second, .val (.long (y3 ||| (8388608 : Int64))), .second] [])) _
      exact k
    · simp only [own_pick_neg hq, own_pickJ_neg hq] at k
      refine XS.ifYes X0.here hx rfl (pc0 := 77) (pc' := 86) rfl (hb hby d1_77) rfl ((if0 _ _).trans (feq hq).2) (by decide) (by decide) ?_
      show Steps p.tables e below (s₁.setTop (mkF m 86 #[.val (.long q0), .second, .val (.long y3), .second] [])) _
      exact k
  show own_Run p e below s _ _ _ s₁ (mkF m 86 #[.val (.long q0), .second, .val (.long (own_pickJ ((lcmpW (((y3.toUInt64 >>> ((16 : Int32) &&& 0x3f).toInt64.toUInt64).toInt64) &&& (16777215 : Int64)) (3 : Int64)) = (0 : Int32)) (y3 ||| (8388608 : Int64)) y3)), .second] [])
  generalize e_y4 : (own_pickJ ((lcmpW (((y3.toUInt64 >>> ((16 : Int32) &&& 0x3f).toInt64.toUInt64).toInt64) &&& (16777215 : Int64)) (3 : Int64)) = (0 : Int32)) (y3 ||| (8388608 : Int64)) y3) = y4
  show own_Run p e below s _ _ _ s₁ (mkF m 86 #[.val (.long q0), .second, .val (.long y4), .second] [])
  refine own_step (T' := s₁) (g' := (mkF m 98 #[.val (.long q0), .second, .val (.long y4), .second] [(.int (lcmpW (((y4.toUInt64 >>> ((8 : Int32) &&& 0x3f).toInt64.toUInt64).toInt64) &&& (16777215 : Int64)) (3 : Int64)))])) (fun t k => ?_) ?_
  · show Steps p.tables e below (s₁.setTop (mkF m 86 #[.val (.long q0), .second, .val (.long y4), .second] [])) _
    refine XS.lloadN X0.here hx rfl (hb hby d1_86) rfl ?_
    show Steps p.tables e below (s₁.setTop (mkF m 87 #[.val (.long q0), .second, .val (.long y4), .second] [(.long y4)])) _
    refine XS.bipush X0.here hx rfl (hb hby d1_87) ?_
    show Steps p.tables e below (s₁.setTop (mkF m 89 #[.val (.long q0), .second, .val (.long y4), .second] [(.int (8 : Int32)), (.long y4)])) _
    refine XS.lushr X0.here hx rfl (hb hby d1_89) rfl ?_
    show Steps p.tables e below (s₁.setTop (mkF m 90 #[.val (.long q0), .second, .val (.long y4), .second] [(.long ((y4.toUInt64 >>> ((8 : Int32) &&& 0x3f).toInt64.toUInt64).toInt64))])) _
    refine X0.ldc2Long hx hown (mvT hZ (hw _ (List.mem_of_getElem? (i := 4) rfl))) (g := (mkF m 90 #[.val (.long q0), .second, .val (.long y4), .second] [(.long ((y4.toUInt64 >>> ((8 : Int32) &&& 0x3f).toInt64.toUInt64).toInt64))])) rfl (hb hby d1_90) _ ?_
    show Steps p.tables e below (s₁.setTop (mkF m 93 #[.val (.long q0), .second, .val (.long y4), .second] [(.long (16777215 : Int64)), (.long ((y4.toUInt64 >>> ((8 : Int32) &&& 0x3f).toInt64.toUInt64).toInt64))])) _
    refine XS.land X0.here hx rfl (hb hby d1_93) rfl ?_
    show Steps p.tables e below (s₁.setTop (mkF m 94 #[.val (.long q0), .second, .val (.long y4), .second] [(.long (((y4.toUInt64 >>> ((8 : Int32) &&& 0x3f).toInt64.toUInt64).toInt64) &&& (16777215 : Int64)))])) _
    refine X0.ldc2Long hx hown (mvT hZ (hw _ (List.mem_of_getElem? (i := 5) rfl))) (g := (mkF m 94 #[.val (.long q0), .second, .val (.long y4), .second] [(.long (((y4.toUInt64 >>> ((8 : Int32) &&& 0x3f).toInt64.toUInt64).toInt64) &&& (16777215 : Int64)))])) rfl (hb hby d1_94) _ ?_
    show Steps p.tables e below (s₁.setTop (mkF m 97 #[.val (.long q0), .second, .val (.long y4), .second] [(.long (3 : Int64)), (.long (((y4.toUInt64 >>> ((8 : Int32) &&& 0x3f).toInt64.toUInt64).toInt64) &&& (16777215 : Int64)))])) _
    refine XS.lcmp X0.here hx rfl (hb hby d1_97) rfl ?_
    show Steps p.tables e below (s₁.setTop (mkF m 98 #[.val (.long q0), .second, .val (.long y4), .second] [(.int (lcmpW (((y4.toUInt64 >>> ((8 : Int32) &&& 0x3f).toInt64.toUInt64).toInt64) &&& (16777215 : Int64)) (3 : Int64)))])) _
    exact k
  refine own_step (T' := s₁) (g' := (mkF m 107 #[.val (.long q0), .second, .val (.long (own_pickJ ((lcmpW (((y4.toUInt64 >>> ((8 : Int32) &&& 0x3f).toInt64.toUInt64).toInt64) &&& (16777215 : Int64)) (3 : Int64)) = (0 : Int32)) (y4 ||| (32768 : Int64)) y4)), .second] [])) (fun t k => ?_) ?_
  · show Steps p.tables e below (s₁.setTop (mkF m 98 #[.val (.long q0), .second, .val (.long y4), .second] [(.int (lcmpW (((y4.toUInt64 >>> ((8 : Int32) &&& 0x3f).toInt64.toUInt64).toInt64) &&& (16777215 : Int64)) (3 : Int64)))])) _
    by_cases hq : (lcmpW (((y4.toUInt64 >>> ((8 : Int32) &&& 0x3f).toInt64.toUInt64).toInt64) &&& (16777215 : Int64)) (3 : Int64)) = (0 : Int32)
    · simp only [own_pick_pos hq, own_pickJ_pos hq] at k
      refine XS.ifNo X0.here hx rfl (hb hby d1_98) rfl ((if0 _ _).trans (teq hq).2) ?_
      show Steps p.tables e below (s₁.setTop (mkF m 101 #[.val (.long q0), .second, .val (.long y4), .second] [])) _
      refine XS.lloadN X0.here hx rfl (hb hby d1_101) rfl ?_
      show Steps p.tables e below (s₁.setTop (mkF m 102 #[.val (.long q0), .second, .val (.long y4), .second] [(.long y4)])) _
      refine X0.ldc2Long hx hown (mvT hZ (hw _ (List.mem_of_getElem? (i := 61) rfl))) (g := (mkF m 102 #[.val (.long q0), .second, .val (.long y4), .second] [(.long y4)])) rfl (hb hby d1_102) _ ?_
      show Steps p.tables e below (s₁.setTop (mkF m 105 #[.val (.long q0), .second, .val (.long y4), .second] [(.long (32768 : Int64)), (.long y4)])) _
      refine XS.lor X0.here hx rfl (hb hby d1_105) rfl ?_
      show Steps p.tables e below (s₁.setTop (mkF m 106 #[.val (.long q0), .second, .val (.long y4), .second] [(.long (y4 ||| (32768 : Int64)))])) _
      refine XS.lstoreN X0.here hx rfl (hb hby d1_106) rfl (l' := #[.val (.long q0), .second, .val (.long (y4 ||| (32768 : Int64))), .second]) rfl ?_
      show Steps p.tables e below (s₁.setTop (mkF m 107 #[.val (.long q0), .second, .val (.long (y4 ||| (32768 : Int64))), .second] [])) _
      exact k
    · simp only [own_pick_neg hq, own_pickJ_neg hq] at k
      refine XS.ifYes X0.here hx rfl (pc0 := 98) (pc' := 107) rfl (hb hby d1_98) rfl ((if0 _ _).trans (feq hq).2) (by decide) (by decide) ?_
      show Steps p.tables e below (s₁.setTop (mkF m 107 #[.val (.long q0), .second, .val (.long y4), .second] [])) _
      exact k
  show own_Run p e below s _ _ _ s₁ (mkF m 107 #[.val (.long q0), .second, .val (.long (own_pickJ ((lcmpW (((y4.toUInt64 >>> ((8 : Int32) &&& 0x3f).toInt64.toUInt64).toInt64) &&& (16777215 : Int64)) (3 : Int64)) = (0 : Int32)) (y4 ||| (32768 : Int64)) y4)), .second] [])
  generalize e_y5 : (own_pickJ ((lcmpW (((y4.toUInt64 >>> ((8 : Int32) &&& 0x3f).toInt64.toUInt64).toInt64) &&& (16777215 : Int64)) (3 : Int64)) = (0 : Int32)) (y4 ||| (32768 : Int64)) y4) = y5
  show own_Run p e below s _ _ _ s₁ (mkF m 107 #[.val (.long q0), .second, .val (.long y5), .second] [])
  refine own_step (T' := s₁) (g' := (mkF m 116 #[.val (.long q0), .second, .val (.long y5), .second] [(.int (lcmpW (y5 &&& (16777215 : Int64)) (3 : Int64)))])) (fun t k => ?_) ?_
  · show Steps p.tables e below (s₁.setTop (mkF m 107 #[.val (.long q0), .second, .val (.long y5), .second] [])) _
    refine XS.lloadN X0.here hx rfl (hb hby d1_107) rfl ?_
    show Steps p.tables e below (s₁.setTop (mkF m 108 #[.val (.long q0), .second, .val (.long y5), .second] [(.long y5)])) _
    refine X0.ldc2Long hx hown (mvT hZ (hw _ (List.mem_of_getElem? (i := 4) rfl))) (g := (mkF m 108 #[.val (.long q0), .second, .val (.long y5), .second] [(.long y5)])) rfl (hb hby d1_108) _ ?_
    show Steps p.tables e below (s₁.setTop (mkF m 111 #[.val (.long q0), .second, .val (.long y5), .second] [(.long (16777215 : Int64)), (.long y5)])) _
    refine XS.land X0.here hx rfl (hb hby d1_111) rfl ?_
    show Steps p.tables e below (s₁.setTop (mkF m 112 #[.val (.long q0), .second, .val (.long y5), .second] [(.long (y5 &&& (16777215 : Int64)))])) _
    refine X0.ldc2Long hx hown (mvT hZ (hw _ (List.mem_of_getElem? (i := 5) rfl))) (g := (mkF m 112 #[.val (.long q0), .second, .val (.long y5), .second] [(.long (y5 &&& (16777215 : Int64)))])) rfl (hb hby d1_112) _ ?_
    show Steps p.tables e below (s₁.setTop (mkF m 115 #[.val (.long q0), .second, .val (.long y5), .second] [(.long (3 : Int64)), (.long (y5 &&& (16777215 : Int64)))])) _
    refine XS.lcmp X0.here hx rfl (hb hby d1_115) rfl ?_
    show Steps p.tables e below (s₁.setTop (mkF m 116 #[.val (.long q0), .second, .val (.long y5), .second] [(.int (lcmpW (y5 &&& (16777215 : Int64)) (3 : Int64)))])) _
    exact k
  refine own_step (T' := s₁) (g' := (mkF m 125 #[.val (.long q0), .second, .val (.long (own_pickJ ((lcmpW (y5 &&& (16777215 : Int64)) (3 : Int64)) = (0 : Int32)) (y5 ||| (128 : Int64)) y5)), .second] [])) (fun t k => ?_) ?_
  · show Steps p.tables e below (s₁.setTop (mkF m 116 #[.val (.long q0), .second, .val (.long y5), .second] [(.int (lcmpW (y5 &&& (16777215 : Int64)) (3 : Int64)))])) _
    by_cases hq : (lcmpW (y5 &&& (16777215 : Int64)) (3 : Int64)) = (0 : Int32)
    · simp only [own_pick_pos hq, own_pickJ_pos hq] at k
      refine XS.ifNo X0.here hx rfl (hb hby d1_116) rfl ((if0 _ _).trans (teq hq).2) ?_
      show Steps p.tables e below (s₁.setTop (mkF m 119 #[.val (.long q0), .second, .val (.long y5), .second] [])) _
      refine XS.lloadN X0.here hx rfl (hb hby d1_119) rfl ?_
      show Steps p.tables e below (s₁.setTop (mkF m 120 #[.val (.long q0), .second, .val (.long y5), .second] [(.long y5)])) _
      refine X0.ldc2Long hx hown (mvT hZ (hw _ (List.mem_of_getElem? (i := 6) rfl))) (g := (mkF m 120 #[.val (.long q0), .second, .val (.long y5), .second] [(.long y5)])) rfl (hb hby d1_120) _ ?_
      show Steps p.tables e below (s₁.setTop (mkF m 123 #[.val (.long q0), .second, .val (.long y5), .second] [(.long (128 : Int64)), (.long y5)])) _
      refine XS.lor X0.here hx rfl (hb hby d1_123) rfl ?_
      show Steps p.tables e below (s₁.setTop (mkF m 124 #[.val (.long q0), .second, .val (.long y5), .second] [(.long (y5 ||| (128 : Int64)))])) _
      refine XS.lstoreN X0.here hx rfl (hb hby d1_124) rfl (l' := #[.val (.long q0), .second, .val (.long (y5 ||| (128 : Int64))), .second]) rfl ?_
      show Steps p.tables e below (s₁.setTop (mkF m 125 #[.val (.long q0), .second, .val (.long (y5 ||| (128 : Int64))), .second] [])) _
      exact k
    · simp only [own_pick_neg hq, own_pickJ_neg hq] at k
      refine XS.ifYes X0.here hx rfl (pc0 := 116) (pc' := 125) rfl (hb hby d1_116) rfl ((if0 _ _).trans (feq hq).2) (by decide) (by decide) ?_
      show Steps p.tables e below (s₁.setTop (mkF m 125 #[.val (.long q0), .second, .val (.long y5), .second] [])) _
      exact k
  show own_Run p e below s _ _ _ s₁ (mkF m 125 #[.val (.long q0), .second, .val (.long (own_pickJ ((lcmpW (y5 &&& (16777215 : Int64)) (3 : Int64)) = (0 : Int32)) (y5 ||| (128 : Int64)) y5)), .second] [])
  generalize e_y6 : (own_pickJ ((lcmpW (y5 &&& (16777215 : Int64)) (3 : Int64)) = (0 : Int32)) (y5 ||| (128 : Int64)) y5) = y6
  show own_Run p e below s _ _ _ s₁ (mkF m 125 #[.val (.long q0), .second, .val (.long y6), .second] [])
  refine own_step (T' := s₁) (g' := (mkF m 126 #[.val (.long q0), .second, .val (.long y6), .second] [(.long y6)])) (fun t k => ?_) ?_
  · show Steps p.tables e below (s₁.setTop (mkF m 125 #[.val (.long q0), .second, .val (.long y6), .second] [])) _
    refine XS.lloadN X0.here hx rfl (hb hby d1_125) rfl ?_
    show Steps p.tables e below (s₁.setTop (mkF m 126 #[.val (.long q0), .second, .val (.long y6), .second] [(.long y6)])) _
    exact k
  refine own_retJ X0 hx Bd.returns (hb hby d1_126) (BodyLoose.notSynchronized Bd) (by decide) (by decide) ?_
  rw [show s₁.heap = h0 from e0]
  subst e_y1 e_y2 e_y3 e_y4 e_y5 e_y6
  exact ⟨rfl, N0, rfl⟩
theorem d4_0 : decode jdk_65_method_121_code 0 = .ok (.iload_n 1, 1) := by decide +kernel
theorem d4_1 : decode jdk_65_method_121_code 1 = .ok (.aload_n 0, 1) := by decide +kernel
theorem d4_2 : decode jdk_65_method_121_code 2 = .ok (.arraylength, 1) := by decide +kernel
theorem d4_3 : decode jdk_65_method_121_code 3 = .ok (.if_icmp .ne 11, 3) := by decide +kernel
theorem d4_6 : decode jdk_65_method_121_code 6 = .ok (.aload_n 0, 1) := by decide +kernel
theorem d4_7 : decode jdk_65_method_121_code 7 = .ok (.invokevirtual 310, 3) := by decide +kernel
theorem d4_10 : decode jdk_65_method_121_code 10 = .ok (.checkcast 311, 3) := by decide +kernel
theorem d4_13 : decode jdk_65_method_121_code 13 = .ok (.areturn, 1) := by decide +kernel
theorem pn_rm4 : plainName "java/util/Arrays" = true := by first | (simp [plainName, overriddenIn]; done) | decide +kernel
theorem ef_rm4 (m : MethodId) (o0 : Addr) : entryFrame m #[(.ref o0), (.int (8 : Int32))] 3 = mkF m 0 #[.val (.ref o0), .val (.int (8 : Int32)), .unset] [] := by first | (simp [entryFrame, mkF, argsToLocals, Value.category, maxLocals]; done) | rfl
def rm4_Q (Z : State) (o0 : Addr) (k : ClassId) (vs : List Value) (h0 : Heap) (n0 : Nat) (v : Option Value) (h : Heap) (L : List Loc) : Prop := ∃ b, v = some (.ref b) ∧ Fr n0 L ∧ b = h0.size ∧ Keep h0 h [] ∧ Arv Z h b k .byte (8 : Int32) vs (.int (0 : Int32)) ∧ Exa Z h b "[B"
set_option maxRecDepth 65536 in
set_option maxHeartbeats 40000000 in
theorem rm4 (l : Launch) (Z : State) (a0 : Array Value) (hw : ∀ d ∈ tables_1, d.before a0 Z = true) (ws : List Jvm.Cond) (o0 : Addr) (k : ClassId) (vs : List Value) (h0 : Heap) (n0 : Nat) (Z0 : n0 ≤ h0.size) (V : Arv Z h0 o0 k .byte (8 : Int32) vs (.int (0 : Int32))) (A : Exa Z h0 o0 "[B") :
    MetFree l (⟨"java/util/Arrays", "copyOf", "([BI)[B"⟩ : MethodName) (head1 (Jvm.Cond.code (⟨"java/util/Arrays", "copyOf", "([BI)[B"⟩ : MethodName) jdk_65_method_121_code 3 (some (.array .byte)) :: ws) ({ frames := 1, cells := 1, slots := 8, locals := 14 } : Room)) (fun a U => a = #[(.ref o0), (.int (8 : Int32))] ∧ Z.Warmed39 U.vm ∧ U.heap = h0) (fun _ _ _ _ _ => True) (fun _ U o U' => ∃ v L, o = .returned v ∧ rm4_Q Z o0 k vs h0 n0 v U'.heap L ∧ FrameEnd U o U' L ({ frames := 1, cells := 1, slots := 8, locals := 14 } : Room).cells ({ frames := 1, cells := 1, slots := 8, locals := 14 } : Room).slots) := by
  refine MetFree.of_bodySF (plainFor_of_name pn_rm4) hisR ?_
  intro p e s m args below meth c s₁ Bd hml0 hP hK
  obtain ⟨rfl, hZ, hh⟩ := hP
  have hx := Bd.exec
  have hby := Bd.bytes
  have hml : c.maxLocals = 3 := hml0
  have hown : s.vm.findClass "java/util/Arrays" = some m.cls := findClass_of_methodNamed Bd.named
  have hnm := (name_of_methodNamed Bd.named Bd.method).1
  have X0 : Stand p l e ({ frames := 1, cells := 1, slots := 8, locals := 14 } : Room) s m #[(.ref o0), (.int (8 : Int32))] below meth c s₁ [] 0 0 := Stand.of_body Bd
  have e0 : s₁.heap = h0 := by rw [← hh, Bd.state]; rfl
  have N0 := Fr.nil n0
  have K0 := Keep.refl h0 []
  refine own_enter (QQ := rm4_Q Z o0 k vs h0 n0) (ef_rm4 m o0) ?_
  show own_Run p e below s _ _ _ s₁ (mkF m 0 #[.val (.ref o0), .val (.int (8 : Int32)), .unset] [])
  refine own_step (T' := s₁) (g' := (mkF m 2 #[.val (.ref o0), .val (.int (8 : Int32)), .unset] [(.ref o0), (.int (8 : Int32))])) (fun t k => ?_) ?_
  · show Steps p.tables e below (s₁.setTop (mkF m 0 #[.val (.ref o0), .val (.int (8 : Int32)), .unset] [])) _
    refine XS.iloadN X0.here hx rfl (hb hby d4_0) rfl ?_
    show Steps p.tables e below (s₁.setTop (mkF m 1 #[.val (.ref o0), .val (.int (8 : Int32)), .unset] [(.int (8 : Int32))])) _
    refine XS.aloadN X0.here hx rfl (hb hby d4_1) rfl rfl ?_
    show Steps p.tables e below (s₁.setTop (mkF m 2 #[.val (.ref o0), .val (.int (8 : Int32)), .unset] [(.ref o0), (.int (8 : Int32))])) _
    exact k
  obtain ⟨cl1, Arcl1, -, Scl1, Mcl1, -, -⟩ := id V
  refine own_step (T' := s₁) (g' := (mkF m 7 #[.val (.ref o0), .val (.int (8 : Int32)), .unset] [(.ref o0)])) (fun t k => ?_) ?_
  · show Steps p.tables e below (s₁.setTop (mkF m 2 #[.val (.ref o0), .val (.int (8 : Int32)), .unset] [(.ref o0), (.int (8 : Int32))])) _
    refine X0.arraylength hx (by rw [e0]; exact Arcl1.1) (State.isArrayOf_alike hZ.alike Arcl1.2.1) (g := (mkF m 2 #[.val (.ref o0), .val (.int (8 : Int32)), .unset] [(.ref o0), (.int (8 : Int32))])) rfl rfl (hb hby d4_2) _ ?_
    rw [len_of Scl1 Mcl1]
    show Steps p.tables e below (s₁.setTop (mkF m 3 #[.val (.ref o0), .val (.int (8 : Int32)), .unset] [(.int (8 : Int32)), (.int (8 : Int32))])) _
    refine XS.icmpNo X0.here hx rfl (hb hby d4_3) rfl (teq rfl).2 ?_
    show Steps p.tables e below (s₁.setTop (mkF m 6 #[.val (.ref o0), .val (.int (8 : Int32)), .unset] [])) _
    refine XS.aloadN X0.here hx rfl (hb hby d4_6) rfl rfl ?_
    show Steps p.tables e below (s₁.setTop (mkF m 7 #[.val (.ref o0), .val (.int (8 : Int32)), .unset] [(.ref o0)])) _
    exact k
  obtain ⟨T3, h3, X3, e3, E3, V3, A3, st3⟩ := own_clone X0 hx hZ hown (hw _ (List.mem_of_getElem? (i := 22) rfl)) (hw _ (List.mem_of_getElem? (i := 23) rfl)) (hw _ (List.mem_of_getElem? (i := 27) rfl)) (hw _ (List.mem_of_getElem? (i := 25) rfl)) (hw _ (List.mem_of_getElem? (i := 26) rfl)) (hw _ (List.mem_of_getElem? (i := 28) rfl)) e0 V A (g := (mkF m 7 #[.val (.ref o0), .val (.int (8 : Int32)), .unset] [(.ref o0)])) rfl (by rw [hml]; rfl) rfl (hb hby d4_7) (by decide) (W := 0) (cap := 8) (by show 2 * 0 + _ ≤ _; exact Nat.le_of_eq rfl) (by decide) (by decide) (by decide) (by decide)
  obtain ⟨b3, g3⟩ : ∃ z, z = h0.size := ⟨_, rfl⟩
  have ne4 : o0 ≠ b3 := Nat.ne_of_lt (Nat.lt_of_lt_of_le A.lt (Nat.le_of_eq g3.symm))
  have g_b3 : n0 ≤ b3 := Nat.le_trans Z0 (Nat.le_of_eq g3.symm)
  have sz_b3 : h0.size ≤ b3 := Nat.le_trans K0.1 (Nat.le_of_eq g3.symm)
  rw [← g3] at A3 V3 st3
  have A5 := A.ext E3
  have V6 := V.ext E3
  have K3 := K0.ext E3
  have Z7 := Nat.le_trans Z0 E3.1
  refine own_step st3 ?_
  show own_Run p e below s _ _ _ T3 (mkF m 10 #[.val (.ref o0), .val (.int (8 : Int32)), .unset] [(.ref b3)])
  obtain ⟨T8, X8, e8, st8⟩ := castY X3 hx hZ hown (hw _ (List.mem_of_getElem? (i := 29) rfl)) e3 (Ins.self A3) (g := (mkF m 10 #[.val (.ref o0), .val (.int (8 : Int32)), .unset] [(.ref b3)])) rfl rfl (hb hby d4_10)
  refine own_step st8 ?_
  show own_Run p e below s _ _ _ T8 (mkF m 13 #[.val (.ref o0), .val (.int (8 : Int32)), .unset] [(.ref b3)])
  refine own_retA X8 hx Bd.returns rfl rfl (hb hby d4_13) (BodyLoose.notSynchronized Bd) (by decide) (by decide) ?_
  rw [show T8.heap = h3 from e8]
  exact ⟨b3, rfl, N0, g3, K3, V3, A3⟩
theorem d5_0 : decode jdk_33_method_48_code 0 = .ok (.iload_n 0, 1) := by decide +kernel
theorem d5_1 : decode jdk_33_method_48_code 1 = .ok (.iconst (-1), 1) := by decide +kernel
theorem d5_2 : decode jdk_33_method_48_code 2 = .ok (.ixor, 1) := by decide +kernel
theorem d5_3 : decode jdk_33_method_48_code 3 = .ok (.iload_n 0, 1) := by decide +kernel
theorem d5_4 : decode jdk_33_method_48_code 4 = .ok (.iconst 1, 1) := by decide +kernel
theorem d5_5 : decode jdk_33_method_48_code 5 = .ok (.isub, 1) := by decide +kernel
theorem d5_6 : decode jdk_33_method_48_code 6 = .ok (.iand, 1) := by decide +kernel
theorem d5_7 : decode jdk_33_method_48_code 7 = .ok (.istore_n 0, 1) := by decide +kernel
theorem d5_8 : decode jdk_33_method_48_code 8 = .ok (.iload_n 0, 1) := by decide +kernel
theorem d5_9 : decode jdk_33_method_48_code 9 = .ok (.ifCond .gt 8, 3) := by decide +kernel
theorem d5_12 : decode jdk_33_method_48_code 12 = .ok (.iload_n 0, 1) := by decide +kernel
theorem d5_13 : decode jdk_33_method_48_code 13 = .ok (.bipush 32, 2) := by decide +kernel
theorem d5_15 : decode jdk_33_method_48_code 15 = .ok (.iand, 1) := by decide +kernel
theorem d5_16 : decode jdk_33_method_48_code 16 = .ok (.ireturn, 1) := by decide +kernel
theorem d5_17 : decode jdk_33_method_48_code 17 = .ok (.iconst 1, 1) := by decide +kernel
theorem d5_18 : decode jdk_33_method_48_code 18 = .ok (.istore_n 1, 1) := by decide +kernel
theorem d5_19 : decode jdk_33_method_48_code 19 = .ok (.iload_n 0, 1) := by decide +kernel
theorem d5_20 : decode jdk_33_method_48_code 20 = .ok (.ldc_w 264, 3) := by decide +kernel
theorem d5_23 : decode jdk_33_method_48_code 23 = .ok (.if_icmp .le 11, 3) := by decide +kernel
theorem d5_26 : decode jdk_33_method_48_code 26 = .ok (.iinc 1 16, 3) := by decide +kernel
theorem d5_29 : decode jdk_33_method_48_code 29 = .ok (.iload_n 0, 1) := by decide +kernel
theorem d5_30 : decode jdk_33_method_48_code 30 = .ok (.bipush 16, 2) := by decide +kernel
theorem d5_32 : decode jdk_33_method_48_code 32 = .ok (.iushr, 1) := by decide +kernel
theorem d5_33 : decode jdk_33_method_48_code 33 = .ok (.istore_n 0, 1) := by decide +kernel
theorem d5_34 : decode jdk_33_method_48_code 34 = .ok (.iload_n 0, 1) := by decide +kernel
theorem d5_35 : decode jdk_33_method_48_code 35 = .ok (.sipush 256, 3) := by decide +kernel
theorem d5_38 : decode jdk_33_method_48_code 38 = .ok (.if_icmp .le 11, 3) := by decide +kernel
theorem d5_41 : decode jdk_33_method_48_code 41 = .ok (.iinc 1 8, 3) := by decide +kernel
theorem d5_44 : decode jdk_33_method_48_code 44 = .ok (.iload_n 0, 1) := by decide +kernel
theorem d5_45 : decode jdk_33_method_48_code 45 = .ok (.bipush 8, 2) := by decide +kernel
theorem d5_47 : decode jdk_33_method_48_code 47 = .ok (.iushr, 1) := by decide +kernel
theorem d5_48 : decode jdk_33_method_48_code 48 = .ok (.istore_n 0, 1) := by decide +kernel
theorem d5_49 : decode jdk_33_method_48_code 49 = .ok (.iload_n 0, 1) := by decide +kernel
theorem d5_50 : decode jdk_33_method_48_code 50 = .ok (.bipush 16, 2) := by decide +kernel
theorem d5_52 : decode jdk_33_method_48_code 52 = .ok (.if_icmp .le 10, 3) := by decide +kernel
theorem d5_55 : decode jdk_33_method_48_code 55 = .ok (.iinc 1 4, 3) := by decide +kernel
theorem d5_58 : decode jdk_33_method_48_code 58 = .ok (.iload_n 0, 1) := by decide +kernel
theorem d5_59 : decode jdk_33_method_48_code 59 = .ok (.iconst 4, 1) := by decide +kernel
theorem d5_60 : decode jdk_33_method_48_code 60 = .ok (.iushr, 1) := by decide +kernel
theorem d5_61 : decode jdk_33_method_48_code 61 = .ok (.istore_n 0, 1) := by decide +kernel
theorem d5_62 : decode jdk_33_method_48_code 62 = .ok (.iload_n 0, 1) := by decide +kernel
theorem d5_63 : decode jdk_33_method_48_code 63 = .ok (.iconst 4, 1) := by decide +kernel
theorem d5_64 : decode jdk_33_method_48_code 64 = .ok (.if_icmp .le 10, 3) := by decide +kernel
theorem d5_67 : decode jdk_33_method_48_code 67 = .ok (.iinc 1 2, 3) := by decide +kernel
theorem d5_70 : decode jdk_33_method_48_code 70 = .ok (.iload_n 0, 1) := by decide +kernel
theorem d5_71 : decode jdk_33_method_48_code 71 = .ok (.iconst 2, 1) := by decide +kernel
theorem d5_72 : decode jdk_33_method_48_code 72 = .ok (.iushr, 1) := by decide +kernel
theorem d5_73 : decode jdk_33_method_48_code 73 = .ok (.istore_n 0, 1) := by decide +kernel
theorem d5_74 : decode jdk_33_method_48_code 74 = .ok (.iload_n 1, 1) := by decide +kernel
theorem d5_75 : decode jdk_33_method_48_code 75 = .ok (.iload_n 0, 1) := by decide +kernel
theorem d5_76 : decode jdk_33_method_48_code 76 = .ok (.iconst 1, 1) := by decide +kernel
theorem d5_77 : decode jdk_33_method_48_code 77 = .ok (.iushr, 1) := by decide +kernel
theorem d5_78 : decode jdk_33_method_48_code 78 = .ok (.iadd, 1) := by decide +kernel
theorem d5_79 : decode jdk_33_method_48_code 79 = .ok (.ireturn, 1) := by decide +kernel
theorem pn_rm5 : plainName "java/lang/Integer" = true := by first | (simp [plainName, overriddenIn]; done) | decide +kernel
theorem ef_rm5 (m : MethodId) (p0 : Int32) : entryFrame m #[(.int p0)] 2 = mkF m 0 #[.val (.int p0), .unset] [] := by first | (simp [entryFrame, mkF, argsToLocals, Value.category, maxLocals]; done) | rfl
def rm5_Q (Z : State) (p0 : Int32)  (h0 : Heap) (n0 : Nat) (v : Option Value) (h : Heap) (L : List Loc) : Prop := ∃ r : Int32, v = some (.int r) ∧ Fr n0 L ∧ h = h0
set_option maxRecDepth 65536 in
set_option maxHeartbeats 40000000 in
theorem rm5 (l : Launch) (Z : State) (a0 : Array Value) (hw : ∀ d ∈ tables_1, d.before a0 Z = true) (ws : List Jvm.Cond) (p0 : Int32)  (h0 : Heap) (n0 : Nat) (Z0 : n0 ≤ h0.size)  :
    MetFree l (⟨"java/lang/Integer", "numberOfTrailingZeros", "(I)I"⟩ : MethodName) (head1 (Jvm.Cond.code (⟨"java/lang/Integer", "numberOfTrailingZeros", "(I)I"⟩ : MethodName) jdk_33_method_48_code 2 (some .int) :: ws) ({ frames := 0, cells := 0, slots := 0, locals := 0 } : Room)) (fun a U => a = #[(.int p0)] ∧ Z.Warmed39 U.vm ∧ U.heap = h0) (fun _ _ _ _ _ => True) (fun _ U o U' => ∃ v L, o = .returned v ∧ rm5_Q Z p0 h0 n0 v U'.heap L ∧ FrameEnd U o U' L ({ frames := 0, cells := 0, slots := 0, locals := 0 } : Room).cells ({ frames := 0, cells := 0, slots := 0, locals := 0 } : Room).slots) := by
  refine MetFree.of_bodySF (plainFor_of_name pn_rm5) hisR ?_
  intro p e s m args below meth c s₁ Bd hml0 hP hK
  obtain ⟨rfl, hZ, hh⟩ := hP
  have hx := Bd.exec
  have hby := Bd.bytes
  have hml : c.maxLocals = 2 := hml0
  have hown : s.vm.findClass "java/lang/Integer" = some m.cls := findClass_of_methodNamed Bd.named
  have hnm := (name_of_methodNamed Bd.named Bd.method).1
  have X0 : Stand p l e ({ frames := 0, cells := 0, slots := 0, locals := 0 } : Room) s m #[(.int p0)] below meth c s₁ [] 0 0 := Stand.of_body Bd
  have e0 : s₁.heap = h0 := by rw [← hh, Bd.state]; rfl
  have N0 := Fr.nil n0
  refine own_enter (QQ := rm5_Q Z p0 h0 n0) (ef_rm5 m p0) ?_
  show own_Run p e below s _ _ _ s₁ (mkF m 0 #[.val (.int p0), .unset] [])
  refine own_step (T' := s₁) (g' := (mkF m 9 #[.val (.int ((p0 ^^^ (-1 : Int32)) &&& (p0 - (1 : Int32)))), .unset] [(.int ((p0 ^^^ (-1 : Int32)) &&& (p0 - (1 : Int32))))])) (fun t k => ?_) ?_
  · show Steps p.tables e below (s₁.setTop (mkF m 0 #[.val (.int p0), .unset] [])) _
    refine XS.iloadN X0.here hx rfl (hb hby d5_0) rfl ?_
    show Steps p.tables e below (s₁.setTop (mkF m 1 #[.val (.int p0), .unset] [(.int p0)])) _
    refine XS.iconst X0.here hx rfl (hb hby d5_1) ?_
    show Steps p.tables e below (s₁.setTop (mkF m 2 #[.val (.int p0), .unset] [(.int (-1 : Int32)), (.int p0)])) _
    refine XS.ixor X0.here hx rfl (hb hby d5_2) rfl ?_
    show Steps p.tables e below (s₁.setTop (mkF m 3 #[.val (.int p0), .unset] [(.int (p0 ^^^ (-1 : Int32)))])) _
    refine XS.iloadN X0.here hx rfl (hb hby d5_3) rfl ?_
    show Steps p.tables e below (s₁.setTop (mkF m 4 #[.val (.int p0), .unset] [(.int p0), (.int (p0 ^^^ (-1 : Int32)))])) _
    refine XS.iconst X0.here hx rfl (hb hby d5_4) ?_
    show Steps p.tables e below (s₁.setTop (mkF m 5 #[.val (.int p0), .unset] [(.int (1 : Int32)), (.int p0), (.int (p0 ^^^ (-1 : Int32)))])) _
    refine XS.isub X0.here hx rfl (hb hby d5_5) rfl ?_
    show Steps p.tables e below (s₁.setTop (mkF m 6 #[.val (.int p0), .unset] [(.int (p0 - (1 : Int32))), (.int (p0 ^^^ (-1 : Int32)))])) _
    refine XS.iand X0.here hx rfl (hb hby d5_6) rfl ?_
    show Steps p.tables e below (s₁.setTop (mkF m 7 #[.val (.int p0), .unset] [(.int ((p0 ^^^ (-1 : Int32)) &&& (p0 - (1 : Int32))))])) _
    refine XS.istoreN X0.here hx rfl (hb hby d5_7) rfl (l' := #[.val (.int ((p0 ^^^ (-1 : Int32)) &&& (p0 - (1 : Int32)))), .unset]) rfl ?_
    show Steps p.tables e below (s₁.setTop (mkF m 8 #[.val (.int ((p0 ^^^ (-1 : Int32)) &&& (p0 - (1 : Int32)))), .unset] [])) _
    refine XS.iloadN X0.here hx rfl (hb hby d5_8) rfl ?_
    show Steps p.tables e below (s₁.setTop (mkF m 9 #[.val (.int ((p0 ^^^ (-1 : Int32)) &&& (p0 - (1 : Int32)))), .unset] [(.int ((p0 ^^^ (-1 : Int32)) &&& (p0 - (1 : Int32))))])) _
    exact k
  by_cases hc1 : (0 : Int32) < ((p0 ^^^ (-1 : Int32)) &&& (p0 - (1 : Int32)))
  · skip
    refine own_step (T' := s₁) (g' := (mkF m 23 #[.val (.int ((p0 ^^^ (-1 : Int32)) &&& (p0 - (1 : Int32)))), .val (.int (1 : Int32))] [(.int (65536 : Int32)), (.int ((p0 ^^^ (-1 : Int32)) &&& (p0 - (1 : Int32))))])) (fun t k => ?_) ?_
    · show Steps p.tables e below (s₁.setTop (mkF m 9 #[.val (.int ((p0 ^^^ (-1 : Int32)) &&& (p0 - (1 : Int32)))), .unset] [(.int ((p0 ^^^ (-1 : Int32)) &&& (p0 - (1 : Int32))))])) _
      refine XS.ifYes X0.here hx rfl (pc0 := 9) (pc' := 17) rfl (hb hby d5_9) rfl ((if0 _ _).trans (tlt hc1).2.2.1) (by decide) (by decide) ?_
      show Steps p.tables e below (s₁.setTop (mkF m 17 #[.val (.int ((p0 ^^^ (-1 : Int32)) &&& (p0 - (1 : Int32)))), .unset] [])) _
      refine XS.iconst X0.here hx rfl (hb hby d5_17) ?_
      show Steps p.tables e below (s₁.setTop (mkF m 18 #[.val (.int ((p0 ^^^ (-1 : Int32)) &&& (p0 - (1 : Int32)))), .unset] [(.int (1 : Int32))])) _
      refine XS.istoreN X0.here hx rfl (hb hby d5_18) rfl (l' := #[.val (.int ((p0 ^^^ (-1 : Int32)) &&& (p0 - (1 : Int32)))), .val (.int (1 : Int32))]) rfl ?_
      show Steps p.tables e below (s₁.setTop (mkF m 19 #[.val (.int ((p0 ^^^ (-1 : Int32)) &&& (p0 - (1 : Int32)))), .val (.int (1 : Int32))] [])) _
      refine XS.iloadN X0.here hx rfl (hb hby d5_19) rfl ?_
      show Steps p.tables e below (s₁.setTop (mkF m 20 #[.val (.int ((p0 ^^^ (-1 : Int32)) &&& (p0 - (1 : Int32)))), .val (.int (1 : Int32))] [(.int ((p0 ^^^ (-1 : Int32)) &&& (p0 - (1 : Int32))))])) _
      refine X0.ldcwInt hx hown (mvT hZ (hw _ (List.mem_of_getElem? (i := 56) rfl))) (g := (mkF m 20 #[.val (.int ((p0 ^^^ (-1 : Int32)) &&& (p0 - (1 : Int32)))), .val (.int (1 : Int32))] [(.int ((p0 ^^^ (-1 : Int32)) &&& (p0 - (1 : Int32))))])) rfl (hb hby d5_20) _ ?_
      show Steps p.tables e below (s₁.setTop (mkF m 23 #[.val (.int ((p0 ^^^ (-1 : Int32)) &&& (p0 - (1 : Int32)))), .val (.int (1 : Int32))] [(.int (65536 : Int32)), (.int ((p0 ^^^ (-1 : Int32)) &&& (p0 - (1 : Int32))))])) _
      exact k
    refine own_step (T' := s₁) (g' := (mkF m 34 #[.val (.int (own_pick ((65536 : Int32) < ((p0 ^^^ (-1 : Int32)) &&& (p0 - (1 : Int32)))) ((((p0 ^^^ (-1 : Int32)) &&& (p0 - (1 : Int32))).toUInt32 >>> ((16 : Int32) &&& 31).toUInt32).toInt32) ((p0 ^^^ (-1 : Int32)) &&& (p0 - (1 : Int32))))), .val (.int (own_pick ((65536 : Int32) < ((p0 ^^^ (-1 : Int32)) &&& (p0 - (1 : Int32)))) (17 : Int32) (1 : Int32)))] [])) (fun t k => ?_) ?_
    · show Steps p.tables e below (s₁.setTop (mkF m 23 #[.val (.int ((p0 ^^^ (-1 : Int32)) &&& (p0 - (1 : Int32)))), .val (.int (1 : Int32))] [(.int (65536 : Int32)), (.int ((p0 ^^^ (-1 : Int32)) &&& (p0 - (1 : Int32))))])) _
      by_cases hq : (65536 : Int32) < ((p0 ^^^ (-1 : Int32)) &&& (p0 - (1 : Int32)))
      · simp only [own_pick_pos hq, own_pickJ_pos hq] at k
        refine XS.icmpNo X0.here hx rfl (hb hby d5_23) rfl (tlt hq).2.2.2 ?_
        show Steps p.tables e below (s₁.setTop (mkF m 26 #[.val (.int ((p0 ^^^ (-1 : Int32)) &&& (p0 - (1 : Int32)))), .val (.int (1 : Int32))] [])) _
        refine XS.iinc X0.here hx rfl (hb hby d5_26) rfl (l' := #[.val (.int ((p0 ^^^ (-1 : Int32)) &&& (p0 - (1 : Int32)))), .val (.int (17 : Int32))]) rfl ?_
        show Steps p.tables e below (s₁.setTop (mkF m 29 #[.val (.int ((p0 ^^^ (-1 : Int32)) &&& (p0 - (1 : Int32)))), .val (.int (17 : Int32))] [])) _
        refine XS.iloadN X0.here hx rfl (hb hby d5_29) rfl ?_
        show Steps p.tables e below (s₁.setTop (mkF m 30 #[.val (.int ((p0 ^^^ (-1 : Int32)) &&& (p0 - (1 : Int32)))), .val (.int (17 : Int32))] [(.int ((p0 ^^^ (-1 : Int32)) &&& (p0 - (1 : Int32))))])) _
        refine XS.bipush X0.here hx rfl (hb hby d5_30) ?_
        show Steps p.tables e below (s₁.setTop (mkF m 32 #[.val (.int ((p0 ^^^ (-1 : Int32)) &&& (p0 - (1 : Int32)))), .val (.int (17 : Int32))] [(.int (16 : Int32)), (.int ((p0 ^^^ (-1 : Int32)) &&& (p0 - (1 : Int32))))])) _
        refine XS.iushr X0.here hx rfl (hb hby d5_32) rfl ?_
        show Steps p.tables e below (s₁.setTop (mkF m 33 #[.val (.int ((p0 ^^^ (-1 : Int32)) &&& (p0 - (1 : Int32)))), .val (.int (17 : Int32))] [(.int ((((p0 ^^^ (-1 : Int32)) &&& (p0 - (1 : Int32))).toUInt32 >>> ((16 : Int32) &&& 31).toUInt32).toInt32))])) _
        refine XS.istoreN X0.here hx rfl (hb hby d5_33) rfl (l' := #[.val (.int ((((p0 ^^^ (-1 : Int32)) &&& (p0 - (1 : Int32))).toUInt32 >>> ((16 : Int32) &&& 31).toUInt32).toInt32)), .val (.int (17 : Int32))]) rfl ?_
        show Steps p.tables e below (s₁.setTop (mkF m 34 #[.val (.int ((((p0 ^^^ (-1 : Int32)) &&& (p0 - (1 : Int32))).toUInt32 >>> ((16 : Int32) &&& 31).toUInt32).toInt32)), .val (.int (17 : Int32))] [])) _
        exact k
      · simp only [own_pick_neg hq, own_pickJ_neg hq] at k
        refine XS.icmpYes X0.here hx rfl (pc0 := 23) (pc' := 34) rfl (hb hby d5_23) rfl (flt hq).2.2.2 (by decide) (by decide) ?_
        show Steps p.tables e below (s₁.setTop (mkF m 34 #[.val (.int ((p0 ^^^ (-1 : Int32)) &&& (p0 - (1 : Int32)))), .val (.int (1 : Int32))] [])) _
        exact k
    show own_Run p e below s _ _ _ s₁ (mkF m 34 #[.val (.int (own_pick ((65536 : Int32) < ((p0 ^^^ (-1 : Int32)) &&& (p0 - (1 : Int32)))) ((((p0 ^^^ (-1 : Int32)) &&& (p0 - (1 : Int32))).toUInt32 >>> ((16 : Int32) &&& 31).toUInt32).toInt32) ((p0 ^^^ (-1 : Int32)) &&& (p0 - (1 : Int32))))), .val (.int (own_pick ((65536 : Int32) < ((p0 ^^^ (-1 : Int32)) &&& (p0 - (1 : Int32)))) (17 : Int32) (1 : Int32)))] [])
    generalize e_i1 : (own_pick ((65536 : Int32) < ((p0 ^^^ (-1 : Int32)) &&& (p0 - (1 : Int32)))) (17 : Int32) (1 : Int32)) = i1
    show own_Run p e below s _ _ _ s₁ (mkF m 34 #[.val (.int (own_pick ((65536 : Int32) < ((p0 ^^^ (-1 : Int32)) &&& (p0 - (1 : Int32)))) ((((p0 ^^^ (-1 : Int32)) &&& (p0 - (1 : Int32))).toUInt32 >>> ((16 : Int32) &&& 31).toUInt32).toInt32) ((p0 ^^^ (-1 : Int32)) &&& (p0 - (1 : Int32))))), .val (.int i1)] [])
    generalize e_x1 : (own_pick ((65536 : Int32) < ((p0 ^^^ (-1 : Int32)) &&& (p0 - (1 : Int32)))) ((((p0 ^^^ (-1 : Int32)) &&& (p0 - (1 : Int32))).toUInt32 >>> ((16 : Int32) &&& 31).toUInt32).toInt32) ((p0 ^^^ (-1 : Int32)) &&& (p0 - (1 : Int32)))) = x1
    show own_Run p e below s _ _ _ s₁ (mkF m 34 #[.val (.int x1), .val (.int i1)] [])
    refine own_step (T' := s₁) (g' := (mkF m 38 #[.val (.int x1), .val (.int i1)] [(.int (256 : Int32)), (.int x1)])) (fun t k => ?_) ?_
    · show Steps p.tables e below (s₁.setTop (mkF m 34 #[.val (.int x1), .val (.int i1)] [])) _
      refine XS.iloadN X0.here hx rfl (hb hby d5_34) rfl ?_
      show Steps p.tables e below (s₁.setTop (mkF m 35 #[.val (.int x1), .val (.int i1)] [(.int x1)])) _
      refine XS.sipush X0.here hx rfl (hb hby d5_35) ?_
      show Steps p.tables e below (s₁.setTop (mkF m 38 #[.val (.int x1), .val (.int i1)] [(.int (256 : Int32)), (.int x1)])) _
      exact k
    refine own_step (T' := s₁) (g' := (mkF m 49 #[.val (.int (own_pick ((256 : Int32) < x1) ((x1.toUInt32 >>> ((8 : Int32) &&& 31).toUInt32).toInt32) x1)), .val (.int (own_pick ((256 : Int32) < x1) (i1 + (8 : Int32)) i1))] [])) (fun t k => ?_) ?_
    · show Steps p.tables e below (s₁.setTop (mkF m 38 #[.val (.int x1), .val (.int i1)] [(.int (256 : Int32)), (.int x1)])) _
      by_cases hq : (256 : Int32) < x1
      · simp only [own_pick_pos hq, own_pickJ_pos hq] at k
        refine XS.icmpNo X0.here hx rfl (hb hby d5_38) rfl (tlt hq).2.2.2 ?_
        show Steps p.tables e below (s₁.setTop (mkF m 41 #[.val (.int x1), .val (.int i1)] [])) _
        refine XS.iinc X0.here hx rfl (hb hby d5_41) rfl (l' := #[.val (.int x1), .val (.int (i1 + (8 : Int32)))]) rfl ?_
        show Steps p.tables e below (s₁.setTop (mkF m 44 #[.val (.int x1), .val (.int (i1 + (8 : Int32)))] [])) _
        refine XS.iloadN X0.here hx rfl (hb hby d5_44) rfl ?_
        show Steps p.tables e below (s₁.setTop (mkF m 45 #[.val (.int x1), .val (.int (i1 + (8 : Int32)))] [(.int x1)])) _
        refine XS.bipush X0.here hx rfl (hb hby d5_45) ?_
        show Steps p.tables e below (s₁.setTop (mkF m 47 #[.val (.int x1), .val (.int (i1 + (8 : Int32)))] [(.int (8 : Int32)), (.int x1)])) _
        refine XS.iushr X0.here hx rfl (hb hby d5_47) rfl ?_
        show Steps p.tables e below (s₁.setTop (mkF m 48 #[.val (.int x1), .val (.int (i1 + (8 : Int32)))] [(.int ((x1.toUInt32 >>> ((8 : Int32) &&& 31).toUInt32).toInt32))])) _
        refine XS.istoreN X0.here hx rfl (hb hby d5_48) rfl (l' := #[.val (.int ((x1.toUInt32 >>> ((8 : Int32) &&& 31).toUInt32).toInt32)), .val (.int (i1 + (8 : Int32)))]) rfl ?_
        show Steps p.tables e below (s₁.setTop (mkF m 49 #[.val (.int ((x1.toUInt32 >>> ((8 : Int32) &&& 31).toUInt32).toInt32)), .val (.int (i1 + (8 : Int32)))] [])) _
        exact k
      · simp only [own_pick_neg hq, own_pickJ_neg hq] at k
        refine XS.icmpYes X0.here hx rfl (pc0 := 38) (pc' := 49) rfl (hb hby d5_38) rfl (flt hq).2.2.2 (by decide) (by decide) ?_
        show Steps p.tables e below (s₁.setTop (mkF m 49 #[.val (.int x1), .val (.int i1)] [])) _
        exact k
    show own_Run p e below s _ _ _ s₁ (mkF m 49 #[.val (.int (own_pick ((256 : Int32) < x1) ((x1.toUInt32 >>> ((8 : Int32) &&& 31).toUInt32).toInt32) x1)), .val (.int (own_pick ((256 : Int32) < x1) (i1 + (8 : Int32)) i1))] [])
    generalize e_i2 : (own_pick ((256 : Int32) < x1) (i1 + (8 : Int32)) i1) = i2
    show own_Run p e below s _ _ _ s₁ (mkF m 49 #[.val (.int (own_pick ((256 : Int32) < x1) ((x1.toUInt32 >>> ((8 : Int32) &&& 31).toUInt32).toInt32) x1)), .val (.int i2)] [])
    generalize e_x2 : (own_pick ((256 : Int32) < x1) ((x1.toUInt32 >>> ((8 : Int32) &&& 31).toUInt32).toInt32) x1) = x2
    show own_Run p e below s _ _ _ s₁ (mkF m 49 #[.val (.int x2), .val (.int i2)] [])
    refine own_step (T' := s₁) (g' := (mkF m 52 #[.val (.int x2), .val (.int i2)] [(.int (16 : Int32)), (.int x2)])) (fun t k => ?_) ?_
    · show Steps p.tables e below (s₁.setTop (mkF m 49 #[.val (.int x2), .val (.int i2)] [])) _
      refine XS.iloadN X0.here hx rfl (hb hby d5_49) rfl ?_
      show Steps p.tables e below (s₁.setTop (mkF m 50 #[.val (.int x2), .val (.int i2)] [(.int x2)])) _
      refine XS.bipush X0.here hx rfl (hb hby d5_50) ?_
      show Steps p.tables e below (s₁.setTop (mkF m 52 #[.val (.int x2), .val (.int i2)] [(.int (16 : Int32)), (.int x2)])) _
      exact k
    refine own_step (T' := s₁) (g' := (mkF m 62 #[.val (.int (own_pick ((16 : Int32) < x2) ((x2.toUInt32 >>> ((4 : Int32) &&& 31).toUInt32).toInt32) x2)), .val (.int (own_pick ((16 : Int32) < x2) (i2 + (4 : Int32)) i2))] [])) (fun t k => ?_) ?_
    · show Steps p.tables e below (s₁.setTop (mkF m 52 #[.val (.int x2), .val (.int i2)] [(.int (16 : Int32)), (.int x2)])) _
      by_cases hq : (16 : Int32) < x2
      · simp only [own_pick_pos hq, own_pickJ_pos hq] at k
        refine XS.icmpNo X0.here hx rfl (hb hby d5_52) rfl (tlt hq).2.2.2 ?_
        show Steps p.tables e below (s₁.setTop (mkF m 55 #[.val (.int x2), .val (.int i2)] [])) _
        refine XS.iinc X0.here hx rfl (hb hby d5_55) rfl (l' := #[.val (.int x2), .val (.int (i2 + (4 : Int32)))]) rfl ?_
        show Steps p.tables e below (s₁.setTop (mkF m 58 #[.val (.int x2), .val (.int (i2 + (4 : Int32)))] [])) _
        refine XS.iloadN X0.here hx rfl (hb hby d5_58) rfl ?_
        show Steps p.tables e below (s₁.setTop (mkF m 59 #[.val (.int x2), .val (.int (i2 + (4 : Int32)))] [(.int x2)])) _
        refine XS.iconst X0.here hx rfl (hb hby d5_59) ?_
        show Steps p.tables e below (s₁.setTop (mkF m 60 #[.val (.int x2), .val (.int (i2 + (4 : Int32)))] [(.int (4 : Int32)), (.int x2)])) _
        refine XS.iushr X0.here hx rfl (hb hby d5_60) rfl ?_
        show Steps p.tables e below (s₁.setTop (mkF m 61 #[.val (.int x2), .val (.int (i2 + (4 : Int32)))] [(.int ((x2.toUInt32 >>> ((4 : Int32) &&& 31).toUInt32).toInt32))])) _
        refine XS.istoreN X0.here hx rfl (hb hby d5_61) rfl (l' := #[.val (.int ((x2.toUInt32 >>> ((4 : Int32) &&& 31).toUInt32).toInt32)), .val (.int (i2 + (4 : Int32)))]) rfl ?_
        show Steps p.tables e below (s₁.setTop (mkF m 62 #[.val (.int ((x2.toUInt32 >>> ((4 : Int32) &&& 31).toUInt32).toInt32)), .val (.int (i2 + (4 : Int32)))] [])) _
        exact k
      · simp only [own_pick_neg hq, own_pickJ_neg hq] at k
        refine XS.icmpYes X0.here hx rfl (pc0 := 52) (pc' := 62) rfl (hb hby d5_52) rfl (flt hq).2.2.2 (by decide) (by decide) ?_
        show Steps p.tables e below (s₁.setTop (mkF m 62 #[.val (.int x2), .val (.int i2)] [])) _
        exact k
    show own_Run p e below s _ _ _ s₁ (mkF m 62 #[.val (.int (own_pick ((16 : Int32) < x2) ((x2.toUInt32 >>> ((4 : Int32) &&& 31).toUInt32).toInt32) x2)), .val (.int (own_pick ((16 : Int32) < x2) (i2 + (4 : Int32)) i2))] [])
    generalize e_i3 : (own_pick ((16 : Int32) < x2) (i2 + (4 : Int32)) i2) = i3
    show own_Run p e below s _ _ _ s₁ (mkF m 62 #[.val (.int (own_pick ((16 : Int32) < x2) ((x2.toUInt32 >>> ((4 : Int32) &&& 31).toUInt32).toInt32) x2)), .val (.int i3)] [])
    generalize e_x3 : (own_pick ((16 : Int32) < x2) ((x2.toUInt32 >>> ((4 : Int32) &&& 31).toUInt32).toInt32) x2) = x3
    show own_Run p e below s _ _ _ s₁ (mkF m 62 #[.val (.int x3), .val (.int i3)] [])
    refine own_step (T' := s₁) (g' := (mkF m 64 #[.val (.int x3), .val (.int i3)] [(.int (4 : Int32)), (.int x3)])) (fun t k => ?_) ?_
    · show Steps p.tables e below (s₁.setTop (mkF m 62 #[.val (.int x3), .val (.int i3)] [])) _
      refine XS.iloadN X0.here hx rfl (hb hby d5_62) rfl ?_
      show Steps p.tables e below (s₁.setTop (mkF m 63 #[.val (.int x3), .val (.int i3)] [(.int x3)])) _
      refine XS.iconst X0.here hx rfl (hb hby d5_63) ?_
      show Steps p.tables e below (s₁.setTop (mkF m 64 #[.val (.int x3), .val (.int i3)] [(.int (4 : Int32)), (.int x3)])) _
      exact k
    refine own_step (T' := s₁) (g' := (mkF m 74 #[.val (.int (own_pick ((4 : Int32) < x3) ((x3.toUInt32 >>> ((2 : Int32) &&& 31).toUInt32).toInt32) x3)), .val (.int (own_pick ((4 : Int32) < x3) (i3 + (2 : Int32)) i3))] [])) (fun t k => ?_) ?_
    · show Steps p.tables e below (s₁.setTop (mkF m 64 #[.val (.int x3), .val (.int i3)] [(.int (4 : Int32)), (.int x3)])) _
      by_cases hq : (4 : Int32) < x3
      · simp only [own_pick_pos hq, own_pickJ_pos hq] at k
        refine XS.icmpNo X0.here hx rfl (hb hby d5_64) rfl (tlt hq).2.2.2 ?_
        show Steps p.tables e below (s₁.setTop (mkF m 67 #[.val (.int x3), .val (.int i3)] [])) _
        refine XS.iinc X0.here hx rfl (hb hby d5_67) rfl (l' := #[.val (.int x3), .val (.int (i3 + (2 : Int32)))]) rfl ?_
        show Steps p.tables e below (s₁.setTop (mkF m 70 #[.val (.int x3), .val (.int (i3 + (2 : Int32)))] [])) _
        refine XS.iloadN X0.here hx rfl (hb hby d5_70) rfl ?_
        show Steps p.tables e below (s₁.setTop (mkF m 71 #[.val (.int x3), .val (.int (i3 + (2 : Int32)))] [(.int x3)])) _
        refine XS.iconst X0.here hx rfl (hb hby d5_71) ?_
        show Steps p.tables e below (s₁.setTop (mkF m 72 #[.val (.int x3), .val (.int (i3 + (2 : Int32)))] [(.int (2 : Int32)), (.int x3)])) _
        refine XS.iushr X0.here hx rfl (hb hby d5_72) rfl ?_
        show Steps p.tables e below (s₁.setTop (mkF m 73 #[.val (.int x3), .val (.int (i3 + (2 : Int32)))] [(.int ((x3.toUInt32 >>> ((2 : Int32) &&& 31).toUInt32).toInt32))])) _
        refine XS.istoreN X0.here hx rfl (hb hby d5_73) rfl (l' := #[.val (.int ((x3.toUInt32 >>> ((2 : Int32) &&& 31).toUInt32).toInt32)), .val (.int (i3 + (2 : Int32)))]) rfl ?_
        show Steps p.tables e below (s₁.setTop (mkF m 74 #[.val (.int ((x3.toUInt32 >>> ((2 : Int32) &&& 31).toUInt32).toInt32)), .val (.int (i3 + (2 : Int32)))] [])) _
        exact k
      · simp only [own_pick_neg hq, own_pickJ_neg hq] at k
        refine XS.icmpYes X0.here hx rfl (pc0 := 64) (pc' := 74) rfl (hb hby d5_64) rfl (flt hq).2.2.2 (by decide) (by decide) ?_
        show Steps p.tables e below (s₁.setTop (mkF m 74 #[.val (.int x3), .val (.int i3)] [])) _
        exact k
    show own_Run p e below s _ _ _ s₁ (mkF m 74 #[.val (.int (own_pick ((4 : Int32) < x3) ((x3.toUInt32 >>> ((2 : Int32) &&& 31).toUInt32).toInt32) x3)), .val (.int (own_pick ((4 : Int32) < x3) (i3 + (2 : Int32)) i3))] [])
    generalize e_i4 : (own_pick ((4 : Int32) < x3) (i3 + (2 : Int32)) i3) = i4
    show own_Run p e below s _ _ _ s₁ (mkF m 74 #[.val (.int (own_pick ((4 : Int32) < x3) ((x3.toUInt32 >>> ((2 : Int32) &&& 31).toUInt32).toInt32) x3)), .val (.int i4)] [])
    generalize e_x4 : (own_pick ((4 : Int32) < x3) ((x3.toUInt32 >>> ((2 : Int32) &&& 31).toUInt32).toInt32) x3) = x4
    show own_Run p e below s _ _ _ s₁ (mkF m 74 #[.val (.int x4), .val (.int i4)] [])
    refine own_step (T' := s₁) (g' := (mkF m 79 #[.val (.int x4), .val (.int i4)] [(.int (i4 + ((x4.toUInt32 >>> ((1 : Int32) &&& 31).toUInt32).toInt32)))])) (fun t k => ?_) ?_
    · show Steps p.tables e below (s₁.setTop (mkF m 74 #[.val (.int x4), .val (.int i4)] [])) _
      refine XS.iloadN X0.here hx rfl (hb hby d5_74) rfl ?_
      show Steps p.tables e below (s₁.setTop (mkF m 75 #[.val (.int x4), .val (.int i4)] [(.int i4)])) _
      refine XS.iloadN X0.here hx rfl (hb hby d5_75) rfl ?_
      show Steps p.tables e below (s₁.setTop (mkF m 76 #[.val (.int x4), .val (.int i4)] [(.int x4), (.int i4)])) _
      refine XS.iconst X0.here hx rfl (hb hby d5_76) ?_
      show Steps p.tables e below (s₁.setTop (mkF m 77 #[.val (.int x4), .val (.int i4)] [(.int (1 : Int32)), (.int x4), (.int i4)])) _
      refine XS.iushr X0.here hx rfl (hb hby d5_77) rfl ?_
      show Steps p.tables e below (s₁.setTop (mkF m 78 #[.val (.int x4), .val (.int i4)] [(.int ((x4.toUInt32 >>> ((1 : Int32) &&& 31).toUInt32).toInt32)), (.int i4)])) _
      refine XS.iadd X0.here hx rfl (hb hby d5_78) rfl ?_
      show Steps p.tables e below (s₁.setTop (mkF m 79 #[.val (.int x4), .val (.int i4)] [(.int (i4 + ((x4.toUInt32 >>> ((1 : Int32) &&& 31).toUInt32).toInt32)))])) _
      exact k
    refine own_retI X0 hx Bd.returns (hb hby d5_79) (BodyLoose.notSynchronized Bd) (by decide) (by decide) ?_
    rw [show s₁.heap = h0 from e0]
    exact ⟨_, rfl, N0, rfl⟩
  · skip
    refine own_step (T' := s₁) (g' := (mkF m 16 #[.val (.int ((p0 ^^^ (-1 : Int32)) &&& (p0 - (1 : Int32)))), .unset] [(.int (((p0 ^^^ (-1 : Int32)) &&& (p0 - (1 : Int32))) &&& (32 : Int32)))])) (fun t k => ?_) ?_
    · show Steps p.tables e below (s₁.setTop (mkF m 9 #[.val (.int ((p0 ^^^ (-1 : Int32)) &&& (p0 - (1 : Int32)))), .unset] [(.int ((p0 ^^^ (-1 : Int32)) &&& (p0 - (1 : Int32))))])) _
      refine XS.ifNo X0.here hx rfl (hb hby d5_9) rfl ((if0 _ _).trans (flt hc1).2.2.1) ?_
      show Steps p.tables e below (s₁.setTop (mkF m 12 #[.val (.int ((p0 ^^^ (-1 : Int32)) &&& (p0 - (1 : Int32)))), .unset] [])) _
      refine XS.iloadN X0.here hx rfl (hb hby d5_12) rfl ?_
      show Steps p.tables e below (s₁.setTop (mkF m 13 #[.val (.int ((p0 ^^^ (-1 : Int32)) &&& (p0 - (1 : Int32)))), .unset] [(.int ((p0 ^^^ (-1 : Int32)) &&& (p0 - (1 : Int32))))])) _
      refine XS.bipush X0.here hx rfl (hb hby d5_13) ?_
      show Steps p.tables e below (s₁.setTop (mkF m 15 #[.val (.int ((p0 ^^^ (-1 : Int32)) &&& (p0 - (1 : Int32)))), .unset] [(.int (32 : Int32)), (.int ((p0 ^^^ (-1 : Int32)) &&& (p0 - (1 : Int32))))])) _
      refine XS.iand X0.here hx rfl (hb hby d5_15) rfl ?_
      show Steps p.tables e below (s₁.setTop (mkF m 16 #[.val (.int ((p0 ^^^ (-1 : Int32)) &&& (p0 - (1 : Int32)))), .unset] [(.int (((p0 ^^^ (-1 : Int32)) &&& (p0 - (1 : Int32))) &&& (32 : Int32)))])) _
      exact k
    refine own_retI X0 hx Bd.returns (hb hby d5_16) (BodyLoose.notSynchronized Bd) (by decide) (by decide) ?_
    rw [show s₁.heap = h0 from e0]
    exact ⟨_, rfl, N0, rfl⟩
theorem own_zA {u z a : Int32} (e : own_pick (u = (0 : Int32)) (1 : Int32) (0 : Int32) = z) (h : ¬ z < (2 : Int32)) : ¬ a = (3 : Int32) := by
  exfalso; subst e; apply h
  by_cases q : u = (0 : Int32)
  · rw [own_pick_pos q]; decide
  · rw [own_pick_neg q]; decide
theorem own_zB {u u' x z z' a : Int32} (e : own_pick (u = (0 : Int32)) x (0 : Int32) = z) (e' : own_pick (u' = (0 : Int32)) (z + (1 : Int32)) (0 : Int32) = z') (h : ¬ z' < (2 : Int32)) (hno : ¬ (u = (0 : Int32) ∧ u' = (0 : Int32) ∧ a = (3 : Int32))) : ¬ a = (3 : Int32) := by
  intro ha
  by_cases q' : u' = (0 : Int32)
  · rw [own_pick_pos q'] at e'
    by_cases q : u = (0 : Int32)
    · exact hno ⟨q, q', ha⟩
    · rw [own_pick_neg q] at e; subst e; subst e'; exact h (by decide)
  · rw [own_pick_neg q'] at e'; subst e'; exact h (by decide)
theorem d2_0 : decode prog_64_method_1_code 0 = .ok (.aload_n 0, 1) := by decide +kernel
theorem d2_1 : decode prog_64_method_1_code 1 = .ok (.invokespecial 1, 3) := by decide +kernel
theorem d2_4 : decode prog_64_method_1_code 4 = .ok (.aload_n 1, 1) := by decide +kernel
theorem d2_5 : decode prog_64_method_1_code 5 = .ok (.arraylength, 1) := by decide +kernel
theorem d2_6 : decode prog_64_method_1_code 6 = .ok (.iload_n 2, 1) := by decide +kernel
theorem d2_7 : decode prog_64_method_1_code 7 = .ok (.isub, 1) := by decide +kernel
theorem d2_8 : decode prog_64_method_1_code 8 = .ok (.newarray .byte, 2) := by decide +kernel
theorem d2_10 : decode prog_64_method_1_code 10 = .ok (.astore_n 3, 1) := by decide +kernel
theorem d2_11 : decode prog_64_method_1_code 11 = .ok (.iconst 0, 1) := by decide +kernel
theorem d2_12 : decode prog_64_method_1_code 12 = .ok (.istore 4, 2) := by decide +kernel
theorem d2_14 : decode prog_64_method_1_code 14 = .ok (.iconst 0, 1) := by decide +kernel
theorem d2_15 : decode prog_64_method_1_code 15 = .ok (.istore 5, 2) := by decide +kernel
theorem d2_17 : decode prog_64_method_1_code 17 = .ok (.iload_n 2, 1) := by decide +kernel
theorem d2_18 : decode prog_64_method_1_code 18 = .ok (.istore 6, 2) := by decide +kernel
theorem d2_20 : decode prog_64_method_1_code 20 = .ok (.iload 6, 2) := by decide +kernel
theorem d2_22 : decode prog_64_method_1_code 22 = .ok (.aload_n 1, 1) := by decide +kernel
theorem d2_23 : decode prog_64_method_1_code 23 = .ok (.arraylength, 1) := by decide +kernel
theorem d2_24 : decode prog_64_method_1_code 24 = .ok (.if_icmp .ge 57, 3) := by decide +kernel
theorem d2_27 : decode prog_64_method_1_code 27 = .ok (.iload 5, 2) := by decide +kernel
theorem d2_29 : decode prog_64_method_1_code 29 = .ok (.iconst 2, 1) := by decide +kernel
theorem d2_30 : decode prog_64_method_1_code 30 = .ok (.if_icmp .lt 17, 3) := by decide +kernel
theorem d2_33 : decode prog_64_method_1_code 33 = .ok (.aload_n 1, 1) := by decide +kernel
theorem d2_34 : decode prog_64_method_1_code 34 = .ok (.iload 6, 2) := by decide +kernel
theorem d2_36 : decode prog_64_method_1_code 36 = .ok (.baload, 1) := by decide +kernel
theorem d2_37 : decode prog_64_method_1_code 37 = .ok (.iconst 3, 1) := by decide +kernel
theorem d2_38 : decode prog_64_method_1_code 38 = .ok (.if_icmp .ne 9, 3) := by decide +kernel
theorem d2_47 : decode prog_64_method_1_code 47 = .ok (.aload_n 1, 1) := by decide +kernel
theorem d2_48 : decode prog_64_method_1_code 48 = .ok (.iload 6, 2) := by decide +kernel
theorem d2_50 : decode prog_64_method_1_code 50 = .ok (.baload, 1) := by decide +kernel
theorem d2_51 : decode prog_64_method_1_code 51 = .ok (.ifCond .ne 10, 3) := by decide +kernel
theorem d2_54 : decode prog_64_method_1_code 54 = .ok (.iload 5, 2) := by decide +kernel
theorem d2_56 : decode prog_64_method_1_code 56 = .ok (.iconst 1, 1) := by decide +kernel
theorem d2_57 : decode prog_64_method_1_code 57 = .ok (.iadd, 1) := by decide +kernel
theorem d2_58 : decode prog_64_method_1_code 58 = .ok (.goto 4, 3) := by decide +kernel
theorem d2_61 : decode prog_64_method_1_code 61 = .ok (.iconst 0, 1) := by decide +kernel
theorem d2_62 : decode prog_64_method_1_code 62 = .ok (.istore 5, 2) := by decide +kernel
theorem d2_64 : decode prog_64_method_1_code 64 = .ok (.aload_n 3, 1) := by decide +kernel
theorem d2_65 : decode prog_64_method_1_code 65 = .ok (.iload 4, 2) := by decide +kernel
theorem d2_67 : decode prog_64_method_1_code 67 = .ok (.iinc 4 1, 3) := by decide +kernel
theorem d2_70 : decode prog_64_method_1_code 70 = .ok (.aload_n 1, 1) := by decide +kernel
theorem d2_71 : decode prog_64_method_1_code 71 = .ok (.iload 6, 2) := by decide +kernel
theorem d2_73 : decode prog_64_method_1_code 73 = .ok (.baload, 1) := by decide +kernel
theorem d2_74 : decode prog_64_method_1_code 74 = .ok (.bastore, 1) := by decide +kernel
theorem d2_75 : decode prog_64_method_1_code 75 = .ok (.iinc 6 1, 3) := by decide +kernel
theorem d2_78 : decode prog_64_method_1_code 78 = .ok (.goto (-58), 3) := by decide +kernel
theorem d2_81 : decode prog_64_method_1_code 81 = .ok (.aload_n 0, 1) := by decide +kernel
theorem d2_82 : decode prog_64_method_1_code 82 = .ok (.aload_n 3, 1) := by decide +kernel
theorem d2_83 : decode prog_64_method_1_code 83 = .ok (.iload 4, 2) := by decide +kernel
theorem d2_85 : decode prog_64_method_1_code 85 = .ok (.invokestatic 7, 3) := by decide +kernel
theorem d2_88 : decode prog_64_method_1_code 88 = .ok (.putfield 13, 3) := by decide +kernel
theorem d2_91 : decode prog_64_method_1_code 91 = .ok (.iload 4, 2) := by decide +kernel
theorem d2_93 : decode prog_64_method_1_code 93 = .ok (.iconst 1, 1) := by decide +kernel
theorem d2_94 : decode prog_64_method_1_code 94 = .ok (.isub, 1) := by decide +kernel
theorem d2_95 : decode prog_64_method_1_code 95 = .ok (.istore 6, 2) := by decide +kernel
theorem d2_97 : decode prog_64_method_1_code 97 = .ok (.iload 6, 2) := by decide +kernel
theorem d2_99 : decode prog_64_method_1_code 99 = .ok (.ifCond .lt 16, 3) := by decide +kernel
theorem d2_102 : decode prog_64_method_1_code 102 = .ok (.aload_n 3, 1) := by decide +kernel
theorem d2_103 : decode prog_64_method_1_code 103 = .ok (.iload 6, 2) := by decide +kernel
theorem d2_105 : decode prog_64_method_1_code 105 = .ok (.baload, 1) := by decide +kernel
theorem d2_106 : decode prog_64_method_1_code 106 = .ok (.ifCond .ne 9, 3) := by decide +kernel
theorem d2_109 : decode prog_64_method_1_code 109 = .ok (.iinc 6 (-1), 3) := by decide +kernel
theorem d2_112 : decode prog_64_method_1_code 112 = .ok (.goto (-15), 3) := by decide +kernel
theorem d2_115 : decode prog_64_method_1_code 115 = .ok (.aload_n 0, 1) := by decide +kernel
theorem d2_116 : decode prog_64_method_1_code 116 = .ok (.iload 6, 2) := by decide +kernel
theorem d2_118 : decode prog_64_method_1_code 118 = .ok (.ifCond .ge 7, 3) := by decide +kernel
theorem d2_121 : decode prog_64_method_1_code 121 = .ok (.iconst 0, 1) := by decide +kernel
theorem d2_122 : decode prog_64_method_1_code 122 = .ok (.goto 19, 3) := by decide +kernel
theorem d2_125 : decode prog_64_method_1_code 125 = .ok (.bipush 8, 2) := by decide +kernel
theorem d2_127 : decode prog_64_method_1_code 127 = .ok (.iload 6, 2) := by decide +kernel
theorem d2_129 : decode prog_64_method_1_code 129 = .ok (.imul, 1) := by decide +kernel
theorem d2_130 : decode prog_64_method_1_code 130 = .ok (.bipush 7, 2) := by decide +kernel
theorem d2_132 : decode prog_64_method_1_code 132 = .ok (.iadd, 1) := by decide +kernel
theorem d2_133 : decode prog_64_method_1_code 133 = .ok (.aload_n 3, 1) := by decide +kernel
theorem d2_134 : decode prog_64_method_1_code 134 = .ok (.iload 6, 2) := by decide +kernel
theorem d2_136 : decode prog_64_method_1_code 136 = .ok (.baload, 1) := by decide +kernel
theorem d2_137 : decode prog_64_method_1_code 137 = .ok (.invokestatic 19, 3) := by decide +kernel
theorem d2_140 : decode prog_64_method_1_code 140 = .ok (.isub, 1) := by decide +kernel
theorem d2_141 : decode prog_64_method_1_code 141 = .ok (.putfield 25, 3) := by decide +kernel
theorem d2_144 : decode prog_64_method_1_code 144 = .ok (.return_, 1) := by decide +kernel
theorem pn_rm2 : plainName "lazyframe/media/NalPayload" = true := by first | (simp [plainName, overriddenIn]; done) | decide +kernel
theorem ef_rm2 (m : MethodId) (o0 : Addr) (o1 : Addr) : entryFrame m #[(.ref o0), (.ref o1), (.int (0 : Int32))] 7 = mkF m 0 #[.val (.ref o0), .val (.ref o1), .val (.int (0 : Int32)), .unset, .unset, .unset, .unset] [] := by first | (simp [entryFrame, mkF, argsToLocals, Value.category, maxLocals]; done) | rfl
def rm2_Q (Z : State) (o0 : Addr) (o1 : Addr) (k : ClassId) (u0 : Int32) (u1 : Int32) (u2 : Int32) (u3 : Int32) (u4 : Int32) (u5 : Int32) (u6 : Int32) (u7 : Int32) (h0 : Heap) (n0 : Nat) (v : Option Value) (h : Heap) (L : List Loc) : Prop := ∃ (b : Addr) (kk : ClassId) (sv : Int32), v = none ∧ Fr n0 L ∧ Keep h0 h [o0] ∧ h0.size ≤ b ∧ Exa Z h o0 "lazyframe/media/NalPayload" ∧ Fld Z h o0 "lazyframe/media/NalPayload" "bit" "I" (.int (0 : Int32)) ∧ Fld Z h o0 "lazyframe/media/NalPayload" "stop" "I" (.int sv) ∧ Fld Z h o0 "lazyframe/media/NalPayload" "payload" "[B" (.ref b) ∧ Arv Z h b kk .byte (8 : Int32) [(.int (nar .byte u0)), (.int (nar .byte u1)), (.int (nar .byte u2)), (.int (nar .byte u3)), (.int (nar .byte u4)), (.int (nar .byte u5)), (.int (nar .byte u6)), (.int (nar .byte u7))] (.int (0 : Int32))
set_option maxRecDepth 65536 in
set_option maxHeartbeats 40000000 in
theorem rm2 (l : Launch) (Z : State) (a0 : Array Value) (hw : ∀ d ∈ tables_1, d.before a0 Z = true) (ws : List Jvm.Cond) (o0 : Addr) (o1 : Addr) (k : ClassId) (u0 : Int32) (u1 : Int32) (u2 : Int32) (u3 : Int32) (u4 : Int32) (u5 : Int32) (u6 : Int32) (u7 : Int32) (h0 : Heap) (n0 : Nat) (Z0 : n0 ≤ h0.size) (E_o0 : Exa Z h0 o0 "lazyframe/media/NalPayload") (F_p : Fld Z h0 o0 "lazyframe/media/NalPayload" "payload" "[B" .null) (F_s : Fld Z h0 o0 "lazyframe/media/NalPayload" "stop" "I" (.int (0 : Int32))) (F_b : Fld Z h0 o0 "lazyframe/media/NalPayload" "bit" "I" (.int (0 : Int32))) (g_o0 : n0 ≤ o0) (ne10 : o1 ≠ o0) (V_o1 : Arv Z h0 o1 k .byte (8 : Int32) [(.int u0), (.int u1), (.int u2), (.int u3), (.int u4), (.int u5), (.int u6), (.int u7)] (.int (0 : Int32))) (hno2 : ¬ (u0 = (0 : Int32) ∧ u1 = (0 : Int32) ∧ u2 = (3 : Int32))) (hno3 : ¬ (u1 = (0 : Int32) ∧ u2 = (0 : Int32) ∧ u3 = (3 : Int32))) (hno4 : ¬ (u2 = (0 : Int32) ∧ u3 = (0 : Int32) ∧ u4 = (3 : Int32))) (hno5 : ¬ (u3 = (0 : Int32) ∧ u4 = (0 : Int32) ∧ u5 = (3 : Int32))) (hno6 : ¬ (u4 = (0 : Int32) ∧ u5 = (0 : Int32) ∧ u6 = (3 : Int32))) (hno7 : ¬ (u5 = (0 : Int32) ∧ u6 = (0 : Int32) ∧ u7 = (3 : Int32))) :
    MetFree l (⟨"lazyframe/media/NalPayload", "<init>", "([BI)V"⟩ : MethodName) (head1 (Jvm.Cond.code (⟨"lazyframe/media/NalPayload", "<init>", "([BI)V"⟩ : MethodName) prog_64_method_1_code 7 none :: ws) ({ frames := 2, cells := 2, slots := 16, locals := 29 } : Room)) (fun a U => a = #[(.ref o0), (.ref o1), (.int (0 : Int32))] ∧ Z.Warmed39 U.vm ∧ U.heap = h0) (fun _ _ _ _ _ => True) (fun _ U o U' => ∃ v L, o = .returned v ∧ rm2_Q Z o0 o1 k u0 u1 u2 u3 u4 u5 u6 u7 h0 n0 v U'.heap L ∧ FrameEnd U o U' L ({ frames := 2, cells := 2, slots := 16, locals := 29 } : Room).cells ({ frames := 2, cells := 2, slots := 16, locals := 29 } : Room).slots) := by
  refine MetFree.of_bodySF (plainFor_of_name pn_rm2) hisR ?_
  intro p e s m args below meth c s₁ Bd hml0 hP hK
  obtain ⟨rfl, hZ, hh⟩ := hP
  have hx := Bd.exec
  have hby := Bd.bytes
  have hml : c.maxLocals = 7 := hml0
  have hown : s.vm.findClass "lazyframe/media/NalPayload" = some m.cls := findClass_of_methodNamed Bd.named
  have hnm := (name_of_methodNamed Bd.named Bd.method).1
  have X0 : Stand p l e ({ frames := 2, cells := 2, slots := 16, locals := 29 } : Room) s m #[(.ref o0), (.ref o1), (.int (0 : Int32))] below meth c s₁ [] 0 0 := Stand.of_body Bd
  have e0 : s₁.heap = h0 := by rw [← hh, Bd.state]; rfl
  have N0 := Fr.nil n0
  have K0 := Keep.refl h0 [o0]
  refine own_enter (QQ := rm2_Q Z o0 o1 k u0 u1 u2 u3 u4 u5 u6 u7 h0 n0) (ef_rm2 m o0 o1) ?_
  show own_Run p e below s _ _ _ s₁ (mkF m 0 #[.val (.ref o0), .val (.ref o1), .val (.int (0 : Int32)), .unset, .unset, .unset, .unset] [])
  refine own_step (T' := s₁) (g' := (mkF m 1 #[.val (.ref o0), .val (.ref o1), .val (.int (0 : Int32)), .unset, .unset, .unset, .unset] [(.ref o0)])) (fun t k => ?_) ?_
  · show Steps p.tables e below (s₁.setTop (mkF m 0 #[.val (.ref o0), .val (.ref o1), .val (.int (0 : Int32)), .unset, .unset, .unset, .unset] [])) _
    refine XS.aloadN X0.here hx rfl (hb hby d2_0) rfl rfl ?_
    show Steps p.tables e below (s₁.setTop (mkF m 1 #[.val (.ref o0), .val (.ref o1), .val (.int (0 : Int32)), .unset, .unset, .unset, .unset] [(.ref o0)])) _
    exact k
  obtain ⟨T1, X1, e1, st1⟩ := initO X0 hx hZ hown (hw _ (List.mem_of_getElem? (i := 15) rfl)) (hw _ (List.mem_of_getElem? (i := 16) rfl)) (hw _ (List.mem_of_getElem? (i := 17) rfl)) e0 (g := (mkF m 1 #[.val (.ref o0), .val (.ref o1), .val (.int (0 : Int32)), .unset, .unset, .unset, .unset] [(.ref o0)])) rfl (by rw [hml]; rfl) rfl (hb hby d2_1) (by decide) (W := 0) (by show 2 * 0 + _ ≤ _; exact Nat.le_of_eq rfl) (by decide)
  refine own_step st1 ?_
  show own_Run p e below s _ _ _ T1 (mkF m 4 #[.val (.ref o0), .val (.ref o1), .val (.int (0 : Int32)), .unset, .unset, .unset, .unset] [])
  refine own_step (T' := T1) (g' := (mkF m 5 #[.val (.ref o0), .val (.ref o1), .val (.int (0 : Int32)), .unset, .unset, .unset, .unset] [(.ref o1)])) (fun t k => ?_) ?_
  · show Steps p.tables e below (T1.setTop (mkF m 4 #[.val (.ref o0), .val (.ref o1), .val (.int (0 : Int32)), .unset, .unset, .unset, .unset] [])) _
    refine XS.aloadN X1.here hx rfl (hb hby d2_4) rfl rfl ?_
    show Steps p.tables e below (T1.setTop (mkF m 5 #[.val (.ref o0), .val (.ref o1), .val (.int (0 : Int32)), .unset, .unset, .unset, .unset] [(.ref o1)])) _
    exact k
  obtain ⟨cl2, Arcl2, -, Scl2, Mcl2, -, -⟩ := id V_o1
  refine own_step (T' := T1) (g' := (mkF m 8 #[.val (.ref o0), .val (.ref o1), .val (.int (0 : Int32)), .unset, .unset, .unset, .unset] [(.int (8 : Int32))])) (fun t k => ?_) ?_
  · show Steps p.tables e below (T1.setTop (mkF m 5 #[.val (.ref o0), .val (.ref o1), .val (.int (0 : Int32)), .unset, .unset, .unset, .unset] [(.ref o1)])) _
    refine X1.arraylength hx (by rw [e1]; exact Arcl2.1) (State.isArrayOf_alike hZ.alike Arcl2.2.1) (g := (mkF m 5 #[.val (.ref o0), .val (.ref o1), .val (.int (0 : Int32)), .unset, .unset, .unset, .unset] [(.ref o1)])) rfl rfl (hb hby d2_5) _ ?_
    rw [len_of Scl2 Mcl2]
    show Steps p.tables e below (T1.setTop (mkF m 6 #[.val (.ref o0), .val (.ref o1), .val (.int (0 : Int32)), .unset, .unset, .unset, .unset] [(.int (8 : Int32))])) _
    refine XS.iloadN X1.here hx rfl (hb hby d2_6) rfl ?_
    show Steps p.tables e below (T1.setTop (mkF m 7 #[.val (.ref o0), .val (.ref o1), .val (.int (0 : Int32)), .unset, .unset, .unset, .unset] [(.int (0 : Int32)), (.int (8 : Int32))])) _
    refine XS.isub X1.here hx rfl (hb hby d2_7) rfl ?_
    show Steps p.tables e below (T1.setTop (mkF m 8 #[.val (.ref o0), .val (.ref o1), .val (.int (0 : Int32)), .unset, .unset, .unset, .unset] [(.int (8 : Int32))])) _
    exact k
  obtain ⟨T3, h3, k3, X3, e3, E3, B3, A3, st3⟩ := newPE X1 hx hZ (hw _ (List.mem_of_getElem? (i := 7) rfl)) e1 (g := (mkF m 8 #[.val (.ref o0), .val (.ref o1), .val (.int (0 : Int32)), .unset, .unset, .unset, .unset] [(.int (8 : Int32))])) rfl (hb hby d2_8) rfl (by decide) (cap := 8) (by decide) (by decide) (by decide) (by decide) (ad := "[B") (by decide)
  obtain ⟨b3, g3⟩ : ∃ z, z = h0.size := ⟨_, rfl⟩
  have ne4 : o0 ≠ b3 := Nat.ne_of_lt (Nat.lt_of_lt_of_le F_p.lt (Nat.le_of_eq g3.symm))
  have ne5 : o1 ≠ b3 := Nat.ne_of_lt (Nat.lt_of_lt_of_le V_o1.lt (Nat.le_of_eq g3.symm))
  have g_b3 : n0 ≤ b3 := Nat.le_trans Z0 (Nat.le_of_eq g3.symm)
  have sz_b3 : h0.size ≤ b3 := Nat.le_trans K0.1 (Nat.le_of_eq g3.symm)
  rw [← g3] at A3 B3 st3
  have F6 := F_p.ext E3
  have F7 := F_s.ext E3
  have F8 := F_b.ext E3
  have A9 := E_o0.ext E3
  have V10 := V_o1.ext E3
  have K3 := K0.ext E3
  have V11 : Arv Z h3 b3 k3 .byte (8 : Int32) [(.int (0 : Int32)), (.int (0 : Int32)), (.int (0 : Int32)), (.int (0 : Int32)), (.int (0 : Int32)), (.int (0 : Int32)), (.int (0 : Int32)), (.int (0 : Int32))] (.int (0 : Int32)) := (Arv.new B3 (by decide)).pad (pad_rep [] (.int (0 : Int32)) 8)
  have Z12 := Nat.le_trans Z0 E3.1
  refine own_step st3 ?_
  show own_Run p e below s _ _ _ T3 (mkF m 10 #[.val (.ref o0), .val (.ref o1), .val (.int (0 : Int32)), .unset, .unset, .unset, .unset] [(.ref b3)])
  refine own_step (T' := T3) (g' := (mkF m 23 #[.val (.ref o0), .val (.ref o1), .val (.int (0 : Int32)), .val (.ref b3), .val (.int (0 : Int32)), .val (.int (0 : Int32)), .val (.int (0 : Int32))] [(.ref o1), (.int (0 : Int32))])) (fun t k => ?_) ?_
  · show Steps p.tables e below (T3.setTop (mkF m 10 #[.val (.ref o0), .val (.ref o1), .val (.int (0 : Int32)), .unset, .unset, .unset, .unset] [(.ref b3)])) _
    refine XS.astoreN X3.here hx rfl (hb hby d2_10) rfl rfl (l' := #[.val (.ref o0), .val (.ref o1), .val (.int (0 : Int32)), .val (.ref b3), .unset, .unset, .unset]) rfl ?_
    show Steps p.tables e below (T3.setTop (mkF m 11 #[.val (.ref o0), .val (.ref o1), .val (.int (0 : Int32)), .val (.ref b3), .unset, .unset, .unset] [])) _
    refine XS.iconst X3.here hx rfl (hb hby d2_11) ?_
    show Steps p.tables e below (T3.setTop (mkF m 12 #[.val (.ref o0), .val (.ref o1), .val (.int (0 : Int32)), .val (.ref b3), .unset, .unset, .unset] [(.int (0 : Int32))])) _
    refine XS.istore X3.here hx rfl (hb hby d2_12) rfl (l' := #[.val (.ref o0), .val (.ref o1), .val (.int (0 : Int32)), .val (.ref b3), .val (.int (0 : Int32)), .unset, .unset]) rfl ?_
    show Steps p.tables e below (T3.setTop (mkF m 14 #[.val (.ref o0), .val (.ref o1), .val (.int (0 : Int32)), .val (.ref b3), .val (.int (0 : Int32)), .unset, .unset] [])) _
    refine XS.iconst X3.here hx rfl (hb hby d2_14) ?_
    show Steps p.tables e below (T3.setTop (mkF m 15 #[.val (.ref o0), .val (.ref o1), .val (.int (0 : Int32)), .val (.ref b3), .val (.int (0 : Int32)), .unset, .unset] [(.int (0 : Int32))])) _
    refine XS.istore X3.here hx rfl (hb hby d2_15) rfl (l' := #[.val (.ref o0), .val (.ref o1), .val (.int (0 : Int32)), .val (.ref b3), .val (.int (0 : Int32)), .val (.int (0 : Int32)), .unset]) rfl ?_
    show Steps p.tables e below (T3.setTop (mkF m 17 #[.val (.ref o0), .val (.ref o1), .val (.int (0 : Int32)), .val (.ref b3), .val (.int (0 : Int32)), .val (.int (0 : Int32)), .unset] [])) _
    refine XS.iloadN X3.here hx rfl (hb hby d2_17) rfl ?_
    show Steps p.tables e below (T3.setTop (mkF m 18 #[.val (.ref o0), .val (.ref o1), .val (.int (0 : Int32)), .val (.ref b3), .val (.int (0 : Int32)), .val (.int (0 : Int32)), .unset] [(.int (0 : Int32))])) _
    refine XS.istore X3.here hx rfl (hb hby d2_18) rfl (l' := #[.val (.ref o0), .val (.ref o1), .val (.int (0 : Int32)), .val (.ref b3), .val (.int (0 : Int32)), .val (.int (0 : Int32)), .val (.int (0 : Int32))]) rfl ?_
    show Steps p.tables e below (T3.setTop (mkF m 20 #[.val (.ref o0), .val (.ref o1), .val (.int (0 : Int32)), .val (.ref b3), .val (.int (0 : Int32)), .val (.int (0 : Int32)), .val (.int (0 : Int32))] [])) _
    refine XS.iload X3.here hx rfl (hb hby d2_20) rfl ?_
    show Steps p.tables e below (T3.setTop (mkF m 22 #[.val (.ref o0), .val (.ref o1), .val (.int (0 : Int32)), .val (.ref b3), .val (.int (0 : Int32)), .val (.int (0 : Int32)), .val (.int (0 : Int32))] [(.int (0 : Int32))])) _
    refine XS.aloadN X3.here hx rfl (hb hby d2_22) rfl rfl ?_
    show Steps p.tables e below (T3.setTop (mkF m 23 #[.val (.ref o0), .val (.ref o1), .val (.int (0 : Int32)), .val (.ref b3), .val (.int (0 : Int32)), .val (.int (0 : Int32)), .val (.int (0 : Int32))] [(.ref o1), (.int (0 : Int32))])) _
    exact k
  obtain ⟨cl13, Arcl13, -, Scl13, Mcl13, -, -⟩ := id V10
  refine own_step (T' := T3) (g' := (mkF m 27 #[.val (.ref o0), .val (.ref o1), .val (.int (0 : Int32)), .val (.ref b3), .val (.int (0 : Int32)), .val (.int (0 : Int32)), .val (.int (0 : Int32))] [])) (fun t k => ?_) ?_
  · show Steps p.tables e below (T3.setTop (mkF m 23 #[.val (.ref o0), .val (.ref o1), .val (.int (0 : Int32)), .val (.ref b3), .val (.int (0 : Int32)), .val (.int (0 : Int32)), .val (.int (0 : Int32))] [(.ref o1), (.int (0 : Int32))])) _
    refine X3.arraylength hx (by rw [e3]; exact Arcl13.1) (State.isArrayOf_alike hZ.alike Arcl13.2.1) (g := (mkF m 23 #[.val (.ref o0), .val (.ref o1), .val (.int (0 : Int32)), .val (.ref b3), .val (.int (0 : Int32)), .val (.int (0 : Int32)), .val (.int (0 : Int32))] [(.ref o1), (.int (0 : Int32))])) rfl rfl (hb hby d2_23) _ ?_
    rw [len_of Scl13 Mcl13]
    show Steps p.tables e below (T3.setTop (mkF m 24 #[.val (.ref o0), .val (.ref o1), .val (.int (0 : Int32)), .val (.ref b3), .val (.int (0 : Int32)), .val (.int (0 : Int32)), .val (.int (0 : Int32))] [(.int (8 : Int32)), (.int (0 : Int32))])) _
    refine XS.icmpNo X3.here hx rfl (hb hby d2_24) rfl (tlt (by decide)).2.1 ?_
    show Steps p.tables e below (T3.setTop (mkF m 27 #[.val (.ref o0), .val (.ref o1), .val (.int (0 : Int32)), .val (.ref b3), .val (.int (0 : Int32)), .val (.int (0 : Int32)), .val (.int (0 : Int32))] [])) _
    exact k
  obtain ⟨cl15, Arcl15, qcl15, Scl15, Mcl15, Hcl15, Gcl15⟩ := id V10
  refine own_step (T' := T3) (g' := (mkF m 51 #[.val (.ref o0), .val (.ref o1), .val (.int (0 : Int32)), .val (.ref b3), .val (.int (0 : Int32)), .val (.int (0 : Int32)), .val (.int (0 : Int32))] [(.int u0)])) (fun t k => ?_) ?_
  · show Steps p.tables e below (T3.setTop (mkF m 27 #[.val (.ref o0), .val (.ref o1), .val (.int (0 : Int32)), .val (.ref b3), .val (.int (0 : Int32)), .val (.int (0 : Int32)), .val (.int (0 : Int32))] [])) _
    refine XS.iload X3.here hx rfl (hb hby d2_27) rfl ?_
    show Steps p.tables e below (T3.setTop (mkF m 29 #[.val (.ref o0), .val (.ref o1), .val (.int (0 : Int32)), .val (.ref b3), .val (.int (0 : Int32)), .val (.int (0 : Int32)), .val (.int (0 : Int32))] [(.int (0 : Int32))])) _
    refine XS.iconst X3.here hx rfl (hb hby d2_29) ?_
    show Steps p.tables e below (T3.setTop (mkF m 30 #[.val (.ref o0), .val (.ref o1), .val (.int (0 : Int32)), .val (.ref b3), .val (.int (0 : Int32)), .val (.int (0 : Int32)), .val (.int (0 : Int32))] [(.int (2 : Int32)), (.int (0 : Int32))])) _
    refine XS.icmpYes X3.here hx rfl (pc0 := 30) (pc' := 47) rfl (hb hby d2_30) rfl (tlt (by decide)).1 (by decide) (by decide) ?_
    show Steps p.tables e below (T3.setTop (mkF m 47 #[.val (.ref o0), .val (.ref o1), .val (.int (0 : Int32)), .val (.ref b3), .val (.int (0 : Int32)), .val (.int (0 : Int32)), .val (.int (0 : Int32))] [])) _
    refine XS.aloadN X3.here hx rfl (hb hby d2_47) rfl rfl ?_
    show Steps p.tables e below (T3.setTop (mkF m 48 #[.val (.ref o0), .val (.ref o1), .val (.int (0 : Int32)), .val (.ref b3), .val (.int (0 : Int32)), .val (.int (0 : Int32)), .val (.int (0 : Int32))] [(.ref o1)])) _
    refine XS.iload X3.here hx rfl (hb hby d2_48) rfl ?_
    show Steps p.tables e below (T3.setTop (mkF m 50 #[.val (.ref o0), .val (.ref o1), .val (.int (0 : Int32)), .val (.ref b3), .val (.int (0 : Int32)), .val (.int (0 : Int32)), .val (.int (0 : Int32))] [(.int (0 : Int32)), (.ref o1)])) _
    refine X3.baloadBytes hx (j := (0 : Int32)) (v := (.int u0)) (by rw [e3]; exact Arcl15.1) (State.isArrayOf_alike hZ.alike Arcl15.2.1) Arcl15.2.2 (inb_of Scl15 ⟨by decide, by decide⟩) (Hcl15.at (inb_of Scl15 ⟨by decide, by decide⟩) rfl) (g := (mkF m 50 #[.val (.ref o0), .val (.ref o1), .val (.int (0 : Int32)), .val (.ref b3), .val (.int (0 : Int32)), .val (.int (0 : Int32)), .val (.int (0 : Int32))] [(.int (0 : Int32)), (.ref o1)])) rfl rfl (hb hby d2_50) _ ?_
    show Steps p.tables e below (T3.setTop (mkF m 51 #[.val (.ref o0), .val (.ref o1), .val (.int (0 : Int32)), .val (.ref b3), .val (.int (0 : Int32)), .val (.int (0 : Int32)), .val (.int (0 : Int32))] [(.int u0)])) _
    exact k
  refine own_step (T' := T3) (g' := (mkF m 62 #[.val (.ref o0), .val (.ref o1), .val (.int (0 : Int32)), .val (.ref b3), .val (.int (0 : Int32)), .val (.int (0 : Int32)), .val (.int (0 : Int32))] [(.int (own_pick (u0 = (0 : Int32)) (1 : Int32) (0 : Int32)))])) (fun t k => ?_) ?_
  · show Steps p.tables e below (T3.setTop (mkF m 51 #[.val (.ref o0), .val (.ref o1), .val (.int (0 : Int32)), .val (.ref b3), .val (.int (0 : Int32)), .val (.int (0 : Int32)), .val (.int (0 : Int32))] [(.int u0)])) _
    by_cases hq : u0 = (0 : Int32)
    · simp only [own_pick_pos hq, own_pickJ_pos hq] at k
      refine XS.ifNo X3.here hx rfl (hb hby d2_51) rfl ((if0 _ _).trans (teq hq).2) ?_
      show Steps p.tables e below (T3.setTop (mkF m 54 #[.val (.ref o0), .val (.ref o1), .val (.int (0 : Int32)), .val (.ref b3), .val (.int (0 : Int32)), .val (.int (0 : Int32)), .val (.int (0 : Int32))] [])) _
      refine XS.iload X3.here hx rfl (hb hby d2_54) rfl ?_
      show Steps p.tables e below (T3.setTop (mkF m 56 #[.val (.ref o0), .val (.ref o1), .val (.int (0 : Int32)), .val (.ref b3), .val (.int (0 : Int32)), .val (.int (0 : Int32)), .val (.int (0 : Int32))] [(.int (0 : Int32))])) _
      refine XS.iconst X3.here hx rfl (hb hby d2_56) ?_
      show Steps p.tables e below (T3.setTop (mkF m 57 #[.val (.ref o0), .val (.ref o1), .val (.int (0 : Int32)), .val (.ref b3), .val (.int (0 : Int32)), .val (.int (0 : Int32)), .val (.int (0 : Int32))] [(.int (1 : Int32)), (.int (0 : Int32))])) _
      refine XS.iadd X3.here hx rfl (hb hby d2_57) rfl ?_
      show Steps p.tables e below (T3.setTop (mkF m 58 #[.val (.ref o0), .val (.ref o1), .val (.int (0 : Int32)), .val (.ref b3), .val (.int (0 : Int32)), .val (.int (0 : Int32)), .val (.int (0 : Int32))] [(.int (1 : Int32))])) _
      refine XS.goto X3.here hx rfl (pc0 := 58) (pc' := 62) rfl (hb hby d2_58) (by decide) (by decide) ?_
      show Steps p.tables e below (T3.setTop (mkF m 62 #[.val (.ref o0), .val (.ref o1), .val (.int (0 : Int32)), .val (.ref b3), .val (.int (0 : Int32)), .val (.int (0 : Int32)), .val (.int (0 : Int32))] [(.int (1 : Int32))])) _
      exact k
    · simp only [own_pick_neg hq, own_pickJ_neg hq] at k
      refine XS.ifYes X3.here hx rfl (pc0 := 51) (pc' := 61) rfl (hb hby d2_51) rfl ((if0 _ _).trans (feq hq).2) (by decide) (by decide) ?_
      show Steps p.tables e below (T3.setTop (mkF m 61 #[.val (.ref o0), .val (.ref o1), .val (.int (0 : Int32)), .val (.ref b3), .val (.int (0 : Int32)), .val (.int (0 : Int32)), .val (.int (0 : Int32))] [])) _
      refine XS.iconst X3.here hx rfl (hb hby d2_61) ?_
      show Steps p.tables e below (T3.setTop (mkF m 62 #[.val (.ref o0), .val (.ref o1), .val (.int (0 : Int32)), .val (.ref b3), .val (.int (0 : Int32)), .val (.int (0 : Int32)), .val (.int (0 : Int32))] [(.int (0 : Int32))])) _
      exact k
  show own_Run p e below s _ _ _ T3 (mkF m 62 #[.val (.ref o0), .val (.ref o1), .val (.int (0 : Int32)), .val (.ref b3), .val (.int (0 : Int32)), .val (.int (0 : Int32)), .val (.int (0 : Int32))] [(.int (own_pick (u0 = (0 : Int32)) (1 : Int32) (0 : Int32)))])
  refine own_step (T' := T3) (g' := (mkF m 64 #[.val (.ref o0), .val (.ref o1), .val (.int (0 : Int32)), .val (.ref b3), .val (.int (0 : Int32)), .val (.int (own_pick (u0 = (0 : Int32)) (1 : Int32) (0 : Int32))), .val (.int (0 : Int32))] [])) (fun t k => ?_) ?_
  · show Steps p.tables e below (T3.setTop (mkF m 62 #[.val (.ref o0), .val (.ref o1), .val (.int (0 : Int32)), .val (.ref b3), .val (.int (0 : Int32)), .val (.int (0 : Int32)), .val (.int (0 : Int32))] [(.int (own_pick (u0 = (0 : Int32)) (1 : Int32) (0 : Int32)))])) _
    refine XS.istore X3.here hx rfl (hb hby d2_62) rfl (l' := #[.val (.ref o0), .val (.ref o1), .val (.int (0 : Int32)), .val (.ref b3), .val (.int (0 : Int32)), .val (.int (own_pick (u0 = (0 : Int32)) (1 : Int32) (0 : Int32))), .val (.int (0 : Int32))]) rfl ?_
    show Steps p.tables e below (T3.setTop (mkF m 64 #[.val (.ref o0), .val (.ref o1), .val (.int (0 : Int32)), .val (.ref b3), .val (.int (0 : Int32)), .val (.int (own_pick (u0 = (0 : Int32)) (1 : Int32) (0 : Int32))), .val (.int (0 : Int32))] [])) _
    exact k
  generalize e_z1 : (own_pick (u0 = (0 : Int32)) (1 : Int32) (0 : Int32)) = z1
  show own_Run p e below s _ _ _ T3 (mkF m 64 #[.val (.ref o0), .val (.ref o1), .val (.int (0 : Int32)), .val (.ref b3), .val (.int (0 : Int32)), .val (.int z1), .val (.int (0 : Int32))] [])
  refine own_step (T' := T3) (g' := (mkF m 74 #[.val (.ref o0), .val (.ref o1), .val (.int (0 : Int32)), .val (.ref b3), .val (.int (1 : Int32)), .val (.int z1), .val (.int (0 : Int32))] [(.int u0), (.int (0 : Int32)), (.ref b3)])) (fun t k => ?_) ?_
  · show Steps p.tables e below (T3.setTop (mkF m 64 #[.val (.ref o0), .val (.ref o1), .val (.int (0 : Int32)), .val (.ref b3), .val (.int (0 : Int32)), .val (.int z1), .val (.int (0 : Int32))] [])) _
    refine XS.aloadN X3.here hx rfl (hb hby d2_64) rfl rfl ?_
    show Steps p.tables e below (T3.setTop (mkF m 65 #[.val (.ref o0), .val (.ref o1), .val (.int (0 : Int32)), .val (.ref b3), .val (.int (0 : Int32)), .val (.int z1), .val (.int (0 : Int32))] [(.ref b3)])) _
    refine XS.iload X3.here hx rfl (hb hby d2_65) rfl ?_
    show Steps p.tables e below (T3.setTop (mkF m 67 #[.val (.ref o0), .val (.ref o1), .val (.int (0 : Int32)), .val (.ref b3), .val (.int (0 : Int32)), .val (.int z1), .val (.int (0 : Int32))] [(.int (0 : Int32)), (.ref b3)])) _
    refine XS.iinc X3.here hx rfl (hb hby d2_67) rfl (l' := #[.val (.ref o0), .val (.ref o1), .val (.int (0 : Int32)), .val (.ref b3), .val (.int (1 : Int32)), .val (.int z1), .val (.int (0 : Int32))]) rfl ?_
    show Steps p.tables e below (T3.setTop (mkF m 70 #[.val (.ref o0), .val (.ref o1), .val (.int (0 : Int32)), .val (.ref b3), .val (.int (1 : Int32)), .val (.int z1), .val (.int (0 : Int32))] [(.int (0 : Int32)), (.ref b3)])) _
    refine XS.aloadN X3.here hx rfl (hb hby d2_70) rfl rfl ?_
    show Steps p.tables e below (T3.setTop (mkF m 71 #[.val (.ref o0), .val (.ref o1), .val (.int (0 : Int32)), .val (.ref b3), .val (.int (1 : Int32)), .val (.int z1), .val (.int (0 : Int32))] [(.ref o1), (.int (0 : Int32)), (.ref b3)])) _
    refine XS.iload X3.here hx rfl (hb hby d2_71) rfl ?_
    show Steps p.tables e below (T3.setTop (mkF m 73 #[.val (.ref o0), .val (.ref o1), .val (.int (0 : Int32)), .val (.ref b3), .val (.int (1 : Int32)), .val (.int z1), .val (.int (0 : Int32))] [(.int (0 : Int32)), (.ref o1), (.int (0 : Int32)), (.ref b3)])) _
    refine X3.baloadBytes hx (j := (0 : Int32)) (v := (.int u0)) (by rw [e3]; exact Arcl15.1) (State.isArrayOf_alike hZ.alike Arcl15.2.1) Arcl15.2.2 (inb_of Scl15 ⟨by decide, by decide⟩) (Hcl15.at (inb_of Scl15 ⟨by decide, by decide⟩) rfl) (g := (mkF m 73 #[.val (.ref o0), .val (.ref o1), .val (.int (0 : Int32)), .val (.ref b3), .val (.int (1 : Int32)), .val (.int z1), .val (.int (0 : Int32))] [(.int (0 : Int32)), (.ref o1), (.int (0 : Int32)), (.ref b3)])) rfl rfl (hb hby d2_73) _ ?_
    show Steps p.tables e below (T3.setTop (mkF m 74 #[.val (.ref o0), .val (.ref o1), .val (.int (0 : Int32)), .val (.ref b3), .val (.int (1 : Int32)), .val (.int z1), .val (.int (0 : Int32))] [(.int u0), (.int (0 : Int32)), (.ref b3)])) _
    exact k
  obtain ⟨cl18, Arcl18, qcl18, Scl18, Mcl18, Hcl18, Gcl18⟩ := V11
  have hincl18 : ¬ ((0 : Int32) < 0 ∨ cl18.slots.size ≤ ((0 : Int32)).toNatClampNeg) := inb_of Scl18 ⟨by decide, by decide⟩
  obtain ⟨T19, h19, X19, e19, W19, st19⟩ := stB X3 hx hZ e3 Arcl18 (j := (0 : Int32)) hincl18 (g := (mkF m 74 #[.val (.ref o0), .val (.ref o1), .val (.int (0 : Int32)), .val (.ref b3), .val (.int (1 : Int32)), .val (.int z1), .val (.int (0 : Int32))] [(.int u0), (.int (0 : Int32)), (.ref b3)])) rfl rfl (hb hby d2_74)
  have V20 := Arv.set Arcl18 qcl18 Scl18 Mcl18 Hcl18 Gcl18 (fits_nar_byte _) W19 0 rfl (Nat.le_of_ble_eq_true rfl)
  have V20l : Arv Z h19 b3 k3 .byte (8 : Int32) [(.int (nar .byte u0)), (.int (0 : Int32)), (.int (0 : Int32)), (.int (0 : Int32)), (.int (0 : Int32)), (.int (0 : Int32)), (.int (0 : Int32)), (.int (0 : Int32))] (.int (0 : Int32)) := V20
  have F21 := F6.other W19 (Or.inl ne4)
  have F22 := F7.other W19 (Or.inl ne4)
  have F23 := F8.other W19 (Or.inl ne4)
  have A24 := A9.wr W19
  have A25 := A3.wr W19
  have V26 := V10.other W19 ne5
  have Z27 := Nat.le_trans Z12 (Keep.of_wr W19).1
  have K19 := K3.wr W19 (Or.inr sz_b3)
  have N19 := Fr.snoc X19 N0 g_b3
  refine own_step st19 ?_
  show own_Run p e below s _ _ _ T19 (mkF m 75 #[.val (.ref o0), .val (.ref o1), .val (.int (0 : Int32)), .val (.ref b3), .val (.int (1 : Int32)), .val (.int z1), .val (.int (0 : Int32))] [])
  refine own_step (T' := T19) (g' := (mkF m 23 #[.val (.ref o0), .val (.ref o1), .val (.int (0 : Int32)), .val (.ref b3), .val (.int (1 : Int32)), .val (.int z1), .val (.int (1 : Int32))] [(.ref o1), (.int (1 : Int32))])) (fun t k => ?_) ?_
  · show Steps p.tables e below (T19.setTop (mkF m 75 #[.val (.ref o0), .val (.ref o1), .val (.int (0 : Int32)), .val (.ref b3), .val (.int (1 : Int32)), .val (.int z1), .val (.int (0 : Int32))] [])) _
    refine XS.iinc X19.here hx rfl (hb hby d2_75) rfl (l' := #[.val (.ref o0), .val (.ref o1), .val (.int (0 : Int32)), .val (.ref b3), .val (.int (1 : Int32)), .val (.int z1), .val (.int (1 : Int32))]) rfl ?_
    show Steps p.tables e below (T19.setTop (mkF m 78 #[.val (.ref o0), .val (.ref o1), .val (.int (0 : Int32)), .val (.ref b3), .val (.int (1 : Int32)), .val (.int z1), .val (.int (1 : Int32))] [])) _
    refine XS.goto X19.here hx rfl (pc0 := 78) (pc' := 20) rfl (hb hby d2_78) (by decide) (by decide) ?_
    show Steps p.tables e below (T19.setTop (mkF m 20 #[.val (.ref o0), .val (.ref o1), .val (.int (0 : Int32)), .val (.ref b3), .val (.int (1 : Int32)), .val (.int z1), .val (.int (1 : Int32))] [])) _
    refine XS.iload X19.here hx rfl (hb hby d2_20) rfl ?_
    show Steps p.tables e below (T19.setTop (mkF m 22 #[.val (.ref o0), .val (.ref o1), .val (.int (0 : Int32)), .val (.ref b3), .val (.int (1 : Int32)), .val (.int z1), .val (.int (1 : Int32))] [(.int (1 : Int32))])) _
    refine XS.aloadN X19.here hx rfl (hb hby d2_22) rfl rfl ?_
    show Steps p.tables e below (T19.setTop (mkF m 23 #[.val (.ref o0), .val (.ref o1), .val (.int (0 : Int32)), .val (.ref b3), .val (.int (1 : Int32)), .val (.int z1), .val (.int (1 : Int32))] [(.ref o1), (.int (1 : Int32))])) _
    exact k
  obtain ⟨cl28, Arcl28, -, Scl28, Mcl28, -, -⟩ := id V26
  refine own_step (T' := T19) (g' := (mkF m 27 #[.val (.ref o0), .val (.ref o1), .val (.int (0 : Int32)), .val (.ref b3), .val (.int (1 : Int32)), .val (.int z1), .val (.int (1 : Int32))] [])) (fun t k => ?_) ?_
  · show Steps p.tables e below (T19.setTop (mkF m 23 #[.val (.ref o0), .val (.ref o1), .val (.int (0 : Int32)), .val (.ref b3), .val (.int (1 : Int32)), .val (.int z1), .val (.int (1 : Int32))] [(.ref o1), (.int (1 : Int32))])) _
    refine X19.arraylength hx (by rw [e19]; exact Arcl28.1) (State.isArrayOf_alike hZ.alike Arcl28.2.1) (g := (mkF m 23 #[.val (.ref o0), .val (.ref o1), .val (.int (0 : Int32)), .val (.ref b3), .val (.int (1 : Int32)), .val (.int z1), .val (.int (1 : Int32))] [(.ref o1), (.int (1 : Int32))])) rfl rfl (hb hby d2_23) _ ?_
    rw [len_of Scl28 Mcl28]
    show Steps p.tables e below (T19.setTop (mkF m 24 #[.val (.ref o0), .val (.ref o1), .val (.int (0 : Int32)), .val (.ref b3), .val (.int (1 : Int32)), .val (.int z1), .val (.int (1 : Int32))] [(.int (8 : Int32)), (.int (1 : Int32))])) _
    refine XS.icmpNo X19.here hx rfl (hb hby d2_24) rfl (tlt (by decide)).2.1 ?_
    show Steps p.tables e below (T19.setTop (mkF m 27 #[.val (.ref o0), .val (.ref o1), .val (.int (0 : Int32)), .val (.ref b3), .val (.int (1 : Int32)), .val (.int z1), .val (.int (1 : Int32))] [])) _
    exact k
  obtain ⟨cl30, Arcl30, qcl30, Scl30, Mcl30, Hcl30, Gcl30⟩ := id V26
  refine own_step (T' := T19) (g' := (mkF m 30 #[.val (.ref o0), .val (.ref o1), .val (.int (0 : Int32)), .val (.ref b3), .val (.int (1 : Int32)), .val (.int z1), .val (.int (1 : Int32))] [(.int (2 : Int32)), (.int z1)])) (fun t k => ?_) ?_
  · show Steps p.tables e below (T19.setTop (mkF m 27 #[.val (.ref o0), .val (.ref o1), .val (.int (0 : Int32)), .val (.ref b3), .val (.int (1 : Int32)), .val (.int z1), .val (.int (1 : Int32))] [])) _
    refine XS.iload X19.here hx rfl (hb hby d2_27) rfl ?_
    show Steps p.tables e below (T19.setTop (mkF m 29 #[.val (.ref o0), .val (.ref o1), .val (.int (0 : Int32)), .val (.ref b3), .val (.int (1 : Int32)), .val (.int z1), .val (.int (1 : Int32))] [(.int z1)])) _
    refine XS.iconst X19.here hx rfl (hb hby d2_29) ?_
    show Steps p.tables e below (T19.setTop (mkF m 30 #[.val (.ref o0), .val (.ref o1), .val (.int (0 : Int32)), .val (.ref b3), .val (.int (1 : Int32)), .val (.int z1), .val (.int (1 : Int32))] [(.int (2 : Int32)), (.int z1)])) _
    exact k
  refine own_step (T' := T19) (g' := (mkF m 47 #[.val (.ref o0), .val (.ref o1), .val (.int (0 : Int32)), .val (.ref b3), .val (.int (1 : Int32)), .val (.int z1), .val (.int (1 : Int32))] [])) (fun t k => ?_) ?_
  · show Steps p.tables e below (T19.setTop (mkF m 30 #[.val (.ref o0), .val (.ref o1), .val (.int (0 : Int32)), .val (.ref b3), .val (.int (1 : Int32)), .val (.int z1), .val (.int (1 : Int32))] [(.int (2 : Int32)), (.int z1)])) _
    by_cases hq : z1 < (2 : Int32)
    · skip
      refine XS.icmpYes X19.here hx rfl (pc0 := 30) (pc' := 47) rfl (hb hby d2_30) rfl (tlt hq).1 (by decide) (by decide) ?_
      show Steps p.tables e below (T19.setTop (mkF m 47 #[.val (.ref o0), .val (.ref o1), .val (.int (0 : Int32)), .val (.ref b3), .val (.int (1 : Int32)), .val (.int z1), .val (.int (1 : Int32))] [])) _
      exact k
    · skip
      refine XS.icmpNo X19.here hx rfl (hb hby d2_30) rfl (flt hq).1 ?_
      show Steps p.tables e below (T19.setTop (mkF m 33 #[.val (.ref o0), .val (.ref o1), .val (.int (0 : Int32)), .val (.ref b3), .val (.int (1 : Int32)), .val (.int z1), .val (.int (1 : Int32))] [])) _
      refine XS.aloadN X19.here hx rfl (hb hby d2_33) rfl rfl ?_
      show Steps p.tables e below (T19.setTop (mkF m 34 #[.val (.ref o0), .val (.ref o1), .val (.int (0 : Int32)), .val (.ref b3), .val (.int (1 : Int32)), .val (.int z1), .val (.int (1 : Int32))] [(.ref o1)])) _
      refine XS.iload X19.here hx rfl (hb hby d2_34) rfl ?_
      show Steps p.tables e below (T19.setTop (mkF m 36 #[.val (.ref o0), .val (.ref o1), .val (.int (0 : Int32)), .val (.ref b3), .val (.int (1 : Int32)), .val (.int z1), .val (.int (1 : Int32))] [(.int (1 : Int32)), (.ref o1)])) _
      refine X19.baloadBytes hx (j := (1 : Int32)) (v := (.int u1)) (by rw [e19]; exact Arcl30.1) (State.isArrayOf_alike hZ.alike Arcl30.2.1) Arcl30.2.2 (inb_of Scl30 ⟨by decide, by decide⟩) (Hcl30.at (inb_of Scl30 ⟨by decide, by decide⟩) rfl) (g := (mkF m 36 #[.val (.ref o0), .val (.ref o1), .val (.int (0 : Int32)), .val (.ref b3), .val (.int (1 : Int32)), .val (.int z1), .val (.int (1 : Int32))] [(.int (1 : Int32)), (.ref o1)])) rfl rfl (hb hby d2_36) _ ?_
      show Steps p.tables e below (T19.setTop (mkF m 37 #[.val (.ref o0), .val (.ref o1), .val (.int (0 : Int32)), .val (.ref b3), .val (.int (1 : Int32)), .val (.int z1), .val (.int (1 : Int32))] [(.int u1)])) _
      refine XS.iconst X19.here hx rfl (hb hby d2_37) ?_
      show Steps p.tables e below (T19.setTop (mkF m 38 #[.val (.ref o0), .val (.ref o1), .val (.int (0 : Int32)), .val (.ref b3), .val (.int (1 : Int32)), .val (.int z1), .val (.int (1 : Int32))] [(.int (3 : Int32)), (.int u1)])) _
      refine XS.icmpYes X19.here hx rfl (pc0 := 38) (pc' := 47) rfl (hb hby d2_38) rfl (feq (own_zA e_z1 hq)).2 (by decide) (by decide) ?_
      show Steps p.tables e below (T19.setTop (mkF m 47 #[.val (.ref o0), .val (.ref o1), .val (.int (0 : Int32)), .val (.ref b3), .val (.int (1 : Int32)), .val (.int z1), .val (.int (1 : Int32))] [])) _
      exact k
  show own_Run p e below s _ _ _ T19 (mkF m 47 #[.val (.ref o0), .val (.ref o1), .val (.int (0 : Int32)), .val (.ref b3), .val (.int (1 : Int32)), .val (.int z1), .val (.int (1 : Int32))] [])
  refine own_step (T' := T19) (g' := (mkF m 51 #[.val (.ref o0), .val (.ref o1), .val (.int (0 : Int32)), .val (.ref b3), .val (.int (1 : Int32)), .val (.int z1), .val (.int (1 : Int32))] [(.int u1)])) (fun t k => ?_) ?_
  · show Steps p.tables e below (T19.setTop (mkF m 47 #[.val (.ref o0), .val (.ref o1), .val (.int (0 : Int32)), .val (.ref b3), .val (.int (1 : Int32)), .val (.int z1), .val (.int (1 : Int32))] [])) _
    refine XS.aloadN X19.here hx rfl (hb hby d2_47) rfl rfl ?_
    show Steps p.tables e below (T19.setTop (mkF m 48 #[.val (.ref o0), .val (.ref o1), .val (.int (0 : Int32)), .val (.ref b3), .val (.int (1 : Int32)), .val (.int z1), .val (.int (1 : Int32))] [(.ref o1)])) _
    refine XS.iload X19.here hx rfl (hb hby d2_48) rfl ?_
    show Steps p.tables e below (T19.setTop (mkF m 50 #[.val (.ref o0), .val (.ref o1), .val (.int (0 : Int32)), .val (.ref b3), .val (.int (1 : Int32)), .val (.int z1), .val (.int (1 : Int32))] [(.int (1 : Int32)), (.ref o1)])) _
    refine X19.baloadBytes hx (j := (1 : Int32)) (v := (.int u1)) (by rw [e19]; exact Arcl30.1) (State.isArrayOf_alike hZ.alike Arcl30.2.1) Arcl30.2.2 (inb_of Scl30 ⟨by decide, by decide⟩) (Hcl30.at (inb_of Scl30 ⟨by decide, by decide⟩) rfl) (g := (mkF m 50 #[.val (.ref o0), .val (.ref o1), .val (.int (0 : Int32)), .val (.ref b3), .val (.int (1 : Int32)), .val (.int z1), .val (.int (1 : Int32))] [(.int (1 : Int32)), (.ref o1)])) rfl rfl (hb hby d2_50) _ ?_
    show Steps p.tables e below (T19.setTop (mkF m 51 #[.val (.ref o0), .val (.ref o1), .val (.int (0 : Int32)), .val (.ref b3), .val (.int (1 : Int32)), .val (.int z1), .val (.int (1 : Int32))] [(.int u1)])) _
    exact k
  refine own_step (T' := T19) (g' := (mkF m 62 #[.val (.ref o0), .val (.ref o1), .val (.int (0 : Int32)), .val (.ref b3), .val (.int (1 : Int32)), .val (.int z1), .val (.int (1 : Int32))] [(.int (own_pick (u1 = (0 : Int32)) (z1 + (1 : Int32)) (0 : Int32)))])) (fun t k => ?_) ?_
  · show Steps p.tables e below (T19.setTop (mkF m 51 #[.val (.ref o0), .val (.ref o1), .val (.int (0 : Int32)), .val (.ref b3), .val (.int (1 : Int32)), .val (.int z1), .val (.int (1 : Int32))] [(.int u1)])) _
    by_cases hq : u1 = (0 : Int32)
    · simp only [own_pick_pos hq, own_pickJ_pos hq] at k
      refine XS.ifNo X19.here hx rfl (hb hby d2_51) rfl ((if0 _ _).trans (teq hq).2) ?_
      show Steps p.tables e below (T19.setTop (mkF m 54 #[.val (.ref o0), .val (.ref o1), .val (.int (0 : Int32)), .val (.ref b3), .val (.int (1 : Int32)), .val (.int z1), .val (.int (1 : Int32))] [])) _
      refine XS.iload X19.here hx rfl (hb hby d2_54) rfl ?_
      show Steps p.tables e below (T19.setTop (mkF m 56 #[.val (.ref o0), .val (.ref o1), .val (.int (0 : Int32)), .val (.ref b3), .val (.int (1 : Int32)), .val (.int z1), .val (.int (1 : Int32))] [(.int z1)])) _
      refine XS.iconst X19.here hx rfl (hb hby d2_56) ?_
      show Steps p.tables e below (T19.setTop (mkF m 57 #[.val (.ref o0), .val (.ref o1), .val (.int (0 : Int32)), .val (.ref b3), .val (.int (1 : Int32)), .val (.int z1), .val (.int (1 : Int32))] [(.int (1 : Int32)), (.int z1)])) _
      refine XS.iadd X19.here hx rfl (hb hby d2_57) rfl ?_
      show Steps p.tables e below (T19.setTop (mkF m 58 #[.val (.ref o0), .val (.ref o1), .val (.int (0 : Int32)), .val (.ref b3), .val (.int (1 : Int32)), .val (.int z1), .val (.int (1 : Int32))] [(.int (z1 + (1 : Int32)))])) _
      refine XS.goto X19.here hx rfl (pc0 := 58) (pc' := 62) rfl (hb hby d2_58) (by decide) (by decide) ?_
      show Steps p.tables e below (T19.setTop (mkF m 62 #[.val (.ref o0), .val (.ref o1), .val (.int (0 : Int32)), .val (.ref b3), .val (.int (1 : Int32)), .val (.int z1), .val (.int (1 : Int32))] [(.int (z1 + (1 : Int32)))])) _
      exact k
    · simp only [own_pick_neg hq, own_pickJ_neg hq] at k
      refine XS.ifYes X19.here hx rfl (pc0 := 51) (pc' := 61) rfl (hb hby d2_51) rfl ((if0 _ _).trans (feq hq).2) (by decide) (by decide) ?_
      show Steps p.tables e below (T19.setTop (mkF m 61 #[.val (.ref o0), .val (.ref o1), .val (.int (0 : Int32)), .val (.ref b3), .val (.int (1 : Int32)), .val (.int z1), .val (.int (1 : Int32))] [])) _
      refine XS.iconst X19.here hx rfl (hb hby d2_61) ?_
      show Steps p.tables e below (T19.setTop (mkF m 62 #[.val (.ref o0), .val (.ref o1), .val (.int (0 : Int32)), .val (.ref b3), .val (.int (1 : Int32)), .val (.int z1), .val (.int (1 : Int32))] [(.int (0 : Int32))])) _
      exact k
  show own_Run p e below s _ _ _ T19 (mkF m 62 #[.val (.ref o0), .val (.ref o1), .val (.int (0 : Int32)), .val (.ref b3), .val (.int (1 : Int32)), .val (.int z1), .val (.int (1 : Int32))] [(.int (own_pick (u1 = (0 : Int32)) (z1 + (1 : Int32)) (0 : Int32)))])
  refine own_step (T' := T19) (g' := (mkF m 64 #[.val (.ref o0), .val (.ref o1), .val (.int (0 : Int32)), .val (.ref b3), .val (.int (1 : Int32)), .val (.int (own_pick (u1 = (0 : Int32)) (z1 + (1 : Int32)) (0 : Int32))), .val (.int (1 : Int32))] [])) (fun t k => ?_) ?_
  · show Steps p.tables e below (T19.setTop (mkF m 62 #[.val (.ref o0), .val (.ref o1), .val (.int (0 : Int32)), .val (.ref b3), .val (.int (1 : Int32)), .val (.int z1), .val (.int (1 : Int32))] [(.int (own_pick (u1 = (0 : Int32)) (z1 + (1 : Int32)) (0 : Int32)))])) _
    refine XS.istore X19.here hx rfl (hb hby d2_62) rfl (l' := #[.val (.ref o0), .val (.ref o1), .val (.int (0 : Int32)), .val (.ref b3), .val (.int (1 : Int32)), .val (.int (own_pick (u1 = (0 : Int32)) (z1 + (1 : Int32)) (0 : Int32))), .val (.int (1 : Int32))]) rfl ?_
    show Steps p.tables e below (T19.setTop (mkF m 64 #[.val (.ref o0), .val (.ref o1), .val (.int (0 : Int32)), .val (.ref b3), .val (.int (1 : Int32)), .val (.int (own_pick (u1 = (0 : Int32)) (z1 + (1 : Int32)) (0 : Int32))), .val (.int (1 : Int32))] [])) _
    exact k
  generalize e_z2 : (own_pick (u1 = (0 : Int32)) (z1 + (1 : Int32)) (0 : Int32)) = z2
  show own_Run p e below s _ _ _ T19 (mkF m 64 #[.val (.ref o0), .val (.ref o1), .val (.int (0 : Int32)), .val (.ref b3), .val (.int (1 : Int32)), .val (.int z2), .val (.int (1 : Int32))] [])
  refine own_step (T' := T19) (g' := (mkF m 74 #[.val (.ref o0), .val (.ref o1), .val (.int (0 : Int32)), .val (.ref b3), .val (.int (2 : Int32)), .val (.int z2), .val (.int (1 : Int32))] [(.int u1), (.int (1 : Int32)), (.ref b3)])) (fun t k => ?_) ?_
  · show Steps p.tables e below (T19.setTop (mkF m 64 #[.val (.ref o0), .val (.ref o1), .val (.int (0 : Int32)), .val (.ref b3), .val (.int (1 : Int32)), .val (.int z2), .val (.int (1 : Int32))] [])) _
    refine XS.aloadN X19.here hx rfl (hb hby d2_64) rfl rfl ?_
    show Steps p.tables e below (T19.setTop (mkF m 65 #[.val (.ref o0), .val (.ref o1), .val (.int (0 : Int32)), .val (.ref b3), .val (.int (1 : Int32)), .val (.int z2), .val (.int (1 : Int32))] [(.ref b3)])) _
    refine XS.iload X19.here hx rfl (hb hby d2_65) rfl ?_
    show Steps p.tables e below (T19.setTop (mkF m 67 #[.val (.ref o0), .val (.ref o1), .val (.int (0 : Int32)), .val (.ref b3), .val (.int (1 : Int32)), .val (.int z2), .val (.int (1 : Int32))] [(.int (1 : Int32)), (.ref b3)])) _
    refine XS.iinc X19.here hx rfl (hb hby d2_67) rfl (l' := #[.val (.ref o0), .val (.ref o1), .val (.int (0 : Int32)), .val (.ref b3), .val (.int (2 : Int32)), .val (.int z2), .val (.int (1 : Int32))]) rfl ?_
    show Steps p.tables e below (T19.setTop (mkF m 70 #[.val (.ref o0), .val (.ref o1), .val (.int (0 : Int32)), .val (.ref b3), .val (.int (2 : Int32)), .val (.int z2), .val (.int (1 : Int32))] [(.int (1 : Int32)), (.ref b3)])) _
    refine XS.aloadN X19.here hx rfl (hb hby d2_70) rfl rfl ?_
    show Steps p.tables e below (T19.setTop (mkF m 71 #[.val (.ref o0), .val (.ref o1), .val (.int (0 : Int32)), .val (.ref b3), .val (.int (2 : Int32)), .val (.int z2), .val (.int (1 : Int32))] [(.ref o1), (.int (1 : Int32)), (.ref b3)])) _
    refine XS.iload X19.here hx rfl (hb hby d2_71) rfl ?_
    show Steps p.tables e below (T19.setTop (mkF m 73 #[.val (.ref o0), .val (.ref o1), .val (.int (0 : Int32)), .val (.ref b3), .val (.int (2 : Int32)), .val (.int z2), .val (.int (1 : Int32))] [(.int (1 : Int32)), (.ref o1), (.int (1 : Int32)), (.ref b3)])) _
    refine X19.baloadBytes hx (j := (1 : Int32)) (v := (.int u1)) (by rw [e19]; exact Arcl30.1) (State.isArrayOf_alike hZ.alike Arcl30.2.1) Arcl30.2.2 (inb_of Scl30 ⟨by decide, by decide⟩) (Hcl30.at (inb_of Scl30 ⟨by decide, by decide⟩) rfl) (g := (mkF m 73 #[.val (.ref o0), .val (.ref o1), .val (.int (0 : Int32)), .val (.ref b3), .val (.int (2 : Int32)), .val (.int z2), .val (.int (1 : Int32))] [(.int (1 : Int32)), (.ref o1), (.int (1 : Int32)), (.ref b3)])) rfl rfl (hb hby d2_73) _ ?_
    show Steps p.tables e below (T19.setTop (mkF m 74 #[.val (.ref o0), .val (.ref o1), .val (.int (0 : Int32)), .val (.ref b3), .val (.int (2 : Int32)), .val (.int z2), .val (.int (1 : Int32))] [(.int u1), (.int (1 : Int32)), (.ref b3)])) _
    exact k
  obtain ⟨cl34, Arcl34, qcl34, Scl34, Mcl34, Hcl34, Gcl34⟩ := V20l
  have hincl34 : ¬ ((1 : Int32) < 0 ∨ cl34.slots.size ≤ ((1 : Int32)).toNatClampNeg) := inb_of Scl34 ⟨by decide, by decide⟩
  obtain ⟨T35, h35, X35, e35, W35, st35⟩ := stB X19 hx hZ e19 Arcl34 (j := (1 : Int32)) hincl34 (g := (mkF m 74 #[.val (.ref o0), .val (.ref o1), .val (.int (0 : Int32)), .val (.ref b3), .val (.int (2 : Int32)), .val (.int z2), .val (.int (1 : Int32))] [(.int u1), (.int (1 : Int32)), (.ref b3)])) rfl rfl (hb hby d2_74)
  have V36 := Arv.set Arcl34 qcl34 Scl34 Mcl34 Hcl34 Gcl34 (fits_nar_byte _) W35 1 rfl (Nat.le_of_ble_eq_true rfl)
  have V36l : Arv Z h35 b3 k3 .byte (8 : Int32) [(.int (nar .byte u0)), (.int (nar .byte u1)), (.int (0 : Int32)), (.int (0 : Int32)), (.int (0 : Int32)), (.int (0 : Int32)), (.int (0 : Int32)), (.int (0 : Int32))] (.int (0 : Int32)) := V36
  have F37 := F21.other W35 (Or.inl ne4)
  have F38 := F22.other W35 (Or.inl ne4)
  have F39 := F23.other W35 (Or.inl ne4)
  have A40 := A24.wr W35
  have A41 := A25.wr W35
  have V42 := V26.other W35 ne5
  have Z43 := Nat.le_trans Z27 (Keep.of_wr W35).1
  have K35 := K19.wr W35 (Or.inr sz_b3)
  have N35 := Fr.snoc X35 N19 g_b3
  refine own_step st35 ?_
  show own_Run p e below s _ _ _ T35 (mkF m 75 #[.val (.ref o0), .val (.ref o1), .val (.int (0 : Int32)), .val (.ref b3), .val (.int (2 : Int32)), .val (.int z2), .val (.int (1 : Int32))] [])
  refine own_step (T' := T35) (g' := (mkF m 23 #[.val (.ref o0), .val (.ref o1), .val (.int (0 : Int32)), .val (.ref b3), .val (.int (2 : Int32)), .val (.int z2), .val (.int (2 : Int32))] [(.ref o1), (.int (2 : Int32))])) (fun t k => ?_) ?_
  · show Steps p.tables e below (T35.setTop (mkF m 75 #[.val (.ref o0), .val (.ref o1), .val (.int (0 : Int32)), .val (.ref b3), .val (.int (2 : Int32)), .val (.int z2), .val (.int (1 : Int32))] [])) _
    refine XS.iinc X35.here hx rfl (hb hby d2_75) rfl (l' := #[.val (.ref o0), .val (.ref o1), .val (.int (0 : Int32)), .val (.ref b3), .val (.int (2 : Int32)), .val (.int z2), .val (.int (2 : Int32))]) rfl ?_
    show Steps p.tables e below (T35.setTop (mkF m 78 #[.val (.ref o0), .val (.ref o1), .val (.int (0 : Int32)), .val (.ref b3), .val (.int (2 : Int32)), .val (.int z2), .val (.int (2 : Int32))] [])) _
    refine XS.goto X35.here hx rfl (pc0 := 78) (pc' := 20) rfl (hb hby d2_78) (by decide) (by decide) ?_
    show Steps p.tables e below (T35.setTop (mkF m 20 #[.val (.ref o0), .val (.ref o1), .val (.int (0 : Int32)), .val (.ref b3), .val (.int (2 : Int32)), .val (.int z2), .val (.int (2 : Int32))] [])) _
    refine XS.iload X35.here hx rfl (hb hby d2_20) rfl ?_
    show Steps p.tables e below (T35.setTop (mkF m 22 #[.val (.ref o0), .val (.ref o1), .val (.int (0 : Int32)), .val (.ref b3), .val (.int (2 : Int32)), .val (.int z2), .val (.int (2 : Int32))] [(.int (2 : Int32))])) _
    refine XS.aloadN X35.here hx rfl (hb hby d2_22) rfl rfl ?_
    show Steps p.tables e below (T35.setTop (mkF m 23 #[.val (.ref o0), .val (.ref o1), .val (.int (0 : Int32)), .val (.ref b3), .val (.int (2 : Int32)), .val (.int z2), .val (.int (2 : Int32))] [(.ref o1), (.int (2 : Int32))])) _
    exact k
  obtain ⟨cl44, Arcl44, -, Scl44, Mcl44, -, -⟩ := id V42
  refine own_step (T' := T35) (g' := (mkF m 27 #[.val (.ref o0), .val (.ref o1), .val (.int (0 : Int32)), .val (.ref b3), .val (.int (2 : Int32)), .val (.int z2), .val (.int (2 : Int32))] [])) (fun t k => ?_) ?_
  · show Steps p.tables e below (T35.setTop (mkF m 23 #[.val (.ref o0), .val (.ref o1), .val (.int (0 : Int32)), .val (.ref b3), .val (.int (2 : Int32)), .val (.int z2), .val (.int (2 : Int32))] [(.ref o1), (.int (2 : Int32))])) _
    refine X35.arraylength hx (by rw [e35]; exact Arcl44.1) (State.isArrayOf_alike hZ.alike Arcl44.2.1) (g := (mkF m 23 #[.val (.ref o0), .val (.ref o1), .val (.int (0 : Int32)), .val (.ref b3), .val (.int (2 : Int32)), .val (.int z2), .val (.int (2 : Int32))] [(.ref o1), (.int (2 : Int32))])) rfl rfl (hb hby d2_23) _ ?_
    rw [len_of Scl44 Mcl44]
    show Steps p.tables e below (T35.setTop (mkF m 24 #[.val (.ref o0), .val (.ref o1), .val (.int (0 : Int32)), .val (.ref b3), .val (.int (2 : Int32)), .val (.int z2), .val (.int (2 : Int32))] [(.int (8 : Int32)), (.int (2 : Int32))])) _
    refine XS.icmpNo X35.here hx rfl (hb hby d2_24) rfl (tlt (by decide)).2.1 ?_
    show Steps p.tables e below (T35.setTop (mkF m 27 #[.val (.ref o0), .val (.ref o1), .val (.int (0 : Int32)), .val (.ref b3), .val (.int (2 : Int32)), .val (.int z2), .val (.int (2 : Int32))] [])) _
    exact k
  obtain ⟨cl46, Arcl46, qcl46, Scl46, Mcl46, Hcl46, Gcl46⟩ := id V42
  refine own_step (T' := T35) (g' := (mkF m 30 #[.val (.ref o0), .val (.ref o1), .val (.int (0 : Int32)), .val (.ref b3), .val (.int (2 : Int32)), .val (.int z2), .val (.int (2 : Int32))] [(.int (2 : Int32)), (.int z2)])) (fun t k => ?_) ?_
  · show Steps p.tables e below (T35.setTop (mkF m 27 #[.val (.ref o0), .val (.ref o1), .val (.int (0 : Int32)), .val (.ref b3), .val (.int (2 : Int32)), .val (.int z2), .val (.int (2 : Int32))] [])) _
    refine XS.iload X35.here hx rfl (hb hby d2_27) rfl ?_
    show Steps p.tables e below (T35.setTop (mkF m 29 #[.val (.ref o0), .val (.ref o1), .val (.int (0 : Int32)), .val (.ref b3), .val (.int (2 : Int32)), .val (.int z2), .val (.int (2 : Int32))] [(.int z2)])) _
    refine XS.iconst X35.here hx rfl (hb hby d2_29) ?_
    show Steps p.tables e below (T35.setTop (mkF m 30 #[.val (.ref o0), .val (.ref o1), .val (.int (0 : Int32)), .val (.ref b3), .val (.int (2 : Int32)), .val (.int z2), .val (.int (2 : Int32))] [(.int (2 : Int32)), (.int z2)])) _
    exact k
  refine own_step (T' := T35) (g' := (mkF m 47 #[.val (.ref o0), .val (.ref o1), .val (.int (0 : Int32)), .val (.ref b3), .val (.int (2 : Int32)), .val (.int z2), .val (.int (2 : Int32))] [])) (fun t k => ?_) ?_
  · show Steps p.tables e below (T35.setTop (mkF m 30 #[.val (.ref o0), .val (.ref o1), .val (.int (0 : Int32)), .val (.ref b3), .val (.int (2 : Int32)), .val (.int z2), .val (.int (2 : Int32))] [(.int (2 : Int32)), (.int z2)])) _
    by_cases hq : z2 < (2 : Int32)
    · skip
      refine XS.icmpYes X35.here hx rfl (pc0 := 30) (pc' := 47) rfl (hb hby d2_30) rfl (tlt hq).1 (by decide) (by decide) ?_
      show Steps p.tables e below (T35.setTop (mkF m 47 #[.val (.ref o0), .val (.ref o1), .val (.int (0 : Int32)), .val (.ref b3), .val (.int (2 : Int32)), .val (.int z2), .val (.int (2 : Int32))] [])) _
      exact k
    · skip
      refine XS.icmpNo X35.here hx rfl (hb hby d2_30) rfl (flt hq).1 ?_
      show Steps p.tables e below (T35.setTop (mkF m 33 #[.val (.ref o0), .val (.ref o1), .val (.int (0 : Int32)), .val (.ref b3), .val (.int (2 : Int32)), .val (.int z2), .val (.int (2 : Int32))] [])) _
      refine XS.aloadN X35.here hx rfl (hb hby d2_33) rfl rfl ?_
      show Steps p.tables e below (T35.setTop (mkF m 34 #[.val (.ref o0), .val (.ref o1), .val (.int (0 : Int32)), .val (.ref b3), .val (.int (2 : Int32)), .val (.int z2), .val (.int (2 : Int32))] [(.ref o1)])) _
      refine XS.iload X35.here hx rfl (hb hby d2_34) rfl ?_
      show Steps p.tables e below (T35.setTop (mkF m 36 #[.val (.ref o0), .val (.ref o1), .val (.int (0 : Int32)), .val (.ref b3), .val (.int (2 : Int32)), .val (.int z2), .val (.int (2 : Int32))] [(.int (2 : Int32)), (.ref o1)])) _
      refine X35.baloadBytes hx (j := (2 : Int32)) (v := (.int u2)) (by rw [e35]; exact Arcl46.1) (State.isArrayOf_alike hZ.alike Arcl46.2.1) Arcl46.2.2 (inb_of Scl46 ⟨by decide, by decide⟩) (Hcl46.at (inb_of Scl46 ⟨by decide, by decide⟩) rfl) (g := (mkF m 36 #[.val (.ref o0), .val (.ref o1), .val (.int (0 : Int32)), .val (.ref b3), .val (.int (2 : Int32)), .val (.int z2), .val (.int (2 : Int32))] [(.int (2 : Int32)), (.ref o1)])) rfl rfl (hb hby d2_36) _ ?_
      show Steps p.tables e below (T35.setTop (mkF m 37 #[.val (.ref o0), .val (.ref o1), .val (.int (0 : Int32)), .val (.ref b3), .val (.int (2 : Int32)), .val (.int z2), .val (.int (2 : Int32))] [(.int u2)])) _
      refine XS.iconst X35.here hx rfl (hb hby d2_37) ?_
      show Steps p.tables e below (T35.setTop (mkF m 38 #[.val (.ref o0), .val (.ref o1), .val (.int (0 : Int32)), .val (.ref b3), .val (.int (2 : Int32)), .val (.int z2), .val (.int (2 : Int32))] [(.int (3 : Int32)), (.int u2)])) _
      refine XS.icmpYes X35.here hx rfl (pc0 := 38) (pc' := 47) rfl (hb hby d2_38) rfl (feq (own_zB e_z1 e_z2 hq hno2)).2 (by decide) (by decide) ?_
      show Steps p.tables e below (T35.setTop (mkF m 47 #[.val (.ref o0), .val (.ref o1), .val (.int (0 : Int32)), .val (.ref b3), .val (.int (2 : Int32)), .val (.int z2), .val (.int (2 : Int32))] [])) _
      exact k
  show own_Run p e below s _ _ _ T35 (mkF m 47 #[.val (.ref o0), .val (.ref o1), .val (.int (0 : Int32)), .val (.ref b3), .val (.int (2 : Int32)), .val (.int z2), .val (.int (2 : Int32))] [])
  refine own_step (T' := T35) (g' := (mkF m 51 #[.val (.ref o0), .val (.ref o1), .val (.int (0 : Int32)), .val (.ref b3), .val (.int (2 : Int32)), .val (.int z2), .val (.int (2 : Int32))] [(.int u2)])) (fun t k => ?_) ?_
  · show Steps p.tables e below (T35.setTop (mkF m 47 #[.val (.ref o0), .val (.ref o1), .val (.int (0 : Int32)), .val (.ref b3), .val (.int (2 : Int32)), .val (.int z2), .val (.int (2 : Int32))] [])) _
    refine XS.aloadN X35.here hx rfl (hb hby d2_47) rfl rfl ?_
    show Steps p.tables e below (T35.setTop (mkF m 48 #[.val (.ref o0), .val (.ref o1), .val (.int (0 : Int32)), .val (.ref b3), .val (.int (2 : Int32)), .val (.int z2), .val (.int (2 : Int32))] [(.ref o1)])) _
    refine XS.iload X35.here hx rfl (hb hby d2_48) rfl ?_
    show Steps p.tables e below (T35.setTop (mkF m 50 #[.val (.ref o0), .val (.ref o1), .val (.int (0 : Int32)), .val (.ref b3), .val (.int (2 : Int32)), .val (.int z2), .val (.int (2 : Int32))] [(.int (2 : Int32)), (.ref o1)])) _
    refine X35.baloadBytes hx (j := (2 : Int32)) (v := (.int u2)) (by rw [e35]; exact Arcl46.1) (State.isArrayOf_alike hZ.alike Arcl46.2.1) Arcl46.2.2 (inb_of Scl46 ⟨by decide, by decide⟩) (Hcl46.at (inb_of Scl46 ⟨by decide, by decide⟩) rfl) (g := (mkF m 50 #[.val (.ref o0), .val (.ref o1), .val (.int (0 : Int32)), .val (.ref b3), .val (.int (2 : Int32)), .val (.int z2), .val (.int (2 : Int32))] [(.int (2 : Int32)), (.ref o1)])) rfl rfl (hb hby d2_50) _ ?_
    show Steps p.tables e below (T35.setTop (mkF m 51 #[.val (.ref o0), .val (.ref o1), .val (.int (0 : Int32)), .val (.ref b3), .val (.int (2 : Int32)), .val (.int z2), .val (.int (2 : Int32))] [(.int u2)])) _
    exact k
  refine own_step (T' := T35) (g' := (mkF m 62 #[.val (.ref o0), .val (.ref o1), .val (.int (0 : Int32)), .val (.ref b3), .val (.int (2 : Int32)), .val (.int z2), .val (.int (2 : Int32))] [(.int (own_pick (u2 = (0 : Int32)) (z2 + (1 : Int32)) (0 : Int32)))])) (fun t k => ?_) ?_
  · show Steps p.tables e below (T35.setTop (mkF m 51 #[.val (.ref o0), .val (.ref o1), .val (.int (0 : Int32)), .val (.ref b3), .val (.int (2 : Int32)), .val (.int z2), .val (.int (2 : Int32))] [(.int u2)])) _
    by_cases hq : u2 = (0 : Int32)
    · simp only [own_pick_pos hq, own_pickJ_pos hq] at k
      refine XS.ifNo X35.here hx rfl (hb hby d2_51) rfl ((if0 _ _).trans (teq hq).2) ?_
      show Steps p.tables e below (T35.setTop (mkF m 54 #[.val (.ref o0), .val (.ref o1), .val (.int (0 : Int32)), .val (.ref b3), .val (.int (2 : Int32)), .val (.int z2), .val (.int (2 : Int32))] [])) _
      refine XS.iload X35.here hx rfl (hb hby d2_54) rfl ?_
      show Steps p.tables e below (T35.setTop (mkF m 56 #[.val (.ref o0), .val (.ref o1), .val (.int (0 : Int32)), .val (.ref b3), .val (.int (2 : Int32)), .val (.int z2), .val (.int (2 : Int32))] [(.int z2)])) _
      refine XS.iconst X35.here hx rfl (hb hby d2_56) ?_
      show Steps p.tables e below (T35.setTop (mkF m 57 #[.val (.ref o0), .val (.ref o1), .val (.int (0 : Int32)), .val (.ref b3), .val (.int (2 : Int32)), .val (.int z2), .val (.int (2 : Int32))] [(.int (1 : Int32)), (.int z2)])) _
      refine XS.iadd X35.here hx rfl (hb hby d2_57) rfl ?_
      show Steps p.tables e below (T35.setTop (mkF m 58 #[.val (.ref o0), .val (.ref o1), .val (.int (0 : Int32)), .val (.ref b3), .val (.int (2 : Int32)), .val (.int z2), .val (.int (2 : Int32))] [(.int (z2 + (1 : Int32)))])) _
      refine XS.goto X35.here hx rfl (pc0 := 58) (pc' := 62) rfl (hb hby d2_58) (by decide) (by decide) ?_
      show Steps p.tables e below (T35.setTop (mkF m 62 #[.val (.ref o0), .val (.ref o1), .val (.int (0 : Int32)), .val (.ref b3), .val (.int (2 : Int32)), .val (.int z2), .val (.int (2 : Int32))] [(.int (z2 + (1 : Int32)))])) _
      exact k
    · simp only [own_pick_neg hq, own_pickJ_neg hq] at k
      refine XS.ifYes X35.here hx rfl (pc0 := 51) (pc' := 61) rfl (hb hby d2_51) rfl ((if0 _ _).trans (feq hq).2) (by decide) (by decide) ?_
      show Steps p.tables e below (T35.setTop (mkF m 61 #[.val (.ref o0), .val (.ref o1), .val (.int (0 : Int32)), .val (.ref b3), .val (.int (2 : Int32)), .val (.int z2), .val (.int (2 : Int32))] [])) _
      refine XS.iconst X35.here hx rfl (hb hby d2_61) ?_
      show Steps p.tables e below (T35.setTop (mkF m 62 #[.val (.ref o0), .val (.ref o1), .val (.int (0 : Int32)), .val (.ref b3), .val (.int (2 : Int32)), .val (.int z2), .val (.int (2 : Int32))] [(.int (0 : Int32))])) _
      exact k
  show own_Run p e below s _ _ _ T35 (mkF m 62 #[.val (.ref o0), .val (.ref o1), .val (.int (0 : Int32)), .val (.ref b3), .val (.int (2 : Int32)), .val (.int z2), .val (.int (2 : Int32))] [(.int (own_pick (u2 = (0 : Int32)) (z2 + (1 : Int32)) (0 : Int32)))])
  refine own_step (T' := T35) (g' := (mkF m 64 #[.val (.ref o0), .val (.ref o1), .val (.int (0 : Int32)), .val (.ref b3), .val (.int (2 : Int32)), .val (.int (own_pick (u2 = (0 : Int32)) (z2 + (1 : Int32)) (0 : Int32))), .val (.int (2 : Int32))] [])) (fun t k => ?_) ?_
  · show Steps p.tables e below (T35.setTop (mkF m 62 #[.val (.ref o0), .val (.ref o1), .val (.int (0 : Int32)), .val (.ref b3), .val (.int (2 : Int32)), .val (.int z2), .val (.int (2 : Int32))] [(.int (own_pick (u2 = (0 : Int32)) (z2 + (1 : Int32)) (0 : Int32)))])) _
    refine XS.istore X35.here hx rfl (hb hby d2_62) rfl (l' := #[.val (.ref o0), .val (.ref o1), .val (.int (0 : Int32)), .val (.ref b3), .val (.int (2 : Int32)), .val (.int (own_pick (u2 = (0 : Int32)) (z2 + (1 : Int32)) (0 : Int32))), .val (.int (2 : Int32))]) rfl ?_
    show Steps p.tables e below (T35.setTop (mkF m 64 #[.val (.ref o0), .val (.ref o1), .val (.int (0 : Int32)), .val (.ref b3), .val (.int (2 : Int32)), .val (.int (own_pick (u2 = (0 : Int32)) (z2 + (1 : Int32)) (0 : Int32))), .val (.int (2 : Int32))] [])) _
    exact k
  generalize e_z3 : (own_pick (u2 = (0 : Int32)) (z2 + (1 : Int32)) (0 : Int32)) = z3
  show own_Run p e below s _ _ _ T35 (mkF m 64 #[.val (.ref o0), .val (.ref o1), .val (.int (0 : Int32)), .val (.ref b3), .val (.int (2 : Int32)), .val (.int z3), .val (.int (2 : Int32))] [])
  refine own_step (T' := T35) (g' := (mkF m 74 #[.val (.ref o0), .val (.ref o1), .val (.int (0 : Int32)), .val (.ref b3), .val (.int (3 : Int32)), .val (.int z3), .val (.int (2 : Int32))] [(.int u2), (.int (2 : Int32)), (.ref b3)])) (fun t k => ?_) ?_
  · show Steps p.tables e below (T35.setTop (mkF m 64 #[.val (.ref o0), .val (.ref o1), .val (.int (0 : Int32)), .val (.ref b3), .val (.int (2 : Int32)), .val (.int z3), .val (.int (2 : Int32))] [])) _
    refine XS.aloadN X35.here hx rfl (hb hby d2_64) rfl rfl ?_
    show Steps p.tables e below (T35.setTop (mkF m 65 #[.val (.ref o0), .val (.ref o1), .val (.int (0 : Int32)), .val (.ref b3), .val (.int (2 : Int32)), .val (.int z3), .val (.int (2 : Int32))] [(.ref b3)])) _
    refine XS.iload X35.here hx rfl (hb hby d2_65) rfl ?_
    show Steps p.tables e below (T35.setTop (mkF m 67 #[.val (.ref o0), .val (.ref o1), .val (.int (0 : Int32)), .val (.ref b3), .val (.int (2 : Int32)), .val (.int z3), .val (.int (2 : Int32))] [(.int (2 : Int32)), (.ref b3)])) _
    refine XS.iinc X35.here hx rfl (hb hby d2_67) rfl (l' := #[.val (.ref o0), .val (.ref o1), .val (.int (0 : Int32)), .val (.ref b3), .val (.int (3 : Int32)), .val (.int z3), .val (.int (2 : Int32))]) rfl ?_
    show Steps p.tables e below (T35.setTop (mkF m 70 #[.val (.ref o0), .val (.ref o1), .val (.int (0 : Int32)), .val (.ref b3), .val (.int (3 : Int32)), .val (.int z3), .val (.int (2 : Int32))] [(.int (2 : Int32)), (.ref b3)])) _
    refine XS.aloadN X35.here hx rfl (hb hby d2_70) rfl rfl ?_
    show Steps p.tables e below (T35.setTop (mkF m 71 #[.val (.ref o0), .val (.ref o1), .val (.int (0 : Int32)), .val (.ref b3), .val (.int (3 : Int32)), .val (.int z3), .val (.int (2 : Int32))] [(.ref o1), (.int (2 : Int32)), (.ref b3)])) _
    refine XS.iload X35.here hx rfl (hb hby d2_71) rfl ?_
    show Steps p.tables e below (T35.setTop (mkF m 73 #[.val (.ref o0), .val (.ref o1), .val (.int (0 : Int32)), .val (.ref b3), .val (.int (3 : Int32)), .val (.int z3), .val (.int (2 : Int32))] [(.int (2 : Int32)), (.ref o1), (.int (2 : Int32)), (.ref b3)])) _
    refine X35.baloadBytes hx (j := (2 : Int32)) (v := (.int u2)) (by rw [e35]; exact Arcl46.1) (State.isArrayOf_alike hZ.alike Arcl46.2.1) Arcl46.2.2 (inb_of Scl46 ⟨by decide, by decide⟩) (Hcl46.at (inb_of Scl46 ⟨by decide, by decide⟩) rfl) (g := (mkF m 73 #[.val (.ref o0), .val (.ref o1), .val (.int (0 : Int32)), .val (.ref b3), .val (.int (3 : Int32)), .val (.int z3), .val (.int (2 : Int32))] [(.int (2 : Int32)), (.ref o1), (.int (2 : Int32)), (.ref b3)])) rfl rfl (hb hby d2_73) _ ?_
    show Steps p.tables e below (T35.setTop (mkF m 74 #[.val (.ref o0), .val (.ref o1), .val (.int (0 : Int32)), .val (.ref b3), .val (.int (3 : Int32)), .val (.int z3), .val (.int (2 : Int32))] [(.int u2), (.int (2 : Int32)), (.ref b3)])) _
    exact k
  obtain ⟨cl50, Arcl50, qcl50, Scl50, Mcl50, Hcl50, Gcl50⟩ := V36l
  have hincl50 : ¬ ((2 : Int32) < 0 ∨ cl50.slots.size ≤ ((2 : Int32)).toNatClampNeg) := inb_of Scl50 ⟨by decide, by decide⟩
  obtain ⟨T51, h51, X51, e51, W51, st51⟩ := stB X35 hx hZ e35 Arcl50 (j := (2 : Int32)) hincl50 (g := (mkF m 74 #[.val (.ref o0), .val (.ref o1), .val (.int (0 : Int32)), .val (.ref b3), .val (.int (3 : Int32)), .val (.int z3), .val (.int (2 : Int32))] [(.int u2), (.int (2 : Int32)), (.ref b3)])) rfl rfl (hb hby d2_74)
  have V52 := Arv.set Arcl50 qcl50 Scl50 Mcl50 Hcl50 Gcl50 (fits_nar_byte _) W51 2 rfl (Nat.le_of_ble_eq_true rfl)
  have V52l : Arv Z h51 b3 k3 .byte (8 : Int32) [(.int (nar .byte u0)), (.int (nar .byte u1)), (.int (nar .byte u2)), (.int (0 : Int32)), (.int (0 : Int32)), (.int (0 : Int32)), (.int (0 : Int32)), (.int (0 : Int32))] (.int (0 : Int32)) := V52
  have F53 := F37.other W51 (Or.inl ne4)
  have F54 := F38.other W51 (Or.inl ne4)
  have F55 := F39.other W51 (Or.inl ne4)
  have A56 := A40.wr W51
  have A57 := A41.wr W51
  have V58 := V42.other W51 ne5
  have Z59 := Nat.le_trans Z43 (Keep.of_wr W51).1
  have K51 := K35.wr W51 (Or.inr sz_b3)
  have N51 := Fr.snoc X51 N35 g_b3
  refine own_step st51 ?_
  show own_Run p e below s _ _ _ T51 (mkF m 75 #[.val (.ref o0), .val (.ref o1), .val (.int (0 : Int32)), .val (.ref b3), .val (.int (3 : Int32)), .val (.int z3), .val (.int (2 : Int32))] [])
  refine own_step (T' := T51) (g' := (mkF m 23 #[.val (.ref o0), .val (.ref o1), .val (.int (0 : Int32)), .val (.ref b3), .val (.int (3 : Int32)), .val (.int z3), .val (.int (3 : Int32))] [(.ref o1), (.int (3 : Int32))])) (fun t k => ?_) ?_
  · show Steps p.tables e below (T51.setTop (mkF m 75 #[.val (.ref o0), .val (.ref o1), .val (.int (0 : Int32)), .val (.ref b3), .val (.int (3 : Int32)), .val (.int z3), .val (.int (2 : Int32))] [])) _
    refine XS.iinc X51.here hx rfl (hb hby d2_75) rfl (l' := #[.val (.ref o0), .val (.ref o1), .val (.int (0 : Int32)), .val (.ref b3), .val (.int (3 : Int32)), .val (.int z3), .val (.int (3 : Int32))]) rfl ?_
    show Steps p.tables e below (T51.setTop (mkF m 78 #[.val (.ref o0), .val (.ref o1), .val (.int (0 : Int32)), .val (.ref b3), .val (.int (3 : Int32)), .val (.int z3), .val (.int (3 : Int32))] [])) _
    refine XS.goto X51.here hx rfl (pc0 := 78) (pc' := 20) rfl (hb hby d2_78) (by decide) (by decide) ?_
    show Steps p.tables e below (T51.setTop (mkF m 20 #[.val (.ref o0), .val (.ref o1), .val (.int (0 : Int32)), .val (.ref b3), .val (.int (3 : Int32)), .val (.int z3), .val (.int (3 : Int32))] [])) _
    refine XS.iload X51.here hx rfl (hb hby d2_20) rfl ?_
    show Steps p.tables e below (T51.setTop (mkF m 22 #[.val (.ref o0), .val (.ref o1), .val (.int (0 : Int32)), .val (.ref b3), .val (.int (3 : Int32)), .val (.int z3), .val (.int (3 : Int32))] [(.int (3 : Int32))])) _
    refine XS.aloadN X51.here hx rfl (hb hby d2_22) rfl rfl ?_
    show Steps p.tables e below (T51.setTop (mkF m 23 #[.val (.ref o0), .val (.ref o1), .val (.int (0 : Int32)), .val (.ref b3), .val (.int (3 : Int32)), .val (.int z3), .val (.int (3 : Int32))] [(.ref o1), (.int (3 : Int32))])) _
    exact k
  obtain ⟨cl60, Arcl60, -, Scl60, Mcl60, -, -⟩ := id V58
  refine own_step (T' := T51) (g' := (mkF m 27 #[.val (.ref o0), .val (.ref o1), .val (.int (0 : Int32)), .val (.ref b3), .val (.int (3 : Int32)), .val (.int z3), .val (.int (3 : Int32))] [])) (fun t k => ?_) ?_
  · show Steps p.tables e below (T51.setTop (mkF m 23 #[.val (.ref o0), .val (.ref o1), .val (.int (0 : Int32)), .val (.ref b3), .val (.int (3 : Int32)), .val (.int z3), .val (.int (3 : Int32))] [(.ref o1), (.int (3 : Int32))])) _
    refine X51.arraylength hx (by rw [e51]; exact Arcl60.1) (State.isArrayOf_alike hZ.alike Arcl60.2.1) (g := (mkF m 23 #[.val (.ref o0), .val (.ref o1), .val (.int (0 : Int32)), .val (.ref b3), .val (.int (3 : Int32)), .val (.int z3), .val (.int (3 : Int32))] [(.ref o1), (.int (3 : Int32))])) rfl rfl (hb hby d2_23) _ ?_
    rw [len_of Scl60 Mcl60]
    show Steps p.tables e below (T51.setTop (mkF m 24 #[.val (.ref o0), .val (.ref o1), .val (.int (0 : Int32)), .val (.ref b3), .val (.int (3 : Int32)), .val (.int z3), .val (.int (3 : Int32))] [(.int (8 : Int32)), (.int (3 : Int32))])) _
    refine XS.icmpNo X51.here hx rfl (hb hby d2_24) rfl (tlt (by decide)).2.1 ?_
    show Steps p.tables e below (T51.setTop (mkF m 27 #[.val (.ref o0), .val (.ref o1), .val (.int (0 : Int32)), .val (.ref b3), .val (.int (3 : Int32)), .val (.int z3), .val (.int (3 : Int32))] [])) _
    exact k
  obtain ⟨cl62, Arcl62, qcl62, Scl62, Mcl62, Hcl62, Gcl62⟩ := id V58
  refine own_step (T' := T51) (g' := (mkF m 30 #[.val (.ref o0), .val (.ref o1), .val (.int (0 : Int32)), .val (.ref b3), .val (.int (3 : Int32)), .val (.int z3), .val (.int (3 : Int32))] [(.int (2 : Int32)), (.int z3)])) (fun t k => ?_) ?_
  · show Steps p.tables e below (T51.setTop (mkF m 27 #[.val (.ref o0), .val (.ref o1), .val (.int (0 : Int32)), .val (.ref b3), .val (.int (3 : Int32)), .val (.int z3), .val (.int (3 : Int32))] [])) _
    refine XS.iload X51.here hx rfl (hb hby d2_27) rfl ?_
    show Steps p.tables e below (T51.setTop (mkF m 29 #[.val (.ref o0), .val (.ref o1), .val (.int (0 : Int32)), .val (.ref b3), .val (.int (3 : Int32)), .val (.int z3), .val (.int (3 : Int32))] [(.int z3)])) _
    refine XS.iconst X51.here hx rfl (hb hby d2_29) ?_
    show Steps p.tables e below (T51.setTop (mkF m 30 #[.val (.ref o0), .val (.ref o1), .val (.int (0 : Int32)), .val (.ref b3), .val (.int (3 : Int32)), .val (.int z3), .val (.int (3 : Int32))] [(.int (2 : Int32)), (.int z3)])) _
    exact k
  refine own_step (T' := T51) (g' := (mkF m 47 #[.val (.ref o0), .val (.ref o1), .val (.int (0 : Int32)), .val (.ref b3), .val (.int (3 : Int32)), .val (.int z3), .val (.int (3 : Int32))] [])) (fun t k => ?_) ?_
  · show Steps p.tables e below (T51.setTop (mkF m 30 #[.val (.ref o0), .val (.ref o1), .val (.int (0 : Int32)), .val (.ref b3), .val (.int (3 : Int32)), .val (.int z3), .val (.int (3 : Int32))] [(.int (2 : Int32)), (.int z3)])) _
    by_cases hq : z3 < (2 : Int32)
    · skip
      refine XS.icmpYes X51.here hx rfl (pc0 := 30) (pc' := 47) rfl (hb hby d2_30) rfl (tlt hq).1 (by decide) (by decide) ?_
      show Steps p.tables e below (T51.setTop (mkF m 47 #[.val (.ref o0), .val (.ref o1), .val (.int (0 : Int32)), .val (.ref b3), .val (.int (3 : Int32)), .val (.int z3), .val (.int (3 : Int32))] [])) _
      exact k
    · skip
      refine XS.icmpNo X51.here hx rfl (hb hby d2_30) rfl (flt hq).1 ?_
      show Steps p.tables e below (T51.setTop (mkF m 33 #[.val (.ref o0), .val (.ref o1), .val (.int (0 : Int32)), .val (.ref b3), .val (.int (3 : Int32)), .val (.int z3), .val (.int (3 : Int32))] [])) _
      refine XS.aloadN X51.here hx rfl (hb hby d2_33) rfl rfl ?_
      show Steps p.tables e below (T51.setTop (mkF m 34 #[.val (.ref o0), .val (.ref o1), .val (.int (0 : Int32)), .val (.ref b3), .val (.int (3 : Int32)), .val (.int z3), .val (.int (3 : Int32))] [(.ref o1)])) _
      refine XS.iload X51.here hx rfl (hb hby d2_34) rfl ?_
      show Steps p.tables e below (T51.setTop (mkF m 36 #[.val (.ref o0), .val (.ref o1), .val (.int (0 : Int32)), .val (.ref b3), .val (.int (3 : Int32)), .val (.int z3), .val (.int (3 : Int32))] [(.int (3 : Int32)), (.ref o1)])) _
      refine X51.baloadBytes hx (j := (3 : Int32)) (v := (.int u3)) (by rw [e51]; exact Arcl62.1) (State.isArrayOf_alike hZ.alike Arcl62.2.1) Arcl62.2.2 (inb_of Scl62 ⟨by decide, by decide⟩) (Hcl62.at (inb_of Scl62 ⟨by decide, by decide⟩) rfl) (g := (mkF m 36 #[.val (.ref o0), .val (.ref o1), .val (.int (0 : Int32)), .val (.ref b3), .val (.int (3 : Int32)), .val (.int z3), .val (.int (3 : Int32))] [(.int (3 : Int32)), (.ref o1)])) rfl rfl (hb hby d2_36) _ ?_
      show Steps p.tables e below (T51.setTop (mkF m 37 #[.val (.ref o0), .val (.ref o1), .val (.int (0 : Int32)), .val (.ref b3), .val (.int (3 : Int32)), .val (.int z3), .val (.int (3 : Int32))] [(.int u3)])) _
      refine XS.iconst X51.here hx rfl (hb hby d2_37) ?_
      show Steps p.tables e below (T51.setTop (mkF m 38 #[.val (.ref o0), .val (.ref o1), .val (.int (0 : Int32)), .val (.ref b3), .val (.int (3 : Int32)), .val (.int z3), .val (.int (3 : Int32))] [(.int (3 : Int32)), (.int u3)])) _
      refine XS.icmpYes X51.here hx rfl (pc0 := 38) (pc' := 47) rfl (hb hby d2_38) rfl (feq (own_zB e_z2 e_z3 hq hno3)).2 (by decide) (by decide) ?_
      show Steps p.tables e below (T51.setTop (mkF m 47 #[.val (.ref o0), .val (.ref o1), .val (.int (0 : Int32)), .val (.ref b3), .val (.int (3 : Int32)), .val (.int z3), .val (.int (3 : Int32))] [])) _
      exact k
  show own_Run p e below s _ _ _ T51 (mkF m 47 #[.val (.ref o0), .val (.ref o1), .val (.int (0 : Int32)), .val (.ref b3), .val (.int (3 : Int32)), .val (.int z3), .val (.int (3 : Int32))] [])
  refine own_step (T' := T51) (g' := (mkF m 51 #[.val (.ref o0), .val (.ref o1), .val (.int (0 : Int32)), .val (.ref b3), .val (.int (3 : Int32)), .val (.int z3), .val (.int (3 : Int32))] [(.int u3)])) (fun t k => ?_) ?_
  · show Steps p.tables e below (T51.setTop (mkF m 47 #[.val (.ref o0), .val (.ref o1), .val (.int (0 : Int32)), .val (.ref b3), .val (.int (3 : Int32)), .val (.int z3), .val (.int (3 : Int32))] [])) _
    refine XS.aloadN X51.here hx rfl (hb hby d2_47) rfl rfl ?_
    show Steps p.tables e below (T51.setTop (mkF m 48 #[.val (.ref o0), .val (.ref o1), .val (.int (0 : Int32)), .val (.ref b3), .val (.int (3 : Int32)), .val (.int z3), .val (.int (3 : Int32))] [(.ref o1)])) _
    refine XS.iload X51.here hx rfl (hb hby d2_48) rfl ?_
    show Steps p.tables e below (T51.setTop (mkF m 50 #[.val (.ref o0), .val (.ref o1), .val (.int (0 : Int32)), .val (.ref b3), .val (.int (3 : Int32)), .val (.int z3), .val (.int (3 : Int32))] [(.int (3 : Int32)), (.ref o1)])) _
    refine X51.baloadBytes hx (j := (3 : Int32)) (v := (.int u3)) (by rw [e51]; exact Arcl62.1) (State.isArrayOf_alike hZ.alike Arcl62.2.1) Arcl62.2.2 (inb_of Scl62 ⟨by decide, by decide⟩) (Hcl62.at (inb_of Scl62 ⟨by decide, by decide⟩) rfl) (g := (mkF m 50 #[.val (.ref o0), .val (.ref o1), .val (.int (0 : Int32)), .val (.ref b3), .val (.int (3 : Int32)), .val (.int z3), .val (.int (3 : Int32))] [(.int (3 : Int32)), (.ref o1)])) rfl rfl (hb hby d2_50) _ ?_
    show Steps p.tables e below (T51.setTop (mkF m 51 #[.val (.ref o0), .val (.ref o1), .val (.int (0 : Int32)), .val (.ref b3), .val (.int (3 : Int32)), .val (.int z3), .val (.int (3 : Int32))] [(.int u3)])) _
    exact k
  refine own_step (T' := T51) (g' := (mkF m 62 #[.val (.ref o0), .val (.ref o1), .val (.int (0 : Int32)), .val (.ref b3), .val (.int (3 : Int32)), .val (.int z3), .val (.int (3 : Int32))] [(.int (own_pick (u3 = (0 : Int32)) (z3 + (1 : Int32)) (0 : Int32)))])) (fun t k => ?_) ?_
  · show Steps p.tables e below (T51.setTop (mkF m 51 #[.val (.ref o0), .val (.ref o1), .val (.int (0 : Int32)), .val (.ref b3), .val (.int (3 : Int32)), .val (.int z3), .val (.int (3 : Int32))] [(.int u3)])) _
    by_cases hq : u3 = (0 : Int32)
    · simp only [own_pick_pos hq, own_pickJ_pos hq] at k
      refine XS.ifNo X51.here hx rfl (hb hby d2_51) rfl ((if0 _ _).trans (teq hq).2) ?_
      show Steps p.tables e below (T51.setTop (mkF m 54 #[.val (.ref o0), .val (.ref o1), .val (.int (0 : Int32)), .val (.ref b3), .val (.int (3 : Int32)), .val (.int z3), .val (.int (3 : Int32))] [])) _
      refine XS.iload X51.here hx rfl (hb hby d2_54) rfl ?_
      show Steps p.tables e below (T51.setTop (mkF m 56 #[.val (.ref o0), .val (.ref o1), .val (.int (0 : Int32)), .val (.ref b3), .val (.int (3 : Int32)), .val (.int z3), .val (.int (3 : Int32))] [(.int z3)])) _
      refine XS.iconst X51.here hx rfl (hb hby d2_56) ?_
      show Steps p.tables e below (T51.setTop (mkF m 57 #[.val (.ref o0), .val (.ref o1), .val (.int (0 : Int32)), .val (.ref b3), .val (.int (3 : Int32)), .val (.int z3), .val (.int (3 : Int32))] [(.int (1 : Int32)), (.int z3)])) _
      refine XS.iadd X51.here hx rfl (hb hby d2_57) rfl ?_
      show Steps p.tables e below (T51.setTop (mkF m 58 #[.val (.ref o0), .val (.ref o1), .val (.int (0 : Int32)), .val (.ref b3), .val (.int (3 : Int32)), .val (.int z3), .val (.int (3 : Int32))] [(.int (z3 + (1 : Int32)))])) _
      refine XS.goto X51.here hx rfl (pc0 := 58) (pc' := 62) rfl (hb hby d2_58) (by decide) (by decide) ?_
      show Steps p.tables e below (T51.setTop (mkF m 62 #[.val (.ref o0), .val (.ref o1), .val (.int (0 : Int32)), .val (.ref b3), .val (.int (3 : Int32)), .val (.int z3), .val (.int (3 : Int32))] [(.int (z3 + (1 : Int32)))])) _
      exact k
    · simp only [own_pick_neg hq, own_pickJ_neg hq] at k
      refine XS.ifYes X51.here hx rfl (pc0 := 51) (pc' := 61) rfl (hb hby d2_51) rfl ((if0 _ _).trans (feq hq).2) (by decide) (by decide) ?_
      show Steps p.tables e below (T51.setTop (mkF m 61 #[.val (.ref o0), .val (.ref o1), .val (.int (0 : Int32)), .val (.ref b3), .val (.int (3 : Int32)), .val (.int z3), .val (.int (3 : Int32))] [])) _
      refine XS.iconst X51.here hx rfl (hb hby d2_61) ?_
      show Steps p.tables e below (T51.setTop (mkF m 62 #[.val (.ref o0), .val (.ref o1), .val (.int (0 : Int32)), .val (.ref b3), .val (.int (3 : Int32)), .val (.int z3), .val (.int (3 : Int32))] [(.int (0 : Int32))])) _
      exact k
  show own_Run p e below s _ _ _ T51 (mkF m 62 #[.val (.ref o0), .val (.ref o1), .val (.int (0 : Int32)), .val (.ref b3), .val (.int (3 : Int32)), .val (.int z3), .val (.int (3 : Int32))] [(.int (own_pick (u3 = (0 : Int32)) (z3 + (1 : Int32)) (0 : Int32)))])
  refine own_step (T' := T51) (g' := (mkF m 64 #[.val (.ref o0), .val (.ref o1), .val (.int (0 : Int32)), .val (.ref b3), .val (.int (3 : Int32)), .val (.int (own_pick (u3 = (0 : Int32)) (z3 + (1 : Int32)) (0 : Int32))), .val (.int (3 : Int32))] [])) (fun t k => ?_) ?_
  · show Steps p.tables e below (T51.setTop (mkF m 62 #[.val (.ref o0), .val (.ref o1), .val (.int (0 : Int32)), .val (.ref b3), .val (.int (3 : Int32)), .val (.int z3), .val (.int (3 : Int32))] [(.int (own_pick (u3 = (0 : Int32)) (z3 + (1 : Int32)) (0 : Int32)))])) _
    refine XS.istore X51.here hx rfl (hb hby d2_62) rfl (l' := #[.val (.ref o0), .val (.ref o1), .val (.int (0 : Int32)), .val (.ref b3), .val (.int (3 : Int32)), .val (.int (own_pick (u3 = (0 : Int32)) (z3 + (1 : Int32)) (0 : Int32))), .val (.int (3 : Int32))]) rfl ?_
    show Steps p.tables e below (T51.setTop (mkF m 64 #[.val (.ref o0), .val (.ref o1), .val (.int (0 : Int32)), .val (.ref b3), .val (.int (3 : Int32)), .val (.int (own_pick (u3 = (0 : Int32)) (z3 + (1 : Int32)) (0 : Int32))), .val (.int (3 : Int32))] [])) _
    exact k
  generalize e_z4 : (own_pick (u3 = (0 : Int32)) (z3 + (1 : Int32)) (0 : Int32)) = z4
  show own_Run p e below s _ _ _ T51 (mkF m 64 #[.val (.ref o0), .val (.ref o1), .val (.int (0 : Int32)), .val (.ref b3), .val (.int (3 : Int32)), .val (.int z4), .val (.int (3 : Int32))] [])
  refine own_step (T' := T51) (g' := (mkF m 74 #[.val (.ref o0), .val (.ref o1), .val (.int (0 : Int32)), .val (.ref b3), .val (.int (4 : Int32)), .val (.int z4), .val (.int (3 : Int32))] [(.int u3), (.int (3 : Int32)), (.ref b3)])) (fun t k => ?_) ?_
  · show Steps p.tables e below (T51.setTop (mkF m 64 #[.val (.ref o0), .val (.ref o1), .val (.int (0 : Int32)), .val (.ref b3), .val (.int (3 : Int32)), .val (.int z4), .val (.int (3 : Int32))] [])) _
    refine XS.aloadN X51.here hx rfl (hb hby d2_64) rfl rfl ?_
    show Steps p.tables e below (T51.setTop (mkF m 65 #[.val (.ref o0), .val (.ref o1), .val (.int (0 : Int32)), .val (.ref b3), .val (.int (3 : Int32)), .val (.int z4), .val (.int (3 : Int32))] [(.ref b3)])) _
    refine XS.iload X51.here hx rfl (hb hby d2_65) rfl ?_
    show Steps p.tables e below (T51.setTop (mkF m 67 #[.val (.ref o0), .val (.ref o1), .val (.int (0 : Int32)), .val (.ref b3), .val (.int (3 : Int32)), .val (.int z4), .val (.int (3 : Int32))] [(.int (3 : Int32)), (.ref b3)])) _
    refine XS.iinc X51.here hx rfl (hb hby d2_67) rfl (l' := #[.val (.ref o0), .val (.ref o1), .val (.int (0 : Int32)), .val (.ref b3), .val (.int (4 : Int32)), .val (.int z4), .val (.int (3 : Int32))]) rfl ?_
    show Steps p.tables e below (T51.setTop (mkF m 70 #[.val (.ref o0), .val (.ref o1), .val (.int (0 : Int32)), .val (.ref b3), .val (.int (4 : Int32)), .val (.int z4), .val (.int (3 : Int32))] [(.int (3 : Int32)), (.ref b3)])) _
    refine XS.aloadN X51.here hx rfl (hb hby d2_70) rfl rfl ?_
    show Steps p.tables e below (T51.setTop (mkF m 71 #[.val (.ref o0), .val (.ref o1), .val (.int (0 : Int32)), .val (.ref b3), .val (.int (4 : Int32)), .val (.int z4), .val (.int (3 : Int32))] [(.ref o1), (.int (3 : Int32)), (.ref b3)])) _
    refine XS.iload X51.here hx rfl (hb hby d2_71) rfl ?_
    show Steps p.tables e below (T51.setTop (mkF m 73 #[.val (.ref o0), .val (.ref o1), .val (.int (0 : Int32)), .val (.ref b3), .val (.int (4 : Int32)), .val (.int z4), .val (.int (3 : Int32))] [(.int (3 : Int32)), (.ref o1), (.int (3 : Int32)), (.ref b3)])) _
    refine X51.baloadBytes hx (j := (3 : Int32)) (v := (.int u3)) (by rw [e51]; exact Arcl62.1) (State.isArrayOf_alike hZ.alike Arcl62.2.1) Arcl62.2.2 (inb_of Scl62 ⟨by decide, by decide⟩) (Hcl62.at (inb_of Scl62 ⟨by decide, by decide⟩) rfl) (g := (mkF m 73 #[.val (.ref o0), .val (.ref o1), .val (.int (0 : Int32)), .val (.ref b3), .val (.int (4 : Int32)), .val (.int z4), .val (.int (3 : Int32))] [(.int (3 : Int32)), (.ref o1), (.int (3 : Int32)), (.ref b3)])) rfl rfl (hb hby d2_73) _ ?_
    show Steps p.tables e below (T51.setTop (mkF m 74 #[.val (.ref o0), .val (.ref o1), .val (.int (0 : Int32)), .val (.ref b3), .val (.int (4 : Int32)), .val (.int z4), .val (.int (3 : Int32))] [(.int u3), (.int (3 : Int32)), (.ref b3)])) _
    exact k
  obtain ⟨cl66, Arcl66, qcl66, Scl66, Mcl66, Hcl66, Gcl66⟩ := V52l
  have hincl66 : ¬ ((3 : Int32) < 0 ∨ cl66.slots.size ≤ ((3 : Int32)).toNatClampNeg) := inb_of Scl66 ⟨by decide, by decide⟩
  obtain ⟨T67, h67, X67, e67, W67, st67⟩ := stB X51 hx hZ e51 Arcl66 (j := (3 : Int32)) hincl66 (g := (mkF m 74 #[.val (.ref o0), .val (.ref o1), .val (.int (0 : Int32)), .val (.ref b3), .val (.int (4 : Int32)), .val (.int z4), .val (.int (3 : Int32))] [(.int u3), (.int (3 : Int32)), (.ref b3)])) rfl rfl (hb hby d2_74)
  have V68 := Arv.set Arcl66 qcl66 Scl66 Mcl66 Hcl66 Gcl66 (fits_nar_byte _) W67 3 rfl (Nat.le_of_ble_eq_true rfl)
  have V68l : Arv Z h67 b3 k3 .byte (8 : Int32) [(.int (nar .byte u0)), (.int (nar .byte u1)), (.int (nar .byte u2)), (.int (nar .byte u3)), (.int (0 : Int32)), (.int (0 : Int32)), (.int (0 : Int32)), (.int (0 : Int32))] (.int (0 : Int32)) := V68
  have F69 := F53.other W67 (Or.inl ne4)
  have F70 := F54.other W67 (Or.inl ne4)
  have F71 := F55.other W67 (Or.inl ne4)
  have A72 := A56.wr W67
  have A73 := A57.wr W67
  have V74 := V58.other W67 ne5
  have Z75 := Nat.le_trans Z59 (Keep.of_wr W67).1
  have K67 := K51.wr W67 (Or.inr sz_b3)
  have N67 := Fr.snoc X67 N51 g_b3
  refine own_step st67 ?_
  show own_Run p e below s _ _ _ T67 (mkF m 75 #[.val (.ref o0), .val (.ref o1), .val (.int (0 : Int32)), .val (.ref b3), .val (.int (4 : Int32)), .val (.int z4), .val (.int (3 : Int32))] [])
  refine own_step (T' := T67) (g' := (mkF m 23 #[.val (.ref o0), .val (.ref o1), .val (.int (0 : Int32)), .val (.ref b3), .val (.int (4 : Int32)), .val (.int z4), .val (.int (4 : Int32))] [(.ref o1), (.int (4 : Int32))])) (fun t k => ?_) ?_
  · show Steps p.tables e below (T67.setTop (mkF m 75 #[.val (.ref o0), .val (.ref o1), .val (.int (0 : Int32)), .val (.ref b3), .val (.int (4 : Int32)), .val (.int z4), .val (.int (3 : Int32))] [])) _
    refine XS.iinc X67.here hx rfl (hb hby d2_75) rfl (l' := #[.val (.ref o0), .val (.ref o1), .val (.int (0 : Int32)), .val (.ref b3), .val (.int (4 : Int32)), .val (.int z4), .val (.int (4 : Int32))]) rfl ?_
    show Steps p.tables e below (T67.setTop (mkF m 78 #[.val (.ref o0), .val (.ref o1), .val (.int (0 : Int32)), .val (.ref b3), .val (.int (4 : Int32)), .val (.int z4), .val (.int (4 : Int32))] [])) _
    refine XS.goto X67.here hx rfl (pc0 := 78) (pc' := 20) rfl (hb hby d2_78) (by decide) (by decide) ?_
    show Steps p.tables e below (T67.setTop (mkF m 20 #[.val (.ref o0), .val (.ref o1), .val (.int (0 : Int32)), .val (.ref b3), .val (.int (4 : Int32)), .val (.int z4), .val (.int (4 : Int32))] [])) _
    refine XS.iload X67.here hx rfl (hb hby d2_20) rfl ?_
    show Steps p.tables e below (T67.setTop (mkF m 22 #[.val (.ref o0), .val (.ref o1), .val (.int (0 : Int32)), .val (.ref b3), .val (.int (4 : Int32)), .val (.int z4), .val (.int (4 : Int32))] [(.int (4 : Int32))])) _
    refine XS.aloadN X67.here hx rfl (hb hby d2_22) rfl rfl ?_
    show Steps p.tables e below (T67.setTop (mkF m 23 #[.val (.ref o0), .val (.ref o1), .val (.int (0 : Int32)), .val (.ref b3), .val (.int (4 : Int32)), .val (.int z4), .val (.int (4 : Int32))] [(.ref o1), (.int (4 : Int32))])) _
    exact k
  obtain ⟨cl76, Arcl76, -, Scl76, Mcl76, -, -⟩ := id V74
  refine own_step (T' := T67) (g' := (mkF m 27 #[.val (.ref o0), .val (.ref o1), .val (.int (0 : Int32)), .val (.ref b3), .val (.int (4 : Int32)), .val (.int z4), .val (.int (4 : Int32))] [])) (fun t k => ?_) ?_
  · show Steps p.tables e below (T67.setTop (mkF m 23 #[.val (.ref o0), .val (.ref o1), .val (.int (0 : Int32)), .val (.ref b3), .val (.int (4 : Int32)), .val (.int z4), .val (.int (4 : Int32))] [(.ref o1), (.int (4 : Int32))])) _
    refine X67.arraylength hx (by rw [e67]; exact Arcl76.1) (State.isArrayOf_alike hZ.alike Arcl76.2.1) (g := (mkF m 23 #[.val (.ref o0), .val (.ref o1), .val (.int (0 : Int32)), .val (.ref b3), .val (.int (4 : Int32)), .val (.int z4), .val (.int (4 : Int32))] [(.ref o1), (.int (4 : Int32))])) rfl rfl (hb hby d2_23) _ ?_
    rw [len_of Scl76 Mcl76]
    show Steps p.tables e below (T67.setTop (mkF m 24 #[.val (.ref o0), .val (.ref o1), .val (.int (0 : Int32)), .val (.ref b3), .val (.int (4 : Int32)), .val (.int z4), .val (.int (4 : Int32))] [(.int (8 : Int32)), (.int (4 : Int32))])) _
    refine XS.icmpNo X67.here hx rfl (hb hby d2_24) rfl (tlt (by decide)).2.1 ?_
    show Steps p.tables e below (T67.setTop (mkF m 27 #[.val (.ref o0), .val (.ref o1), .val (.int (0 : Int32)), .val (.ref b3), .val (.int (4 : Int32)), .val (.int z4), .val (.int (4 : Int32))] [])) _
    exact k
  obtain ⟨cl78, Arcl78, qcl78, Scl78, Mcl78, Hcl78, Gcl78⟩ := id V74
  refine own_step (T' := T67) (g' := (mkF m 30 #[.val (.ref o0), .val (.ref o1), .val (.int (0 : Int32)), .val (.ref b3), .val (.int (4 : Int32)), .val (.int z4), .val (.int (4 : Int32))] [(.int (2 : Int32)), (.int z4)])) (fun t k => ?_) ?_
  · show Steps p.tables e below (T67.setTop (mkF m 27 #[.val (.ref o0), .val (.ref o1), .val (.int (0 : Int32)), .val (.ref b3), .val (.int (4 : Int32)), .val (.int z4), .val (.int (4 : Int32))] [])) _
    refine XS.iload X67.here hx rfl (hb hby d2_27) rfl ?_
    show Steps p.tables e below (T67.setTop (mkF m 29 #[.val (.ref o0), .val (.ref o1), .val (.int (0 : Int32)), .val (.ref b3), .val (.int (4 : Int32)), .val (.int z4), .val (.int (4 : Int32))] [(.int z4)])) _
    refine XS.iconst X67.here hx rfl (hb hby d2_29) ?_
    show Steps p.tables e below (T67.setTop (mkF m 30 #[.val (.ref o0), .val (.ref o1), .val (.int (0 : Int32)), .val (.ref b3), .val (.int (4 : Int32)), .val (.int z4), .val (.int (4 : Int32))] [(.int (2 : Int32)), (.int z4)])) _
    exact k
  refine own_step (T' := T67) (g' := (mkF m 47 #[.val (.ref o0), .val (.ref o1), .val (.int (0 : Int32)), .val (.ref b3), .val (.int (4 : Int32)), .val (.int z4), .val (.int (4 : Int32))] [])) (fun t k => ?_) ?_
  · show Steps p.tables e below (T67.setTop (mkF m 30 #[.val (.ref o0), .val (.ref o1), .val (.int (0 : Int32)), .val (.ref b3), .val (.int (4 : Int32)), .val (.int z4), .val (.int (4 : Int32))] [(.int (2 : Int32)), (.int z4)])) _
    by_cases hq : z4 < (2 : Int32)
    · skip
      refine XS.icmpYes X67.here hx rfl (pc0 := 30) (pc' := 47) rfl (hb hby d2_30) rfl (tlt hq).1 (by decide) (by decide) ?_
      show Steps p.tables e below (T67.setTop (mkF m 47 #[.val (.ref o0), .val (.ref o1), .val (.int (0 : Int32)), .val (.ref b3), .val (.int (4 : Int32)), .val (.int z4), .val (.int (4 : Int32))] [])) _
      exact k
    · skip
      refine XS.icmpNo X67.here hx rfl (hb hby d2_30) rfl (flt hq).1 ?_
      show Steps p.tables e below (T67.setTop (mkF m 33 #[.val (.ref o0), .val (.ref o1), .val (.int (0 : Int32)), .val (.ref b3), .val (.int (4 : Int32)), .val (.int z4), .val (.int (4 : Int32))] [])) _
      refine XS.aloadN X67.here hx rfl (hb hby d2_33) rfl rfl ?_
      show Steps p.tables e below (T67.setTop (mkF m 34 #[.val (.ref o0), .val (.ref o1), .val (.int (0 : Int32)), .val (.ref b3), .val (.int (4 : Int32)), .val (.int z4), .val (.int (4 : Int32))] [(.ref o1)])) _
      refine XS.iload X67.here hx rfl (hb hby d2_34) rfl ?_
      show Steps p.tables e below (T67.setTop (mkF m 36 #[.val (.ref o0), .val (.ref o1), .val (.int (0 : Int32)), .val (.ref b3), .val (.int (4 : Int32)), .val (.int z4), .val (.int (4 : Int32))] [(.int (4 : Int32)), (.ref o1)])) _
      refine X67.baloadBytes hx (j := (4 : Int32)) (v := (.int u4)) (by rw [e67]; exact Arcl78.1) (State.isArrayOf_alike hZ.alike Arcl78.2.1) Arcl78.2.2 (inb_of Scl78 ⟨by decide, by decide⟩) (Hcl78.at (inb_of Scl78 ⟨by decide, by decide⟩) rfl) (g := (mkF m 36 #[.val (.ref o0), .val (.ref o1), .val (.int (0 : Int32)), .val (.ref b3), .val (.int (4 : Int32)), .val (.int z4), .val (.int (4 : Int32))] [(.int (4 : Int32)), (.ref o1)])) rfl rfl (hb hby d2_36) _ ?_
      show Steps p.tables e below (T67.setTop (mkF m 37 #[.val (.ref o0), .val (.ref o1), .val (.int (0 : Int32)), .val (.ref b3), .val (.int (4 : Int32)), .val (.int z4), .val (.int (4 : Int32))] [(.int u4)])) _
      refine XS.iconst X67.here hx rfl (hb hby d2_37) ?_
      show Steps p.tables e below (T67.setTop (mkF m 38 #[.val (.ref o0), .val (.ref o1), .val (.int (0 : Int32)), .val (.ref b3), .val (.int (4 : Int32)), .val (.int z4), .val (.int (4 : Int32))] [(.int (3 : Int32)), (.int u4)])) _
      refine XS.icmpYes X67.here hx rfl (pc0 := 38) (pc' := 47) rfl (hb hby d2_38) rfl (feq (own_zB e_z3 e_z4 hq hno4)).2 (by decide) (by decide) ?_
      show Steps p.tables e below (T67.setTop (mkF m 47 #[.val (.ref o0), .val (.ref o1), .val (.int (0 : Int32)), .val (.ref b3), .val (.int (4 : Int32)), .val (.int z4), .val (.int (4 : Int32))] [])) _
      exact k
  show own_Run p e below s _ _ _ T67 (mkF m 47 #[.val (.ref o0), .val (.ref o1), .val (.int (0 : Int32)), .val (.ref b3), .val (.int (4 : Int32)), .val (.int z4), .val (.int (4 : Int32))] [])
  refine own_step (T' := T67) (g' := (mkF m 51 #[.val (.ref o0), .val (.ref o1), .val (.int (0 : Int32)), .val (.ref b3), .val (.int (4 : Int32)), .val (.int z4), .val (.int (4 : Int32))] [(.int u4)])) (fun t k => ?_) ?_
  · show Steps p.tables e below (T67.setTop (mkF m 47 #[.val (.ref o0), .val (.ref o1), .val (.int (0 : Int32)), .val (.ref b3), .val (.int (4 : Int32)), .val (.int z4), .val (.int (4 : Int32))] [])) _
    refine XS.aloadN X67.here hx rfl (hb hby d2_47) rfl rfl ?_
    show Steps p.tables e below (T67.setTop (mkF m 48 #[.val (.ref o0), .val (.ref o1), .val (.int (0 : Int32)), .val (.ref b3), .val (.int (4 : Int32)), .val (.int z4), .val (.int (4 : Int32))] [(.ref o1)])) _
    refine XS.iload X67.here hx rfl (hb hby d2_48) rfl ?_
    show Steps p.tables e below (T67.setTop (mkF m 50 #[.val (.ref o0), .val (.ref o1), .val (.int (0 : Int32)), .val (.ref b3), .val (.int (4 : Int32)), .val (.int z4), .val (.int (4 : Int32))] [(.int (4 : Int32)), (.ref o1)])) _
    refine X67.baloadBytes hx (j := (4 : Int32)) (v := (.int u4)) (by rw [e67]; exact Arcl78.1) (State.isArrayOf_alike hZ.alike Arcl78.2.1) Arcl78.2.2 (inb_of Scl78 ⟨by decide, by decide⟩) (Hcl78.at (inb_of Scl78 ⟨by decide, by decide⟩) rfl) (g := (mkF m 50 #[.val (.ref o0), .val (.ref o1), .val (.int (0 : Int32)), .val (.ref b3), .val (.int (4 : Int32)), .val (.int z4), .val (.int (4 : Int32))] [(.int (4 : Int32)), (.ref o1)])) rfl rfl (hb hby d2_50) _ ?_
    show Steps p.tables e below (T67.setTop (mkF m 51 #[.val (.ref o0), .val (.ref o1), .val (.int (0 : Int32)), .val (.ref b3), .val (.int (4 : Int32)), .val (.int z4), .val (.int (4 : Int32))] [(.int u4)])) _
    exact k
  refine own_step (T' := T67) (g' := (mkF m 62 #[.val (.ref o0), .val (.ref o1), .val (.int (0 : Int32)), .val (.ref b3), .val (.int (4 : Int32)), .val (.int z4), .val (.int (4 : Int32))] [(.int (own_pick (u4 = (0 : Int32)) (z4 + (1 : Int32)) (0 : Int32)))])) (fun t k => ?_) ?_
  · show Steps p.tables e below (T67.setTop (mkF m 51 #[.val (.ref o0), .val (.ref o1), .val (.int (0 : Int32)), .val (.ref b3), .val (.int (4 : Int32)), .val (.int z4), .val (.int (4 : Int32))] [(.int u4)])) _
    by_cases hq : u4 = (0 : Int32)
    · simp only [own_pick_pos hq, own_pickJ_pos hq] at k
      refine XS.ifNo X67.here hx rfl (hb hby d2_51) rfl ((if0 _ _).trans (teq hq).2) ?_
      show Steps p.tables e below (T67.setTop (mkF m 54 #[.val (.ref o0), .val (.ref o1), .val (.int (0 : Int32)), .val (.ref b3), .val (.int (4 : Int32)), .val (.int z4), .val (.int (4 : Int32))] [])) _
      refine XS.iload X67.here hx rfl (hb hby d2_54) rfl ?_
      show Steps p.tables e below (T67.setTop (mkF m 56 #[.val (.ref o0), .val (.ref o1), .val (.int (0 : Int32)), .val (.ref b3), .val (.int (4 : Int32)), .val (.int z4), .val (.int (4 : Int32))] [(.int z4)])) _
      refine XS.iconst X67.here hx rfl (hb hby d2_56) ?_
      show Steps p.tables e below (T67.setTop (mkF m 57 #[.val (.ref o0), .val (.ref o1), .val (.int (0 : Int32)), .val (.ref b3), .val (.int (4 : Int32)), .val (.int z4), .val (.int (4 : Int32))] [(.int (1 : Int32)), (.int z4)])) _
      refine XS.iadd X67.here hx rfl (hb hby d2_57) rfl ?_
      show Steps p.tables e below (T67.setTop (mkF m 58 #[.val (.ref o0), .val (.ref o1), .val (.int (0 : Int32)), .val (.ref b3), .val (.int (4 : Int32)), .val (.int z4), .val (.int (4 : Int32))] [(.int (z4 + (1 : Int32)))])) _
      refine XS.goto X67.here hx rfl (pc0 := 58) (pc' := 62) rfl (hb hby d2_58) (by decide) (by decide) ?_
      show Steps p.tables e below (T67.setTop (mkF m 62 #[.val (.ref o0), .val (.ref o1), .val (.int (0 : Int32)), .val (.ref b3), .val (.int (4 : Int32)), .val (.int z4), .val (.int (4 : Int32))] [(.int (z4 + (1 : Int32)))])) _
      exact k
    · simp only [own_pick_neg hq, own_pickJ_neg hq] at k
      refine XS.ifYes X67.here hx rfl (pc0 := 51) (pc' := 61) rfl (hb hby d2_51) rfl ((if0 _ _).trans (feq hq).2) (by decide) (by decide) ?_
      show Steps p.tables e below (T67.setTop (mkF m 61 #[.val (.ref o0), .val (.ref o1), .val (.int (0 : Int32)), .val (.ref b3), .val (.int (4 : Int32)), .val (.int z4), .val (.int (4 : Int32))] [])) _
      refine XS.iconst X67.here hx rfl (hb hby d2_61) ?_
      show Steps p.tables e below (T67.setTop (mkF m 62 #[.val (.ref o0), .val (.ref o1), .val (.int (0 : Int32)), .val (.ref b3), .val (.int (4 : Int32)), .val (.int z4), .val (.int (4 : Int32))] [(.int (0 : Int32))])) _
      exact k
  show own_Run p e below s _ _ _ T67 (mkF m 62 #[.val (.ref o0), .val (.ref o1), .val (.int (0 : Int32)), .val (.ref b3), .val (.int (4 : Int32)), .val (.int z4), .val (.int (4 : Int32))] [(.int (own_pick (u4 = (0 : Int32)) (z4 + (1 : Int32)) (0 : Int32)))])
  refine own_step (T' := T67) (g' := (mkF m 64 #[.val (.ref o0), .val (.ref o1), .val (.int (0 : Int32)), .val (.ref b3), .val (.int (4 : Int32)), .val (.int (own_pick (u4 = (0 : Int32)) (z4 + (1 : Int32)) (0 : Int32))), .val (.int (4 : Int32))] [])) (fun t k => ?_) ?_
  · show Steps p.tables e below (T67.setTop (mkF m 62 #[.val (.ref o0), .val (.ref o1), .val (.int (0 : Int32)), .val (.ref b3), .val (.int (4 : Int32)), .val (.int z4), .val (.int (4 : Int32))] [(.int (own_pick (u4 = (0 : Int32)) (z4 + (1 : Int32)) (0 : Int32)))])) _
    refine XS.istore X67.here hx rfl (hb hby d2_62) rfl (l' := #[.val (.ref o0), .val (.ref o1), .val (.int (0 : Int32)), .val (.ref b3), .val (.int (4 : Int32)), .val (.int (own_pick (u4 = (0 : Int32)) (z4 + (1 : Int32)) (0 : Int32))), .val (.int (4 : Int32))]) rfl ?_
    show Steps p.tables e below (T67.setTop (mkF m 64 #[.val (.ref o0), .val (.ref o1), .val (.int (0 : Int32)), .val (.ref b3), .val (.int (4 : Int32)), .val (.int (own_pick (u4 = (0 : Int32)) (z4 + (1 : Int32)) (0 : Int32))), .val (.int (4 : Int32))] [])) _
    exact k
  generalize e_z5 : (own_pick (u4 = (0 : Int32)) (z4 + (1 : Int32)) (0 : Int32)) = z5
  show own_Run p e below s _ _ _ T67 (mkF m 64 #[.val (.ref o0), .val (.ref o1), .val (.int (0 : Int32)), .val (.ref b3), .val (.int (4 : Int32)), .val (.int z5), .val (.int (4 : Int32))] [])
  refine own_step (T' := T67) (g' := (mkF m 74 #[.val (.ref o0), .val (.ref o1), .val (.int (0 : Int32)), .val (.ref b3), .val (.int (5 : Int32)), .val (.int z5), .val (.int (4 : Int32))] [(.int u4), (.int (4 : Int32)), (.ref b3)])) (fun t k => ?_) ?_
  · show Steps p.tables e below (T67.setTop (mkF m 64 #[.val (.ref o0), .val (.ref o1), .val (.int (0 : Int32)), .val (.ref b3), .val (.int (4 : Int32)), .val (.int z5), .val (.int (4 : Int32))] [])) _
    refine XS.aloadN X67.here hx rfl (hb hby d2_64) rfl rfl ?_
    show Steps p.tables e below (T67.setTop (mkF m 65 #[.val (.ref o0), .val (.ref o1), .val (.int (0 : Int32)), .val (.ref b3), .val (.int (4 : Int32)), .val (.int z5), .val (.int (4 : Int32))] [(.ref b3)])) _
    refine XS.iload X67.here hx rfl (hb hby d2_65) rfl ?_
    show Steps p.tables e below (T67.setTop (mkF m 67 #[.val (.ref o0), .val (.ref o1), .val (.int (0 : Int32)), .val (.ref b3), .val (.int (4 : Int32)), .val (.int z5), .val (.int (4 : Int32))] [(.int (4 : Int32)), (.ref b3)])) _
    refine XS.iinc X67.here hx rfl (hb hby d2_67) rfl (l' := #[.val (.ref o0), .val (.ref o1), .val (.int (0 : Int32)), .val (.ref b3), .val (.int (5 : Int32)), .val (.int z5), .val (.int (4 : Int32))]) rfl ?_
    show Steps p.tables e below (T67.setTop (mkF m 70 #[.val (.ref o0), .val (.ref o1), .val (.int (0 : Int32)), .val (.ref b3), .val (.int (5 : Int32)), .val (.int z5), .val (.int (4 : Int32))] [(.int (4 : Int32)), (.ref b3)])) _
    refine XS.aloadN X67.here hx rfl (hb hby d2_70) rfl rfl ?_
    show Steps p.tables e below (T67.setTop (mkF m 71 #[.val (.ref o0), .val (.ref o1), .val (.int (0 : Int32)), .val (.ref b3), .val (.int (5 : Int32)), .val (.int z5), .val (.int (4 : Int32))] [(.ref o1), (.int (4 : Int32)), (.ref b3)])) _
    refine XS.iload X67.here hx rfl (hb hby d2_71) rfl ?_
    show Steps p.tables e below (T67.setTop (mkF m 73 #[.val (.ref o0), .val (.ref o1), .val (.int (0 : Int32)), .val (.ref b3), .val (.int (5 : Int32)), .val (.int z5), .val (.int (4 : Int32))] [(.int (4 : Int32)), (.ref o1), (.int (4 : Int32)), (.ref b3)])) _
    refine X67.baloadBytes hx (j := (4 : Int32)) (v := (.int u4)) (by rw [e67]; exact Arcl78.1) (State.isArrayOf_alike hZ.alike Arcl78.2.1) Arcl78.2.2 (inb_of Scl78 ⟨by decide, by decide⟩) (Hcl78.at (inb_of Scl78 ⟨by decide, by decide⟩) rfl) (g := (mkF m 73 #[.val (.ref o0), .val (.ref o1), .val (.int (0 : Int32)), .val (.ref b3), .val (.int (5 : Int32)), .val (.int z5), .val (.int (4 : Int32))] [(.int (4 : Int32)), (.ref o1), (.int (4 : Int32)), (.ref b3)])) rfl rfl (hb hby d2_73) _ ?_
    show Steps p.tables e below (T67.setTop (mkF m 74 #[.val (.ref o0), .val (.ref o1), .val (.int (0 : Int32)), .val (.ref b3), .val (.int (5 : Int32)), .val (.int z5), .val (.int (4 : Int32))] [(.int u4), (.int (4 : Int32)), (.ref b3)])) _
    exact k
  obtain ⟨cl82, Arcl82, qcl82, Scl82, Mcl82, Hcl82, Gcl82⟩ := V68l
  have hincl82 : ¬ ((4 : Int32) < 0 ∨ cl82.slots.size ≤ ((4 : Int32)).toNatClampNeg) := inb_of Scl82 ⟨by decide, by decide⟩
  obtain ⟨T83, h83, X83, e83, W83, st83⟩ := stB X67 hx hZ e67 Arcl82 (j := (4 : Int32)) hincl82 (g := (mkF m 74 #[.val (.ref o0), .val (.ref o1), .val (.int (0 : Int32)), .val (.ref b3), .val (.int (5 : Int32)), .val (.int z5), .val (.int (4 : Int32))] [(.int u4), (.int (4 : Int32)), (.ref b3)])) rfl rfl (hb hby d2_74)
  have V84 := Arv.set Arcl82 qcl82 Scl82 Mcl82 Hcl82 Gcl82 (fits_nar_byte _) W83 4 rfl (Nat.le_of_ble_eq_true rfl)
  have V84l : Arv Z h83 b3 k3 .byte (8 : Int32) [(.int (nar .byte u0)), (.int (nar .byte u1)), (.int (nar .byte u2)), (.int (nar .byte u3)), (.int (nar .byte u4)), (.int (0 : Int32)), (.int (0 : Int32)), (.int (0 : Int32))] (.int (0 : Int32)) := V84
  have F85 := F69.other W83 (Or.inl ne4)
  have F86 := F70.other W83 (Or.inl ne4)
  have F87 := F71.other W83 (Or.inl ne4)
  have A88 := A72.wr W83
  have A89 := A73.wr W83
  have V90 := V74.other W83 ne5
  have Z91 := Nat.le_trans Z75 (Keep.of_wr W83).1
  have K83 := K67.wr W83 (Or.inr sz_b3)
  have N83 := Fr.snoc X83 N67 g_b3
  refine own_step st83 ?_
  show own_Run p e below s _ _ _ T83 (mkF m 75 #[.val (.ref o0), .val (.ref o1), .val (.int (0 : Int32)), .val (.ref b3), .val (.int (5 : Int32)), .val (.int z5), .val (.int (4 : Int32))] [])
  refine own_step (T' := T83) (g' := (mkF m 23 #[.val (.ref o0), .val (.ref o1), .val (.int (0 : Int32)), .val (.ref b3), .val (.int (5 : Int32)), .val (.int z5), .val (.int (5 : Int32))] [(.ref o1), (.int (5 : Int32))])) (fun t k => ?_) ?_
  · show Steps p.tables e below (T83.setTop (mkF m 75 #[.val (.ref o0), .val (.ref o1), .val (.int (0 : Int32)), .val (.ref b3), .val (.int (5 : Int32)), .val (.int z5), .val (.int (4 : Int32))] [])) _
    refine XS.iinc X83.here hx rfl (hb hby d2_75) rfl (l' := #[.val (.ref o0), .val (.ref o1), .val (.int (0 : Int32)), .val (.ref b3), .val (.int (5 : Int32)), .val (.int z5), .val (.int (5 : Int32))]) rfl ?_
    show Steps p.tables e below (T83.setTop (mkF m 78 #[.val (.ref o0), .val (.ref o1), .val (.int (0 : Int32)), .val (.ref b3), .val (.int (5 : Int32)), .val (.int z5), .val (.int (5 : Int32))] [])) _
    refine XS.goto X83.here hx rfl (pc0 := 78) (pc' := 20) rfl (hb hby d2_78) (by decide) (by decide) ?_
    show Steps p.tables e below (T83.setTop (mkF m 20 #[.val (.ref o0), .val (.ref o1), .val (.int (0 : Int32)), .val (.ref b3), .val (.int (5 : Int32)), .val (.int z5), .val (.int (5 : Int32))] [])) _
    refine XS.iload X83.here hx rfl (hb hby d2_20) rfl ?_
    show Steps p.tables e below (T83.setTop (mkF m 22 #[.val (.ref o0), .val (.ref o1), .val (.int (0 : Int32)), .val (.ref b3), .val (.int (5 : Int32)), .val (.int z5), .val (.int (5 : Int32))] [(.int (5 : Int32))])) _
    refine XS.aloadN X83.here hx rfl (hb hby d2_22) rfl rfl ?_
    show Steps p.tables e below (T83.setTop (mkF m 23 #[.val (.ref o0), .val (.ref o1), .val (.int (0 : Int32)), .val (.ref b3), .val (.int (5 : Int32)), .val (.int z5), .val (.int (5 : Int32))] [(.ref o1), (.int (5 : Int32))])) _
    exact k
  obtain ⟨cl92, Arcl92, -, Scl92, Mcl92, -, -⟩ := id V90
  refine own_step (T' := T83) (g' := (mkF m 27 #[.val (.ref o0), .val (.ref o1), .val (.int (0 : Int32)), .val (.ref b3), .val (.int (5 : Int32)), .val (.int z5), .val (.int (5 : Int32))] [])) (fun t k => ?_) ?_
  · show Steps p.tables e below (T83.setTop (mkF m 23 #[.val (.ref o0), .val (.ref o1), .val (.int (0 : Int32)), .val (.ref b3), .val (.int (5 : Int32)), .val (.int z5), .val (.int (5 : Int32))] [(.ref o1), (.int (5 : Int32))])) _
    refine X83.arraylength hx (by rw [e83]; exact Arcl92.1) (State.isArrayOf_alike hZ.alike Arcl92.2.1) (g := (mkF m 23 #[.val (.ref o0), .val (.ref o1), .val (.int (0 : Int32)), .val (.ref b3), .val (.int (5 : Int32)), .val (.int z5), .val (.int (5 : Int32))] [(.ref o1), (.int (5 : Int32))])) rfl rfl (hb hby d2_23) _ ?_
    rw [len_of Scl92 Mcl92]
    show Steps p.tables e below (T83.setTop (mkF m 24 #[.val (.ref o0), .val (.ref o1), .val (.int (0 : Int32)), .val (.ref b3), .val (.int (5 : Int32)), .val (.int z5), .val (.int (5 : Int32))] [(.int (8 : Int32)), (.int (5 : Int32))])) _
    refine XS.icmpNo X83.here hx rfl (hb hby d2_24) rfl (tlt (by decide)).2.1 ?_
    show Steps p.tables e below (T83.setTop (mkF m 27 #[.val (.ref o0), .val (.ref o1), .val (.int (0 : Int32)), .val (.ref b3), .val (.int (5 : Int32)), .val (.int z5), .val (.int (5 : Int32))] [])) _
    exact k
  obtain ⟨cl94, Arcl94, qcl94, Scl94, Mcl94, Hcl94, Gcl94⟩ := id V90
  refine own_step (T' := T83) (g' := (mkF m 30 #[.val (.ref o0), .val (.ref o1), .val (.int (0 : Int32)), .val (.ref b3), .val (.int (5 : Int32)), .val (.int z5), .val (.int (5 : Int32))] [(.int (2 : Int32)), (.int z5)])) (fun t k => ?_) ?_
  · show Steps p.tables e below (T83.setTop (mkF m 27 #[.val (.ref o0), .val (.ref o1), .val (.int (0 : Int32)), .val (.ref b3), .val (.int (5 : Int32)), .val (.int z5), .val (.int (5 : Int32))] [])) _
    refine XS.iload X83.here hx rfl (hb hby d2_27) rfl ?_
    show Steps p.tables e below (T83.setTop (mkF m 29 #[.val (.ref o0), .val (.ref o1), .val (.int (0 : Int32)), .val (.ref b3), .val (.int (5 : Int32)), .val (.int z5), .val (.int (5 : Int32))] [(.int z5)])) _
    refine XS.iconst X83.here hx rfl (hb hby d2_29) ?_
    show Steps p.tables e below (T83.setTop (mkF m 30 #[.val (.ref o0), .val (.ref o1), .val (.int (0 : Int32)), .val (.ref b3), .val (.int (5 : Int32)), .val (.int z5), .val (.int (5 : Int32))] [(.int (2 : Int32)), (.int z5)])) _
    exact k
  refine own_step (T' := T83) (g' := (mkF m 47 #[.val (.ref o0), .val (.ref o1), .val (.int (0 : Int32)), .val (.ref b3), .val (.int (5 : Int32)), .val (.int z5), .val (.int (5 : Int32))] [])) (fun t k => ?_) ?_
  · show Steps p.tables e below (T83.setTop (mkF m 30 #[.val (.ref o0), .val (.ref o1), .val (.int (0 : Int32)), .val (.ref b3), .val (.int (5 : Int32)), .val (.int z5), .val (.int (5 : Int32))] [(.int (2 : Int32)), (.int z5)])) _
    by_cases hq : z5 < (2 : Int32)
    · skip
      refine XS.icmpYes X83.here hx rfl (pc0 := 30) (pc' := 47) rfl (hb hby d2_30) rfl (tlt hq).1 (by decide) (by decide) ?_
      show Steps p.tables e below (T83.setTop (mkF m 47 #[.val (.ref o0), .val (.ref o1), .val (.int (0 : Int32)), .val (.ref b3), .val (.int (5 : Int32)), .val (.int z5), .val (.int (5 : Int32))] [])) _
      exact k
    · skip
      refine XS.icmpNo X83.here hx rfl (hb hby d2_30) rfl (flt hq).1 ?_
      show Steps p.tables e below (T83.setTop (mkF m 33 #[.val (.ref o0), .val (.ref o1), .val (.int (0 : Int32)), .val (.ref b3), .val (.int (5 : Int32)), .val (.int z5), .val (.int (5 : Int32))] [])) _
      refine XS.aloadN X83.here hx rfl (hb hby d2_33) rfl rfl ?_
      show Steps p.tables e below (T83.setTop (mkF m 34 #[.val (.ref o0), .val (.ref o1), .val (.int (0 : Int32)), .val (.ref b3), .val (.int (5 : Int32)), .val (.int z5), .val (.int (5 : Int32))] [(.ref o1)])) _
      refine XS.iload X83.here hx rfl (hb hby d2_34) rfl ?_
      show Steps p.tables e below (T83.setTop (mkF m 36 #[.val (.ref o0), .val (.ref o1), .val (.int (0 : Int32)), .val (.ref b3), .val (.int (5 : Int32)), .val (.int z5), .val (.int (5 : Int32))] [(.int (5 : Int32)), (.ref o1)])) _
      refine X83.baloadBytes hx (j := (5 : Int32)) (v := (.int u5)) (by rw [e83]; exact Arcl94.1) (State.isArrayOf_alike hZ.alike Arcl94.2.1) Arcl94.2.2 (inb_of Scl94 ⟨by decide, by decide⟩) (Hcl94.at (inb_of Scl94 ⟨by decide, by decide⟩) rfl) (g := (mkF m 36 #[.val (.ref o0), .val (.ref o1), .val (.int (0 : Int32)), .val (.ref b3), .val (.int (5 : Int32)), .val (.int z5), .val (.int (5 : Int32))] [(.int (5 : Int32)), (.ref o1)])) rfl rfl (hb hby d2_36) _ ?_
      show Steps p.tables e below (T83.setTop (mkF m 37 #[.val (.ref o0), .val (.ref o1), .val (.int (0 : Int32)), .val (.ref b3), .val (.int (5 : Int32)), .val (.int z5), .val (.int (5 : Int32))] [(.int u5)])) _
      refine XS.iconst X83.here hx rfl (hb hby d2_37) ?_
      show Steps p.tables e below (T83.setTop (mkF m 38 #[.val (.ref o0), .val (.ref o1), .val (.int (0 : Int32)), .val (.ref b3), .val (.int (5 : Int32)), .val (.int z5), .val (.int (5 : Int32))] [(.int (3 : Int32)), (.int u5)])) _
      refine XS.icmpYes X83.here hx rfl (pc0 := 38) (pc' := 47) rfl (hb hby d2_38) rfl (feq (own_zB e_z4 e_z5 hq hno5)).2 (by decide) (by decide) ?_
      show Steps p.tables e below (T83.setTop (mkF m 47 #[.val (.ref o0), .val (.ref o1), .val (.int (0 : Int32)), .val (.ref b3), .val (.int (5 : Int32)), .val (.int z5), .val (.int (5 : Int32))] [])) _
      exact k
  show own_Run p e below s _ _ _ T83 (mkF m 47 #[.val (.ref o0), .val (.ref o1), .val (.int (0 : Int32)), .val (.ref b3), .val (.int (5 : Int32)), .val (.int z5), .val (.int (5 : Int32))] [])
  refine own_step (T' := T83) (g' := (mkF m 51 #[.val (.ref o0), .val (.ref o1), .val (.int (0 : Int32)), .val (.ref b3), .val (.int (5 : Int32)), .val (.int z5), .val (.int (5 : Int32))] [(.int u5)])) (fun t k => ?_) ?_
  · show Steps p.tables e below (T83.setTop (mkF m 47 #[.val (.ref o0), .val (.ref o1), .val (.int (0 : Int32)), .val (.ref b3), .val (.int (5 : Int32)), .val (.int z5), .val (.int (5 : Int32))] [])) _
    refine XS.aloadN X83.here hx rfl (hb hby d2_47) rfl rfl ?_
    show Steps p.tables e below (T83.setTop (mkF m 48 #[.val (.ref o0), .val (.ref o1), .val (.int (0 : Int32)), .val (.ref b3), .val (.int (5 : Int32)), .val (.int z5), .val (.int (5 : Int32))] [(.ref o1)])) _
    refine XS.iload X83.here hx rfl (hb hby d2_48) rfl ?_
    show Steps p.tables e below (T83.setTop (mkF m 50 #[.val (.ref o0), .val (.ref o1), .val (.int (0 : Int32)), .val (.ref b3), .val (.int (5 : Int32)), .val (.int z5), .val (.int (5 : Int32))] [(.int (5 : Int32)), (.ref o1)])) _
    refine X83.baloadBytes hx (j := (5 : Int32)) (v := (.int u5)) (by rw [e83]; exact Arcl94.1) (State.isArrayOf_alike hZ.alike Arcl94.2.1) Arcl94.2.2 (inb_of Scl94 ⟨by decide, by decide⟩) (Hcl94.at (inb_of Scl94 ⟨by decide, by decide⟩) rfl) (g := (mkF m 50 #[.val (.ref o0), .val (.ref o1), .val (.int (0 : Int32)), .val (.ref b3), .val (.int (5 : Int32)), .val (.int z5), .val (.int (5 : Int32))] [(.int (5 : Int32)), (.ref o1)])) rfl rfl (hb hby d2_50) _ ?_
    show Steps p.tables e below (T83.setTop (mkF m 51 #[.val (.ref o0), .val (.ref o1), .val (.int (0 : Int32)), .val (.ref b3), .val (.int (5 : Int32)), .val (.int z5), .val (.int (5 : Int32))] [(.int u5)])) _
    exact k
  refine own_step (T' := T83) (g' := (mkF m 62 #[.val (.ref o0), .val (.ref o1), .val (.int (0 : Int32)), .val (.ref b3), .val (.int (5 : Int32)), .val (.int z5), .val (.int (5 : Int32))] [(.int (own_pick (u5 = (0 : Int32)) (z5 + (1 : Int32)) (0 : Int32)))])) (fun t k => ?_) ?_
  · show Steps p.tables e below (T83.setTop (mkF m 51 #[.val (.ref o0), .val (.ref o1), .val (.int (0 : Int32)), .val (.ref b3), .val (.int (5 : Int32)), .val (.int z5), .val (.int (5 : Int32))] [(.int u5)])) _
    by_cases hq : u5 = (0 : Int32)
    · simp only [own_pick_pos hq, own_pickJ_pos hq] at k
      refine XS.ifNo X83.here hx rfl (hb hby d2_51) rfl ((if0 _ _).trans (teq hq).2) ?_
      show Steps p.tables e below (T83.setTop (mkF m 54 #[.val (.ref o0), .val (.ref o1), .val (.int (0 : Int32)), .val (.ref b3), .val (.int (5 : Int32)), .val (.int z5), .val (.int (5 : Int32))] [])) _
      refine XS.iload X83.here hx rfl (hb hby d2_54) rfl ?_
      show Steps p.tables e below (T83.setTop (mkF m 56 #[.val (.ref o0), .val (.ref o1), .val (.int (0 : Int32)), .val (.ref b3), .val (.int (5 : Int32)), .val (.int z5), .val (.int (5 : Int32))] [(.int z5)])) _
      refine XS.iconst X83.here hx rfl (hb hby d2_56) ?_
      show Steps p.tables e below (T83.setTop (mkF m 57 #[.val (.ref o0), .val (.ref o1), .val (.int (0 : Int32)), .val (.ref b3), .val (.int (5 : Int32)), .val (.int z5), .val (.int (5 : Int32))] [(.int (1 : Int32)), (.int z5)])) _
      refine XS.iadd X83.here hx rfl (hb hby d2_57) rfl ?_
      show Steps p.tables e below (T83.setTop (mkF m 58 #[.val (.ref o0), .val (.ref o1), .val (.int (0 : Int32)), .val (.ref b3), .val (.int (5 : Int32)), .val (.int z5), .val (.int (5 : Int32))] [(.int (z5 + (1 : Int32)))])) _
      refine XS.goto X83.here hx rfl (pc0 := 58) (pc' := 62) rfl (hb hby d2_58) (by decide) (by decide) ?_
      show Steps p.tables e below (T83.setTop (mkF m 62 #[.val (.ref o0), .val (.ref o1), .val (.int (0 : Int32)), .val (.ref b3), .val (.int (5 : Int32)), .val (.int z5), .val (.int (5 : Int32))] [(.int (z5 + (1 : Int32)))])) _
      exact k
    · simp only [own_pick_neg hq, own_pickJ_neg hq] at k
      refine XS.ifYes X83.here hx rfl (pc0 := 51) (pc' := 61) rfl (hb hby d2_51) rfl ((if0 _ _).trans (feq hq).2) (by decide) (by decide) ?_
      show Steps p.tables e below (T83.setTop (mkF m 61 #[.val (.ref o0), .val (.ref o1), .val (.int (0 : Int32)), .val (.ref b3), .val (.int (5 : Int32)), .val (.int z5), .val (.int (5 : Int32))] [])) _
      refine XS.iconst X83.here hx rfl (hb hby d2_61) ?_
      show Steps p.tables e below (T83.setTop (mkF m 62 #[.val (.ref o0), .val (.ref o1), .val (.int (0 : Int32)), .val (.ref b3), .val (.int (5 : Int32)), .val (.int z5), .val (.int (5 : Int32))] [(.int (0 : Int32))])) _
      exact k
  show own_Run p e below s _ _ _ T83 (mkF m 62 #[.val (.ref o0), .val (.ref o1), .val (.int (0 : Int32)), .val (.ref b3), .val (.int (5 : Int32)), .val (.int z5), .val (.int (5 : Int32))] [(.int (own_pick (u5 = (0 : Int32)) (z5 + (1 : Int32)) (0 : Int32)))])
  refine own_step (T' := T83) (g' := (mkF m 64 #[.val (.ref o0), .val (.ref o1), .val (.int (0 : Int32)), .val (.ref b3), .val (.int (5 : Int32)), .val (.int (own_pick (u5 = (0 : Int32)) (z5 + (1 : Int32)) (0 : Int32))), .val (.int (5 : Int32))] [])) (fun t k => ?_) ?_
  · show Steps p.tables e below (T83.setTop (mkF m 62 #[.val (.ref o0), .val (.ref o1), .val (.int (0 : Int32)), .val (.ref b3), .val (.int (5 : Int32)), .val (.int z5), .val (.int (5 : Int32))] [(.int (own_pick (u5 = (0 : Int32)) (z5 + (1 : Int32)) (0 : Int32)))])) _
    refine XS.istore X83.here hx rfl (hb hby d2_62) rfl (l' := #[.val (.ref o0), .val (.ref o1), .val (.int (0 : Int32)), .val (.ref b3), .val (.int (5 : Int32)), .val (.int (own_pick (u5 = (0 : Int32)) (z5 + (1 : Int32)) (0 : Int32))), .val (.int (5 : Int32))]) rfl ?_
    show Steps p.tables e below (T83.setTop (mkF m 64 #[.val (.ref o0), .val (.ref o1), .val (.int (0 : Int32)), .val (.ref b3), .val (.int (5 : Int32)), .val (.int (own_pick (u5 = (0 : Int32)) (z5 + (1 : Int32)) (0 : Int32))), .val (.int (5 : Int32))] [])) _
    exact k
  generalize e_z6 : (own_pick (u5 = (0 : Int32)) (z5 + (1 : Int32)) (0 : Int32)) = z6
  show own_Run p e below s _ _ _ T83 (mkF m 64 #[.val (.ref o0), .val (.ref o1), .val (.int (0 : Int32)), .val (.ref b3), .val (.int (5 : Int32)), .val (.int z6), .val (.int (5 : Int32))] [])
  refine own_step (T' := T83) (g' := (mkF m 74 #[.val (.ref o0), .val (.ref o1), .val (.int (0 : Int32)), .val (.ref b3), .val (.int (6 : Int32)), .val (.int z6), .val (.int (5 : Int32))] [(.int u5), (.int (5 : Int32)), (.ref b3)])) (fun t k => ?_) ?_
  · show Steps p.tables e below (T83.setTop (mkF m 64 #[.val (.ref o0), .val (.ref o1), .val (.int (0 : Int32)), .val (.ref b3), .val (.int (5 : Int32)), .val (.int z6), .val (.int (5 : Int32))] [])) _
    refine XS.aloadN X83.here hx rfl (hb hby d2_64) rfl rfl ?_
    show Steps p.tables e below (T83.setTop (mkF m 65 #[.val (.ref o0), .val (.ref o1), .val (.int (0 : Int32)), .val (.ref b3), .val (.int (5 : Int32)), .val (.int z6), .val (.int (5 : Int32))] [(.ref b3)])) _
    refine XS.iload X83.here hx rfl (hb hby d2_65) rfl ?_
    show Steps p.tables e below (T83.setTop (mkF m 67 #[.val (.ref o0), .val (.ref o1), .val (.int (0 : Int32)), .val (.ref b3), .val (.int (5 : Int32)), .val (.int z6), .val (.int (5 : Int32))] [(.int (5 : Int32)), (.ref b3)])) _
    refine XS.iinc X83.here hx rfl (hb hby d2_67) rfl (l' := #[.val (.ref o0), .val (.ref o1), .val (.int (0 : Int32)), .val (.ref b3), .val (.int (6 : Int32)), .val (.int z6), .val (.int (5 : Int32))]) rfl ?_
    show Steps p.tables e below (T83.setTop (mkF m 70 #[.val (.ref o0), .val (.ref o1), .val (.int (0 : Int32)), .val (.ref b3), .val (.int (6 : Int32)), .val (.int z6), .val (.int (5 : Int32))] [(.int (5 : Int32)), (.ref b3)])) _
    refine XS.aloadN X83.here hx rfl (hb hby d2_70) rfl rfl ?_
    show Steps p.tables e below (T83.setTop (mkF m 71 #[.val (.ref o0), .val (.ref o1), .val (.int (0 : Int32)), .val (.ref b3), .val (.int (6 : Int32)), .val (.int z6), .val (.int (5 : Int32))] [(.ref o1), (.int (5 : Int32)), (.ref b3)])) _
    refine XS.iload X83.here hx rfl (hb hby d2_71) rfl ?_
    show Steps p.tables e below (T83.setTop (mkF m 73 #[.val (.ref o0), .val (.ref o1), .val (.int (0 : Int32)), .val (.ref b3), .val (.int (6 : Int32)), .val (.int z6), .val (.int (5 : Int32))] [(.int (5 : Int32)), (.ref o1), (.int (5 : Int32)), (.ref b3)])) _
    refine X83.baloadBytes hx (j := (5 : Int32)) (v := (.int u5)) (by rw [e83]; exact Arcl94.1) (State.isArrayOf_alike hZ.alike Arcl94.2.1) Arcl94.2.2 (inb_of Scl94 ⟨by decide, by decide⟩) (Hcl94.at (inb_of Scl94 ⟨by decide, by decide⟩) rfl) (g := (mkF m 73 #[.val (.ref o0), .val (.ref o1), .val (.int (0 : Int32)), .val (.ref b3), .val (.int (6 : Int32)), .val (.int z6), .val (.int (5 : Int32))] [(.int (5 : Int32)), (.ref o1), (.int (5 : Int32)), (.ref b3)])) rfl rfl (hb hby d2_73) _ ?_
    show Steps p.tables e below (T83.setTop (mkF m 74 #[.val (.ref o0), .val (.ref o1), .val (.int (0 : Int32)), .val (.ref b3), .val (.int (6 : Int32)), .val (.int z6), .val (.int (5 : Int32))] [(.int u5), (.int (5 : Int32)), (.ref b3)])) _
    exact k
  obtain ⟨cl98, Arcl98, qcl98, Scl98, Mcl98, Hcl98, Gcl98⟩ := V84l
  have hincl98 : ¬ ((5 : Int32) < 0 ∨ cl98.slots.size ≤ ((5 : Int32)).toNatClampNeg) := inb_of Scl98 ⟨by decide, by decide⟩
  obtain ⟨T99, h99, X99, e99, W99, st99⟩ := stB X83 hx hZ e83 Arcl98 (j := (5 : Int32)) hincl98 (g := (mkF m 74 #[.val (.ref o0), .val (.ref o1), .val (.int (0 : Int32)), .val (.ref b3), .val (.int (6 : Int32)), .val (.int z6), .val (.int (5 : Int32))] [(.int u5), (.int (5 : Int32)), (.ref b3)])) rfl rfl (hb hby d2_74)
  have V100 := Arv.set Arcl98 qcl98 Scl98 Mcl98 Hcl98 Gcl98 (fits_nar_byte _) W99 5 rfl (Nat.le_of_ble_eq_true rfl)
  have V100l : Arv Z h99 b3 k3 .byte (8 : Int32) [(.int (nar .byte u0)), (.int (nar .byte u1)), (.int (nar .byte u2)), (.int (nar .byte u3)), (.int (nar .byte u4)), (.int (nar .byte u5)), (.int (0 : Int32)), (.int (0 : Int32))] (.int (0 : Int32)) := V100
  have F101 := F85.other W99 (Or.inl ne4)
  have F102 := F86.other W99 (Or.inl ne4)
  have F103 := F87.other W99 (Or.inl ne4)
  have A104 := A88.wr W99
  have A105 := A89.wr W99
  have V106 := V90.other W99 ne5
  have Z107 := Nat.le_trans Z91 (Keep.of_wr W99).1
  have K99 := K83.wr W99 (Or.inr sz_b3)
  have N99 := Fr.snoc X99 N83 g_b3
  refine own_step st99 ?_
  show own_Run p e below s _ _ _ T99 (mkF m 75 #[.val (.ref o0), .val (.ref o1), .val (.int (0 : Int32)), .val (.ref b3), .val (.int (6 : Int32)), .val (.int z6), .val (.int (5 : Int32))] [])
  refine own_step (T' := T99) (g' := (mkF m 23 #[.val (.ref o0), .val (.ref o1), .val (.int (0 : Int32)), .val (.ref b3), .val (.int (6 : Int32)), .val (.int z6), .val (.int (6 : Int32))] [(.ref o1), (.int (6 : Int32))])) (fun t k => ?_) ?_
  · show Steps p.tables e below (T99.setTop (mkF m 75 #[.val (.ref o0), .val (.ref o1), .val (.int (0 : Int32)), .val (.ref b3), .val (.int (6 : Int32)), .val (.int z6), .val (.int (5 : Int32))] [])) _
    refine XS.iinc X99.here hx rfl (hb hby d2_75) rfl (l' := #[.val (.ref o0), .val (.ref o1), .val (.int (0 : Int32)), .val (.ref b3), .val (.int (6 : Int32)), .val (.int z6), .val (.int (6 : Int32))]) rfl ?_
    show Steps p.tables e below (T99.setTop (mkF m 78 #[.val (.ref o0), .val (.ref o1), .val (.int (0 : Int32)), .val (.ref b3), .val (.int (6 : Int32)), .val (.int z6), .val (.int (6 : Int32))] [])) _
    refine XS.goto X99.here hx rfl (pc0 := 78) (pc' := 20) rfl (hb hby d2_78) (by decide) (by decide) ?_
    show Steps p.tables e below (T99.setTop (mkF m 20 #[.val (.ref o0), .val (.ref o1), .val (.int (0 : Int32)), .val (.ref b3), .val (.int (6 : Int32)), .val (.int z6), .val (.int (6 : Int32))] [])) _
    refine XS.iload X99.here hx rfl (hb hby d2_20) rfl ?_
    show Steps p.tables e below (T99.setTop (mkF m 22 #[.val (.ref o0), .val (.ref o1), .val (.int (0 : Int32)), .val (.ref b3), .val (.int (6 : Int32)), .val (.int z6), .val (.int (6 : Int32))] [(.int (6 : Int32))])) _
    refine XS.aloadN X99.here hx rfl (hb hby d2_22) rfl rfl ?_
    show Steps p.tables e below (T99.setTop (mkF m 23 #[.val (.ref o0), .val (.ref o1), .val (.int (0 : Int32)), .val (.ref b3), .val (.int (6 : Int32)), .val (.int z6), .val (.int (6 : Int32))] [(.ref o1), (.int (6 : Int32))])) _
    exact k
  obtain ⟨cl108, Arcl108, -, Scl108, Mcl108, -, -⟩ := id V106
  refine own_step (T' := T99) (g' := (mkF m 27 #[.val (.ref o0), .val (.ref o1), .val (.int (0 : Int32)), .val (.ref b3), .val (.int (6 : Int32)), .val (.int z6), .val (.int (6 : Int32))] [])) (fun t k => ?_) ?_
  · show Steps p.tables e below (T99.setTop (mkF m 23 #[.val (.ref o0), .val (.ref o1), .val (.int (0 : Int32)), .val (.ref b3), .val (.int (6 : Int32)), .val (.int z6), .val (.int (6 : Int32))] [(.ref o1), (.int (6 : Int32))])) _
    refine X99.arraylength hx (by rw [e99]; exact Arcl108.1) (State.isArrayOf_alike hZ.alike Arcl108.2.1) (g := (mkF m 23 #[.val (.ref o0), .val (.ref o1), .val (.int (0 : Int32)), .val (.ref b3), .val (.int (6 : Int32)), .val (.int z6), .val (.int (6 : Int32))] [(.ref o1), (.int (6 : Int32))])) rfl rfl (hb hby d2_23) _ ?_
    rw [len_of Scl108 Mcl108]
    show Steps p.tables e below (T99.setTop (mkF m 24 #[.val (.ref o0), .val (.ref o1), .val (.int (0 : Int32)), .val (.ref b3), .val (.int (6 : Int32)), .val (.int z6), .val (.int (6 : Int32))] [(.int (8 : Int32)), (.int (6 : Int32))])) _
    refine XS.icmpNo X99.here hx rfl (hb hby d2_24) rfl (tlt (by decide)).2.1 ?_
    show Steps p.tables e below (T99.setTop (mkF m 27 #[.val (.ref o0), .val (.ref o1), .val (.int (0 : Int32)), .val (.ref b3), .val (.int (6 : Int32)), .val (.int z6), .val (.int (6 : Int32))] [])) _
    exact k
  obtain ⟨cl110, Arcl110, qcl110, Scl110, Mcl110, Hcl110, Gcl110⟩ := id V106
  refine own_step (T' := T99) (g' := (mkF m 30 #[.val (.ref o0), .val (.ref o1), .val (.int (0 : Int32)), .val (.ref b3), .val (.int (6 : Int32)), .val (.int z6), .val (.int (6 : Int32))] [(.int (2 : Int32)), (.int z6)])) (fun t k => ?_) ?_
  · show Steps p.tables e below (T99.setTop (mkF m 27 #[.val (.ref o0), .val (.ref o1), .val (.int (0 : Int32)), .val (.ref b3), .val (.int (6 : Int32)), .val (.int z6), .val (.int (6 : Int32))] [])) _
    refine XS.iload X99.here hx rfl (hb hby d2_27) rfl ?_
    show Steps p.tables e below (T99.setTop (mkF m 29 #[.val (.ref o0), .val (.ref o1), .val (.int (0 : Int32)), .val (.ref b3), .val (.int (6 : Int32)), .val (.int z6), .val (.int (6 : Int32))] [(.int z6)])) _
    refine XS.iconst X99.here hx rfl (hb hby d2_29) ?_
    show Steps p.tables e below (T99.setTop (mkF m 30 #[.val (.ref o0), .val (.ref o1), .val (.int (0 : Int32)), .val (.ref b3), .val (.int (6 : Int32)), .val (.int z6), .val (.int (6 : Int32))] [(.int (2 : Int32)), (.int z6)])) _
    exact k
  refine own_step (T' := T99) (g' := (mkF m 47 #[.val (.ref o0), .val (.ref o1), .val (.int (0 : Int32)), .val (.ref b3), .val (.int (6 : Int32)), .val (.int z6), .val (.int (6 : Int32))] [])) (fun t k => ?_) ?_
  · show Steps p.tables e below (T99.setTop (mkF m 30 #[.val (.ref o0), .val (.ref o1), .val (.int (0 : Int32)), .val (.ref b3), .val (.int (6 : Int32)), .val (.int z6), .val (.int (6 : Int32))] [(.int (2 : Int32)), (.int z6)])) _
    by_cases hq : z6 < (2 : Int32)
    · skip
      refine XS.icmpYes X99.here hx rfl (pc0 := 30) (pc' := 47) rfl (hb hby d2_30) rfl (tlt hq).1 (by decide) (by decide) ?_
      show Steps p.tables e below (T99.setTop (mkF m 47 #[.val (.ref o0), .val (.ref o1), .val (.int (0 : Int32)), .val (.ref b3), .val (.int (6 : Int32)), .val (.int z6), .val (.int (6 : Int32))] [])) _
      exact k
    · skip
      refine XS.icmpNo X99.here hx rfl (hb hby d2_30) rfl (flt hq).1 ?_
      show Steps p.tables e below (T99.setTop (mkF m 33 #[.val (.ref o0), .val (.ref o1), .val (.int (0 : Int32)), .val (.ref b3), .val (.int (6 : Int32)), .val (.int z6), .val (.int (6 : Int32))] [])) _
      refine XS.aloadN X99.here hx rfl (hb hby d2_33) rfl rfl ?_
      show Steps p.tables e below (T99.setTop (mkF m 34 #[.val (.ref o0), .val (.ref o1), .val (.int (0 : Int32)), .val (.ref b3), .val (.int (6 : Int32)), .val (.int z6), .val (.int (6 : Int32))] [(.ref o1)])) _
      refine XS.iload X99.here hx rfl (hb hby d2_34) rfl ?_
      show Steps p.tables e below (T99.setTop (mkF m 36 #[.val (.ref o0), .val (.ref o1), .val (.int (0 : Int32)), .val (.ref b3), .val (.int (6 : Int32)), .val (.int z6), .val (.int (6 : Int32))] [(.int (6 : Int32)), (.ref o1)])) _
      refine X99.baloadBytes hx (j := (6 : Int32)) (v := (.int u6)) (by rw [e99]; exact Arcl110.1) (State.isArrayOf_alike hZ.alike Arcl110.2.1) Arcl110.2.2 (inb_of Scl110 ⟨by decide, by decide⟩) (Hcl110.at (inb_of Scl110 ⟨by decide, by decide⟩) rfl) (g := (mkF m 36 #[.val (.ref o0), .val (.ref o1), .val (.int (0 : Int32)), .val (.ref b3), .val (.int (6 : Int32)), .val (.int z6), .val (.int (6 : Int32))] [(.int (6 : Int32)), (.ref o1)])) rfl rfl (hb hby d2_36) _ ?_
      show Steps p.tables e below (T99.setTop (mkF m 37 #[.val (.ref o0), .val (.ref o1), .val (.int (0 : Int32)), .val (.ref b3), .val (.int (6 : Int32)), .val (.int z6), .val (.int (6 : Int32))] [(.int u6)])) _
      refine XS.iconst X99.here hx rfl (hb hby d2_37) ?_
      show Steps p.tables e below (T99.setTop (mkF m 38 #[.val (.ref o0), .val (.ref o1), .val (.int (0 : Int32)), .val (.ref b3), .val (.int (6 : Int32)), .val (.int z6), .val (.int (6 : Int32))] [(.int (3 : Int32)), (.int u6)])) _
      refine XS.icmpYes X99.here hx rfl (pc0 := 38) (pc' := 47) rfl (hb hby d2_38) rfl (feq (own_zB e_z5 e_z6 hq hno6)).2 (by decide) (by decide) ?_
      show Steps p.tables e below (T99.setTop (mkF m 47 #[.val (.ref o0), .val (.ref o1), .val (.int (0 : Int32)), .val (.ref b3), .val (.int (6 : Int32)), .val (.int z6), .val (.int (6 : Int32))] [])) _
      exact k
  show own_Run p e below s _ _ _ T99 (mkF m 47 #[.val (.ref o0), .val (.ref o1), .val (.int (0 : Int32)), .val (.ref b3), .val (.int (6 : Int32)), .val (.int z6), .val (.int (6 : Int32))] [])
  refine own_step (T' := T99) (g' := (mkF m 51 #[.val (.ref o0), .val (.ref o1), .val (.int (0 : Int32)), .val (.ref b3), .val (.int (6 : Int32)), .val (.int z6), .val (.int (6 : Int32))] [(.int u6)])) (fun t k => ?_) ?_
  · show Steps p.tables e below (T99.setTop (mkF m 47 #[.val (.ref o0), .val (.ref o1), .val (.int (0 : Int32)), .val (.ref b3), .val (.int (6 : Int32)), .val (.int z6), .val (.int (6 : Int32))] [])) _
    refine XS.aloadN X99.here hx rfl (hb hby d2_47) rfl rfl ?_
    show Steps p.tables e below (T99.setTop (mkF m 48 #[.val (.ref o0), .val (.ref o1), .val (.int (0 : Int32)), .val (.ref b3), .val (.int (6 : Int32)), .val (.int z6), .val (.int (6 : Int32))] [(.ref o1)])) _
    refine XS.iload X99.here hx rfl (hb hby d2_48) rfl ?_
    show Steps p.tables e below (T99.setTop (mkF m 50 #[.val (.ref o0), .val (.ref o1), .val (.int (0 : Int32)), .val (.ref b3), .val (.int (6 : Int32)), .val (.int z6), .val (.int (6 : Int32))] [(.int (6 : Int32)), (.ref o1)])) _
    refine X99.baloadBytes hx (j := (6 : Int32)) (v := (.int u6)) (by rw [e99]; exact Arcl110.1) (State.isArrayOf_alike hZ.alike Arcl110.2.1) Arcl110.2.2 (inb_of Scl110 ⟨by decide, by decide⟩) (Hcl110.at (inb_of Scl110 ⟨by decide, by decide⟩) rfl) (g := (mkF m 50 #[.val (.ref o0), .val (.ref o1), .val (.int (0 : Int32)), .val (.ref b3), .val (.int (6 : Int32)), .val (.int z6), .val (.int (6 : Int32))] [(.int (6 : Int32)), (.ref o1)])) rfl rfl (hb hby d2_50) _ ?_
    show Steps p.tables e below (T99.setTop (mkF m 51 #[.val (.ref o0), .val (.ref o1), .val (.int (0 : Int32)), .val (.ref b3), .val (.int (6 : Int32)), .val (.int z6), .val (.int (6 : Int32))] [(.int u6)])) _
    exact k
  refine own_step (T' := T99) (g' := (mkF m 62 #[.val (.ref o0), .val (.ref o1), .val (.int (0 : Int32)), .val (.ref b3), .val (.int (6 : Int32)), .val (.int z6), .val (.int (6 : Int32))] [(.int (own_pick (u6 = (0 : Int32)) (z6 + (1 : Int32)) (0 : Int32)))])) (fun t k => ?_) ?_
  · show Steps p.tables e below (T99.setTop (mkF m 51 #[.val (.ref o0), .val (.ref o1), .val (.int (0 : Int32)), .val (.ref b3), .val (.int (6 : Int32)), .val (.int z6), .val (.int (6 : Int32))] [(.int u6)])) _
    by_cases hq : u6 = (0 : Int32)
    · simp only [own_pick_pos hq, own_pickJ_pos hq] at k
      refine XS.ifNo X99.here hx rfl (hb hby d2_51) rfl ((if0 _ _).trans (teq hq).2) ?_
      show Steps p.tables e below (T99.setTop (mkF m 54 #[.val (.ref o0), .val (.ref o1), .val (.int (0 : Int32)), .val (.ref b3), .val (.int (6 : Int32)), .val (.int z6), .val (.int (6 : Int32))] [])) _
      refine XS.iload X99.here hx rfl (hb hby d2_54) rfl ?_
      show Steps p.tables e below (T99.setTop (mkF m 56 #[.val (.ref o0), .val (.ref o1), .val (.int (0 : Int32)), .val (.ref b3), .val (.int (6 : Int32)), .val (.int z6), .val (.int (6 : Int32))] [(.int z6)])) _
      refine XS.iconst X99.here hx rfl (hb hby d2_56) ?_
      show Steps p.tables e below (T99.setTop (mkF m 57 #[.val (.ref o0), .val (.ref o1), .val (.int (0 : Int32)), .val (.ref b3), .val (.int (6 : Int32)), .val (.int z6), .val (.int (6 : Int32))] [(.int (1 : Int32)), (.int z6)])) _
      refine XS.iadd X99.here hx rfl (hb hby d2_57) rfl ?_
      show Steps p.tables e below (T99.setTop (mkF m 58 #[.val (.ref o0), .val (.ref o1), .val (.int (0 : Int32)), .val (.ref b3), .val (.int (6 : Int32)), .val (.int z6), .val (.int (6 : Int32))] [(.int (z6 + (1 : Int32)))])) _
      refine XS.goto X99.here hx rfl (pc0 := 58) (pc' := 62) rfl (hb hby d2_58) (by decide) (by decide) ?_
      show Steps p.tables e below (T99.setTop (mkF m 62 #[.val (.ref o0), .val (.ref o1), .val (.int (0 : Int32)), .val (.ref b3), .val (.int (6 : Int32)), .val (.int z6), .val (.int (6 : Int32))] [(.int (z6 + (1 : Int32)))])) _
      exact k
    · simp only [own_pick_neg hq, own_pickJ_neg hq] at k
      refine XS.ifYes X99.here hx rfl (pc0 := 51) (pc' := 61) rfl (hb hby d2_51) rfl ((if0 _ _).trans (feq hq).2) (by decide) (by decide) ?_
      show Steps p.tables e below (T99.setTop (mkF m 61 #[.val (.ref o0), .val (.ref o1), .val (.int (0 : Int32)), .val (.ref b3), .val (.int (6 : Int32)), .val (.int z6), .val (.int (6 : Int32))] [])) _
      refine XS.iconst X99.here hx rfl (hb hby d2_61) ?_
      show Steps p.tables e below (T99.setTop (mkF m 62 #[.val (.ref o0), .val (.ref o1), .val (.int (0 : Int32)), .val (.ref b3), .val (.int (6 : Int32)), .val (.int z6), .val (.int (6 : Int32))] [(.int (0 : Int32))])) _
      exact k
  show own_Run p e below s _ _ _ T99 (mkF m 62 #[.val (.ref o0), .val (.ref o1), .val (.int (0 : Int32)), .val (.ref b3), .val (.int (6 : Int32)), .val (.int z6), .val (.int (6 : Int32))] [(.int (own_pick (u6 = (0 : Int32)) (z6 + (1 : Int32)) (0 : Int32)))])
  refine own_step (T' := T99) (g' := (mkF m 64 #[.val (.ref o0), .val (.ref o1), .val (.int (0 : Int32)), .val (.ref b3), .val (.int (6 : Int32)), .val (.int (own_pick (u6 = (0 : Int32)) (z6 + (1 : Int32)) (0 : Int32))), .val (.int (6 : Int32))] [])) (fun t k => ?_) ?_
  · show Steps p.tables e below (T99.setTop (mkF m 62 #[.val (.ref o0), .val (.ref o1), .val (.int (0 : Int32)), .val (.ref b3), .val (.int (6 : Int32)), .val (.int z6), .val (.int (6 : Int32))] [(.int (own_pick (u6 = (0 : Int32)) (z6 + (1 : Int32)) (0 : Int32)))])) _
    refine XS.istore X99.here hx rfl (hb hby d2_62) rfl (l' := #[.val (.ref o0), .val (.ref o1), .val (.int (0 : Int32)), .val (.ref b3), .val (.int (6 : Int32)), .val (.int (own_pick (u6 = (0 : Int32)) (z6 + (1 : Int32)) (0 : Int32))), .val (.int (6 : Int32))]) rfl ?_
    show Steps p.tables e below (T99.setTop (mkF m 64 #[.val (.ref o0), .val (.ref o1), .val (.int (0 : Int32)), .val (.ref b3), .val (.int (6 : Int32)), .val (.int (own_pick (u6 = (0 : Int32)) (z6 + (1 : Int32)) (0 : Int32))), .val (.int (6 : Int32))] [])) _
    exact k
  generalize e_z7 : (own_pick (u6 = (0 : Int32)) (z6 + (1 : Int32)) (0 : Int32)) = z7
  show own_Run p e below s _ _ _ T99 (mkF m 64 #[.val (.ref o0), .val (.ref o1), .val (.int (0 : Int32)), .val (.ref b3), .val (.int (6 : Int32)), .val (.int z7), .val (.int (6 : Int32))] [])
  refine own_step (T' := T99) (g' := (mkF m 74 #[.val (.ref o0), .val (.ref o1), .val (.int (0 : Int32)), .val (.ref b3), .val (.int (7 : Int32)), .val (.int z7), .val (.int (6 : Int32))] [(.int u6), (.int (6 : Int32)), (.ref b3)])) (fun t k => ?_) ?_
  · show Steps p.tables e below (T99.setTop (mkF m 64 #[.val (.ref o0), .val (.ref o1), .val (.int (0 : Int32)), .val (.ref b3), .val (.int (6 : Int32)), .val (.int z7), .val (.int (6 : Int32))] [])) _
    refine XS.aloadN X99.here hx rfl (hb hby d2_64) rfl rfl ?_
    show Steps p.tables e below (T99.setTop (mkF m 65 #[.val (.ref o0), .val (.ref o1), .val (.int (0 : Int32)), .val (.ref b3), .val (.int (6 : Int32)), .val (.int z7), .val (.int (6 : Int32))] [(.ref b3)])) _
    refine XS.iload X99.here hx rfl (hb hby d2_65) rfl ?_
    show Steps p.tables e below (T99.setTop (mkF m 67 #[.val (.ref o0), .val (.ref o1), .val (.int (0 : Int32)), .val (.ref b3), .val (.int (6 : Int32)), .val (.int z7), .val (.int (6 : Int32))] [(.int (6 : Int32)), (.ref b3)])) _
    refine XS.iinc X99.here hx rfl (hb hby d2_67) rfl (l' := #[.val (.ref o0), .val (.ref o1), .val (.int (0 : Int32)), .val (.ref b3), .val (.int (7 : Int32)), .val (.int z7), .val (.int (6 : Int32))]) rfl ?_
    show Steps p.tables e below (T99.setTop (mkF m 70 #[.val (.ref o0), .val (.ref o1), .val (.int (0 : Int32)), .val (.ref b3), .val (.int (7 : Int32)), .val (.int z7), .val (.int (6 : Int32))] [(.int (6 : Int32)), (.ref b3)])) _
    refine XS.aloadN X99.here hx rfl (hb hby d2_70) rfl rfl ?_
    show Steps p.tables e below (T99.setTop (mkF m 71 #[.val (.ref o0), .val (.ref o1), .val (.int (0 : Int32)), .val (.ref b3), .val (.int (7 : Int32)), .val (.int z7), .val (.int (6 : Int32))] [(.ref o1), (.int (6 : Int32)), (.ref b3)])) _
    refine XS.iload X99.here hx rfl (hb hby d2_71) rfl ?_
    show Steps p.tables e below (T99.setTop (mkF m 73 #[.val (.ref o0), .val (.ref o1), .val (.int (0 : Int32)), .val (.ref b3), .val (.int (7 : Int32)), .val (.int z7), .val (.int (6 : Int32))] [(.int (6 : Int32)), (.ref o1), (.int (6 : Int32)), (.ref b3)])) _
    refine X99.baloadBytes hx (j := (6 : Int32)) (v := (.int u6)) (by rw [e99]; exact Arcl110.1) (State.isArrayOf_alike hZ.alike Arcl110.2.1) Arcl110.2.2 (inb_of Scl110 ⟨by decide, by decide⟩) (Hcl110.at (inb_of Scl110 ⟨by decide, by decide⟩) rfl) (g := (mkF m 73 #[.val (.ref o0), .val (.ref o1), .val (.int (0 : Int32)), .val (.ref b3), .val (.int (7 : Int32)), .val (.int z7), .val (.int (6 : Int32))] [(.int (6 : Int32)), (.ref o1), (.int (6 : Int32)), (.ref b3)])) rfl rfl (hb hby d2_73) _ ?_
    show Steps p.tables e below (T99.setTop (mkF m 74 #[.val (.ref o0), .val (.ref o1), .val (.int (0 : Int32)), .val (.ref b3), .val (.int (7 : Int32)), .val (.int z7), .val (.int (6 : Int32))] [(.int u6), (.int (6 : Int32)), (.ref b3)])) _
    exact k
  obtain ⟨cl114, Arcl114, qcl114, Scl114, Mcl114, Hcl114, Gcl114⟩ := V100l
  have hincl114 : ¬ ((6 : Int32) < 0 ∨ cl114.slots.size ≤ ((6 : Int32)).toNatClampNeg) := inb_of Scl114 ⟨by decide, by decide⟩
  obtain ⟨T115, h115, X115, e115, W115, st115⟩ := stB X99 hx hZ e99 Arcl114 (j := (6 : Int32)) hincl114 (g := (mkF m 74 #[.val (.ref o0), .val (.ref o1), .val (.int (0 : Int32)), .val (.ref b3), .val (.int (7 : Int32)), .val (.int z7), .val (.int (6 : Int32))] [(.int u6), (.int (6 : Int32)), (.ref b3)])) rfl rfl (hb hby d2_74)
  have V116 := Arv.set Arcl114 qcl114 Scl114 Mcl114 Hcl114 Gcl114 (fits_nar_byte _) W115 6 rfl (Nat.le_of_ble_eq_true rfl)
  have V116l : Arv Z h115 b3 k3 .byte (8 : Int32) [(.int (nar .byte u0)), (.int (nar .byte u1)), (.int (nar .byte u2)), (.int (nar .byte u3)), (.int (nar .byte u4)), (.int (nar .byte u5)), (.int (nar .byte u6)), (.int (0 : Int32))] (.int (0 : Int32)) := V116
  have F117 := F101.other W115 (Or.inl ne4)
  have F118 := F102.other W115 (Or.inl ne4)
  have F119 := F103.other W115 (Or.inl ne4)
  have A120 := A104.wr W115
  have A121 := A105.wr W115
  have V122 := V106.other W115 ne5
  have Z123 := Nat.le_trans Z107 (Keep.of_wr W115).1
  have K115 := K99.wr W115 (Or.inr sz_b3)
  have N115 := Fr.snoc X115 N99 g_b3
  refine own_step st115 ?_
  show own_Run p e below s _ _ _ T115 (mkF m 75 #[.val (.ref o0), .val (.ref o1), .val (.int (0 : Int32)), .val (.ref b3), .val (.int (7 : Int32)), .val (.int z7), .val (.int (6 : Int32))] [])
  refine own_step (T' := T115) (g' := (mkF m 23 #[.val (.ref o0), .val (.ref o1), .val (.int (0 : Int32)), .val (.ref b3), .val (.int (7 : Int32)), .val (.int z7), .val (.int (7 : Int32))] [(.ref o1), (.int (7 : Int32))])) (fun t k => ?_) ?_
  · show Steps p.tables e below (T115.setTop (mkF m 75 #[.val (.ref o0), .val (.ref o1), .val (.int (0 : Int32)), .val (.ref b3), .val (.int (7 : Int32)), .val (.int z7), .val (.int (6 : Int32))] [])) _
    refine XS.iinc X115.here hx rfl (hb hby d2_75) rfl (l' := #[.val (.ref o0), .val (.ref o1), .val (.int (0 : Int32)), .val (.ref b3), .val (.int (7 : Int32)), .val (.int z7), .val (.int (7 : Int32))]) rfl ?_
    show Steps p.tables e below (T115.setTop (mkF m 78 #[.val (.ref o0), .val (.ref o1), .val (.int (0 : Int32)), .val (.ref b3), .val (.int (7 : Int32)), .val (.int z7), .val (.int (7 : Int32))] [])) _
    refine XS.goto X115.here hx rfl (pc0 := 78) (pc' := 20) rfl (hb hby d2_78) (by decide) (by decide) ?_
    show Steps p.tables e below (T115.setTop (mkF m 20 #[.val (.ref o0), .val (.ref o1), .val (.int (0 : Int32)), .val (.ref b3), .val (.int (7 : Int32)), .val (.int z7), .val (.int (7 : Int32))] [])) _
    refine XS.iload X115.here hx rfl (hb hby d2_20) rfl ?_
    show Steps p.tables e below (T115.setTop (mkF m 22 #[.val (.ref o0), .val (.ref o1), .val (.int (0 : Int32)), .val (.ref b3), .val (.int (7 : Int32)), .val (.int z7), .val (.int (7 : Int32))] [(.int (7 : Int32))])) _
    refine XS.aloadN X115.here hx rfl (hb hby d2_22) rfl rfl ?_
    show Steps p.tables e below (T115.setTop (mkF m 23 #[.val (.ref o0), .val (.ref o1), .val (.int (0 : Int32)), .val (.ref b3), .val (.int (7 : Int32)), .val (.int z7), .val (.int (7 : Int32))] [(.ref o1), (.int (7 : Int32))])) _
    exact k
  obtain ⟨cl124, Arcl124, -, Scl124, Mcl124, -, -⟩ := id V122
  refine own_step (T' := T115) (g' := (mkF m 27 #[.val (.ref o0), .val (.ref o1), .val (.int (0 : Int32)), .val (.ref b3), .val (.int (7 : Int32)), .val (.int z7), .val (.int (7 : Int32))] [])) (fun t k => ?_) ?_
  · show Steps p.tables e below (T115.setTop (mkF m 23 #[.val (.ref o0), .val (.ref o1), .val (.int (0 : Int32)), .val (.ref b3), .val (.int (7 : Int32)), .val (.int z7), .val (.int (7 : Int32))] [(.ref o1), (.int (7 : Int32))])) _
    refine X115.arraylength hx (by rw [e115]; exact Arcl124.1) (State.isArrayOf_alike hZ.alike Arcl124.2.1) (g := (mkF m 23 #[.val (.ref o0), .val (.ref o1), .val (.int (0 : Int32)), .val (.ref b3), .val (.int (7 : Int32)), .val (.int z7), .val (.int (7 : Int32))] [(.ref o1), (.int (7 : Int32))])) rfl rfl (hb hby d2_23) _ ?_
    rw [len_of Scl124 Mcl124]
    show Steps p.tables e below (T115.setTop (mkF m 24 #[.val (.ref o0), .val (.ref o1), .val (.int (0 : Int32)), .val (.ref b3), .val (.int (7 : Int32)), .val (.int z7), .val (.int (7 : Int32))] [(.int (8 : Int32)), (.int (7 : Int32))])) _
    refine XS.icmpNo X115.here hx rfl (hb hby d2_24) rfl (tlt (by decide)).2.1 ?_
    show Steps p.tables e below (T115.setTop (mkF m 27 #[.val (.ref o0), .val (.ref o1), .val (.int (0 : Int32)), .val (.ref b3), .val (.int (7 : Int32)), .val (.int z7), .val (.int (7 : Int32))] [])) _
    exact k
  obtain ⟨cl126, Arcl126, qcl126, Scl126, Mcl126, Hcl126, Gcl126⟩ := id V122
  refine own_step (T' := T115) (g' := (mkF m 30 #[.val (.ref o0), .val (.ref o1), .val (.int (0 : Int32)), .val (.ref b3), .val (.int (7 : Int32)), .val (.int z7), .val (.int (7 : Int32))] [(.int (2 : Int32)), (.int z7)])) (fun t k => ?_) ?_
  · show Steps p.tables e below (T115.setTop (mkF m 27 #[.val (.ref o0), .val (.ref o1), .val (.int (0 : Int32)), .val (.ref b3), .val (.int (7 : Int32)), .val (.int z7), .val (.int (7 : Int32))] [])) _
    refine XS.iload X115.here hx rfl (hb hby d2_27) rfl ?_
    show Steps p.tables e below (T115.setTop (mkF m 29 #[.val (.ref o0), .val (.ref o1), .val (.int (0 : Int32)), .val (.ref b3), .val (.int (7 : Int32)), .val (.int z7), .val (.int (7 : Int32))] [(.int z7)])) _
    refine XS.iconst X115.here hx rfl (hb hby d2_29) ?_
    show Steps p.tables e below (T115.setTop (mkF m 30 #[.val (.ref o0), .val (.ref o1), .val (.int (0 : Int32)), .val (.ref b3), .val (.int (7 : Int32)), .val (.int z7), .val (.int (7 : Int32))] [(.int (2 : Int32)), (.int z7)])) _
    exact k
  refine own_step (T' := T115) (g' := (mkF m 47 #[.val (.ref o0), .val (.ref o1), .val (.int (0 : Int32)), .val (.ref b3), .val (.int (7 : Int32)), .val (.int z7), .val (.int (7 : Int32))] [])) (fun t k => ?_) ?_
  · show Steps p.tables e below (T115.setTop (mkF m 30 #[.val (.ref o0), .val (.ref o1), .val (.int (0 : Int32)), .val (.ref b3), .val (.int (7 : Int32)), .val (.int z7), .val (.int (7 : Int32))] [(.int (2 : Int32)), (.int z7)])) _
    by_cases hq : z7 < (2 : Int32)
    · skip
      refine XS.icmpYes X115.here hx rfl (pc0 := 30) (pc' := 47) rfl (hb hby d2_30) rfl (tlt hq).1 (by decide) (by decide) ?_
      show Steps p.tables e below (T115.setTop (mkF m 47 #[.val (.ref o0), .val (.ref o1), .val (.int (0 : Int32)), .val (.ref b3), .val (.int (7 : Int32)), .val (.int z7), .val (.int (7 : Int32))] [])) _
      exact k
    · skip
      refine XS.icmpNo X115.here hx rfl (hb hby d2_30) rfl (flt hq).1 ?_
      show Steps p.tables e below (T115.setTop (mkF m 33 #[.val (.ref o0), .val (.ref o1), .val (.int (0 : Int32)), .val (.ref b3), .val (.int (7 : Int32)), .val (.int z7), .val (.int (7 : Int32))] [])) _
      refine XS.aloadN X115.here hx rfl (hb hby d2_33) rfl rfl ?_
      show Steps p.tables e below (T115.setTop (mkF m 34 #[.val (.ref o0), .val (.ref o1), .val (.int (0 : Int32)), .val (.ref b3), .val (.int (7 : Int32)), .val (.int z7), .val (.int (7 : Int32))] [(.ref o1)])) _
      refine XS.iload X115.here hx rfl (hb hby d2_34) rfl ?_
      show Steps p.tables e below (T115.setTop (mkF m 36 #[.val (.ref o0), .val (.ref o1), .val (.int (0 : Int32)), .val (.ref b3), .val (.int (7 : Int32)), .val (.int z7), .val (.int (7 : Int32))] [(.int (7 : Int32)), (.ref o1)])) _
      refine X115.baloadBytes hx (j := (7 : Int32)) (v := (.int u7)) (by rw [e115]; exact Arcl126.1) (State.isArrayOf_alike hZ.alike Arcl126.2.1) Arcl126.2.2 (inb_of Scl126 ⟨by decide, by decide⟩) (Hcl126.at (inb_of Scl126 ⟨by decide, by decide⟩) rfl) (g := (mkF m 36 #[.val (.ref o0), .val (.ref o1), .val (.int (0 : Int32)), .val (.ref b3), .val (.int (7 : Int32)), .val (.int z7), .val (.int (7 : Int32))] [(.int (7 : Int32)), (.ref o1)])) rfl rfl (hb hby d2_36) _ ?_
      show Steps p.tables e below (T115.setTop (mkF m 37 #[.val (.ref o0), .val (.ref o1), .val (.int (0 : Int32)), .val (.ref b3), .val (.int (7 : Int32)), .val (.int z7), .val (.int (7 : Int32))] [(.int u7)])) _
      refine XS.iconst X115.here hx rfl (hb hby d2_37) ?_
      show Steps p.tables e below (T115.setTop (mkF m 38 #[.val (.ref o0), .val (.ref o1), .val (.int (0 : Int32)), .val (.ref b3), .val (.int (7 : Int32)), .val (.int z7), .val (.int (7 : Int32))] [(.int (3 : Int32)), (.int u7)])) _
      refine XS.icmpYes X115.here hx rfl (pc0 := 38) (pc' := 47) rfl (hb hby d2_38) rfl (feq (own_zB e_z6 e_z7 hq hno7)).2 (by decide) (by decide) ?_
      show Steps p.tables e below (T115.setTop (mkF m 47 #[.val (.ref o0), .val (.ref o1), .val (.int (0 : Int32)), .val (.ref b3), .val (.int (7 : Int32)), .val (.int z7), .val (.int (7 : Int32))] [])) _
      exact k
  show own_Run p e below s _ _ _ T115 (mkF m 47 #[.val (.ref o0), .val (.ref o1), .val (.int (0 : Int32)), .val (.ref b3), .val (.int (7 : Int32)), .val (.int z7), .val (.int (7 : Int32))] [])
  refine own_step (T' := T115) (g' := (mkF m 51 #[.val (.ref o0), .val (.ref o1), .val (.int (0 : Int32)), .val (.ref b3), .val (.int (7 : Int32)), .val (.int z7), .val (.int (7 : Int32))] [(.int u7)])) (fun t k => ?_) ?_
  · show Steps p.tables e below (T115.setTop (mkF m 47 #[.val (.ref o0), .val (.ref o1), .val (.int (0 : Int32)), .val (.ref b3), .val (.int (7 : Int32)), .val (.int z7), .val (.int (7 : Int32))] [])) _
    refine XS.aloadN X115.here hx rfl (hb hby d2_47) rfl rfl ?_
    show Steps p.tables e below (T115.setTop (mkF m 48 #[.val (.ref o0), .val (.ref o1), .val (.int (0 : Int32)), .val (.ref b3), .val (.int (7 : Int32)), .val (.int z7), .val (.int (7 : Int32))] [(.ref o1)])) _
    refine XS.iload X115.here hx rfl (hb hby d2_48) rfl ?_
    show Steps p.tables e below (T115.setTop (mkF m 50 #[.val (.ref o0), .val (.ref o1), .val (.int (0 : Int32)), .val (.ref b3), .val (.int (7 : Int32)), .val (.int z7), .val (.int (7 : Int32))] [(.int (7 : Int32)), (.ref o1)])) _
    refine X115.baloadBytes hx (j := (7 : Int32)) (v := (.int u7)) (by rw [e115]; exact Arcl126.1) (State.isArrayOf_alike hZ.alike Arcl126.2.1) Arcl126.2.2 (inb_of Scl126 ⟨by decide, by decide⟩) (Hcl126.at (inb_of Scl126 ⟨by decide, by decide⟩) rfl) (g := (mkF m 50 #[.val (.ref o0), .val (.ref o1), .val (.int (0 : Int32)), .val (.ref b3), .val (.int (7 : Int32)), .val (.int z7), .val (.int (7 : Int32))] [(.int (7 : Int32)), (.ref o1)])) rfl rfl (hb hby d2_50) _ ?_
    show Steps p.tables e below (T115.setTop (mkF m 51 #[.val (.ref o0), .val (.ref o1), .val (.int (0 : Int32)), .val (.ref b3), .val (.int (7 : Int32)), .val (.int z7), .val (.int (7 : Int32))] [(.int u7)])) _
    exact k
  refine own_step (T' := T115) (g' := (mkF m 62 #[.val (.ref o0), .val (.ref o1), .val (.int (0 : Int32)), .val (.ref b3), .val (.int (7 : Int32)), .val (.int z7), .val (.int (7 : Int32))] [(.int (own_pick (u7 = (0 : Int32)) (z7 + (1 : Int32)) (0 : Int32)))])) (fun t k => ?_) ?_
  · show Steps p.tables e below (T115.setTop (mkF m 51 #[.val (.ref o0), .val (.ref o1), .val (.int (0 : Int32)), .val (.ref b3), .val (.int (7 : Int32)), .val (.int z7), .val (.int (7 : Int32))] [(.int u7)])) _
    by_cases hq : u7 = (0 : Int32)
    · simp only [own_pick_pos hq, own_pickJ_pos hq] at k
      refine XS.ifNo X115.here hx rfl (hb hby d2_51) rfl ((if0 _ _).trans (teq hq).2) ?_
      show Steps p.tables e below (T115.setTop (mkF m 54 #[.val (.ref o0), .val (.ref o1), .val (.int (0 : Int32)), .val (.ref b3), .val (.int (7 : Int32)), .val (.int z7), .val (.int (7 : Int32))] [])) _
      refine XS.iload X115.here hx rfl (hb hby d2_54) rfl ?_
      show Steps p.tables e below (T115.setTop (mkF m 56 #[.val (.ref o0), .val (.ref o1), .val (.int (0 : Int32)), .val (.ref b3), .val (.int (7 : Int32)), .val (.int z7), .val (.int (7 : Int32))] [(.int z7)])) _
      refine XS.iconst X115.here hx rfl (hb hby d2_56) ?_
      show Steps p.tables e below (T115.setTop (mkF m 57 #[.val (.ref o0), .val (.ref o1), .val (.int (0 : Int32)), .val (.ref b3), .val (.int (7 : Int32)), .val (.int z7), .val (.int (7 : Int32))] [(.int (1 : Int32)), (.int z7)])) _
      refine XS.iadd X115.here hx rfl (hb hby d2_57) rfl ?_
      show Steps p.tables e below (T115.setTop (mkF m 58 #[.val (.ref o0), .val (.ref o1), .val (.int (0 : Int32)), .val (.ref b3), .val (.int (7 : Int32)), .val (.int z7), .val (.int (7 : Int32))] [(.int (z7 + (1 : Int32)))])) _
      refine XS.goto X115.here hx rfl (pc0 := 58) (pc' := 62) rfl (hb hby d2_58) (by decide) (by decide) ?_
      show Steps p.tables e below (T115.setTop (mkF m 62 #[.val (.ref o0), .val (.ref o1), .val (.int (0 : Int32)), .val (.ref b3), .val (.int (7 : Int32)), .val (.int z7), .val (.int (7 : Int32))] [(.int (z7 + (1 : Int32)))])) _
      exact k
    · simp only [own_pick_neg hq, own_pickJ_neg hq] at k
      refine XS.ifYes X115.here hx rfl (pc0 := 51) (pc' := 61) rfl (hb hby d2_51) rfl ((if0 _ _).trans (feq hq).2) (by decide) (by decide) ?_
      show Steps p.tables e below (T115.setTop (mkF m 61 #[.val (.ref o0), .val (.ref o1), .val (.int (0 : Int32)), .val (.ref b3), .val (.int (7 : Int32)), .val (.int z7), .val (.int (7 : Int32))] [])) _
      refine XS.iconst X115.here hx rfl (hb hby d2_61) ?_
      show Steps p.tables e below (T115.setTop (mkF m 62 #[.val (.ref o0), .val (.ref o1), .val (.int (0 : Int32)), .val (.ref b3), .val (.int (7 : Int32)), .val (.int z7), .val (.int (7 : Int32))] [(.int (0 : Int32))])) _
      exact k
  show own_Run p e below s _ _ _ T115 (mkF m 62 #[.val (.ref o0), .val (.ref o1), .val (.int (0 : Int32)), .val (.ref b3), .val (.int (7 : Int32)), .val (.int z7), .val (.int (7 : Int32))] [(.int (own_pick (u7 = (0 : Int32)) (z7 + (1 : Int32)) (0 : Int32)))])
  refine own_step (T' := T115) (g' := (mkF m 64 #[.val (.ref o0), .val (.ref o1), .val (.int (0 : Int32)), .val (.ref b3), .val (.int (7 : Int32)), .val (.int (own_pick (u7 = (0 : Int32)) (z7 + (1 : Int32)) (0 : Int32))), .val (.int (7 : Int32))] [])) (fun t k => ?_) ?_
  · show Steps p.tables e below (T115.setTop (mkF m 62 #[.val (.ref o0), .val (.ref o1), .val (.int (0 : Int32)), .val (.ref b3), .val (.int (7 : Int32)), .val (.int z7), .val (.int (7 : Int32))] [(.int (own_pick (u7 = (0 : Int32)) (z7 + (1 : Int32)) (0 : Int32)))])) _
    refine XS.istore X115.here hx rfl (hb hby d2_62) rfl (l' := #[.val (.ref o0), .val (.ref o1), .val (.int (0 : Int32)), .val (.ref b3), .val (.int (7 : Int32)), .val (.int (own_pick (u7 = (0 : Int32)) (z7 + (1 : Int32)) (0 : Int32))), .val (.int (7 : Int32))]) rfl ?_
    show Steps p.tables e below (T115.setTop (mkF m 64 #[.val (.ref o0), .val (.ref o1), .val (.int (0 : Int32)), .val (.ref b3), .val (.int (7 : Int32)), .val (.int (own_pick (u7 = (0 : Int32)) (z7 + (1 : Int32)) (0 : Int32))), .val (.int (7 : Int32))] [])) _
    exact k
  generalize e_z8 : (own_pick (u7 = (0 : Int32)) (z7 + (1 : Int32)) (0 : Int32)) = z8
  show own_Run p e below s _ _ _ T115 (mkF m 64 #[.val (.ref o0), .val (.ref o1), .val (.int (0 : Int32)), .val (.ref b3), .val (.int (7 : Int32)), .val (.int z8), .val (.int (7 : Int32))] [])
  refine own_step (T' := T115) (g' := (mkF m 74 #[.val (.ref o0), .val (.ref o1), .val (.int (0 : Int32)), .val (.ref b3), .val (.int (8 : Int32)), .val (.int z8), .val (.int (7 : Int32))] [(.int u7), (.int (7 : Int32)), (.ref b3)])) (fun t k => ?_) ?_
  · show Steps p.tables e below (T115.setTop (mkF m 64 #[.val (.ref o0), .val (.ref o1), .val (.int (0 : Int32)), .val (.ref b3), .val (.int (7 : Int32)), .val (.int z8), .val (.int (7 : Int32))] [])) _
    refine XS.aloadN X115.here hx rfl (hb hby d2_64) rfl rfl ?_
    show Steps p.tables e below (T115.setTop (mkF m 65 #[.val (.ref o0), .val (.ref o1), .val (.int (0 : Int32)), .val (.ref b3), .val (.int (7 : Int32)), .val (.int z8), .val (.int (7 : Int32))] [(.ref b3)])) _
    refine XS.iload X115.here hx rfl (hb hby d2_65) rfl ?_
    show Steps p.tables e below (T115.setTop (mkF m 67 #[.val (.ref o0), .val (.ref o1), .val (.int (0 : Int32)), .val (.ref b3), .val (.int (7 : Int32)), .val (.int z8), .val (.int (7 : Int32))] [(.int (7 : Int32)), (.ref b3)])) _
    refine XS.iinc X115.here hx rfl (hb hby d2_67) rfl (l' := #[.val (.ref o0), .val (.ref o1), .val (.int (0 : Int32)), .val (.ref b3), .val (.int (8 : Int32)), .val (.int z8), .val (.int (7 : Int32))]) rfl ?_
    show Steps p.tables e below (T115.setTop (mkF m 70 #[.val (.ref o0), .val (.ref o1), .val (.int (0 : Int32)), .val (.ref b3), .val (.int (8 : Int32)), .val (.int z8), .val (.int (7 : Int32))] [(.int (7 : Int32)), (.ref b3)])) _
    refine XS.aloadN X115.here hx rfl (hb hby d2_70) rfl rfl ?_
    show Steps p.tables e below (T115.setTop (mkF m 71 #[.val (.ref o0), .val (.ref o1), .val (.int (0 : Int32)), .val (.ref b3), .val (.int (8 : Int32)), .val (.int z8), .val (.int (7 : Int32))] [(.ref o1), (.int (7 : Int32)), (.ref b3)])) _
    refine XS.iload X115.here hx rfl (hb hby d2_71) rfl ?_
    show Steps p.tables e below (T115.setTop (mkF m 73 #[.val (.ref o0), .val (.ref o1), .val (.int (0 : Int32)), .val (.ref b3), .val (.int (8 : Int32)), .val (.int z8), .val (.int (7 : Int32))] [(.int (7 : Int32)), (.ref o1), (.int (7 : Int32)), (.ref b3)])) _
    refine X115.baloadBytes hx (j := (7 : Int32)) (v := (.int u7)) (by rw [e115]; exact Arcl126.1) (State.isArrayOf_alike hZ.alike Arcl126.2.1) Arcl126.2.2 (inb_of Scl126 ⟨by decide, by decide⟩) (Hcl126.at (inb_of Scl126 ⟨by decide, by decide⟩) rfl) (g := (mkF m 73 #[.val (.ref o0), .val (.ref o1), .val (.int (0 : Int32)), .val (.ref b3), .val (.int (8 : Int32)), .val (.int z8), .val (.int (7 : Int32))] [(.int (7 : Int32)), (.ref o1), (.int (7 : Int32)), (.ref b3)])) rfl rfl (hb hby d2_73) _ ?_
    show Steps p.tables e below (T115.setTop (mkF m 74 #[.val (.ref o0), .val (.ref o1), .val (.int (0 : Int32)), .val (.ref b3), .val (.int (8 : Int32)), .val (.int z8), .val (.int (7 : Int32))] [(.int u7), (.int (7 : Int32)), (.ref b3)])) _
    exact k
  obtain ⟨cl130, Arcl130, qcl130, Scl130, Mcl130, Hcl130, Gcl130⟩ := V116l
  have hincl130 : ¬ ((7 : Int32) < 0 ∨ cl130.slots.size ≤ ((7 : Int32)).toNatClampNeg) := inb_of Scl130 ⟨by decide, by decide⟩
  obtain ⟨T131, h131, X131, e131, W131, st131⟩ := stB X115 hx hZ e115 Arcl130 (j := (7 : Int32)) hincl130 (g := (mkF m 74 #[.val (.ref o0), .val (.ref o1), .val (.int (0 : Int32)), .val (.ref b3), .val (.int (8 : Int32)), .val (.int z8), .val (.int (7 : Int32))] [(.int u7), (.int (7 : Int32)), (.ref b3)])) rfl rfl (hb hby d2_74)
  have V132 := Arv.set Arcl130 qcl130 Scl130 Mcl130 Hcl130 Gcl130 (fits_nar_byte _) W131 7 rfl (Nat.le_of_ble_eq_true rfl)
  have V132l : Arv Z h131 b3 k3 .byte (8 : Int32) [(.int (nar .byte u0)), (.int (nar .byte u1)), (.int (nar .byte u2)), (.int (nar .byte u3)), (.int (nar .byte u4)), (.int (nar .byte u5)), (.int (nar .byte u6)), (.int (nar .byte u7))] (.int (0 : Int32)) := V132
  have F133 := F117.other W131 (Or.inl ne4)
  have F134 := F118.other W131 (Or.inl ne4)
  have F135 := F119.other W131 (Or.inl ne4)
  have A136 := A120.wr W131
  have A137 := A121.wr W131
  have V138 := V122.other W131 ne5
  have Z139 := Nat.le_trans Z123 (Keep.of_wr W131).1
  have K131 := K115.wr W131 (Or.inr sz_b3)
  have N131 := Fr.snoc X131 N115 g_b3
  refine own_step st131 ?_
  show own_Run p e below s _ _ _ T131 (mkF m 75 #[.val (.ref o0), .val (.ref o1), .val (.int (0 : Int32)), .val (.ref b3), .val (.int (8 : Int32)), .val (.int z8), .val (.int (7 : Int32))] [])
  refine own_step (T' := T131) (g' := (mkF m 23 #[.val (.ref o0), .val (.ref o1), .val (.int (0 : Int32)), .val (.ref b3), .val (.int (8 : Int32)), .val (.int z8), .val (.int (8 : Int32))] [(.ref o1), (.int (8 : Int32))])) (fun t k => ?_) ?_
  · show Steps p.tables e below (T131.setTop (mkF m 75 #[.val (.ref o0), .val (.ref o1), .val (.int (0 : Int32)), .val (.ref b3), .val (.int (8 : Int32)), .val (.int z8), .val (.int (7 : Int32))] [])) _
    refine XS.iinc X131.here hx rfl (hb hby d2_75) rfl (l' := #[.val (.ref o0), .val (.ref o1), .val (.int (0 : Int32)), .val (.ref b3), .val (.int (8 : Int32)), .val (.int z8), .val (.int (8 : Int32))]) rfl ?_
    show Steps p.tables e below (T131.setTop (mkF m 78 #[.val (.ref o0), .val (.ref o1), .val (.int (0 : Int32)), .val (.ref b3), .val (.int (8 : Int32)), .val (.int z8), .val (.int (8 : Int32))] [])) _
    refine XS.goto X131.here hx rfl (pc0 := 78) (pc' := 20) rfl (hb hby d2_78) (by decide) (by decide) ?_
    show Steps p.tables e below (T131.setTop (mkF m 20 #[.val (.ref o0), .val (.ref o1), .val (.int (0 : Int32)), .val (.ref b3), .val (.int (8 : Int32)), .val (.int z8), .val (.int (8 : Int32))] [])) _
    refine XS.iload X131.here hx rfl (hb hby d2_20) rfl ?_
    show Steps p.tables e below (T131.setTop (mkF m 22 #[.val (.ref o0), .val (.ref o1), .val (.int (0 : Int32)), .val (.ref b3), .val (.int (8 : Int32)), .val (.int z8), .val (.int (8 : Int32))] [(.int (8 : Int32))])) _
    refine XS.aloadN X131.here hx rfl (hb hby d2_22) rfl rfl ?_
    show Steps p.tables e below (T131.setTop (mkF m 23 #[.val (.ref o0), .val (.ref o1), .val (.int (0 : Int32)), .val (.ref b3), .val (.int (8 : Int32)), .val (.int z8), .val (.int (8 : Int32))] [(.ref o1), (.int (8 : Int32))])) _
    exact k
  obtain ⟨cl140, Arcl140, -, Scl140, Mcl140, -, -⟩ := id V138
  refine own_step (T' := T131) (g' := (mkF m 85 #[.val (.ref o0), .val (.ref o1), .val (.int (0 : Int32)), .val (.ref b3), .val (.int (8 : Int32)), .val (.int z8), .val (.int (8 : Int32))] [(.int (8 : Int32)), (.ref b3), (.ref o0)])) (fun t k => ?_) ?_
  · show Steps p.tables e below (T131.setTop (mkF m 23 #[.val (.ref o0), .val (.ref o1), .val (.int (0 : Int32)), .val (.ref b3), .val (.int (8 : Int32)), .val (.int z8), .val (.int (8 : Int32))] [(.ref o1), (.int (8 : Int32))])) _
    refine X131.arraylength hx (by rw [e131]; exact Arcl140.1) (State.isArrayOf_alike hZ.alike Arcl140.2.1) (g := (mkF m 23 #[.val (.ref o0), .val (.ref o1), .val (.int (0 : Int32)), .val (.ref b3), .val (.int (8 : Int32)), .val (.int z8), .val (.int (8 : Int32))] [(.ref o1), (.int (8 : Int32))])) rfl rfl (hb hby d2_23) _ ?_
    rw [len_of Scl140 Mcl140]
    show Steps p.tables e below (T131.setTop (mkF m 24 #[.val (.ref o0), .val (.ref o1), .val (.int (0 : Int32)), .val (.ref b3), .val (.int (8 : Int32)), .val (.int z8), .val (.int (8 : Int32))] [(.int (8 : Int32)), (.int (8 : Int32))])) _
    refine XS.icmpYes X131.here hx rfl (pc0 := 24) (pc' := 81) rfl (hb hby d2_24) rfl (flt (by decide)).2.1 (by decide) (by decide) ?_
    show Steps p.tables e below (T131.setTop (mkF m 81 #[.val (.ref o0), .val (.ref o1), .val (.int (0 : Int32)), .val (.ref b3), .val (.int (8 : Int32)), .val (.int z8), .val (.int (8 : Int32))] [])) _
    refine XS.aloadN X131.here hx rfl (hb hby d2_81) rfl rfl ?_
    show Steps p.tables e below (T131.setTop (mkF m 82 #[.val (.ref o0), .val (.ref o1), .val (.int (0 : Int32)), .val (.ref b3), .val (.int (8 : Int32)), .val (.int z8), .val (.int (8 : Int32))] [(.ref o0)])) _
    refine XS.aloadN X131.here hx rfl (hb hby d2_82) rfl rfl ?_
    show Steps p.tables e below (T131.setTop (mkF m 83 #[.val (.ref o0), .val (.ref o1), .val (.int (0 : Int32)), .val (.ref b3), .val (.int (8 : Int32)), .val (.int z8), .val (.int (8 : Int32))] [(.ref b3), (.ref o0)])) _
    refine XS.iload X131.here hx rfl (hb hby d2_83) rfl ?_
    show Steps p.tables e below (T131.setTop (mkF m 85 #[.val (.ref o0), .val (.ref o1), .val (.int (0 : Int32)), .val (.ref b3), .val (.int (8 : Int32)), .val (.int z8), .val (.int (8 : Int32))] [(.int (8 : Int32)), (.ref b3), (.ref o0)])) _
    exact k
  obtain ⟨_, _, ⟨T142, L142, k142, n142⟩, -, X142, ⟨Lc142, hQ142, l142, y142, z142⟩, st142⟩ := Jvm.LawKit.callS X131 hx (y := (⟨"java/util/Arrays", "copyOf", "([BI)[B"⟩ : MethodName)) hown (mvT hZ (hw _ (List.mem_of_getElem? (i := 18) rfl))) (mvT hZ (hw _ (List.mem_of_getElem? (i := 19) rfl))) (mvT hZ (hw _ (List.mem_of_getElem? (i := 20) rfl))) (mvT hZ (hw _ (List.mem_of_getElem? (i := 21) rfl))) (by decide) (backOf (W := 1) (rm4 l Z a0 hw [] b3 k3 [(.int (nar .byte u0)), (.int (nar .byte u1)), (.int (nar .byte u2)), (.int (nar .byte u3)), (.int (nar .byte u4)), (.int (nar .byte u5)), (.int (nar .byte u6)), (.int (nar .byte u7))] h131 n0 Z139 V132l A137) hZ (hw _ (List.mem_of_getElem? (i := 21) rfl)) (hw _ (List.mem_of_getElem? (i := 20) rfl)) (by decide) (by decide)) (g := (mkF m 85 #[.val (.ref o0), .val (.ref o1), .val (.int (0 : Int32)), .val (.ref b3), .val (.int (8 : Int32)), .val (.int z8), .val (.int (8 : Int32))] [(.int (8 : Int32)), (.ref b3), (.ref o0)])) rfl (by rw [hml]; rfl) (argsL := [(.ref b3), (.int (8 : Int32))]) (rest := [(.ref o0)]) (lenOf pd_0 rfl) rfl (by show 2 * 0 + _ ≤ _; exact Nat.le_of_eq rfl) (hb hby d2_85) (fun _ _ => ⟨rfl, e131, (by decide : 1 + 1 ≤ _), (by decide : 8 + 8 ≤ _)⟩)
  dsimp only [Pt.U, Pt.locs, Pt.cells, Pt.slots] at X142 l142 y142 z142 st142 hQ142
  subst l142 y142 z142
  obtain ⟨cp142, rfl, N142q, g142, Kq142, Vc142, Ac142⟩ := hQ142
  have N142 := Fr.app N131 N142q
  refine own_step st142 ?_
  show own_Run p e below s _ _ _ T142 (mkF m 88 #[.val (.ref o0), .val (.ref o1), .val (.int (0 : Int32)), .val (.ref b3), .val (.int (8 : Int32)), .val (.int z8), .val (.int (8 : Int32))] [(.ref cp142), (.ref o0)])
  have ne143 : o0 ≠ cp142 := Nat.ne_of_lt (Nat.lt_of_lt_of_le F133.lt (Nat.le_of_eq g142.symm))
  have ne144 : o1 ≠ cp142 := Nat.ne_of_lt (Nat.lt_of_lt_of_le V138.lt (Nat.le_of_eq g142.symm))
  have ne145 : b3 ≠ cp142 := Nat.ne_of_lt (Nat.lt_of_lt_of_le V132l.lt (Nat.le_of_eq g142.symm))
  have sz_cp142 : h0.size ≤ cp142 := Nat.le_trans K131.1 (Nat.le_of_eq g142.symm)
  have K146 := K131.trans Kq142 all0
  have F147 := F133.keep Kq142 nin0
  have F148 := F134.keep Kq142 nin0
  have F149 := F135.keep Kq142 nin0
  have A150 := A136.keep Kq142
  have A151 := A137.keep Kq142
  have V152 := V138.keep Kq142 nin0
  have V153 := V132l.keep Kq142 nin0
  have Z154 := Nat.le_trans Z139 Kq142.1
  obtain ⟨T155, h155, X155, e155, W155, st155⟩ := putF X142 hx hZ hown (host := "") (Or.inl (hw _ (List.mem_of_getElem? (i := 31) rfl))) Via.refl rfl F147 A150 (Or.inr ⟨(hw _ (List.mem_of_getElem? (i := 32) rfl)), rfl, hnm⟩) (hw _ (List.mem_of_getElem? (i := 10) rfl)) (ty := (.array .byte)) (by decide) rfl rfl (g := (mkF m 88 #[.val (.ref o0), .val (.ref o1), .val (.int (0 : Int32)), .val (.ref b3), .val (.int (8 : Int32)), .val (.int z8), .val (.int (8 : Int32))] [(.ref cp142), (.ref o0)])) rfl rfl (hb hby d2_88)
  have F156 := F147.same W155
  have F157 := F148.other W155 (Or.inr (slot_ne (Or.inr (hw _ (List.mem_of_getElem? (i := 38) rfl))) (Or.inr (hw _ (List.mem_of_getElem? (i := 32) rfl))) (by decide) (t := .int) (t' := (.array .byte)) (by decide) (by decide)))
  have F158 := F149.other W155 (Or.inr (slot_ne (Or.inl (hw _ (List.mem_of_getElem? (i := 45) rfl))) (Or.inr (hw _ (List.mem_of_getElem? (i := 32) rfl))) (by decide) (t := .int) (t' := (.array .byte)) (by decide) (by decide)))
  have A159 := A150.wr W155
  have A160 := A151.wr W155
  have A161 := Ac142.wr W155
  have V162 := V152.other W155 ne10
  have V163 := V153.other W155 (Ne.symm ne4)
  have V164 := Vc142.other W155 (Ne.symm ne143)
  have Z165 := Nat.le_trans Z154 (Keep.of_wr W155).1
  have K155 := K146.wr W155 (Or.inl (List.mem_of_getElem? (i := 0) rfl))
  have N155 := Fr.snoc X155 N142 g_o0
  refine own_step st155 ?_
  show own_Run p e below s _ _ _ T155 (mkF m 91 #[.val (.ref o0), .val (.ref o1), .val (.int (0 : Int32)), .val (.ref b3), .val (.int (8 : Int32)), .val (.int z8), .val (.int (8 : Int32))] [])
  refine own_step (T' := T155) (g' := (mkF m 105 #[.val (.ref o0), .val (.ref o1), .val (.int (0 : Int32)), .val (.ref b3), .val (.int (8 : Int32)), .val (.int z8), .val (.int (7 : Int32))] [(.int (7 : Int32)), (.ref b3)])) (fun t k => ?_) ?_
  · show Steps p.tables e below (T155.setTop (mkF m 91 #[.val (.ref o0), .val (.ref o1), .val (.int (0 : Int32)), .val (.ref b3), .val (.int (8 : Int32)), .val (.int z8), .val (.int (8 : Int32))] [])) _
    refine XS.iload X155.here hx rfl (hb hby d2_91) rfl ?_
    show Steps p.tables e below (T155.setTop (mkF m 93 #[.val (.ref o0), .val (.ref o1), .val (.int (0 : Int32)), .val (.ref b3), .val (.int (8 : Int32)), .val (.int z8), .val (.int (8 : Int32))] [(.int (8 : Int32))])) _
    refine XS.iconst X155.here hx rfl (hb hby d2_93) ?_
    show Steps p.tables e below (T155.setTop (mkF m 94 #[.val (.ref o0), .val (.ref o1), .val (.int (0 : Int32)), .val (.ref b3), .val (.int (8 : Int32)), .val (.int z8), .val (.int (8 : Int32))] [(.int (1 : Int32)), (.int (8 : Int32))])) _
    refine XS.isub X155.here hx rfl (hb hby d2_94) rfl ?_
    show Steps p.tables e below (T155.setTop (mkF m 95 #[.val (.ref o0), .val (.ref o1), .val (.int (0 : Int32)), .val (.ref b3), .val (.int (8 : Int32)), .val (.int z8), .val (.int (8 : Int32))] [(.int (7 : Int32))])) _
    refine XS.istore X155.here hx rfl (hb hby d2_95) rfl (l' := #[.val (.ref o0), .val (.ref o1), .val (.int (0 : Int32)), .val (.ref b3), .val (.int (8 : Int32)), .val (.int z8), .val (.int (7 : Int32))]) rfl ?_
    show Steps p.tables e below (T155.setTop (mkF m 97 #[.val (.ref o0), .val (.ref o1), .val (.int (0 : Int32)), .val (.ref b3), .val (.int (8 : Int32)), .val (.int z8), .val (.int (7 : Int32))] [])) _
    refine XS.iload X155.here hx rfl (hb hby d2_97) rfl ?_
    show Steps p.tables e below (T155.setTop (mkF m 99 #[.val (.ref o0), .val (.ref o1), .val (.int (0 : Int32)), .val (.ref b3), .val (.int (8 : Int32)), .val (.int z8), .val (.int (7 : Int32))] [(.int (7 : Int32))])) _
    refine XS.ifNo X155.here hx rfl (hb hby d2_99) rfl ((if0 _ _).trans (flt (by decide)).1) ?_
    show Steps p.tables e below (T155.setTop (mkF m 102 #[.val (.ref o0), .val (.ref o1), .val (.int (0 : Int32)), .val (.ref b3), .val (.int (8 : Int32)), .val (.int z8), .val (.int (7 : Int32))] [])) _
    refine XS.aloadN X155.here hx rfl (hb hby d2_102) rfl rfl ?_
    show Steps p.tables e below (T155.setTop (mkF m 103 #[.val (.ref o0), .val (.ref o1), .val (.int (0 : Int32)), .val (.ref b3), .val (.int (8 : Int32)), .val (.int z8), .val (.int (7 : Int32))] [(.ref b3)])) _
    refine XS.iload X155.here hx rfl (hb hby d2_103) rfl ?_
    show Steps p.tables e below (T155.setTop (mkF m 105 #[.val (.ref o0), .val (.ref o1), .val (.int (0 : Int32)), .val (.ref b3), .val (.int (8 : Int32)), .val (.int z8), .val (.int (7 : Int32))] [(.int (7 : Int32)), (.ref b3)])) _
    exact k
  obtain ⟨cl167, Arcl167, qcl167, Scl167, Mcl167, Hcl167, Gcl167⟩ := id V163
  have hincl167 : ¬ ((7 : Int32) < 0 ∨ cl167.slots.size ≤ ((7 : Int32)).toNatClampNeg) := inb_of Scl167 ⟨by decide, by decide⟩
  have hatcl167 : cl167.slots[((7 : Int32)).toNatClampNeg]? = some (.int (nar .byte u7)) := Hcl167.at hincl167 rfl
  refine own_step (T' := T155) (g' := (mkF m 106 #[.val (.ref o0), .val (.ref o1), .val (.int (0 : Int32)), .val (.ref b3), .val (.int (8 : Int32)), .val (.int z8), .val (.int (7 : Int32))] [(.int (nar .byte u7))])) (fun t k => ?_) ?_
  · show Steps p.tables e below (T155.setTop (mkF m 105 #[.val (.ref o0), .val (.ref o1), .val (.int (0 : Int32)), .val (.ref b3), .val (.int (8 : Int32)), .val (.int z8), .val (.int (7 : Int32))] [(.int (7 : Int32)), (.ref b3)])) _
    refine X155.baloadBytes hx (j := (7 : Int32)) (v := (.int (nar .byte u7))) (by rw [e155]; exact Arcl167.1) (State.isArrayOf_alike hZ.alike Arcl167.2.1) Arcl167.2.2 hincl167 hatcl167 (g := (mkF m 105 #[.val (.ref o0), .val (.ref o1), .val (.int (0 : Int32)), .val (.ref b3), .val (.int (8 : Int32)), .val (.int z8), .val (.int (7 : Int32))] [(.int (7 : Int32)), (.ref b3)])) rfl rfl (hb hby d2_105) _ ?_
    show Steps p.tables e below (T155.setTop (mkF m 106 #[.val (.ref o0), .val (.ref o1), .val (.int (0 : Int32)), .val (.ref b3), .val (.int (8 : Int32)), .val (.int z8), .val (.int (7 : Int32))] [(.int (nar .byte u7))])) _
    exact k
  by_cases hc168 : (nar .byte u7) = (0 : Int32)
  · skip
    refine own_step (T' := T155) (g' := (mkF m 105 #[.val (.ref o0), .val (.ref o1), .val (.int (0 : Int32)), .val (.ref b3), .val (.int (8 : Int32)), .val (.int z8), .val (.int (6 : Int32))] [(.int (6 : Int32)), (.ref b3)])) (fun t k => ?_) ?_
    · show Steps p.tables e below (T155.setTop (mkF m 106 #[.val (.ref o0), .val (.ref o1), .val (.int (0 : Int32)), .val (.ref b3), .val (.int (8 : Int32)), .val (.int z8), .val (.int (7 : Int32))] [(.int (nar .byte u7))])) _
      refine XS.ifNo X155.here hx rfl (hb hby d2_106) rfl ((if0 _ _).trans (teq hc168).2) ?_
      show Steps p.tables e below (T155.setTop (mkF m 109 #[.val (.ref o0), .val (.ref o1), .val (.int (0 : Int32)), .val (.ref b3), .val (.int (8 : Int32)), .val (.int z8), .val (.int (7 : Int32))] [])) _
      refine XS.iinc X155.here hx rfl (hb hby d2_109) rfl (l' := #[.val (.ref o0), .val (.ref o1), .val (.int (0 : Int32)), .val (.ref b3), .val (.int (8 : Int32)), .val (.int z8), .val (.int (6 : Int32))]) rfl ?_
      show Steps p.tables e below (T155.setTop (mkF m 112 #[.val (.ref o0), .val (.ref o1), .val (.int (0 : Int32)), .val (.ref b3), .val (.int (8 : Int32)), .val (.int z8), .val (.int (6 : Int32))] [])) _
      refine XS.goto X155.here hx rfl (pc0 := 112) (pc' := 97) rfl (hb hby d2_112) (by decide) (by decide) ?_
      show Steps p.tables e below (T155.setTop (mkF m 97 #[.val (.ref o0), .val (.ref o1), .val (.int (0 : Int32)), .val (.ref b3), .val (.int (8 : Int32)), .val (.int z8), .val (.int (6 : Int32))] [])) _
      refine XS.iload X155.here hx rfl (hb hby d2_97) rfl ?_
      show Steps p.tables e below (T155.setTop (mkF m 99 #[.val (.ref o0), .val (.ref o1), .val (.int (0 : Int32)), .val (.ref b3), .val (.int (8 : Int32)), .val (.int z8), .val (.int (6 : Int32))] [(.int (6 : Int32))])) _
      refine XS.ifNo X155.here hx rfl (hb hby d2_99) rfl ((if0 _ _).trans (flt (by decide)).1) ?_
      show Steps p.tables e below (T155.setTop (mkF m 102 #[.val (.ref o0), .val (.ref o1), .val (.int (0 : Int32)), .val (.ref b3), .val (.int (8 : Int32)), .val (.int z8), .val (.int (6 : Int32))] [])) _
      refine XS.aloadN X155.here hx rfl (hb hby d2_102) rfl rfl ?_
      show Steps p.tables e below (T155.setTop (mkF m 103 #[.val (.ref o0), .val (.ref o1), .val (.int (0 : Int32)), .val (.ref b3), .val (.int (8 : Int32)), .val (.int z8), .val (.int (6 : Int32))] [(.ref b3)])) _
      refine XS.iload X155.here hx rfl (hb hby d2_103) rfl ?_
      show Steps p.tables e below (T155.setTop (mkF m 105 #[.val (.ref o0), .val (.ref o1), .val (.int (0 : Int32)), .val (.ref b3), .val (.int (8 : Int32)), .val (.int z8), .val (.int (6 : Int32))] [(.int (6 : Int32)), (.ref b3)])) _
      exact k
    obtain ⟨cl170, Arcl170, qcl170, Scl170, Mcl170, Hcl170, Gcl170⟩ := id V163
    have hincl170 : ¬ ((6 : Int32) < 0 ∨ cl170.slots.size ≤ ((6 : Int32)).toNatClampNeg) := inb_of Scl170 ⟨by decide, by decide⟩
    have hatcl170 : cl170.slots[((6 : Int32)).toNatClampNeg]? = some (.int (nar .byte u6)) := Hcl170.at hincl170 rfl
    refine own_step (T' := T155) (g' := (mkF m 106 #[.val (.ref o0), .val (.ref o1), .val (.int (0 : Int32)), .val (.ref b3), .val (.int (8 : Int32)), .val (.int z8), .val (.int (6 : Int32))] [(.int (nar .byte u6))])) (fun t k => ?_) ?_
    · show Steps p.tables e below (T155.setTop (mkF m 105 #[.val (.ref o0), .val (.ref o1), .val (.int (0 : Int32)), .val (.ref b3), .val (.int (8 : Int32)), .val (.int z8), .val (.int (6 : Int32))] [(.int (6 : Int32)), (.ref b3)])) _
      refine X155.baloadBytes hx (j := (6 : Int32)) (v := (.int (nar .byte u6))) (by rw [e155]; exact Arcl170.1) (State.isArrayOf_alike hZ.alike Arcl170.2.1) Arcl170.2.2 hincl170 hatcl170 (g := (mkF m 105 #[.val (.ref o0), .val (.ref o1), .val (.int (0 : Int32)), .val (.ref b3), .val (.int (8 : Int32)), .val (.int z8), .val (.int (6 : Int32))] [(.int (6 : Int32)), (.ref b3)])) rfl rfl (hb hby d2_105) _ ?_
      show Steps p.tables e below (T155.setTop (mkF m 106 #[.val (.ref o0), .val (.ref o1), .val (.int (0 : Int32)), .val (.ref b3), .val (.int (8 : Int32)), .val (.int z8), .val (.int (6 : Int32))] [(.int (nar .byte u6))])) _
      exact k
    by_cases hc171 : (nar .byte u6) = (0 : Int32)
    · skip
      refine own_step (T' := T155) (g' := (mkF m 105 #[.val (.ref o0), .val (.ref o1), .val (.int (0 : Int32)), .val (.ref b3), .val (.int (8 : Int32)), .val (.int z8), .val (.int (5 : Int32))] [(.int (5 : Int32)), (.ref b3)])) (fun t k => ?_) ?_
      · show Steps p.tables e below (T155.setTop (mkF m 106 #[.val (.ref o0), .val (.ref o1), .val (.int (0 : Int32)), .val (.ref b3), .val (.int (8 : Int32)), .val (.int z8), .val (.int (6 : Int32))] [(.int (nar .byte u6))])) _
        refine XS.ifNo X155.here hx rfl (hb hby d2_106) rfl ((if0 _ _).trans (teq hc171).2) ?_
        show Steps p.tables e below (T155.setTop (mkF m 109 #[.val (.ref o0), .val (.ref o1), .val (.int (0 : Int32)), .val (.ref b3), .val (.int (8 : Int32)), .val (.int z8), .val (.int (6 : Int32))] [])) _
        refine XS.iinc X155.here hx rfl (hb hby d2_109) rfl (l' := #[.val (.ref o0), .val (.ref o1), .val (.int (0 : Int32)), .val (.ref b3), .val (.int (8 : Int32)), .val (.int z8), .val (.int (5 : Int32))]) rfl ?_
        show Steps p.tables e below (T155.setTop (mkF m 112 #[.val (.ref o0), .val (.ref o1), .val (.int (0 : Int32)), .val (.ref b3), .val (.int (8 : Int32)), .val (.int z8), .val (.int (5 : Int32))] [])) _
        refine XS.goto X155.here hx rfl (pc0 := 112) (pc' := 97) rfl (hb hby d2_112) (by decide) (by decide) ?_
        show Steps p.tables e below (T155.setTop (mkF m 97 #[.val (.ref o0), .val (.ref o1), .val (.int (0 : Int32)), .val (.ref b3), .val (.int (8 : Int32)), .val (.int z8), .val (.int (5 : Int32))] [])) _
        refine XS.iload X155.here hx rfl (hb hby d2_97) rfl ?_
        show Steps p.tables e below (T155.setTop (mkF m 99 #[.val (.ref o0), .val (.ref o1), .val (.int (0 : Int32)), .val (.ref b3), .val (.int (8 : Int32)), .val (.int z8), .val (.int (5 : Int32))] [(.int (5 : Int32))])) _
        refine XS.ifNo X155.here hx rfl (hb hby d2_99) rfl ((if0 _ _).trans (flt (by decide)).1) ?_
        show Steps p.tables e below (T155.setTop (mkF m 102 #[.val (.ref o0), .val (.ref o1), .val (.int (0 : Int32)), .val (.ref b3), .val (.int (8 : Int32)), .val (.int z8), .val (.int (5 : Int32))] [])) _
        refine XS.aloadN X155.here hx rfl (hb hby d2_102) rfl rfl ?_
        show Steps p.tables e below (T155.setTop (mkF m 103 #[.val (.ref o0), .val (.ref o1), .val (.int (0 : Int32)), .val (.ref b3), .val (.int (8 : Int32)), .val (.int z8), .val (.int (5 : Int32))] [(.ref b3)])) _
        refine XS.iload X155.here hx rfl (hb hby d2_103) rfl ?_
        show Steps p.tables e below (T155.setTop (mkF m 105 #[.val (.ref o0), .val (.ref o1), .val (.int (0 : Int32)), .val (.ref b3), .val (.int (8 : Int32)), .val (.int z8), .val (.int (5 : Int32))] [(.int (5 : Int32)), (.ref b3)])) _
        exact k
      obtain ⟨cl173, Arcl173, qcl173, Scl173, Mcl173, Hcl173, Gcl173⟩ := id V163
      have hincl173 : ¬ ((5 : Int32) < 0 ∨ cl173.slots.size ≤ ((5 : Int32)).toNatClampNeg) := inb_of Scl173 ⟨by decide, by decide⟩
      have hatcl173 : cl173.slots[((5 : Int32)).toNatClampNeg]? = some (.int (nar .byte u5)) := Hcl173.at hincl173 rfl
      refine own_step (T' := T155) (g' := (mkF m 106 #[.val (.ref o0), .val (.ref o1), .val (.int (0 : Int32)), .val (.ref b3), .val (.int (8 : Int32)), .val (.int z8), .val (.int (5 : Int32))] [(.int (nar .byte u5))])) (fun t k => ?_) ?_
      · show Steps p.tables e below (T155.setTop (mkF m 105 #[.val (.ref o0), .val (.ref o1), .val (.int (0 : Int32)), .val (.ref b3), .val (.int (8 : Int32)), .val (.int z8), .val (.int (5 : Int32))] [(.int (5 : Int32)), (.ref b3)])) _
        refine X155.baloadBytes hx (j := (5 : Int32)) (v := (.int (nar .byte u5))) (by rw [e155]; exact Arcl173.1) (State.isArrayOf_alike hZ.alike Arcl173.2.1) Arcl173.2.2 hincl173 hatcl173 (g := (mkF m 105 #[.val (.ref o0), .val (.ref o1), .val (.int (0 : Int32)), .val (.ref b3), .val (.int (8 : Int32)), .val (.int z8), .val (.int (5 : Int32))] [(.int (5 : Int32)), (.ref b3)])) rfl rfl (hb hby d2_105) _ ?_
        show Steps p.tables e below (T155.setTop (mkF m 106 #[.val (.ref o0), .val (.ref o1), .val (.int (0 : Int32)), .val (.ref b3), .val (.int (8 : Int32)), .val (.int z8), .val (.int (5 : Int32))] [(.int (nar .byte u5))])) _
        exact k
      by_cases hc174 : (nar .byte u5) = (0 : Int32)
      · skip
        refine own_step (T' := T155) (g' := (mkF m 105 #[.val (.ref o0), .val (.ref o1), .val (.int (0 : Int32)), .val (.ref b3), .val (.int (8 : Int32)), .val (.int z8), .val (.int (4 : Int32))] [(.int (4 : Int32)), (.ref b3)])) (fun t k => ?_) ?_
        · show Steps p.tables e below (T155.setTop (mkF m 106 #[.val (.ref o0), .val (.ref o1), .val (.int (0 : Int32)), .val (.ref b3), .val (.int (8 : Int32)), .val (.int z8), .val (.int (5 : Int32))] [(.int (nar .byte u5))])) _
          refine XS.ifNo X155.here hx rfl (hb hby d2_106) rfl ((if0 _ _).trans (teq hc174).2) ?_
          show Steps p.tables e below (T155.setTop (mkF m 109 #[.val (.ref o0), .val (.ref o1), .val (.int (0 : Int32)), .val (.ref b3), .val (.int (8 : Int32)), .val (.int z8), .val (.int (5 : Int32))] [])) _
          refine XS.iinc X155.here hx rfl (hb hby d2_109) rfl (l' := #[.val (.ref o0), .val (.ref o1), .val (.int (0 : Int32)), .val (.ref b3), .val (.int (8 : Int32)), .val (.int z8), .val (.int (4 : Int32))]) rfl ?_
          show Steps p.tables e below (T155.setTop (mkF m 112 #[.val (.ref o0), .val (.ref o1), .val (.int (0 : Int32)), .val (.ref b3), .val (.int (8 : Int32)), .val (.int z8), .val (.int (4 : Int32))] [])) _
          refine XS.goto X155.here hx rfl (pc0 := 112) (pc' := 97) rfl (hb hby d2_112) (by decide) (by decide) ?_
          show Steps p.tables e below (T155.setTop (mkF m 97 #[.val (.ref o0), .val (.ref o1), .val (.int (0 : Int32)), .val (.ref b3), .val (.int (8 : Int32)), .val (.int z8), .val (.int (4 : Int32))] [])) _
          refine XS.iload X155.here hx rfl (hb hby d2_97) rfl ?_
          show Steps p.tables e below (T155.setTop (mkF m 99 #[.val (.ref o0), .val (.ref o1), .val (.int (0 : Int32)), .val (.ref b3), .val (.int (8 : Int32)), .val (.int z8), .val (.int (4 : Int32))] [(.int (4 : Int32))])) _
          refine XS.ifNo X155.here hx rfl (hb hby d2_99) rfl ((if0 _ _).trans (flt (by decide)).1) ?_
          show Steps p.tables e below (T155.setTop (mkF m 102 #[.val (.ref o0), .val (.ref o1), .val (.int (0 : Int32)), .val (.ref b3), .val (.int (8 : Int32)), .val (.int z8), .val (.int (4 : Int32))] [])) _
          refine XS.aloadN X155.here hx rfl (hb hby d2_102) rfl rfl ?_
          show Steps p.tables e below (T155.setTop (mkF m 103 #[.val (.ref o0), .val (.ref o1), .val (.int (0 : Int32)), .val (.ref b3), .val (.int (8 : Int32)), .val (.int z8), .val (.int (4 : Int32))] [(.ref b3)])) _
          refine XS.iload X155.here hx rfl (hb hby d2_103) rfl ?_
          show Steps p.tables e below (T155.setTop (mkF m 105 #[.val (.ref o0), .val (.ref o1), .val (.int (0 : Int32)), .val (.ref b3), .val (.int (8 : Int32)), .val (.int z8), .val (.int (4 : Int32))] [(.int (4 : Int32)), (.ref b3)])) _
          exact k
        obtain ⟨cl176, Arcl176, qcl176, Scl176, Mcl176, Hcl176, Gcl176⟩ := id V163
        have hincl176 : ¬ ((4 : Int32) < 0 ∨ cl176.slots.size ≤ ((4 : Int32)).toNatClampNeg) := inb_of Scl176 ⟨by decide, by decide⟩
        have hatcl176 : cl176.slots[((4 : Int32)).toNatClampNeg]? = some (.int (nar .byte u4)) := Hcl176.at hincl176 rfl
        refine own_step (T' := T155) (g' := (mkF m 106 #[.val (.ref o0), .val (.ref o1), .val (.int (0 : Int32)), .val (.ref b3), .val (.int (8 : Int32)), .val (.int z8), .val (.int (4 : Int32))] [(.int (nar .byte u4))])) (fun t k => ?_) ?_
        · show Steps p.tables e below (T155.setTop (mkF m 105 #[.val (.ref o0), .val (.ref o1), .val (.int (0 : Int32)), .val (.ref b3), .val (.int (8 : Int32)), .val (.int z8), .val (.int (4 : Int32))] [(.int (4 : Int32)), (.ref b3)])) _
          refine X155.baloadBytes hx (j := (4 : Int32)) (v := (.int (nar .byte u4))) (by rw [e155]; exact Arcl176.1) (State.isArrayOf_alike hZ.alike Arcl176.2.1) Arcl176.2.2 hincl176 hatcl176 (g := (mkF m 105 #[.val (.ref o0), .val (.ref o1), .val (.int (0 : Int32)), .val (.ref b3), .val (.int (8 : Int32)), .val (.int z8), .val (.int (4 : Int32))] [(.int (4 : Int32)), (.ref b3)])) rfl rfl (hb hby d2_105) _ ?_
          show Steps p.tables e below (T155.setTop (mkF m 106 #[.val (.ref o0), .val (.ref o1), .val (.int (0 : Int32)), .val (.ref b3), .val (.int (8 : Int32)), .val (.int z8), .val (.int (4 : Int32))] [(.int (nar .byte u4))])) _
          exact k
        by_cases hc177 : (nar .byte u4) = (0 : Int32)
        · skip
          refine own_step (T' := T155) (g' := (mkF m 105 #[.val (.ref o0), .val (.ref o1), .val (.int (0 : Int32)), .val (.ref b3), .val (.int (8 : Int32)), .val (.int z8), .val (.int (3 : Int32))] [(.int (3 : Int32)), (.ref b3)])) (fun t k => ?_) ?_
          · show Steps p.tables e below (T155.setTop (mkF m 106 #[.val (.ref o0), .val (.ref o1), .val (.int (0 : Int32)), .val (.ref b3), .val (.int (8 : Int32)), .val (.int z8), .val (.int (4 : Int32))] [(.int (nar .byte u4))])) _
            refine XS.ifNo X155.here hx rfl (hb hby d2_106) rfl ((if0 _ _).trans (teq hc177).2) ?_
            show Steps p.tables e below (T155.setTop (mkF m 109 #[.val (.ref o0), .val (.ref o1), .val (.int (0 : Int32)), .val (.ref b3), .val (.int (8 : Int32)), .val (.int z8), .val (.int (4 : Int32))] [])) _
            refine XS.iinc X155.here hx rfl (hb hby d2_109) rfl (l' := #[.val (.ref o0), .val (.ref o1), .val (.int (0 : Int32)), .val (.ref b3), .val (.int (8 : Int32)), .val (.int z8), .val (.int (3 : Int32))]) rfl ?_
            show Steps p.tables e below (T155.setTop (mkF m 112 #[.val (.ref o0), .val (.ref o1), .val (.int (0 : Int32)), .val (.ref b3), .val (.int (8 : Int32)), .val (.int z8), .val (.int (3 : Int32))] [])) _
            refine XS.goto X155.here hx rfl (pc0 := 112) (pc' := 97) rfl (hb hby d2_112) (by decide) (by decide) ?_
            show Steps p.tables e below (T155.setTop (mkF m 97 #[.val (.ref o0), .val (.ref o1), .val (.int (0 : Int32)), .val (.ref b3), .val (.int (8 : Int32)), .val (.int z8), .val (.int (3 : Int32))] [])) _
            refine XS.iload X155.here hx rfl (hb hby d2_97) rfl ?_
            show Steps p.tables e below (T155.setTop (mkF m 99 #[.val (.ref o0), .val (.ref o1), .val (.int (0 : Int32)), .val (.ref b3), .val (.int (8 : Int32)), .val (.int z8), .val (.int (3 : Int32))] [(.int (3 : Int32))])) _
            refine XS.ifNo X155.here hx rfl (hb hby d2_99) rfl ((if0 _ _).trans (flt (by decide)).1) ?_
            show Steps p.tables e below (T155.setTop (mkF m 102 #[.val (.ref o0), .val (.ref o1), .val (.int (0 : Int32)), .val (.ref b3), .val (.int (8 : Int32)), .val (.int z8), .val (.int (3 : Int32))] [])) _
            refine XS.aloadN X155.here hx rfl (hb hby d2_102) rfl rfl ?_
            show Steps p.tables e below (T155.setTop (mkF m 103 #[.val (.ref o0), .val (.ref o1), .val (.int (0 : Int32)), .val (.ref b3), .val (.int (8 : Int32)), .val (.int z8), .val (.int (3 : Int32))] [(.ref b3)])) _
            refine XS.iload X155.here hx rfl (hb hby d2_103) rfl ?_
            show Steps p.tables e below (T155.setTop (mkF m 105 #[.val (.ref o0), .val (.ref o1), .val (.int (0 : Int32)), .val (.ref b3), .val (.int (8 : Int32)), .val (.int z8), .val (.int (3 : Int32))] [(.int (3 : Int32)), (.ref b3)])) _
            exact k
          obtain ⟨cl179, Arcl179, qcl179, Scl179, Mcl179, Hcl179, Gcl179⟩ := id V163
          have hincl179 : ¬ ((3 : Int32) < 0 ∨ cl179.slots.size ≤ ((3 : Int32)).toNatClampNeg) := inb_of Scl179 ⟨by decide, by decide⟩
          have hatcl179 : cl179.slots[((3 : Int32)).toNatClampNeg]? = some (.int (nar .byte u3)) := Hcl179.at hincl179 rfl
          refine own_step (T' := T155) (g' := (mkF m 106 #[.val (.ref o0), .val (.ref o1), .val (.int (0 : Int32)), .val (.ref b3), .val (.int (8 : Int32)), .val (.int z8), .val (.int (3 : Int32))] [(.int (nar .byte u3))])) (fun t k => ?_) ?_
          · show Steps p.tables e below (T155.setTop (mkF m 105 #[.val (.ref o0), .val (.ref o1), .val (.int (0 : Int32)), .val (.ref b3), .val (.int (8 : Int32)), .val (.int z8), .val (.int (3 : Int32))] [(.int (3 : Int32)), (.ref b3)])) _
            refine X155.baloadBytes hx (j := (3 : Int32)) (v := (.int (nar .byte u3))) (by rw [e155]; exact Arcl179.1) (State.isArrayOf_alike hZ.alike Arcl179.2.1) Arcl179.2.2 hincl179 hatcl179 (g := (mkF m 105 #[.val (.ref o0), .val (.ref o1), .val (.int (0 : Int32)), .val (.ref b3), .val (.int (8 : Int32)), .val (.int z8), .val (.int (3 : Int32))] [(.int (3 : Int32)), (.ref b3)])) rfl rfl (hb hby d2_105) _ ?_
            show Steps p.tables e below (T155.setTop (mkF m 106 #[.val (.ref o0), .val (.ref o1), .val (.int (0 : Int32)), .val (.ref b3), .val (.int (8 : Int32)), .val (.int z8), .val (.int (3 : Int32))] [(.int (nar .byte u3))])) _
            exact k
          by_cases hc180 : (nar .byte u3) = (0 : Int32)
          · skip
            refine own_step (T' := T155) (g' := (mkF m 105 #[.val (.ref o0), .val (.ref o1), .val (.int (0 : Int32)), .val (.ref b3), .val (.int (8 : Int32)), .val (.int z8), .val (.int (2 : Int32))] [(.int (2 : Int32)), (.ref b3)])) (fun t k => ?_) ?_
            · show Steps p.tables e below (T155.setTop (mkF m 106 #[.val (.ref o0), .val (.ref o1), .val (.int (0 : Int32)), .val (.ref b3), .val (.int (8 : Int32)), .val (.int z8), .val (.int (3 : Int32))] [(.int (nar .byte u3))])) _
              refine XS.ifNo X155.here hx rfl (hb hby d2_106) rfl ((if0 _ _).trans (teq hc180).2) ?_
              show Steps p.tables e below (T155.setTop (mkF m 109 #[.val (.ref o0), .val (.ref o1), .val (.int (0 : Int32)), .val (.ref b3), .val (.int (8 : Int32)), .val (.int z8), .val (.int (3 : Int32))] [])) _
              refine XS.iinc X155.here hx rfl (hb hby d2_109) rfl (l' := #[.val (.ref o0), .val (.ref o1), .val (.int (0 : Int32)), .val (.ref b3), .val (.int (8 : Int32)), .val (.int z8), .val (.int (2 : Int32))]) rfl ?_
              show Steps p.tables e below (T155.setTop (mkF m 112 #[.val (.ref o0), .val (.ref o1), .val (.int (0 : Int32)), .val (.ref b3), .val (.int (8 : Int32)), .val (.int z8), .val (.int (2 : Int32))] [])) _
              refine XS.goto X155.here hx rfl (pc0 := 112) (pc' := 97) rfl (hb hby d2_112) (by decide) (by decide) ?_
              show Steps p.tables e below (T155.setTop (mkF m 97 #[.val (.ref o0), .val (.ref o1), .val (.int (0 : Int32)), .val (.ref b3), .val (.int (8 : Int32)), .val (.int z8), .val (.int (2 : Int32))] [])) _
              refine XS.iload X155.here hx rfl (hb hby d2_97) rfl ?_
              show Steps p.tables e below (T155.setTop (mkF m 99 #[.val (.ref o0), .val (.ref o1), .val (.int (0 : Int32)), .val (.ref b3), .val (.int (8 : Int32)), .val (.int z8), .val (.int (2 : Int32))] [(.int (2 : Int32))])) _
              refine XS.ifNo X155.here hx rfl (hb hby d2_99) rfl ((if0 _ _).trans (flt (by decide)).1) ?_
              show Steps p.tables e below (T155.setTop (mkF m 102 #[.val (.ref o0), .val (.ref o1), .val (.int (0 : Int32)), .val (.ref b3), .val (.int (8 : Int32)), .val (.int z8), .val (.int (2 : Int32))] [])) _
              refine XS.aloadN X155.here hx rfl (hb hby d2_102) rfl rfl ?_
              show Steps p.tables e below (T155.setTop (mkF m 103 #[.val (.ref o0), .val (.ref o1), .val (.int (0 : Int32)), .val (.ref b3), .val (.int (8 : Int32)), .val (.int z8), .val (.int (2 : Int32))] [(.ref b3)])) _
              refine XS.iload X155.here hx rfl (hb hby d2_103) rfl ?_
              show Steps p.tables e below (T155.setTop (mkF m 105 #[.val (.ref o0), .val (.ref o1), .val (.int (0 : Int32)), .val (.ref b3), .val (.int (8 : Int32)), .val (.int z8), .val (.int (2 : Int32))] [(.int (2 : Int32)), (.ref b3)])) _
              exact k
            obtain ⟨cl182, Arcl182, qcl182, Scl182, Mcl182, Hcl182, Gcl182⟩ := id V163
            have hincl182 : ¬ ((2 : Int32) < 0 ∨ cl182.slots.size ≤ ((2 : Int32)).toNatClampNeg) := inb_of Scl182 ⟨by decide, by decide⟩
            have hatcl182 : cl182.slots[((2 : Int32)).toNatClampNeg]? = some (.int (nar .byte u2)) := Hcl182.at hincl182 rfl
            refine own_step (T' := T155) (g' := (mkF m 106 #[.val (.ref o0), .val (.ref o1), .val (.int (0 : Int32)), .val (.ref b3), .val (.int (8 : Int32)), .val (.int z8), .val (.int (2 : Int32))] [(.int (nar .byte u2))])) (fun t k => ?_) ?_
            · show Steps p.tables e below (T155.setTop (mkF m 105 #[.val (.ref o0), .val (.ref o1), .val (.int (0 : Int32)), .val (.ref b3), .val (.int (8 : Int32)), .val (.int z8), .val (.int (2 : Int32))] [(.int (2 : Int32)), (.ref b3)])) _
              refine X155.baloadBytes hx (j := (2 : Int32)) (v := (.int (nar .byte u2))) (by rw [e155]; exact Arcl182.1) (State.isArrayOf_alike hZ.alike Arcl182.2.1) Arcl182.2.2 hincl182 hatcl182 (g := (mkF m 105 #[.val (.ref o0), .val (.ref o1), .val (.int (0 : Int32)), .val (.ref b3), .val (.int (8 : Int32)), .val (.int z8), .val (.int (2 : Int32))] [(.int (2 : Int32)), (.ref b3)])) rfl rfl (hb hby d2_105) _ ?_
              show Steps p.tables e below (T155.setTop (mkF m 106 #[.val (.ref o0), .val (.ref o1), .val (.int (0 : Int32)), .val (.ref b3), .val (.int (8 : Int32)), .val (.int z8), .val (.int (2 : Int32))] [(.int (nar .byte u2))])) _
              exact k
            by_cases hc183 : (nar .byte u2) = (0 : Int32)
            · skip
              refine own_step (T' := T155) (g' := (mkF m 105 #[.val (.ref o0), .val (.ref o1), .val (.int (0 : Int32)), .val (.ref b3), .val (.int (8 : Int32)), .val (.int z8), .val (.int (1 : Int32))] [(.int (1 : Int32)), (.ref b3)])) (fun t k => ?_) ?_
              · show Steps p.tables e below (T155.setTop (mkF m 106 #[.val (.ref o0), .val (.ref o1), .val (.int (0 : Int32)), .val (.ref b3), .val (.int (8 : Int32)), .val (.int z8), .val (.int (2 : Int32))] [(.int (nar .byte u2))])) _
                refine XS.ifNo X155.here hx rfl (hb hby d2_106) rfl ((if0 _ _).trans (teq hc183).2) ?_
                show Steps p.tables e below (T155.setTop (mkF m 109 #[.val (.ref o0), .val (.ref o1), .val (.int (0 : Int32)), .val (.ref b3), .val (.int (8 : Int32)), .val (.int z8), .val (.int (2 : Int32))] [])) _
                refine XS.iinc X155.here hx rfl (hb hby d2_109) rfl (l' := #[.val (.ref o0), .val (.ref o1), .val (.int (0 : Int32)), .val (.ref b3), .val (.int (8 : Int32)), .val (.int z8), .val (.int (1 : Int32))]) rfl ?_
                show Steps p.tables e below (T155.setTop (mkF m 112 #[.val (.ref o0), .val (.ref o1), .val (.int (0 : Int32)), .val (.ref b3), .val (.int (8 : Int32)), .val (.int z8), .val (.int (1 : Int32))] [])) _
                refine XS.goto X155.here hx rfl (pc0 := 112) (pc' := 97) rfl (hb hby d2_112) (by decide) (by decide) ?_
                show Steps p.tables e below (T155.setTop (mkF m 97 #[.val (.ref o0), .val (.ref o1), .val (.int (0 : Int32)), .val (.ref b3), .val (.int (8 : Int32)), .val (.int z8), .val (.int (1 : Int32))] [])) _
                refine XS.iload X155.here hx rfl (hb hby d2_97) rfl ?_
                show Steps p.tables e below (T155.setTop (mkF m 99 #[.val (.ref o0), .val (.ref o1), .val (.int (0 : Int32)), .val (.ref b3), .val (.int (8 : Int32)), .val (.int z8), .val (.int (1 : Int32))] [(.int (1 : Int32))])) _
                refine XS.ifNo X155.here hx rfl (hb hby d2_99) rfl ((if0 _ _).trans (flt (by decide)).1) ?_
                show Steps p.tables e below (T155.setTop (mkF m 102 #[.val (.ref o0), .val (.ref o1), .val (.int (0 : Int32)), .val (.ref b3), .val (.int (8 : Int32)), .val (.int z8), .val (.int (1 : Int32))] [])) _
                refine XS.aloadN X155.here hx rfl (hb hby d2_102) rfl rfl ?_
                show Steps p.tables e below (T155.setTop (mkF m 103 #[.val (.ref o0), .val (.ref o1), .val (.int (0 : Int32)), .val (.ref b3), .val (.int (8 : Int32)), .val (.int z8), .val (.int (1 : Int32))] [(.ref b3)])) _
                refine XS.iload X155.here hx rfl (hb hby d2_103) rfl ?_
                show Steps p.tables e below (T155.setTop (mkF m 105 #[.val (.ref o0), .val (.ref o1), .val (.int (0 : Int32)), .val (.ref b3), .val (.int (8 : Int32)), .val (.int z8), .val (.int (1 : Int32))] [(.int (1 : Int32)), (.ref b3)])) _
                exact k
              obtain ⟨cl185, Arcl185, qcl185, Scl185, Mcl185, Hcl185, Gcl185⟩ := id V163
              have hincl185 : ¬ ((1 : Int32) < 0 ∨ cl185.slots.size ≤ ((1 : Int32)).toNatClampNeg) := inb_of Scl185 ⟨by decide, by decide⟩
              have hatcl185 : cl185.slots[((1 : Int32)).toNatClampNeg]? = some (.int (nar .byte u1)) := Hcl185.at hincl185 rfl
              refine own_step (T' := T155) (g' := (mkF m 106 #[.val (.ref o0), .val (.ref o1), .val (.int (0 : Int32)), .val (.ref b3), .val (.int (8 : Int32)), .val (.int z8), .val (.int (1 : Int32))] [(.int (nar .byte u1))])) (fun t k => ?_) ?_
              · show Steps p.tables e below (T155.setTop (mkF m 105 #[.val (.ref o0), .val (.ref o1), .val (.int (0 : Int32)), .val (.ref b3), .val (.int (8 : Int32)), .val (.int z8), .val (.int (1 : Int32))] [(.int (1 : Int32)), (.ref b3)])) _
                refine X155.baloadBytes hx (j := (1 : Int32)) (v := (.int (nar .byte u1))) (by rw [e155]; exact Arcl185.1) (State.isArrayOf_alike hZ.alike Arcl185.2.1) Arcl185.2.2 hincl185 hatcl185 (g := (mkF m 105 #[.val (.ref o0), .val (.ref o1), .val (.int (0 : Int32)), .val (.ref b3), .val (.int (8 : Int32)), .val (.int z8), .val (.int (1 : Int32))] [(.int (1 : Int32)), (.ref b3)])) rfl rfl (hb hby d2_105) _ ?_
                show Steps p.tables e below (T155.setTop (mkF m 106 #[.val (.ref o0), .val (.ref o1), .val (.int (0 : Int32)), .val (.ref b3), .val (.int (8 : Int32)), .val (.int z8), .val (.int (1 : Int32))] [(.int (nar .byte u1))])) _
                exact k
              by_cases hc186 : (nar .byte u1) = (0 : Int32)
              · skip
                refine own_step (T' := T155) (g' := (mkF m 105 #[.val (.ref o0), .val (.ref o1), .val (.int (0 : Int32)), .val (.ref b3), .val (.int (8 : Int32)), .val (.int z8), .val (.int (0 : Int32))] [(.int (0 : Int32)), (.ref b3)])) (fun t k => ?_) ?_
                · show Steps p.tables e below (T155.setTop (mkF m 106 #[.val (.ref o0), .val (.ref o1), .val (.int (0 : Int32)), .val (.ref b3), .val (.int (8 : Int32)), .val (.int z8), .val (.int (1 : Int32))] [(.int (nar .byte u1))])) _
                  refine XS.ifNo X155.here hx rfl (hb hby d2_106) rfl ((if0 _ _).trans (teq hc186).2) ?_
                  show Steps p.tables e below (T155.setTop (mkF m 109 #[.val (.ref o0), .val (.ref o1), .val (.int (0 : Int32)), .val (.ref b3), .val (.int (8 : Int32)), .val (.int z8), .val (.int (1 : Int32))] [])) _
                  refine XS.iinc X155.here hx rfl (hb hby d2_109) rfl (l' := #[.val (.ref o0), .val (.ref o1), .val (.int (0 : Int32)), .val (.ref b3), .val (.int (8 : Int32)), .val (.int z8), .val (.int (0 : Int32))]) rfl ?_
                  show Steps p.tables e below (T155.setTop (mkF m 112 #[.val (.ref o0), .val (.ref o1), .val (.int (0 : Int32)), .val (.ref b3), .val (.int (8 : Int32)), .val (.int z8), .val (.int (0 : Int32))] [])) _
                  refine XS.goto X155.here hx rfl (pc0 := 112) (pc' := 97) rfl (hb hby d2_112) (by decide) (by decide) ?_
                  show Steps p.tables e below (T155.setTop (mkF m 97 #[.val (.ref o0), .val (.ref o1), .val (.int (0 : Int32)), .val (.ref b3), .val (.int (8 : Int32)), .val (.int z8), .val (.int (0 : Int32))] [])) _
                  refine XS.iload X155.here hx rfl (hb hby d2_97) rfl ?_
                  show Steps p.tables e below (T155.setTop (mkF m 99 #[.val (.ref o0), .val (.ref o1), .val (.int (0 : Int32)), .val (.ref b3), .val (.int (8 : Int32)), .val (.int z8), .val (.int (0 : Int32))] [(.int (0 : Int32))])) _
                  refine XS.ifNo X155.here hx rfl (hb hby d2_99) rfl ((if0 _ _).trans (flt (by decide)).1) ?_
                  show Steps p.tables e below (T155.setTop (mkF m 102 #[.val (.ref o0), .val (.ref o1), .val (.int (0 : Int32)), .val (.ref b3), .val (.int (8 : Int32)), .val (.int z8), .val (.int (0 : Int32))] [])) _
                  refine XS.aloadN X155.here hx rfl (hb hby d2_102) rfl rfl ?_
                  show Steps p.tables e below (T155.setTop (mkF m 103 #[.val (.ref o0), .val (.ref o1), .val (.int (0 : Int32)), .val (.ref b3), .val (.int (8 : Int32)), .val (.int z8), .val (.int (0 : Int32))] [(.ref b3)])) _
                  refine XS.iload X155.here hx rfl (hb hby d2_103) rfl ?_
                  show Steps p.tables e below (T155.setTop (mkF m 105 #[.val (.ref o0), .val (.ref o1), .val (.int (0 : Int32)), .val (.ref b3), .val (.int (8 : Int32)), .val (.int z8), .val (.int (0 : Int32))] [(.int (0 : Int32)), (.ref b3)])) _
                  exact k
                obtain ⟨cl188, Arcl188, qcl188, Scl188, Mcl188, Hcl188, Gcl188⟩ := id V163
                have hincl188 : ¬ ((0 : Int32) < 0 ∨ cl188.slots.size ≤ ((0 : Int32)).toNatClampNeg) := inb_of Scl188 ⟨by decide, by decide⟩
                have hatcl188 : cl188.slots[((0 : Int32)).toNatClampNeg]? = some (.int (nar .byte u0)) := Hcl188.at hincl188 rfl
                refine own_step (T' := T155) (g' := (mkF m 106 #[.val (.ref o0), .val (.ref o1), .val (.int (0 : Int32)), .val (.ref b3), .val (.int (8 : Int32)), .val (.int z8), .val (.int (0 : Int32))] [(.int (nar .byte u0))])) (fun t k => ?_) ?_
                · show Steps p.tables e below (T155.setTop (mkF m 105 #[.val (.ref o0), .val (.ref o1), .val (.int (0 : Int32)), .val (.ref b3), .val (.int (8 : Int32)), .val (.int z8), .val (.int (0 : Int32))] [(.int (0 : Int32)), (.ref b3)])) _
                  refine X155.baloadBytes hx (j := (0 : Int32)) (v := (.int (nar .byte u0))) (by rw [e155]; exact Arcl188.1) (State.isArrayOf_alike hZ.alike Arcl188.2.1) Arcl188.2.2 hincl188 hatcl188 (g := (mkF m 105 #[.val (.ref o0), .val (.ref o1), .val (.int (0 : Int32)), .val (.ref b3), .val (.int (8 : Int32)), .val (.int z8), .val (.int (0 : Int32))] [(.int (0 : Int32)), (.ref b3)])) rfl rfl (hb hby d2_105) _ ?_
                  show Steps p.tables e below (T155.setTop (mkF m 106 #[.val (.ref o0), .val (.ref o1), .val (.int (0 : Int32)), .val (.ref b3), .val (.int (8 : Int32)), .val (.int z8), .val (.int (0 : Int32))] [(.int (nar .byte u0))])) _
                  exact k
                by_cases hc189 : (nar .byte u0) = (0 : Int32)
                · skip
                  refine own_step (T' := T155) (g' := (mkF m 141 #[.val (.ref o0), .val (.ref o1), .val (.int (0 : Int32)), .val (.ref b3), .val (.int (8 : Int32)), .val (.int z8), .val (.int (-1 : Int32))] [(.int (0 : Int32)), (.ref o0)])) (fun t k => ?_) ?_
                  · show Steps p.tables e below (T155.setTop (mkF m 106 #[.val (.ref o0), .val (.ref o1), .val (.int (0 : Int32)), .val (.ref b3), .val (.int (8 : Int32)), .val (.int z8), .val (.int (0 : Int32))] [(.int (nar .byte u0))])) _
                    refine XS.ifNo X155.here hx rfl (hb hby d2_106) rfl ((if0 _ _).trans (teq hc189).2) ?_
                    show Steps p.tables e below (T155.setTop (mkF m 109 #[.val (.ref o0), .val (.ref o1), .val (.int (0 : Int32)), .val (.ref b3), .val (.int (8 : Int32)), .val (.int z8), .val (.int (0 : Int32))] [])) _
                    refine XS.iinc X155.here hx rfl (hb hby d2_109) rfl (l' := #[.val (.ref o0), .val (.ref o1), .val (.int (0 : Int32)), .val (.ref b3), .val (.int (8 : Int32)), .val (.int z8), .val (.int (-1 : Int32))]) rfl ?_
                    show Steps p.tables e below (T155.setTop (mkF m 112 #[.val (.ref o0), .val (.ref o1), .val (.int (0 : Int32)), .val (.ref b3), .val (.int (8 : Int32)), .val (.int z8), .val (.int (-1 : Int32))] [])) _
                    refine XS.goto X155.here hx rfl (pc0 := 112) (pc' := 97) rfl (hb hby d2_112) (by decide) (by decide) ?_
                    show Steps p.tables e below (T155.setTop (mkF m 97 #[.val (.ref o0), .val (.ref o1), .val (.int (0 : Int32)), .val (.ref b3), .val (.int (8 : Int32)), .val (.int z8), .val (.int (-1 : Int32))] [])) _
                    refine XS.iload X155.here hx rfl (hb hby d2_97) rfl ?_
                    show Steps p.tables e below (T155.setTop (mkF m 99 #[.val (.ref o0), .val (.ref o1), .val (.int (0 : Int32)), .val (.ref b3), .val (.int (8 : Int32)), .val (.int z8), .val (.int (-1 : Int32))] [(.int (-1 : Int32))])) _
                    refine XS.ifYes X155.here hx rfl (pc0 := 99) (pc' := 115) rfl (hb hby d2_99) rfl ((if0 _ _).trans (tlt (by decide)).1) (by decide) (by decide) ?_
                    show Steps p.tables e below (T155.setTop (mkF m 115 #[.val (.ref o0), .val (.ref o1), .val (.int (0 : Int32)), .val (.ref b3), .val (.int (8 : Int32)), .val (.int z8), .val (.int (-1 : Int32))] [])) _
                    refine XS.aloadN X155.here hx rfl (hb hby d2_115) rfl rfl ?_
                    show Steps p.tables e below (T155.setTop (mkF m 116 #[.val (.ref o0), .val (.ref o1), .val (.int (0 : Int32)), .val (.ref b3), .val (.int (8 : Int32)), .val (.int z8), .val (.int (-1 : Int32))] [(.ref o0)])) _
                    refine XS.iload X155.here hx rfl (hb hby d2_116) rfl ?_
                    show Steps p.tables e below (T155.setTop (mkF m 118 #[.val (.ref o0), .val (.ref o1), .val (.int (0 : Int32)), .val (.ref b3), .val (.int (8 : Int32)), .val (.int z8), .val (.int (-1 : Int32))] [(.int (-1 : Int32)), (.ref o0)])) _
                    refine XS.ifNo X155.here hx rfl (hb hby d2_118) rfl ((if0 _ _).trans (tlt (by decide)).2.1) ?_
                    show Steps p.tables e below (T155.setTop (mkF m 121 #[.val (.ref o0), .val (.ref o1), .val (.int (0 : Int32)), .val (.ref b3), .val (.int (8 : Int32)), .val (.int z8), .val (.int (-1 : Int32))] [(.ref o0)])) _
                    refine XS.iconst X155.here hx rfl (hb hby d2_121) ?_
                    show Steps p.tables e below (T155.setTop (mkF m 122 #[.val (.ref o0), .val (.ref o1), .val (.int (0 : Int32)), .val (.ref b3), .val (.int (8 : Int32)), .val (.int z8), .val (.int (-1 : Int32))] [(.int (0 : Int32)), (.ref o0)])) _
                    refine XS.goto X155.here hx rfl (pc0 := 122) (pc' := 141) rfl (hb hby d2_122) (by decide) (by decide) ?_
                    show Steps p.tables e below (T155.setTop (mkF m 141 #[.val (.ref o0), .val (.ref o1), .val (.int (0 : Int32)), .val (.ref b3), .val (.int (8 : Int32)), .val (.int z8), .val (.int (-1 : Int32))] [(.int (0 : Int32)), (.ref o0)])) _
                    exact k
                  obtain ⟨T192, h192, X192, e192, W192, st192⟩ := putF X155 hx hZ hown (host := "") (Or.inl (hw _ (List.mem_of_getElem? (i := 37) rfl))) Via.refl e155 F157 A159 (Or.inr ⟨(hw _ (List.mem_of_getElem? (i := 38) rfl)), rfl, hnm⟩) (hw _ (List.mem_of_getElem? (i := 10) rfl)) (ty := .int) (by decide) rfl rfl (g := (mkF m 141 #[.val (.ref o0), .val (.ref o1), .val (.int (0 : Int32)), .val (.ref b3), .val (.int (8 : Int32)), .val (.int z8), .val (.int (-1 : Int32))] [(.int (0 : Int32)), (.ref o0)])) rfl rfl (hb hby d2_141)
                  have F193 := F157.same W192
                  have F194 := F156.other W192 (Or.inr (slot_ne (Or.inr (hw _ (List.mem_of_getElem? (i := 32) rfl))) (Or.inr (hw _ (List.mem_of_getElem? (i := 38) rfl))) (by decide) (t := (.array .byte)) (t' := .int) (by decide) (by decide)))
                  have F195 := F158.other W192 (Or.inr (slot_ne (Or.inl (hw _ (List.mem_of_getElem? (i := 45) rfl))) (Or.inr (hw _ (List.mem_of_getElem? (i := 38) rfl))) (by decide) (t := .int) (t' := .int) (by decide) (by decide)))
                  have A196 := A159.wr W192
                  have A197 := A160.wr W192
                  have A198 := A161.wr W192
                  have V199 := V162.other W192 ne10
                  have V200 := V163.other W192 (Ne.symm ne4)
                  have V201 := V164.other W192 (Ne.symm ne143)
                  have Z202 := Nat.le_trans Z165 (Keep.of_wr W192).1
                  have K192 := K155.wr W192 (Or.inl (List.mem_of_getElem? (i := 0) rfl))
                  have N192 := Fr.snoc X192 N155 g_o0
                  refine own_step st192 ?_
                  show own_Run p e below s _ _ _ T192 (mkF m 144 #[.val (.ref o0), .val (.ref o1), .val (.int (0 : Int32)), .val (.ref b3), .val (.int (8 : Int32)), .val (.int z8), .val (.int (-1 : Int32))] [])
                  refine own_retV X192 hx Bd.returns (hb hby d2_144) (BodyLoose.notSynchronized Bd) (by decide) (by decide) ?_
                  rw [show T192.heap = h192 from e192]
                  exact ⟨cp142, k3, (0 : Int32), rfl, N192, K192, sz_cp142, A196, F195, F193, F194, V201⟩
                · skip
                  refine own_step (T' := T155) (g' := (mkF m 136 #[.val (.ref o0), .val (.ref o1), .val (.int (0 : Int32)), .val (.ref b3), .val (.int (8 : Int32)), .val (.int z8), .val (.int (0 : Int32))] [(.int (0 : Int32)), (.ref b3), (.int (7 : Int32)), (.ref o0)])) (fun t k => ?_) ?_
                  · show Steps p.tables e below (T155.setTop (mkF m 106 #[.val (.ref o0), .val (.ref o1), .val (.int (0 : Int32)), .val (.ref b3), .val (.int (8 : Int32)), .val (.int z8), .val (.int (0 : Int32))] [(.int (nar .byte u0))])) _
                    refine XS.ifYes X155.here hx rfl (pc0 := 106) (pc' := 115) rfl (hb hby d2_106) rfl ((if0 _ _).trans (feq hc189).2) (by decide) (by decide) ?_
                    show Steps p.tables e below (T155.setTop (mkF m 115 #[.val (.ref o0), .val (.ref o1), .val (.int (0 : Int32)), .val (.ref b3), .val (.int (8 : Int32)), .val (.int z8), .val (.int (0 : Int32))] [])) _
                    refine XS.aloadN X155.here hx rfl (hb hby d2_115) rfl rfl ?_
                    show Steps p.tables e below (T155.setTop (mkF m 116 #[.val (.ref o0), .val (.ref o1), .val (.int (0 : Int32)), .val (.ref b3), .val (.int (8 : Int32)), .val (.int z8), .val (.int (0 : Int32))] [(.ref o0)])) _
                    refine XS.iload X155.here hx rfl (hb hby d2_116) rfl ?_
                    show Steps p.tables e below (T155.setTop (mkF m 118 #[.val (.ref o0), .val (.ref o1), .val (.int (0 : Int32)), .val (.ref b3), .val (.int (8 : Int32)), .val (.int z8), .val (.int (0 : Int32))] [(.int (0 : Int32)), (.ref o0)])) _
                    refine XS.ifYes X155.here hx rfl (pc0 := 118) (pc' := 125) rfl (hb hby d2_118) rfl ((if0 _ _).trans (flt (by decide)).2.1) (by decide) (by decide) ?_
                    show Steps p.tables e below (T155.setTop (mkF m 125 #[.val (.ref o0), .val (.ref o1), .val (.int (0 : Int32)), .val (.ref b3), .val (.int (8 : Int32)), .val (.int z8), .val (.int (0 : Int32))] [(.ref o0)])) _
                    refine XS.bipush X155.here hx rfl (hb hby d2_125) ?_
                    show Steps p.tables e below (T155.setTop (mkF m 127 #[.val (.ref o0), .val (.ref o1), .val (.int (0 : Int32)), .val (.ref b3), .val (.int (8 : Int32)), .val (.int z8), .val (.int (0 : Int32))] [(.int (8 : Int32)), (.ref o0)])) _
                    refine XS.iload X155.here hx rfl (hb hby d2_127) rfl ?_
                    show Steps p.tables e below (T155.setTop (mkF m 129 #[.val (.ref o0), .val (.ref o1), .val (.int (0 : Int32)), .val (.ref b3), .val (.int (8 : Int32)), .val (.int z8), .val (.int (0 : Int32))] [(.int (0 : Int32)), (.int (8 : Int32)), (.ref o0)])) _
                    refine XS.imul X155.here hx rfl (hb hby d2_129) rfl ?_
                    show Steps p.tables e below (T155.setTop (mkF m 130 #[.val (.ref o0), .val (.ref o1), .val (.int (0 : Int32)), .val (.ref b3), .val (.int (8 : Int32)), .val (.int z8), .val (.int (0 : Int32))] [(.int (0 : Int32)), (.ref o0)])) _
                    refine XS.bipush X155.here hx rfl (hb hby d2_130) ?_
                    show Steps p.tables e below (T155.setTop (mkF m 132 #[.val (.ref o0), .val (.ref o1), .val (.int (0 : Int32)), .val (.ref b3), .val (.int (8 : Int32)), .val (.int z8), .val (.int (0 : Int32))] [(.int (7 : Int32)), (.int (0 : Int32)), (.ref o0)])) _
                    refine XS.iadd X155.here hx rfl (hb hby d2_132) rfl ?_
                    show Steps p.tables e below (T155.setTop (mkF m 133 #[.val (.ref o0), .val (.ref o1), .val (.int (0 : Int32)), .val (.ref b3), .val (.int (8 : Int32)), .val (.int z8), .val (.int (0 : Int32))] [(.int (7 : Int32)), (.ref o0)])) _
                    refine XS.aloadN X155.here hx rfl (hb hby d2_133) rfl rfl ?_
                    show Steps p.tables e below (T155.setTop (mkF m 134 #[.val (.ref o0), .val (.ref o1), .val (.int (0 : Int32)), .val (.ref b3), .val (.int (8 : Int32)), .val (.int z8), .val (.int (0 : Int32))] [(.ref b3), (.int (7 : Int32)), (.ref o0)])) _
                    refine XS.iload X155.here hx rfl (hb hby d2_134) rfl ?_
                    show Steps p.tables e below (T155.setTop (mkF m 136 #[.val (.ref o0), .val (.ref o1), .val (.int (0 : Int32)), .val (.ref b3), .val (.int (8 : Int32)), .val (.int z8), .val (.int (0 : Int32))] [(.int (0 : Int32)), (.ref b3), (.int (7 : Int32)), (.ref o0)])) _
                    exact k
                  obtain ⟨cl204, Arcl204, qcl204, Scl204, Mcl204, Hcl204, Gcl204⟩ := id V163
                  have hincl204 : ¬ ((0 : Int32) < 0 ∨ cl204.slots.size ≤ ((0 : Int32)).toNatClampNeg) := inb_of Scl204 ⟨by decide, by decide⟩
                  have hatcl204 : cl204.slots[((0 : Int32)).toNatClampNeg]? = some (.int (nar .byte u0)) := Hcl204.at hincl204 rfl
                  refine own_step (T' := T155) (g' := (mkF m 137 #[.val (.ref o0), .val (.ref o1), .val (.int (0 : Int32)), .val (.ref b3), .val (.int (8 : Int32)), .val (.int z8), .val (.int (0 : Int32))] [(.int (nar .byte u0)), (.int (7 : Int32)), (.ref o0)])) (fun t k => ?_) ?_
                  · show Steps p.tables e below (T155.setTop (mkF m 136 #[.val (.ref o0), .val (.ref o1), .val (.int (0 : Int32)), .val (.ref b3), .val (.int (8 : Int32)), .val (.int z8), .val (.int (0 : Int32))] [(.int (0 : Int32)), (.ref b3), (.int (7 : Int32)), (.ref o0)])) _
                    refine X155.baloadBytes hx (j := (0 : Int32)) (v := (.int (nar .byte u0))) (by rw [e155]; exact Arcl204.1) (State.isArrayOf_alike hZ.alike Arcl204.2.1) Arcl204.2.2 hincl204 hatcl204 (g := (mkF m 136 #[.val (.ref o0), .val (.ref o1), .val (.int (0 : Int32)), .val (.ref b3), .val (.int (8 : Int32)), .val (.int z8), .val (.int (0 : Int32))] [(.int (0 : Int32)), (.ref b3), (.int (7 : Int32)), (.ref o0)])) rfl rfl (hb hby d2_136) _ ?_
                    show Steps p.tables e below (T155.setTop (mkF m 137 #[.val (.ref o0), .val (.ref o1), .val (.int (0 : Int32)), .val (.ref b3), .val (.int (8 : Int32)), .val (.int z8), .val (.int (0 : Int32))] [(.int (nar .byte u0)), (.int (7 : Int32)), (.ref o0)])) _
                    exact k
                  obtain ⟨_, _, ⟨T205, L205, k205, n205⟩, -, X205, ⟨Lc205, hQ205, l205, y205, z205⟩, st205⟩ := Jvm.LawKit.callS X155 hx (y := (⟨"java/lang/Integer", "numberOfTrailingZeros", "(I)I"⟩ : MethodName)) hown (mvT hZ (hw _ (List.mem_of_getElem? (i := 33) rfl))) (mvT hZ (hw _ (List.mem_of_getElem? (i := 34) rfl))) (mvT hZ (hw _ (List.mem_of_getElem? (i := 35) rfl))) (mvT hZ (hw _ (List.mem_of_getElem? (i := 36) rfl))) (by decide) (backOf (W := 2) (rm5 l Z a0 hw [] (nar .byte u0)  h155 n0 Z165) hZ (hw _ (List.mem_of_getElem? (i := 36) rfl)) (hw _ (List.mem_of_getElem? (i := 35) rfl)) (by decide) (by decide)) (g := (mkF m 137 #[.val (.ref o0), .val (.ref o1), .val (.int (0 : Int32)), .val (.ref b3), .val (.int (8 : Int32)), .val (.int z8), .val (.int (0 : Int32))] [(.int (nar .byte u0)), (.int (7 : Int32)), (.ref o0)])) rfl (by rw [hml]; rfl) (argsL := [(.int (nar .byte u0))]) (rest := [(.int (7 : Int32)), (.ref o0)]) (lenOf pd_1 rfl) rfl (by show 2 * 0 + _ ≤ _; exact Nat.le_of_eq rfl) (hb hby d2_137) (fun _ _ => ⟨rfl, e155, (by decide : 2 + 0 ≤ _), (by decide : 16 + 0 ≤ _)⟩)
                  dsimp only [Pt.U, Pt.locs, Pt.cells, Pt.slots] at X205 l205 y205 z205 st205 hQ205
                  subst l205 y205 z205
                  obtain ⟨rz205, rfl, N205q, eq205⟩ := hQ205
                  have N205 := Fr.app N155 N205q
                  refine own_step st205 ?_
                  show own_Run p e below s _ _ _ T205 (mkF m 140 #[.val (.ref o0), .val (.ref o1), .val (.int (0 : Int32)), .val (.ref b3), .val (.int (8 : Int32)), .val (.int z8), .val (.int (0 : Int32))] [(.int rz205), (.int (7 : Int32)), (.ref o0)])
                  refine own_step (T' := T205) (g' := (mkF m 141 #[.val (.ref o0), .val (.ref o1), .val (.int (0 : Int32)), .val (.ref b3), .val (.int (8 : Int32)), .val (.int z8), .val (.int (0 : Int32))] [(.int ((7 : Int32) - rz205)), (.ref o0)])) (fun t k => ?_) ?_
                  · show Steps p.tables e below (T205.setTop (mkF m 140 #[.val (.ref o0), .val (.ref o1), .val (.int (0 : Int32)), .val (.ref b3), .val (.int (8 : Int32)), .val (.int z8), .val (.int (0 : Int32))] [(.int rz205), (.int (7 : Int32)), (.ref o0)])) _
                    refine XS.isub X205.here hx rfl (hb hby d2_140) rfl ?_
                    show Steps p.tables e below (T205.setTop (mkF m 141 #[.val (.ref o0), .val (.ref o1), .val (.int (0 : Int32)), .val (.ref b3), .val (.int (8 : Int32)), .val (.int z8), .val (.int (0 : Int32))] [(.int ((7 : Int32) - rz205)), (.ref o0)])) _
                    exact k
                  obtain ⟨T206, h206, X206, e206, W206, st206⟩ := putF X205 hx hZ hown (host := "") (Or.inl (hw _ (List.mem_of_getElem? (i := 37) rfl))) Via.refl eq205 F157 A159 (Or.inr ⟨(hw _ (List.mem_of_getElem? (i := 38) rfl)), rfl, hnm⟩) (hw _ (List.mem_of_getElem? (i := 10) rfl)) (ty := .int) (by decide) rfl rfl (g := (mkF m 141 #[.val (.ref o0), .val (.ref o1), .val (.int (0 : Int32)), .val (.ref b3), .val (.int (8 : Int32)), .val (.int z8), .val (.int (0 : Int32))] [(.int ((7 : Int32) - rz205)), (.ref o0)])) rfl rfl (hb hby d2_141)
                  have F207 := F157.same W206
                  have F208 := F156.other W206 (Or.inr (slot_ne (Or.inr (hw _ (List.mem_of_getElem? (i := 32) rfl))) (Or.inr (hw _ (List.mem_of_getElem? (i := 38) rfl))) (by decide) (t := (.array .byte)) (t' := .int) (by decide) (by decide)))
                  have F209 := F158.other W206 (Or.inr (slot_ne (Or.inl (hw _ (List.mem_of_getElem? (i := 45) rfl))) (Or.inr (hw _ (List.mem_of_getElem? (i := 38) rfl))) (by decide) (t := .int) (t' := .int) (by decide) (by decide)))
                  have A210 := A159.wr W206
                  have A211 := A160.wr W206
                  have A212 := A161.wr W206
                  have V213 := V162.other W206 ne10
                  have V214 := V163.other W206 (Ne.symm ne4)
                  have V215 := V164.other W206 (Ne.symm ne143)
                  have Z216 := Nat.le_trans Z165 (Keep.of_wr W206).1
                  have K206 := K155.wr W206 (Or.inl (List.mem_of_getElem? (i := 0) rfl))
                  have N206 := Fr.snoc X206 N205 g_o0
                  refine own_step st206 ?_
                  show own_Run p e below s _ _ _ T206 (mkF m 144 #[.val (.ref o0), .val (.ref o1), .val (.int (0 : Int32)), .val (.ref b3), .val (.int (8 : Int32)), .val (.int z8), .val (.int (0 : Int32))] [])
                  refine own_retV X206 hx Bd.returns (hb hby d2_144) (BodyLoose.notSynchronized Bd) (by decide) (by decide) ?_
                  rw [show T206.heap = h206 from e206]
                  exact ⟨cp142, k3, ((7 : Int32) - rz205), rfl, N206, K206, sz_cp142, A210, F209, F207, F208, V215⟩
              · skip
                refine own_step (T' := T155) (g' := (mkF m 136 #[.val (.ref o0), .val (.ref o1), .val (.int (0 : Int32)), .val (.ref b3), .val (.int (8 : Int32)), .val (.int z8), .val (.int (1 : Int32))] [(.int (1 : Int32)), (.ref b3), (.int (15 : Int32)), (.ref o0)])) (fun t k => ?_) ?_
                · show Steps p.tables e below (T155.setTop (mkF m 106 #[.val (.ref o0), .val (.ref o1), .val (.int (0 : Int32)), .val (.ref b3), .val (.int (8 : Int32)), .val (.int z8), .val (.int (1 : Int32))] [(.int (nar .byte u1))])) _
                  refine XS.ifYes X155.here hx rfl (pc0 := 106) (pc' := 115) rfl (hb hby d2_106) rfl ((if0 _ _).trans (feq hc186).2) (by decide) (by decide) ?_
                  show Steps p.tables e below (T155.setTop (mkF m 115 #[.val (.ref o0), .val (.ref o1), .val (.int (0 : Int32)), .val (.ref b3), .val (.int (8 : Int32)), .val (.int z8), .val (.int (1 : Int32))] [])) _
                  refine XS.aloadN X155.here hx rfl (hb hby d2_115) rfl rfl ?_
                  show Steps p.tables e below (T155.setTop (mkF m 116 #[.val (.ref o0), .val (.ref o1), .val (.int (0 : Int32)), .val (.ref b3), .val (.int (8 : Int32)), .val (.int z8), .val (.int (1 : Int32))] [(.ref o0)])) _
                  refine XS.iload X155.here hx rfl (hb hby d2_116) rfl ?_
                  show Steps p.tables e below (T155.setTop (mkF m 118 #[.val (.ref o0), .val (.ref o1), .val (.int (0 : Int32)), .val (.ref b3), .val (.int (8 : Int32)), .val (.int z8), .val (.int (1 : Int32))] [(.int (1 : Int32)), (.ref o0)])) _
                  refine XS.ifYes X155.here hx rfl (pc0 := 118) (pc' := 125) rfl (hb hby d2_118) rfl ((if0 _ _).trans (flt (by decide)).2.1) (by decide) (by decide) ?_
                  show Steps p.tables e below (T155.setTop (mkF m 125 #[.val (.ref o0), .val (.ref o1), .val (.int (0 : Int32)), .val (.ref b3), .val (.int (8 : Int32)), .val (.int z8), .val (.int (1 : Int32))] [(.ref o0)])) _
                  refine XS.bipush X155.here hx rfl (hb hby d2_125) ?_
                  show Steps p.tables e below (T155.setTop (mkF m 127 #[.val (.ref o0), .val (.ref o1), .val (.int (0 : Int32)), .val (.ref b3), .val (.int (8 : Int32)), .val (.int z8), .val (.int (1 : Int32))] [(.int (8 : Int32)), (.ref o0)])) _
                  refine XS.iload X155.here hx rfl (hb hby d2_127) rfl ?_
                  show Steps p.tables e below (T155.setTop (mkF m 129 #[.val (.ref o0), .val (.ref o1), .val (.int (0 : Int32)), .val (.ref b3), .val (.int (8 : Int32)), .val (.int z8), .val (.int (1 : Int32))] [(.int (1 : Int32)), (.int (8 : Int32)), (.ref o0)])) _
                  refine XS.imul X155.here hx rfl (hb hby d2_129) rfl ?_
                  show Steps p.tables e below (T155.setTop (mkF m 130 #[.val (.ref o0), .val (.ref o1), .val (.int (0 : Int32)), .val (.ref b3), .val (.int (8 : Int32)), .val (.int z8), .val (.int (1 : Int32))] [(.int (8 : Int32)), (.ref o0)])) _
                  refine XS.bipush X155.here hx rfl (hb hby d2_130) ?_
                  show Steps p.tables e below (T155.setTop (mkF m 132 #[.val (.ref o0), .val (.ref o1), .val (.int (0 : Int32)), .val (.ref b3), .val (.int (8 : Int32)), .val (.int z8), .val (.int (1 : Int32))] [(.int (7 : Int32)), (.int (8 : Int32)), (.ref o0)])) _
                  refine XS.iadd X155.here hx rfl (hb hby d2_132) rfl ?_
                  show Steps p.tables e below (T155.setTop (mkF m 133 #[.val (.ref o0), .val (.ref o1), .val (.int (0 : Int32)), .val (.ref b3), .val (.int (8 : Int32)), .val (.int z8), .val (.int (1 : Int32))] [(.int (15 : Int32)), (.ref o0)])) _
                  refine XS.aloadN X155.here hx rfl (hb hby d2_133) rfl rfl ?_
                  show Steps p.tables e below (T155.setTop (mkF m 134 #[.val (.ref o0), .val (.ref o1), .val (.int (0 : Int32)), .val (.ref b3), .val (.int (8 : Int32)), .val (.int z8), .val (.int (1 : Int32))] [(.ref b3), (.int (15 : Int32)), (.ref o0)])) _
                  refine XS.iload X155.here hx rfl (hb hby d2_134) rfl ?_
                  show Steps p.tables e below (T155.setTop (mkF m 136 #[.val (.ref o0), .val (.ref o1), .val (.int (0 : Int32)), .val (.ref b3), .val (.int (8 : Int32)), .val (.int z8), .val (.int (1 : Int32))] [(.int (1 : Int32)), (.ref b3), (.int (15 : Int32)), (.ref o0)])) _
                  exact k
                obtain ⟨cl218, Arcl218, qcl218, Scl218, Mcl218, Hcl218, Gcl218⟩ := id V163
                have hincl218 : ¬ ((1 : Int32) < 0 ∨ cl218.slots.size ≤ ((1 : Int32)).toNatClampNeg) := inb_of Scl218 ⟨by decide, by decide⟩
                have hatcl218 : cl218.slots[((1 : Int32)).toNatClampNeg]? = some (.int (nar .byte u1)) := Hcl218.at hincl218 rfl
                refine own_step (T' := T155) (g' := (mkF m 137 #[.val (.ref o0), .val (.ref o1), .val (.int (0 : Int32)), .val (.ref b3), .val (.int (8 : Int32)), .val (.int z8), .val (.int (1 : Int32))] [(.int (nar .byte u1)), (.int (15 : Int32)), (.ref o0)])) (fun t k => ?_) ?_
                · show Steps p.tables e below (T155.setTop (mkF m 136 #[.val (.ref o0), .val (.ref o1), .val (.int (0 : Int32)), .val (.ref b3), .val (.int (8 : Int32)), .val (.int z8), .val (.int (1 : Int32))] [(.int (1 : Int32)), (.ref b3), (.int (15 : Int32)), (.ref o0)])) _
                  refine X155.baloadBytes hx (j := (1 : Int32)) (v := (.int (nar .byte u1))) (by rw [e155]; exact Arcl218.1) (State.isArrayOf_alike hZ.alike Arcl218.2.1) Arcl218.2.2 hincl218 hatcl218 (g := (mkF m 136 #[.val (.ref o0), .val (.ref o1), .val (.int (0 : Int32)), .val (.ref b3), .val (.int (8 : Int32)), .val (.int z8), .val (.int (1 : Int32))] [(.int (1 : Int32)), (.ref b3), (.int (15 : Int32)), (.ref o0)])) rfl rfl (hb hby d2_136) _ ?_
                  show Steps p.tables e below (T155.setTop (mkF m 137 #[.val (.ref o0), .val (.ref o1), .val (.int (0 : Int32)), .val (.ref b3), .val (.int (8 : Int32)), .val (.int z8), .val (.int (1 : Int32))] [(.int (nar .byte u1)), (.int (15 : Int32)), (.ref o0)])) _
                  exact k
                obtain ⟨_, _, ⟨T219, L219, k219, n219⟩, -, X219, ⟨Lc219, hQ219, l219, y219, z219⟩, st219⟩ := Jvm.LawKit.callS X155 hx (y := (⟨"java/lang/Integer", "numberOfTrailingZeros", "(I)I"⟩ : MethodName)) hown (mvT hZ (hw _ (List.mem_of_getElem? (i := 33) rfl))) (mvT hZ (hw _ (List.mem_of_getElem? (i := 34) rfl))) (mvT hZ (hw _ (List.mem_of_getElem? (i := 35) rfl))) (mvT hZ (hw _ (List.mem_of_getElem? (i := 36) rfl))) (by decide) (backOf (W := 2) (rm5 l Z a0 hw [] (nar .byte u1)  h155 n0 Z165) hZ (hw _ (List.mem_of_getElem? (i := 36) rfl)) (hw _ (List.mem_of_getElem? (i := 35) rfl)) (by decide) (by decide)) (g := (mkF m 137 #[.val (.ref o0), .val (.ref o1), .val (.int (0 : Int32)), .val (.ref b3), .val (.int (8 : Int32)), .val (.int z8), .val (.int (1 : Int32))] [(.int (nar .byte u1)), (.int (15 : Int32)), (.ref o0)])) rfl (by rw [hml]; rfl) (argsL := [(.int (nar .byte u1))]) (rest := [(.int (15 : Int32)), (.ref o0)]) (lenOf pd_1 rfl) rfl (by show 2 * 0 + _ ≤ _; exact Nat.le_of_eq rfl) (hb hby d2_137) (fun _ _ => ⟨rfl, e155, (by decide : 2 + 0 ≤ _), (by decide : 16 + 0 ≤ _)⟩)
                dsimp only [Pt.U, Pt.locs, Pt.cells, Pt.slots] at X219 l219 y219 z219 st219 hQ219
                subst l219 y219 z219
                obtain ⟨rz219, rfl, N219q, eq219⟩ := hQ219
                have N219 := Fr.app N155 N219q
                refine own_step st219 ?_
                show own_Run p e below s _ _ _ T219 (mkF m 140 #[.val (.ref o0), .val (.ref o1), .val (.int (0 : Int32)), .val (.ref b3), .val (.int (8 : Int32)), .val (.int z8), .val (.int (1 : Int32))] [(.int rz219), (.int (15 : Int32)), (.ref o0)])
                refine own_step (T' := T219) (g' := (mkF m 141 #[.val (.ref o0), .val (.ref o1), .val (.int (0 : Int32)), .val (.ref b3), .val (.int (8 : Int32)), .val (.int z8), .val (.int (1 : Int32))] [(.int ((15 : Int32) - rz219)), (.ref o0)])) (fun t k => ?_) ?_
                · show Steps p.tables e below (T219.setTop (mkF m 140 #[.val (.ref o0), .val (.ref o1), .val (.int (0 : Int32)), .val (.ref b3), .val (.int (8 : Int32)), .val (.int z8), .val (.int (1 : Int32))] [(.int rz219), (.int (15 : Int32)), (.ref o0)])) _
                  refine XS.isub X219.here hx rfl (hb hby d2_140) rfl ?_
                  show Steps p.tables e below (T219.setTop (mkF m 141 #[.val (.ref o0), .val (.ref o1), .val (.int (0 : Int32)), .val (.ref b3), .val (.int (8 : Int32)), .val (.int z8), .val (.int (1 : Int32))] [(.int ((15 : Int32) - rz219)), (.ref o0)])) _
                  exact k
                obtain ⟨T220, h220, X220, e220, W220, st220⟩ := putF X219 hx hZ hown (host := "") (Or.inl (hw _ (List.mem_of_getElem? (i := 37) rfl))) Via.refl eq219 F157 A159 (Or.inr ⟨(hw _ (List.mem_of_getElem? (i := 38) rfl)), rfl, hnm⟩) (hw _ (List.mem_of_getElem? (i := 10) rfl)) (ty := .int) (by decide) rfl rfl (g := (mkF m 141 #[.val (.ref o0), .val (.ref o1), .val (.int (0 : Int32)), .val (.ref b3), .val (.int (8 : Int32)), .val (.int z8), .val (.int (1 : Int32))] [(.int ((15 : Int32) - rz219)), (.ref o0)])) rfl rfl (hb hby d2_141)
                have F221 := F157.same W220
                have F222 := F156.other W220 (Or.inr (slot_ne (Or.inr (hw _ (List.mem_of_getElem? (i := 32) rfl))) (Or.inr (hw _ (List.mem_of_getElem? (i := 38) rfl))) (by decide) (t := (.array .byte)) (t' := .int) (by decide) (by decide)))
                have F223 := F158.other W220 (Or.inr (slot_ne (Or.inl (hw _ (List.mem_of_getElem? (i := 45) rfl))) (Or.inr (hw _ (List.mem_of_getElem? (i := 38) rfl))) (by decide) (t := .int) (t' := .int) (by decide) (by decide)))
                have A224 := A159.wr W220
                have A225 := A160.wr W220
                have A226 := A161.wr W220
                have V227 := V162.other W220 ne10
                have V228 := V163.other W220 (Ne.symm ne4)
                have V229 := V164.other W220 (Ne.symm ne143)
                have Z230 := Nat.le_trans Z165 (Keep.of_wr W220).1
                have K220 := K155.wr W220 (Or.inl (List.mem_of_getElem? (i := 0) rfl))
                have N220 := Fr.snoc X220 N219 g_o0
                refine own_step st220 ?_
                show own_Run p e below s _ _ _ T220 (mkF m 144 #[.val (.ref o0), .val (.ref o1), .val (.int (0 : Int32)), .val (.ref b3), .val (.int (8 : Int32)), .val (.int z8), .val (.int (1 : Int32))] [])
                refine own_retV X220 hx Bd.returns (hb hby d2_144) (BodyLoose.notSynchronized Bd) (by decide) (by decide) ?_
                rw [show T220.heap = h220 from e220]
                exact ⟨cp142, k3, ((15 : Int32) - rz219), rfl, N220, K220, sz_cp142, A224, F223, F221, F222, V229⟩
            · skip
              refine own_step (T' := T155) (g' := (mkF m 136 #[.val (.ref o0), .val (.ref o1), .val (.int (0 : Int32)), .val (.ref b3), .val (.int (8 : Int32)), .val (.int z8), .val (.int (2 : Int32))] [(.int (2 : Int32)), (.ref b3), (.int (23 : Int32)), (.ref o0)])) (fun t k => ?_) ?_
              · show Steps p.tables e below (T155.setTop (mkF m 106 #[.val (.ref o0), .val (.ref o1), .val (.int (0 : Int32)), .val (.ref b3), .val (.int (8 : Int32)), .val (.int z8), .val (.int (2 : Int32))] [(.int (nar .byte u2))])) _
                refine XS.ifYes X155.here hx rfl (pc0 := 106) (pc' := 115) rfl (hb hby d2_106) rfl ((if0 _ _).trans (feq hc183).2) (by decide) (by decide) ?_
                show Steps p.tables e below (T155.setTop (mkF m 115 #[.val (.ref o0), .val (.ref o1), .val (.int (0 : Int32)), .val (.ref b3), .val (.int (8 : Int32)), .val (.int z8), .val (.int (2 : Int32))] [])) _
                refine XS.aloadN X155.here hx rfl (hb hby d2_115) rfl rfl ?_
                show Steps p.tables e below (T155.setTop (mkF m 116 #[.val (.ref o0), .val (.ref o1), .val (.int (0 : Int32)), .val (.ref b3), .val (.int (8 : Int32)), .val (.int z8), .val (.int (2 : Int32))] [(.ref o0)])) _
                refine XS.iload X155.here hx rfl (hb hby d2_116) rfl ?_
                show Steps p.tables e below (T155.setTop (mkF m 118 #[.val (.ref o0), .val (.ref o1), .val (.int (0 : Int32)), .val (.ref b3), .val (.int (8 : Int32)), .val (.int z8), .val (.int (2 : Int32))] [(.int (2 : Int32)), (.ref o0)])) _
                refine XS.ifYes X155.here hx rfl (pc0 := 118) (pc' := 125) rfl (hb hby d2_118) rfl ((if0 _ _).trans (flt (by decide)).2.1) (by decide) (by decide) ?_
                show Steps p.tables e below (T155.setTop (mkF m 125 #[.val (.ref o0), .val (.ref o1), .val (.int (0 : Int32)), .val (.ref b3), .val (.int (8 : Int32)), .val (.int z8), .val (.int (2 : Int32))] [(.ref o0)])) _
                refine XS.bipush X155.here hx rfl (hb hby d2_125) ?_
                show Steps p.tables e below (T155.setTop (mkF m 127 #[.val (.ref o0), .val (.ref o1), .val (.int (0 : Int32)), .val (.ref b3), .val (.int (8 : Int32)), .val (.int z8), .val (.int (2 : Int32))] [(.int (8 : Int32)), (.ref o0)])) _
                refine XS.iload X155.here hx rfl (hb hby d2_127) rfl ?_
                show Steps p.tables e below (T155.setTop (mkF m 129 #[.val (.ref o0), .val (.ref o1), .val (.int (0 : Int32)), .val (.ref b3), .val (.int (8 : Int32)), .val (.int z8), .val (.int (2 : Int32))] [(.int (2 : Int32)), (.int (8 : Int32)), (.ref o0)])) _
                refine XS.imul X155.here hx rfl (hb hby d2_129) rfl ?_
                show Steps p.tables e below (T155.setTop (mkF m 130 #[.val (.ref o0), .val (.ref o1), .val (.int (0 : Int32)), .val (.ref b3), .val (.int (8 : Int32)), .val (.int z8), .val (.int (2 : Int32))] [(.int (16 : Int32)), (.ref o0)])) _
                refine XS.bipush X155.here hx rfl (hb hby d2_130) ?_
                show Steps p.tables e below (T155.setTop (mkF m 132 #[.val (.ref o0), .val (.ref o1), .val (.int (0 : Int32)), .val (.ref b3), .val (.int (8 : Int32)), .val (.int z8), .val (.int (2 : Int32))] [(.int (7 : Int32)), (.int (16 : Int32)), (.ref o0)])) _
                refine XS.iadd X155.here hx rfl (hb hby d2_132) rfl ?_
                show Steps p.tables e below (T155.setTop (mkF m 133 #[.val (.ref o0), .val (.ref o1), .val (.int (0 : Int32)), .val (.ref b3), .val (.int (8 : Int32)), .val (.int z8), .val (.int (2 : Int32))] [(.int (23 : Int32)), (.ref o0)])) _
                refine XS.aloadN X155.here hx rfl (hb hby d2_133) rfl rfl ?_
                show Steps p.tables e below (T155.setTop (mkF m 134 #[.val (.ref o0), .val (.ref o1), .val (.int (0 : Int32)), .val (.ref b3), .val (.int (8 : Int32)), .val (.int z8), .val (.int (2 : Int32))] [(.ref b3), (.int (23 : Int32)), (.ref o0)])) _
                refine XS.iload X155.here hx rfl (hb hby d2_134) rfl ?_
                show Steps p.tables e below (T155.setTop (mkF m 136 #[.val (.ref o0), .val (.ref o1), .val (.int (0 : Int32)), .val (.ref b3), .val (.int (8 : Int32)), .val (.int z8), .val (.int (2 : Int32))] [(.int (2 : Int32)), (.ref b3), (.int (23 : Int32)), (.ref o0)])) _
                exact k
              obtain ⟨cl232, Arcl232, qcl232, Scl232, Mcl232, Hcl232, Gcl232⟩ := id V163
              have hincl232 : ¬ ((2 : Int32) < 0 ∨ cl232.slots.size ≤ ((2 : Int32)).toNatClampNeg) := inb_of Scl232 ⟨by decide, by decide⟩
              have hatcl232 : cl232.slots[((2 : Int32)).toNatClampNeg]? = some (.int (nar .byte u2)) := Hcl232.at hincl232 rfl
              refine own_step (T' := T155) (g' := (mkF m 137 #[.val (.ref o0), .val (.ref o1), .val (.int (0 : Int32)), .val (.ref b3), .val (.int (8 : Int32)), .val (.int z8), .val (.int (2 : Int32))] [(.int (nar .byte u2)), (.int (23 : Int32)), (.ref o0)])) (fun t k => ?_) ?_
              · show Steps p.tables e below (T155.setTop (mkF m 136 #[.val (.ref o0), .val (.ref o1), .val (.int (0 : Int32)), .val (.ref b3), .val (.int (8 : Int32)), .val (.int z8), .val (.int (2 : Int32))] [(.int (2 : Int32)), (.ref b3), (.int (23 : Int32)), (.ref o0)])) _
                refine X155.baloadBytes hx (j := (2 : Int32)) (v := (.int (nar .byte u2))) (by rw [e155]; exact Arcl232.1) (State.isArrayOf_alike hZ.alike Arcl232.2.1) Arcl232.2.2 hincl232 hatcl232 (g := (mkF m 136 #[.val (.ref o0), .val (.ref o1), .val (.int (0 : Int32)), .val (.ref b3), .val (.int (8 : Int32)), .val (.int z8), .val (.int (2 : Int32))] [(.int (2 : Int32)), (.ref b3), (.int (23 : Int32)), (.ref o0)])) rfl rfl (hb hby d2_136) _ ?_
                show Steps p.tables e below (T155.setTop (mkF m 137 #[.val (.ref o0), .val (.ref o1), .val (.int (0 : Int32)), .val (.ref b3), .val (.int (8 : Int32)), .val (.int z8), .val (.int (2 : Int32))] [(.int (nar .byte u2)), (.int (23 : Int32)), (.ref o0)])) _
                exact k
              obtain ⟨_, _, ⟨T233, L233, k233, n233⟩, -, X233, ⟨Lc233, hQ233, l233, y233, z233⟩, st233⟩ := Jvm.LawKit.callS X155 hx (y := (⟨"java/lang/Integer", "numberOfTrailingZeros", "(I)I"⟩ : MethodName)) hown (mvT hZ (hw _ (List.mem_of_getElem? (i := 33) rfl))) (mvT hZ (hw _ (List.mem_of_getElem? (i := 34) rfl))) (mvT hZ (hw _ (List.mem_of_getElem? (i := 35) rfl))) (mvT hZ (hw _ (List.mem_of_getElem? (i := 36) rfl))) (by decide) (backOf (W := 2) (rm5 l Z a0 hw [] (nar .byte u2)  h155 n0 Z165) hZ (hw _ (List.mem_of_getElem? (i := 36) rfl)) (hw _ (List.mem_of_getElem? (i := 35) rfl)) (by decide) (by decide)) (g := (mkF m 137 #[.val (.ref o0), .val (.ref o1), .val (.int (0 : Int32)), .val (.ref b3), .val (.int (8 : Int32)), .val (.int z8), .val (.int (2 : Int32))] [(.int (nar .byte u2)), (.int (23 : Int32)), (.ref o0)])) rfl (by rw [hml]; rfl) (argsL := [(.int (nar .byte u2))]) (rest := [(.int (23 : Int32)), (.ref o0)]) (lenOf pd_1 rfl) rfl (by show 2 * 0 + _ ≤ _; exact Nat.le_of_eq rfl) (hb hby d2_137) (fun _ _ => ⟨rfl, e155, (by decide : 2 + 0 ≤ _), (by decide : 16 + 0 ≤ _)⟩)
              dsimp only [Pt.U, Pt.locs, Pt.cells, Pt.slots] at X233 l233 y233 z233 st233 hQ233
              subst l233 y233 z233
              obtain ⟨rz233, rfl, N233q, eq233⟩ := hQ233
              have N233 := Fr.app N155 N233q
              refine own_step st233 ?_
              show own_Run p e below s _ _ _ T233 (mkF m 140 #[.val (.ref o0), .val (.ref o1), .val (.int (0 : Int32)), .val (.ref b3), .val (.int (8 : Int32)), .val (.int z8), .val (.int (2 : Int32))] [(.int rz233), (.int (23 : Int32)), (.ref o0)])
              refine own_step (T' := T233) (g' := (mkF m 141 #[.val (.ref o0), .val (.ref o1), .val (.int (0 : Int32)), .val (.ref b3), .val (.int (8 : Int32)), .val (.int z8), .val (.int (2 : Int32))] [(.int ((23 : Int32) - rz233)), (.ref o0)])) (fun t k => ?_) ?_
              · show Steps p.tables e below (T233.setTop (mkF m 140 #[.val (.ref o0), .val (.ref o1), .val (.int (0 : Int32)), .val (.ref b3), .val (.int (8 : Int32)), .val (.int z8), .val (.int (2 : Int32))] [(.int rz233), (.int (23 : Int32)), (.ref o0)])) _
                refine XS.isub X233.here hx rfl (hb hby d2_140) rfl ?_
                show Steps p.tables e below (T233.setTop (mkF m 141 #[.val (.ref o0), .val (.ref o1), .val (.int (0 : Int32)), .val (.ref b3), .val (.int (8 : Int32)), .val (.int z8), .val (.int (2 : Int32))] [(.int ((23 : Int32) - rz233)), (.ref o0)])) _
                exact k
              obtain ⟨T234, h234, X234, e234, W234, st234⟩ := putF X233 hx hZ hown (host := "") (Or.inl (hw _ (List.mem_of_getElem? (i := 37) rfl))) Via.refl eq233 F157 A159 (Or.inr ⟨(hw _ (List.mem_of_getElem? (i := 38) rfl)), rfl, hnm⟩) (hw _ (List.mem_of_getElem? (i := 10) rfl)) (ty := .int) (by decide) rfl rfl (g := (mkF m 141 #[.val (.ref o0), .val (.ref o1), .val (.int (0 : Int32)), .val (.ref b3), .val (.int (8 : Int32)), .val (.int z8), .val (.int (2 : Int32))] [(.int ((23 : Int32) - rz233)), (.ref o0)])) rfl rfl (hb hby d2_141)
              have F235 := F157.same W234
              have F236 := F156.other W234 (Or.inr (slot_ne (Or.inr (hw _ (List.mem_of_getElem? (i := 32) rfl))) (Or.inr (hw _ (List.mem_of_getElem? (i := 38) rfl))) (by decide) (t := (.array .byte)) (t' := .int) (by decide) (by decide)))
              have F237 := F158.other W234 (Or.inr (slot_ne (Or.inl (hw _ (List.mem_of_getElem? (i := 45) rfl))) (Or.inr (hw _ (List.mem_of_getElem? (i := 38) rfl))) (by decide) (t := .int) (t' := .int) (by decide) (by decide)))
              have A238 := A159.wr W234
              have A239 := A160.wr W234
              have A240 := A161.wr W234
              have V241 := V162.other W234 ne10
              have V242 := V163.other W234 (Ne.symm ne4)
              have V243 := V164.other W234 (Ne.symm ne143)
              have Z244 := Nat.le_trans Z165 (Keep.of_wr W234).1
              have K234 := K155.wr W234 (Or.inl (List.mem_of_getElem? (i := 0) rfl))
              have N234 := Fr.snoc X234 N233 g_o0
              refine own_step st234 ?_
              show own_Run p e below s _ _ _ T234 (mkF m 144 #[.val (.ref o0), .val (.ref o1), .val (.int (0 : Int32)), .val (.ref b3), .val (.int (8 : Int32)), .val (.int z8), .val (.int (2 : Int32))] [])
              refine own_retV X234 hx Bd.returns (hb hby d2_144) (BodyLoose.notSynchronized Bd) (by decide) (by decide) ?_
              rw [show T234.heap = h234 from e234]
              exact ⟨cp142, k3, ((23 : Int32) - rz233), rfl, N234, K234, sz_cp142, A238, F237, F235, F236, V243⟩
          · skip
            refine own_step (T' := T155) (g' := (mkF m 136 #[.val (.ref o0), .val (.ref o1), .val (.int (0 : Int32)), .val (.ref b3), .val (.int (8 : Int32)), .val (.int z8), .val (.int (3 : Int32))] [(.int (3 : Int32)), (.ref b3), (.int (31 : Int32)), (.ref o0)])) (fun t k => ?_) ?_
            · show Steps p.tables e below (T155.setTop (mkF m 106 #[.val (.ref o0), .val (.ref o1), .val (.int (0 : Int32)), .val (.ref b3), .val (.int (8 : Int32)), .val (.int z8), .val (.int (3 : Int32))] [(.int (nar .byte u3))])) _
              refine XS.ifYes X155.here hx rfl (pc0 := 106) (pc' := 115) rfl (hb hby d2_106) rfl ((if0 _ _).trans (feq hc180).2) (by decide) (by decide) ?_
              show Steps p.tables e below (T155.setTop (mkF m 115 #[.val (.ref o0), .val (.ref o1), .val (.int (0 : Int32)), .val (.ref b3), .val (.int (8 : Int32)), .val (.int z8), .val (.int (3 : Int32))] [])) _
              refine XS.aloadN X155.here hx rfl (hb hby d2_115) rfl rfl ?_
              show Steps p.tables e below (T155.setTop (mkF m 116 #[.val (.ref o0), .val (.ref o1), .val (.int (0 : Int32)), .val (.ref b3), .val (.int (8 : Int32)), .val (.int z8), .val (.int (3 : Int32))] [(.ref o0)])) _
              refine XS.iload X155.here hx rfl (hb hby d2_116) rfl ?_
              show Steps p.tables e below (T155.setTop (mkF m 118 #[.val (.ref o0), .val (.ref o1), .val (.int (0 : Int32)), .val (.ref b3), .val (.int (8 : Int32)), .val (.int z8), .val (.int (3 : Int32))] [(.int (3 : Int32)), (.ref o0)])) _
              refine XS.ifYes X155.here hx rfl (pc0 := 118) (pc' := 125) rfl (hb hby d2_118) rfl ((if0 _ _).trans (flt (by decide)).2.1) (by decide) (by decide) ?_
              show Steps p.tables e below (T155.setTop (mkF m 125 #[.val (.ref o0), .val (.ref o1), .val (.int (0 : Int32)), .val (.ref b3), .val (.int (8 : Int32)), .val (.int z8), .val (.int (3 : Int32))] [(.ref o0)])) _
              refine XS.bipush X155.here hx rfl (hb hby d2_125) ?_
              show Steps p.tables e below (T155.setTop (mkF m 127 #[.val (.ref o0), .val (.ref o1), .val (.int (0 : Int32)), .val (.ref b3), .val (.int (8 : Int32)), .val (.int z8), .val (.int (3 : Int32))] [(.int (8 : Int32)), (.ref o0)])) _
              refine XS.iload X155.here hx rfl (hb hby d2_127) rfl ?_
              show Steps p.tables e below (T155.setTop (mkF m 129 #[.val (.ref o0), .val (.ref o1), .val (.int (0 : Int32)), .val (.ref b3), .val (.int (8 : Int32)), .val (.int z8), .val (.int (3 : Int32))] [(.int (3 : Int32)), (.int (8 : Int32)), (.ref o0)])) _
              refine XS.imul X155.here hx rfl (hb hby d2_129) rfl ?_
              show Steps p.tables e below (T155.setTop (mkF m 130 #[.val (.ref o0), .val (.ref o1), .val (.int (0 : Int32)), .val (.ref b3), .val (.int (8 : Int32)), .val (.int z8), .val (.int (3 : Int32))] [(.int (24 : Int32)), (.ref o0)])) _
              refine XS.bipush X155.here hx rfl (hb hby d2_130) ?_
              show Steps p.tables e below (T155.setTop (mkF m 132 #[.val (.ref o0), .val (.ref o1), .val (.int (0 : Int32)), .val (.ref b3), .val (.int (8 : Int32)), .val (.int z8), .val (.int (3 : Int32))] [(.int (7 : Int32)), (.int (24 : Int32)), (.ref o0)])) _
              refine XS.iadd X155.here hx rfl (hb hby d2_132) rfl ?_
              show Steps p.tables e below (T155.setTop (mkF m 133 #[.val (.ref o0), .val (.ref o1), .val (.int (0 : Int32)), .val (.ref b3), .val (.int (8 : Int32)), .val (.int z8), .val (.int (3 : Int32))] [(.int (31 : Int32)), (.ref o0)])) _
              refine XS.aloadN X155.here hx rfl (hb hby d2_133) rfl rfl ?_
              show Steps p.tables e below (T155.setTop (mkF m 134 #[.val (.ref o0), .val (.ref o1), .val (.int (0 : Int32)), .val (.ref b3), .val (.int (8 : Int32)), .val (.int z8), .val (.int (3 : Int32))] [(.ref b3), (.int (31 : Int32)), (.ref o0)])) _
              refine XS.iload X155.here hx rfl (hb hby d2_134) rfl ?_
              show Steps p.tables e below (T155.setTop (mkF m 136 #[.val (.ref o0), .val (.ref o1), .val (.int (0 : Int32)), .val (.ref b3), .val (.int (8 : Int32)), .val (.int z8), .val (.int (3 : Int32))] [(.int (3 : Int32)), (.ref b3), (.int (31 : Int32)), (.ref o0)])) _
              exact k
            obtain ⟨cl246, Arcl246, qcl246, Scl246, Mcl246, Hcl246, Gcl246⟩ := id V163
            have hincl246 : ¬ ((3 : Int32) < 0 ∨ cl246.slots.size ≤ ((3 : Int32)).toNatClampNeg) := inb_of Scl246 ⟨by decide, by decide⟩
            have hatcl246 : cl246.slots[((3 : Int32)).toNatClampNeg]? = some (.int (nar .byte u3)) := Hcl246.at hincl246 rfl
            refine own_step (T' := T155) (g' := (mkF m 137 #[.val (.ref o0), .val (.ref o1), .val (.int (0 : Int32)), .val (.ref b3), .val (.int (8 : Int32)), .val (.int z8), .val (.int (3 : Int32))] [(.int (nar .byte u3)), (.int (31 : Int32)), (.ref o0)])) (fun t k => ?_) ?_
            · show Steps p.tables e below (T155.setTop (mkF m 136 #[.val (.ref o0), .val (.ref o1), .val (.int (0 : Int32)), .val (.ref b3), .val (.int (8 : Int32)), .val (.int z8), .val (.int (3 : Int32))] [(.int (3 : Int32)), (.ref b3), (.int (31 : Int32)), (.ref o0)])) _
              refine X155.baloadBytes hx (j := (3 : Int32)) (v := (.int (nar .byte u3))) (by rw [e155]; exact Arcl246.1) (State.isArrayOf_alike hZ.alike Arcl246.2.1) Arcl246.2.2 hincl246 hatcl246 (g := (mkF m 136 #[.val (.ref o0), .val (.ref o1), .val (.int (0 : Int32)), .val (.ref b3), .val (.int (8 : Int32)), .val (.int z8), .val (.int (3 : Int32))] [(.int (3 : Int32)), (.ref b3), (.int (31 : Int32)), (.ref o0)])) rfl rfl (hb hby d2_136) _ ?_
              show Steps p.tables e below (T155.setTop (mkF m 137 #[.val (.ref o0), .val (.ref o1), .val (.int (0 : Int32)), .val (.ref b3), .val (.int (8 : Int32)), .val (.int z8), .val (.int (3 : Int32))] [(.int (nar .byte u3)), (.int (31 : Int32)), (.ref o0)])) _
              exact k
            obtain ⟨_, _, ⟨T247, L247, k247, n247⟩, -, X247, ⟨Lc247, hQ247, l247, y247, z247⟩, st247⟩ := Jvm.LawKit.callS X155 hx (y := (⟨"java/lang/Integer", "numberOfTrailingZeros", "(I)I"⟩ : MethodName)) hown (mvT hZ (hw _ (List.mem_of_getElem? (i := 33) rfl))) (mvT hZ (hw _ (List.mem_of_getElem? (i := 34) rfl))) (mvT hZ (hw _ (List.mem_of_getElem? (i := 35) rfl))) (mvT hZ (hw _ (List.mem_of_getElem? (i := 36) rfl))) (by decide) (backOf (W := 2) (rm5 l Z a0 hw [] (nar .byte u3)  h155 n0 Z165) hZ (hw _ (List.mem_of_getElem? (i := 36) rfl)) (hw _ (List.mem_of_getElem? (i := 35) rfl)) (by decide) (by decide)) (g := (mkF m 137 #[.val (.ref o0), .val (.ref o1), .val (.int (0 : Int32)), .val (.ref b3), .val (.int (8 : Int32)), .val (.int z8), .val (.int (3 : Int32))] [(.int (nar .byte u3)), (.int (31 : Int32)), (.ref o0)])) rfl (by rw [hml]; rfl) (argsL := [(.int (nar .byte u3))]) (rest := [(.int (31 : Int32)), (.ref o0)]) (lenOf pd_1 rfl) rfl (by show 2 * 0 + _ ≤ _; exact Nat.le_of_eq rfl) (hb hby d2_137) (fun _ _ => ⟨rfl, e155, (by decide : 2 + 0 ≤ _), (by decide : 16 + 0 ≤ _)⟩)
            dsimp only [Pt.U, Pt.locs, Pt.cells, Pt.slots] at X247 l247 y247 z247 st247 hQ247
            subst l247 y247 z247
            obtain ⟨rz247, rfl, N247q, eq247⟩ := hQ247
            have N247 := Fr.app N155 N247q
            refine own_step st247 ?_
            show own_Run p e below s _ _ _ T247 (mkF m 140 #[.val (.ref o0), .val (.ref o1), .val (.int (0 : Int32)), .val (.ref b3), .val (.int (8 : Int32)), .val (.int z8), .val (.int (3 : Int32))] [(.int rz247), (.int (31 : Int32)), (.ref o0)])
            refine own_step (T' := T247) (g' := (mkF m 141 #[.val (.ref o0), .val (.ref o1), .val (.int (0 : Int32)), .val (.ref b3), .val (.int (8 : Int32)), .val (.int z8), .val (.int (3 : Int32))] [(.int ((31 : Int32) - rz247)), (.ref o0)])) (fun t k => ?_) ?_
            · show Steps p.tables e below (T247.setTop (mkF m 140 #[.val (.ref o0), .val (.ref o1), .val (.int (0 : Int32)), .val (.ref b3), .val (.int (8 : Int32)), .val (.int z8), .val (.int (3 : Int32))] [(.int rz247), (.int (31 : Int32)), (.ref o0)])) _
              refine XS.isub X247.here hx rfl (hb hby d2_140) rfl ?_
              show Steps p.tables e below (T247.setTop (mkF m 141 #[.val (.ref o0), .val (.ref o1), .val (.int (0 : Int32)), .val (.ref b3), .val (.int (8 : Int32)), .val (.int z8), .val (.int (3 : Int32))] [(.int ((31 : Int32) - rz247)), (.ref o0)])) _
              exact k
            obtain ⟨T248, h248, X248, e248, W248, st248⟩ := putF X247 hx hZ hown (host := "") (Or.inl (hw _ (List.mem_of_getElem? (i := 37) rfl))) Via.refl eq247 F157 A159 (Or.inr ⟨(hw _ (List.mem_of_getElem? (i := 38) rfl)), rfl, hnm⟩) (hw _ (List.mem_of_getElem? (i := 10) rfl)) (ty := .int) (by decide) rfl rfl (g := (mkF m 141 #[.val (.ref o0), .val (.ref o1), .val (.int (0 : Int32)), .val (.ref b3), .val (.int (8 : Int32)), .val (.int z8), .val (.int (3 : Int32))] [(.int ((31 : Int32) - rz247)), (.ref o0)])) rfl rfl (hb hby d2_141)
            have F249 := F157.same W248
            have F250 := F156.other W248 (Or.inr (slot_ne (Or.inr (hw _ (List.mem_of_getElem? (i := 32) rfl))) (Or.inr (hw _ (List.mem_of_getElem? (i := 38) rfl))) (by decide) (t := (.array .byte)) (t' := .int) (by decide) (by decide)))
            have F251 := F158.other W248 (Or.inr (slot_ne (Or.inl (hw _ (List.mem_of_getElem? (i := 45) rfl))) (Or.inr (hw _ (List.mem_of_getElem? (i := 38) rfl))) (by decide) (t := .int) (t' := .int) (by decide) (by decide)))
            have A252 := A159.wr W248
            have A253 := A160.wr W248
            have A254 := A161.wr W248
            have V255 := V162.other W248 ne10
            have V256 := V163.other W248 (Ne.symm ne4)
            have V257 := V164.other W248 (Ne.symm ne143)
            have Z258 := Nat.le_trans Z165 (Keep.of_wr W248).1
            have K248 := K155.wr W248 (Or.inl (List.mem_of_getElem? (i := 0) rfl))
            have N248 := Fr.snoc X248 N247 g_o0
            refine own_step st248 ?_
            show own_Run p e below s _ _ _ T248 (mkF m 144 #[.val (.ref o0), .val (.ref o1), .val (.int (0 : Int32)), .val (.ref b3), .val (.int (8 : Int32)), .val (.int z8), .val (.int (3 : Int32))] [])
            refine own_retV X248 hx Bd.returns (hb hby d2_144) (BodyLoose.notSynchronized Bd) (by decide) (by decide) ?_
            rw [show T248.heap = h248 from e248]
            exact ⟨cp142, k3, ((31 : Int32) - rz247), rfl, N248, K248, sz_cp142, A252, F251, F249, F250, V257⟩
        · skip
          refine own_step (T' := T155) (g' := (mkF m 136 #[.val (.ref o0), .val (.ref o1), .val (.int (0 : Int32)), .val (.ref b3), .val (.int (8 : Int32)), .val (.int z8), .val (.int (4 : Int32))] [(.int (4 : Int32)), (.ref b3), (.int (39 : Int32)), (.ref o0)])) (fun t k => ?_) ?_
          · show Steps p.tables e below (T155.setTop (mkF m 106 #[.val (.ref o0), .val (.ref o1), .val (.int (0 : Int32)), .val (.ref b3), .val (.int (8 : Int32)), .val (.int z8), .val (.int (4 : Int32))] [(.int (nar .byte u4))])) _
            refine XS.ifYes X155.here hx rfl (pc0 := 106) (pc' := 115) rfl (hb hby d2_106) rfl ((if0 _ _).trans (feq hc177).2) (by decide) (by decide) ?_
            show Steps p.tables e below (T155.setTop (mkF m 115 #[.val (.ref o0), .val (.ref o1), .val (.int (0 : Int32)), .val (.ref b3), .val (.int (8 : Int32)), .val (.int z8), .val (.int (4 : Int32))] [])) _
            refine XS.aloadN X155.here hx rfl (hb hby d2_115) rfl rfl ?_
            show Steps p.tables e below (T155.setTop (mkF m 116 #[.val (.ref o0), .val (.ref o1), .val (.int (0 : Int32)), .val (.ref b3), .val (.int (8 : Int32)), .val (.int z8), .val (.int (4 : Int32))] [(.ref o0)])) _
            refine XS.iload X155.here hx rfl (hb hby d2_116) rfl ?_
            show Steps p.tables e below (T155.setTop (mkF m 118 #[.val (.ref o0), .val (.ref o1), .val (.int (0 : Int32)), .val (.ref b3), .val (.int (8 : Int32)), .val (.int z8), .val (.int (4 : Int32))] [(.int (4 : Int32)), (.ref o0)])) _
            refine XS.ifYes X155.here hx rfl (pc0 := 118) (pc' := 125) rfl (hb hby d2_118) rfl ((if0 _ _).trans (flt (by decide)).2.1) (by decide) (by decide) ?_
            show Steps p.tables e below (T155.setTop (mkF m 125 #[.val (.ref o0), .val (.ref o1), .val (.int (0 : Int32)), .val (.ref b3), .val (.int (8 : Int32)), .val (.int z8), .val (.int (4 : Int32))] [(.ref o0)])) _
            refine XS.bipush X155.here hx rfl (hb hby d2_125) ?_
            show Steps p.tables e below (T155.setTop (mkF m 127 #[.val (.ref o0), .val (.ref o1), .val (.int (0 : Int32)), .val (.ref b3), .val (.int (8 : Int32)), .val (.int z8), .val (.int (4 : Int32))] [(.int (8 : Int32)), (.ref o0)])) _
            refine XS.iload X155.here hx rfl (hb hby d2_127) rfl ?_
            show Steps p.tables e below (T155.setTop (mkF m 129 #[.val (.ref o0), .val (.ref o1), .val (.int (0 : Int32)), .val (.ref b3), .val (.int (8 : Int32)), .val (.int z8), .val (.int (4 : Int32))] [(.int (4 : Int32)), (.int (8 : Int32)), (.ref o0)])) _
            refine XS.imul X155.here hx rfl (hb hby d2_129) rfl ?_
            show Steps p.tables e below (T155.setTop (mkF m 130 #[.val (.ref o0), .val (.ref o1), .val (.int (0 : Int32)), .val (.ref b3), .val (.int (8 : Int32)), .val (.int z8), .val (.int (4 : Int32))] [(.int (32 : Int32)), (.ref o0)])) _
            refine XS.bipush X155.here hx rfl (hb hby d2_130) ?_
            show Steps p.tables e below (T155.setTop (mkF m 132 #[.val (.ref o0), .val (.ref o1), .val (.int (0 : Int32)), .val (.ref b3), .val (.int (8 : Int32)), .val (.int z8), .val (.int (4 : Int32))] [(.int (7 : Int32)), (.int (32 : Int32)), (.ref o0)])) _
            refine XS.iadd X155.here hx rfl (hb hby d2_132) rfl ?_
            show Steps p.tables e below (T155.setTop (mkF m 133 #[.val (.ref o0), .val (.ref o1), .val (.int (0 : Int32)), .val (.ref b3), .val (.int (8 : Int32)), .val (.int z8), .val (.int (4 : Int32))] [(.int (39 : Int32)), (.ref o0)])) _
            refine XS.aloadN X155.here hx rfl (hb hby d2_133) rfl rfl ?_
            show Steps p.tables e below (T155.setTop (mkF m 134 #[.val (.ref o0), .val (.ref o1), .val (.int (0 : Int32)), .val (.ref b3), .val (.int (8 : Int32)), .val (.int z8), .val (.int (4 : Int32))] [(.ref b3), (.int (39 : Int32)), (.ref o0)])) _
            refine XS.iload X155.here hx rfl (hb hby d2_134) rfl ?_
            show Steps p.tables e below (T155.setTop (mkF m 136 #[.val (.ref o0), .val (.ref o1), .val (.int (0 : Int32)), .val (.ref b3), .val (.int (8 : Int32)), .val (.int z8), .val (.int (4 : Int32))] [(.int (4 : Int32)), (.ref b3), (.int (39 : Int32)), (.ref o0)])) _
            exact k
          obtain ⟨cl260, Arcl260, qcl260, Scl260, Mcl260, Hcl260, Gcl260⟩ := id V163
          have hincl260 : ¬ ((4 : Int32) < 0 ∨ cl260.slots.size ≤ ((4 : Int32)).toNatClampNeg) := inb_of Scl260 ⟨by decide, by decide⟩
          have hatcl260 : cl260.slots[((4 : Int32)).toNatClampNeg]? = some (.int (nar .byte u4)) := Hcl260.at hincl260 rfl
          refine own_step (T' := T155) (g' := (mkF m 137 #[.val (.ref o0), .val (.ref o1), .val (.int (0 : Int32)), .val (.ref b3), .val (.int (8 : Int32)), .val (.int z8), .val (.int (4 : Int32))] [(.int (nar .byte u4)), (.int (39 : Int32)), (.ref o0)])) (fun t k => ?_) ?_
          · show Steps p.tables e below (T155.setTop (mkF m 136 #[.val (.ref o0), .val (.ref o1), .val (.int (0 : Int32)), .val (.ref b3), .val (.int (8 : Int32)), .val (.int z8), .val (.int (4 : Int32))] [(.int (4 : Int32)), (.ref b3), (.int (39 : Int32)), (.ref o0)])) _
            refine X155.baloadBytes hx (j := (4 : Int32)) (v := (.int (nar .byte u4))) (by rw [e155]; exact Arcl260.1) (State.isArrayOf_alike hZ.alike Arcl260.2.1) Arcl260.2.2 hincl260 hatcl260 (g := (mkF m 136 #[.val (.ref o0), .val (.ref o1), .val (.int (0 : Int32)), .val (.ref b3), .val (.int (8 : Int32)), .val (.int z8), .val (.int (4 : Int32))] [(.int (4 : Int32)), (.ref b3), (.int (39 : Int32)), (.ref o0)])) rfl rfl (hb hby d2_136) _ ?_
            show Steps p.tables e below (T155.setTop (mkF m 137 #[.val (.ref o0), .val (.ref o1), .val (.int (0 : Int32)), .val (.ref b3), .val (.int (8 : Int32)), .val (.int z8), .val (.int (4 : Int32))] [(.int (nar .byte u4)), (.int (39 : Int32)), (.ref o0)])) _
            exact k
          obtain ⟨_, _, ⟨T261, L261, k261, n261⟩, -, X261, ⟨Lc261, hQ261, l261, y261, z261⟩, st261⟩ := Jvm.LawKit.callS X155 hx (y := (⟨"java/lang/Integer", "numberOfTrailingZeros", "(I)I"⟩ : MethodName)) hown (mvT hZ (hw _ (List.mem_of_getElem? (i := 33) rfl))) (mvT hZ (hw _ (List.mem_of_getElem? (i := 34) rfl))) (mvT hZ (hw _ (List.mem_of_getElem? (i := 35) rfl))) (mvT hZ (hw _ (List.mem_of_getElem? (i := 36) rfl))) (by decide) (backOf (W := 2) (rm5 l Z a0 hw [] (nar .byte u4)  h155 n0 Z165) hZ (hw _ (List.mem_of_getElem? (i := 36) rfl)) (hw _ (List.mem_of_getElem? (i := 35) rfl)) (by decide) (by decide)) (g := (mkF m 137 #[.val (.ref o0), .val (.ref o1), .val (.int (0 : Int32)), .val (.ref b3), .val (.int (8 : Int32)), .val (.int z8), .val (.int (4 : Int32))] [(.int (nar .byte u4)), (.int (39 : Int32)), (.ref o0)])) rfl (by rw [hml]; rfl) (argsL := [(.int (nar .byte u4))]) (rest := [(.int (39 : Int32)), (.ref o0)]) (lenOf pd_1 rfl) rfl (by show 2 * 0 + _ ≤ _; exact Nat.le_of_eq rfl) (hb hby d2_137) (fun _ _ => ⟨rfl, e155, (by decide : 2 + 0 ≤ _), (by decide : 16 + 0 ≤ _)⟩)
          dsimp only [Pt.U, Pt.locs, Pt.cells, Pt.slots] at X261 l261 y261 z261 st261 hQ261
          subst l261 y261 z261
          obtain ⟨rz261, rfl, N261q, eq261⟩ := hQ261
          have N261 := Fr.app N155 N261q
          refine own_step st261 ?_
          show own_Run p e below s _ _ _ T261 (mkF m 140 #[.val (.ref o0), .val (.ref o1), .val (.int (0 : Int32)), .val (.ref b3), .val (.int (8 : Int32)), .val (.int z8), .val (.int (4 : Int32))] [(.int rz261), (.int (39 : Int32)), (.ref o0)])
          refine own_step (T' := T261) (g' := (mkF m 141 #[.val (.ref o0), .val (.ref o1), .val (.int (0 : Int32)), .val (.ref b3), .val (.int (8 : Int32)), .val (.int z8), .val (.int (4 : Int32))] [(.int ((39 : Int32) - rz261)), (.ref o0)])) (fun t k => ?_) ?_
          · show Steps p.tables e below (T261.setTop (mkF m 140 #[.val (.ref o0), .val (.ref o1), .val (.int (0 : Int32)), .val (.ref b3), .val (.int (8 : Int32)), .val (.int z8), .val (.int (4 : Int32))] [(.int rz261), (.int (39 : Int32)), (.ref o0)])) _
            refine XS.isub X261.here hx rfl (hb hby d2_140) rfl ?_
            show Steps p.tables e below (T261.setTop (mkF m 141 #[.val (.ref o0), .val (.ref o1), .val (.int (0 : Int32)), .val (.ref b3), .val (.int (8 : Int32)), .val (.int z8), .val (.int (4 : Int32))] [(.int ((39 : Int32) - rz261)), (.ref o0)])) _
            exact k
          obtain ⟨T262, h262, X262, e262, W262, st262⟩ := putF X261 hx hZ hown (host := "") (Or.inl (hw _ (List.mem_of_getElem? (i := 37) rfl))) Via.refl eq261 F157 A159 (Or.inr ⟨(hw _ (List.mem_of_getElem? (i := 38) rfl)), rfl, hnm⟩) (hw _ (List.mem_of_getElem? (i := 10) rfl)) (ty := .int) (by decide) rfl rfl (g := (mkF m 141 #[.val (.ref o0), .val (.ref o1), .val (.int (0 : Int32)), .val (.ref b3), .val (.int (8 : Int32)), .val (.int z8), .val (.int (4 : Int32))] [(.int ((39 : Int32) - rz261)), (.ref o0)])) rfl rfl (hb hby d2_141)
          have F263 := F157.same W262
          have F264 := F156.other W262 (Or.inr (slot_ne (Or.inr (hw _ (List.mem_of_getElem? (i := 32) rfl))) (Or.inr (hw _ (List.mem_of_getElem? (i := 38) rfl))) (by decide) (t := (.array .byte)) (t' := .int) (by decide) (by decide)))
          have F265 := F158.other W262 (Or.inr (slot_ne (Or.inl (hw _ (List.mem_of_getElem? (i := 45) rfl))) (Or.inr (hw _ (List.mem_of_getElem? (i := 38) rfl))) (by decide) (t := .int) (t' := .int) (by decide) (by decide)))
          have A266 := A159.wr W262
          have A267 := A160.wr W262
          have A268 := A161.wr W262
          have V269 := V162.other W262 ne10
          have V270 := V163.other W262 (Ne.symm ne4)
          have V271 := V164.other W262 (Ne.symm ne143)
          have Z272 := Nat.le_trans Z165 (Keep.of_wr W262).1
          have K262 := K155.wr W262 (Or.inl (List.mem_of_getElem? (i := 0) rfl))
          have N262 := Fr.snoc X262 N261 g_o0
          refine own_step st262 ?_
          show own_Run p e below s _ _ _ T262 (mkF m 144 #[.val (.ref o0), .val (.ref o1), .val (.int (0 : Int32)), .val (.ref b3), .val (.int (8 : Int32)), .val (.int z8), .val (.int (4 : Int32))] [])
          refine own_retV X262 hx Bd.returns (hb hby d2_144) (BodyLoose.notSynchronized Bd) (by decide) (by decide) ?_
          rw [show T262.heap = h262 from e262]
          exact ⟨cp142, k3, ((39 : Int32) - rz261), rfl, N262, K262, sz_cp142, A266, F265, F263, F264, V271⟩
      · skip
        refine own_step (T' := T155) (g' := (mkF m 136 #[.val (.ref o0), .val (.ref o1), .val (.int (0 : Int32)), .val (.ref b3), .val (.int (8 : Int32)), .val (.int z8), .val (.int (5 : Int32))] [(.int (5 : Int32)), (.ref b3), (.int (47 : Int32)), (.ref o0)])) (fun t k => ?_) ?_
        · show Steps p.tables e below (T155.setTop (mkF m 106 #[.val (.ref o0), .val (.ref o1), .val (.int (0 : Int32)), .val (.ref b3), .val (.int (8 : Int32)), .val (.int z8), .val (.int (5 : Int32))] [(.int (nar .byte u5))])) _
          refine XS.ifYes X155.here hx rfl (pc0 := 106) (pc' := 115) rfl (hb hby d2_106) rfl ((if0 _ _).trans (feq hc174).2) (by decide) (by decide) ?_
          show Steps p.tables e below (T155.setTop (mkF m 115 #[.val (.ref o0), .val (.ref o1), .val (.int (0 : Int32)), .val (.ref b3), .val (.int (8 : Int32)), .val (.int z8), .val (.int (5 : Int32))] [])) _
          refine XS.aloadN X155.here hx rfl (hb hby d2_115) rfl rfl ?_
          show Steps p.tables e below (T155.setTop (mkF m 116 #[.val (.ref o0), .val (.ref o1), .val (.int (0 : Int32)), .val (.ref b3), .val (.int (8 : Int32)), .val (.int z8), .val (.int (5 : Int32))] [(.ref o0)])) _
          refine XS.iload X155.here hx rfl (hb hby d2_116) rfl ?_
          show Steps p.tables e below (T155.setTop (mkF m 118 #[.val (.ref o0), .val (.ref o1), .val (.int (0 : Int32)), .val (.ref b3), .val (.int (8 : Int32)), .val (.int z8), .val (.int (5 : Int32))] [(.int (5 : Int32)), (.ref o0)])) _
          refine XS.ifYes X155.here hx rfl (pc0 := 118) (pc' := 125) rfl (hb hby d2_118) rfl ((if0 _ _).trans (flt (by decide)).2.1) (by decide) (by decide) ?_
          show Steps p.tables e below (T155.setTop (mkF m 125 #[.val (.ref o0), .val (.ref o1), .val (.int (0 : Int32)), .val (.ref b3), .val (.int (8 : Int32)), .val (.int z8), .val (.int (5 : Int32))] [(.ref o0)])) _
          refine XS.bipush X155.here hx rfl (hb hby d2_125) ?_
          show Steps p.tables e below (T155.setTop (mkF m 127 #[.val (.ref o0), .val (.ref o1), .val (.int (0 : Int32)), .val (.ref b3), .val (.int (8 : Int32)), .val (.int z8), .val (.int (5 : Int32))] [(.int (8 : Int32)), (.ref o0)])) _
          refine XS.iload X155.here hx rfl (hb hby d2_127) rfl ?_
          show Steps p.tables e below (T155.setTop (mkF m 129 #[.val (.ref o0), .val (.ref o1), .val (.int (0 : Int32)), .val (.ref b3), .val (.int (8 : Int32)), .val (.int z8), .val (.int (5 : Int32))] [(.int (5 : Int32)), (.int (8 : Int32)), (.ref o0)])) _
          refine XS.imul X155.here hx rfl (hb hby d2_129) rfl ?_
          show Steps p.tables e below (T155.setTop (mkF m 130 #[.val (.ref o0), .val (.ref o1), .val (.int (0 : Int32)), .val (.ref b3), .val (.int (8 : Int32)), .val (.int z8), .val (.int (5 : Int32))] [(.int (40 : Int32)), (.ref o0)])) _
          refine XS.bipush X155.here hx rfl (hb hby d2_130) ?_
          show Steps p.tables e below (T155.setTop (mkF m 132 #[.val (.ref o0), .val (.ref o1), .val (.int (0 : Int32)), .val (.ref b3), .val (.int (8 : Int32)), .val (.int z8), .val (.int (5 : Int32))] [(.int (7 : Int32)), (.int (40 : Int32)), (.ref o0)])) _
          refine XS.iadd X155.here hx rfl (hb hby d2_132) rfl ?_
          show Steps p.tables e below (T155.setTop (mkF m 133 #[.val (.ref o0), .val (.ref o1), .val (.int (0 : Int32)), .val (.ref b3), .val (.int (8 : Int32)), .val (.int z8), .val (.int (5 : Int32))] [(.int (47 : Int32)), (.ref o0)])) _
          refine XS.aloadN X155.here hx rfl (hb hby d2_133) rfl rfl ?_
          show Steps p.tables e below (T155.setTop (mkF m 134 #[.val (.ref o0), .val (.ref o1), .val (.int (0 : Int32)), .val (.ref b3), .val (.int (8 : Int32)), .val (.int z8), .val (.int (5 : Int32))] [(.ref b3), (.int (47 : Int32)), (.ref o0)])) _
          refine XS.iload X155.here hx rfl (hb hby d2_134) rfl ?_
          show Steps p.tables e below (T155.setTop (mkF m 136 #[.val (.ref o0), .val (.ref o1), .val (.int (0 : Int32)), .val (.ref b3), .val (.int (8 : Int32)), .val (.int z8), .val (.int (5 : Int32))] [(.int (5 : Int32)), (.ref b3), (.int (47 : Int32)), (.ref o0)])) _
          exact k
        obtain ⟨cl274, Arcl274, qcl274, Scl274, Mcl274, Hcl274, Gcl274⟩ := id V163
        have hincl274 : ¬ ((5 : Int32) < 0 ∨ cl274.slots.size ≤ ((5 : Int32)).toNatClampNeg) := inb_of Scl274 ⟨by decide, by decide⟩
        have hatcl274 : cl274.slots[((5 : Int32)).toNatClampNeg]? = some (.int (nar .byte u5)) := Hcl274.at hincl274 rfl
        refine own_step (T' := T155) (g' := (mkF m 137 #[.val (.ref o0), .val (.ref o1), .val (.int (0 : Int32)), .val (.ref b3), .val (.int (8 : Int32)), .val (.int z8), .val (.int (5 : Int32))] [(.int (nar .byte u5)), (.int (47 : Int32)), (.ref o0)])) (fun t k => ?_) ?_
        · show Steps p.tables e below (T155.setTop (mkF m 136 #[.val (.ref o0), .val (.ref o1), .val (.int (0 : Int32)), .val (.ref b3), .val (.int (8 : Int32)), .val (.int z8), .val (.int (5 : Int32))] [(.int (5 : Int32)), (.ref b3), (.int (47 : Int32)), (.ref o0)])) _
          refine X155.baloadBytes hx (j := (5 : Int32)) (v := (.int (nar .byte u5))) (by rw [e155]; exact Arcl274.1) (State.isArrayOf_alike hZ.alike Arcl274.2.1) Arcl274.2.2 hincl274 hatcl274 (g := (mkF m 136 #[.val (.ref o0), .val (.ref o1), .val (.int (0 : Int32)), .val (.ref b3), .val (.int (8 : Int32)), .val (.int z8), .val (.int (5 : Int32))] [(.int (5 : Int32)), (.ref b3), (.int (47 : Int32)), (.ref o0)])) rfl rfl (hb hby d2_136) _ ?_
          show Steps p.tables e below (T155.setTop (mkF m 137 #[.val (.ref o0), .val (.ref o1), .val (.int (0 : Int32)), .val (.ref b3), .val (.int (8 : Int32)), .val (.int z8), .val (.int (5 : Int32))] [(.int (nar .byte u5)), (.int (47 : Int32)), (.ref o0)])) _
          exact k
        obtain ⟨_, _, ⟨T275, L275, k275, n275⟩, -, X275, ⟨Lc275, hQ275, l275, y275, z275⟩, st275⟩ := Jvm.LawKit.callS X155 hx (y := (⟨"java/lang/Integer", "numberOfTrailingZeros", "(I)I"⟩ : MethodName)) hown (mvT hZ (hw _ (List.mem_of_getElem? (i := 33) rfl))) (mvT hZ (hw _ (List.mem_of_getElem? (i := 34) rfl))) (mvT hZ (hw _ (List.mem_of_getElem? (i := 35) rfl))) (mvT hZ (hw _ (List.mem_of_getElem? (i := 36) rfl))) (by decide) (backOf (W := 2) (rm5 l Z a0 hw [] (nar .byte u5)  h155 n0 Z165) hZ (hw _ (List.mem_of_getElem? (i := 36) rfl)) (hw _ (List.mem_of_getElem? (i := 35) rfl)) (by decide) (by decide)) (g := (mkF m 137 #[.val (.ref o0), .val (.ref o1), .val (.int (0 : Int32)), .val (.ref b3), .val (.int (8 : Int32)), .val (.int z8), .val (.int (5 : Int32))] [(.int (nar .byte u5)), (.int (47 : Int32)), (.ref o0)])) rfl (by rw [hml]; rfl) (argsL := [(.int (nar .byte u5))]) (rest := [(.int (47 : Int32)), (.ref o0)]) (lenOf pd_1 rfl) rfl (by show 2 * 0 + _ ≤ _; exact Nat.le_of_eq rfl) (hb hby d2_137) (fun _ _ => ⟨rfl, e155, (by decide : 2 + 0 ≤ _), (by decide : 16 + 0 ≤ _)⟩)
        dsimp only [Pt.U, Pt.locs, Pt.cells, Pt.slots] at X275 l275 y275 z275 st275 hQ275
        subst l275 y275 z275
        obtain ⟨rz275, rfl, N275q, eq275⟩ := hQ275
        have N275 := Fr.app N155 N275q
        refine own_step st275 ?_
        show own_Run p e below s _ _ _ T275 (mkF m 140 #[.val (.ref o0), .val (.ref o1), .val (.int (0 : Int32)), .val (.ref b3), .val (.int (8 : Int32)), .val (.int z8), .val (.int (5 : Int32))] [(.int rz275), (.int (47 : Int32)), (.ref o0)])
        refine own_step (T' := T275) (g' := (mkF m 141 #[.val (.ref o0), .val (.ref o1), .val (.int (0 : Int32)), .val (.ref b3), .val (.int (8 : Int32)), .val (.int z8), .val (.int (5 : Int32))] [(.int ((47 : Int32) - rz275)), (.ref o0)])) (fun t k => ?_) ?_
        · show Steps p.tables e below (T275.setTop (mkF m 140 #[.val (.ref o0), .val (.ref o1), .val (.int (0 : Int32)), .val (.ref b3), .val (.int (8 : Int32)), .val (.int z8), .val (.int (5 : Int32))] [(.int rz275), (.int (47 : Int32)), (.ref o0)])) _
          refine XS.isub X275.here hx rfl (hb hby d2_140) rfl ?_
          show Steps p.tables e below (T275.setTop (mkF m 141 #[.val (.ref o0), .val (.ref o1), .val (.int (0 : Int32)), .val (.ref b3), .val (.int (8 : Int32)), .val (.int z8), .val (.int (5 : Int32))] [(.int ((47 : Int32) - rz275)), (.ref o0)])) _
          exact k
        obtain ⟨T276, h276, X276, e276, W276, st276⟩ := putF X275 hx hZ hown (host := "") (Or.inl (hw _ (List.mem_of_getElem? (i := 37) rfl))) Via.refl eq275 F157 A159 (Or.inr ⟨(hw _ (List.mem_of_getElem? (i := 38) rfl)), rfl, hnm⟩) (hw _ (List.mem_of_getElem? (i := 10) rfl)) (ty := .int) (by decide) rfl rfl (g := (mkF m 141 #[.val (.ref o0), .val (.ref o1), .val (.int (0 : Int32)), .val (.ref b3), .val (.int (8 : Int32)), .val (.int z8), .val (.int (5 : Int32))] [(.int ((47 : Int32) - rz275)), (.ref o0)])) rfl rfl (hb hby d2_141)
        have F277 := F157.same W276
        have F278 := F156.other W276 (Or.inr (slot_ne (Or.inr (hw _ (List.mem_of_getElem? (i := 32) rfl))) (Or.inr (hw _ (List.mem_of_getElem? (i := 38) rfl))) (by decide) (t := (.array .byte)) (t' := .int) (by decide) (by decide)))
        have F279 := F158.other W276 (Or.inr (slot_ne (Or.inl (hw _ (List.mem_of_getElem? (i := 45) rfl))) (Or.inr (hw _ (List.mem_of_getElem? (i := 38) rfl))) (by decide) (t := .int) (t' := .int) (by decide) (by decide)))
        have A280 := A159.wr W276
        have A281 := A160.wr W276
        have A282 := A161.wr W276
        have V283 := V162.other W276 ne10
        have V284 := V163.other W276 (Ne.symm ne4)
        have V285 := V164.other W276 (Ne.symm ne143)
        have Z286 := Nat.le_trans Z165 (Keep.of_wr W276).1
        have K276 := K155.wr W276 (Or.inl (List.mem_of_getElem? (i := 0) rfl))
        have N276 := Fr.snoc X276 N275 g_o0
        refine own_step st276 ?_
        show own_Run p e below s _ _ _ T276 (mkF m 144 #[.val (.ref o0), .val (.ref o1), .val (.int (0 : Int32)), .val (.ref b3), .val (.int (8 : Int32)), .val (.int z8), .val (.int (5 : Int32))] [])
        refine own_retV X276 hx Bd.returns (hb hby d2_144) (BodyLoose.notSynchronized Bd) (by decide) (by decide) ?_
        rw [show T276.heap = h276 from e276]
        exact ⟨cp142, k3, ((47 : Int32) - rz275), rfl, N276, K276, sz_cp142, A280, F279, F277, F278, V285⟩
    · skip
      refine own_step (T' := T155) (g' := (mkF m 136 #[.val (.ref o0), .val (.ref o1), .val (.int (0 : Int32)), .val (.ref b3), .val (.int (8 : Int32)), .val (.int z8), .val (.int (6 : Int32))] [(.int (6 : Int32)), (.ref b3), (.int (55 : Int32)), (.ref o0)])) (fun t k => ?_) ?_
      · show Steps p.tables e below (T155.setTop (mkF m 106 #[.val (.ref o0), .val (.ref o1), .val (.int (0 : Int32)), .val (.ref b3), .val (.int (8 : Int32)), .val (.int z8), .val (.int (6 : Int32))] [(.int (nar .byte u6))])) _
        refine XS.ifYes X155.here hx rfl (pc0 := 106) (pc' := 115) rfl (hb hby d2_106) rfl ((if0 _ _).trans (feq hc171).2) (by decide) (by decide) ?_
        show Steps p.tables e below (T155.setTop (mkF m 115 #[.val (.ref o0), .val (.ref o1), .val (.int (0 : Int32)), .val (.ref b3), .val (.int (8 : Int32)), .val (.int z8), .val (.int (6 : Int32))] [])) _
        refine XS.aloadN X155.here hx rfl (hb hby d2_115) rfl rfl ?_
        show Steps p.tables e below (T155.setTop (mkF m 116 #[.val (.ref o0), .val (.ref o1), .val (.int (0 : Int32)), .val (.ref b3), .val (.int (8 : Int32)), .val (.int z8), .val (.int (6 : Int32))] [(.ref o0)])) _
        refine XS.iload X155.here hx rfl (hb hby d2_116) rfl ?_
        show Steps p.tables e below (T155.setTop (mkF m 118 #[.val (.ref o0), .val (.ref o1), .val (.int (0 : Int32)), .val (.ref b3), .val (.int (8 : Int32)), .val (.int z8), .val (.int (6 : Int32))] [(.int (6 : Int32)), (.ref o0)])) _
        refine XS.ifYes X155.here hx rfl (pc0 := 118) (pc' := 125) rfl (hb hby d2_118) rfl ((if0 _ _).trans (flt (by decide)).2.1) (by decide) (by decide) ?_
        show Steps p.tables e below (T155.setTop (mkF m 125 #[.val (.ref o0), .val (.ref o1), .val (.int (0 : Int32)), .val (.ref b3), .val (.int (8 : Int32)), .val (.int z8), .val (.int (6 : Int32))] [(.ref o0)])) _
        refine XS.bipush X155.here hx rfl (hb hby d2_125) ?_
        show Steps p.tables e below (T155.setTop (mkF m 127 #[.val (.ref o0), .val (.ref o1), .val (.int (0 : Int32)), .val (.ref b3), .val (.int (8 : Int32)), .val (.int z8), .val (.int (6 : Int32))] [(.int (8 : Int32)), (.ref o0)])) _
        refine XS.iload X155.here hx rfl (hb hby d2_127) rfl ?_
        show Steps p.tables e below (T155.setTop (mkF m 129 #[.val (.ref o0), .val (.ref o1), .val (.int (0 : Int32)), .val (.ref b3), .val (.int (8 : Int32)), .val (.int z8), .val (.int (6 : Int32))] [(.int (6 : Int32)), (.int (8 : Int32)), (.ref o0)])) _
        refine XS.imul X155.here hx rfl (hb hby d2_129) rfl ?_
        show Steps p.tables e below (T155.setTop (mkF m 130 #[.val (.ref o0), .val (.ref o1), .val (.int (0 : Int32)), .val (.ref b3), .val (.int (8 : Int32)), .val (.int z8), .val (.int (6 : Int32))] [(.int (48 : Int32)), (.ref o0)])) _
        refine XS.bipush X155.here hx rfl (hb hby d2_130) ?_
        show Steps p.tables e below (T155.setTop (mkF m 132 #[.val (.ref o0), .val (.ref o1), .val (.int (0 : Int32)), .val (.ref b3), .val (.int (8 : Int32)), .val (.int z8), .val (.int (6 : Int32))] [(.int (7 : Int32)), (.int (48 : Int32)), (.ref o0)])) _
        refine XS.iadd X155.here hx rfl (hb hby d2_132) rfl ?_
        show Steps p.tables e below (T155.setTop (mkF m 133 #[.val (.ref o0), .val (.ref o1), .val (.int (0 : Int32)), .val (.ref b3), .val (.int (8 : Int32)), .val (.int z8), .val (.int (6 : Int32))] [(.int (55 : Int32)), (.ref o0)])) _
        refine XS.aloadN X155.here hx rfl (hb hby d2_133) rfl rfl ?_
        show Steps p.tables e below (T155.setTop (mkF m 134 #[.val (.ref o0), .val (.ref o1), .val (.int (0 : Int32)), .val (.ref b3), .val (.int (8 : Int32)), .val (.int z8), .val (.int (6 : Int32))] [(.ref b3), (.int (55 : Int32)), (.ref o0)])) _
        refine XS.iload X155.here hx rfl (hb hby d2_134) rfl ?_
        show Steps p.tables e below (T155.setTop (mkF m 136 #[.val (.ref o0), .val (.ref o1), .val (.int (0 : Int32)), .val (.ref b3), .val (.int (8 : Int32)), .val (.int z8), .val (.int (6 : Int32))] [(.int (6 : Int32)), (.ref b3), (.int (55 : Int32)), (.ref o0)])) _
        exact k
      obtain ⟨cl288, Arcl288, qcl288, Scl288, Mcl288, Hcl288, Gcl288⟩ := id V163
      have hincl288 : ¬ ((6 : Int32) < 0 ∨ cl288.slots.size ≤ ((6 : Int32)).toNatClampNeg) := inb_of Scl288 ⟨by decide, by decide⟩
      have hatcl288 : cl288.slots[((6 : Int32)).toNatClampNeg]? = some (.int (nar .byte u6)) := Hcl288.at hincl288 rfl
      refine own_step (T' := T155) (g' := (mkF m 137 #[.val (.ref o0), .val (.ref o1), .val (.int (0 : Int32)), .val (.ref b3), .val (.int (8 : Int32)), .val (.int z8), .val (.int (6 : Int32))] [(.int (nar .byte u6)), (.int (55 : Int32)), (.ref o0)])) (fun t k => ?_) ?_
      · show Steps p.tables e below (T155.setTop (mkF m 136 #[.val (.ref o0), .val (.ref o1), .val (.int (0 : Int32)), .val (.ref b3), .val (.int (8 : Int32)), .val (.int z8), .val (.int (6 : Int32))] [(.int (6 : Int32)), (.ref b3), (.int (55 : Int32)), (.ref o0)])) _
        refine X155.baloadBytes hx (j := (6 : Int32)) (v := (.int (nar .byte u6))) (by rw [e155]; exact Arcl288.1) (State.isArrayOf_alike hZ.alike Arcl288.2.1) Arcl288.2.2 hincl288 hatcl288 (g := (mkF m 136 #[.val (.ref o0), .val (.ref o1), .val (.int (0 : Int32)), .val (.ref b3), .val (.int (8 : Int32)), .val (.int z8), .val (.int (6 : Int32))] [(.int (6 : Int32)), (.ref b3), (.int (55 : Int32)), (.ref o0)])) rfl rfl (hb hby d2_136) _ ?_
        show Steps p.tables e below (T155.setTop (mkF m 137 #[.val (.ref o0), .val (.ref o1), .val (.int (0 : Int32)), .val (.ref b3), .val (.int (8 : Int32)), .val (.int z8), .val (.int (6 : Int32))] [(.int (nar .byte u6)), (.int (55 : Int32)), (.ref o0)])) _
        exact k
      obtain ⟨_, _, ⟨T289, L289, k289, n289⟩, -, X289, ⟨Lc289, hQ289, l289, y289, z289⟩, st289⟩ := Jvm.LawKit.callS X155 hx (y := (⟨"java/lang/Integer", "numberOfTrailingZeros", "(I)I"⟩ : MethodName)) hown (mvT hZ (hw _ (List.mem_of_getElem? (i := 33) rfl))) (mvT hZ (hw _ (List.mem_of_getElem? (i := 34) rfl))) (mvT hZ (hw _ (List.mem_of_getElem? (i := 35) rfl))) (mvT hZ (hw _ (List.mem_of_getElem? (i := 36) rfl))) (by decide) (backOf (W := 2) (rm5 l Z a0 hw [] (nar .byte u6)  h155 n0 Z165) hZ (hw _ (List.mem_of_getElem? (i := 36) rfl)) (hw _ (List.mem_of_getElem? (i := 35) rfl)) (by decide) (by decide)) (g := (mkF m 137 #[.val (.ref o0), .val (.ref o1), .val (.int (0 : Int32)), .val (.ref b3), .val (.int (8 : Int32)), .val (.int z8), .val (.int (6 : Int32))] [(.int (nar .byte u6)), (.int (55 : Int32)), (.ref o0)])) rfl (by rw [hml]; rfl) (argsL := [(.int (nar .byte u6))]) (rest := [(.int (55 : Int32)), (.ref o0)]) (lenOf pd_1 rfl) rfl (by show 2 * 0 + _ ≤ _; exact Nat.le_of_eq rfl) (hb hby d2_137) (fun _ _ => ⟨rfl, e155, (by decide : 2 + 0 ≤ _), (by decide : 16 + 0 ≤ _)⟩)
      dsimp only [Pt.U, Pt.locs, Pt.cells, Pt.slots] at X289 l289 y289 z289 st289 hQ289
      subst l289 y289 z289
      obtain ⟨rz289, rfl, N289q, eq289⟩ := hQ289
      have N289 := Fr.app N155 N289q
      refine own_step st289 ?_
      show own_Run p e below s _ _ _ T289 (mkF m 140 #[.val (.ref o0), .val (.ref o1), .val (.int (0 : Int32)), .val (.ref b3), .val (.int (8 : Int32)), .val (.int z8), .val (.int (6 : Int32))] [(.int rz289), (.int (55 : Int32)), (.ref o0)])
      refine own_step (T' := T289) (g' := (mkF m 141 #[.val (.ref o0), .val (.ref o1), .val (.int (0 : Int32)), .val (.ref b3), .val (.int (8 : Int32)), .val (.int z8), .val (.int (6 : Int32))] [(.int ((55 : Int32) - rz289)), (.ref o0)])) (fun t k => ?_) ?_
      · show Steps p.tables e below (T289.setTop (mkF m 140 #[.val (.ref o0), .val (.ref o1), .val (.int (0 : Int32)), .val (.ref b3), .val (.int (8 : Int32)), .val (.int z8), .val (.int (6 : Int32))] [(.int rz289), (.int (55 : Int32)), (.ref o0)])) _
        refine XS.isub X289.here hx rfl (hb hby d2_140) rfl ?_
        show Steps p.tables e below (T289.setTop (mkF m 141 #[.val (.ref o0), .val (.ref o1), .val (.int (0 : Int32)), .val (.ref b3), .val (.int (8 : Int32)), .val (.int z8), .val (.int (6 : Int32))] [(.int ((55 : Int32) - rz289)), (.ref o0)])) _
        exact k
      obtain ⟨T290, h290, X290, e290, W290, st290⟩ := putF X289 hx hZ hown (host := "") (Or.inl (hw _ (List.mem_of_getElem? (i := 37) rfl))) Via.refl eq289 F157 A159 (Or.inr ⟨(hw _ (List.mem_of_getElem? (i := 38) rfl)), rfl, hnm⟩) (hw _ (List.mem_of_getElem? (i := 10) rfl)) (ty := .int) (by decide) rfl rfl (g := (mkF m 141 #[.val (.ref o0), .val (.ref o1), .val (.int (0 : Int32)), .val (.ref b3), .val (.int (8 : Int32)), .val (.int z8), .val (.int (6 : Int32))] [(.int ((55 : Int32) - rz289)), (.ref o0)])) rfl rfl (hb hby d2_141)
      have F291 := F157.same W290
      have F292 := F156.other W290 (Or.inr (slot_ne (Or.inr (hw _ (List.mem_of_getElem? (i := 32) rfl))) (Or.inr (hw _ (List.mem_of_getElem? (i := 38) rfl))) (by decide) (t := (.array .byte)) (t' := .int) (by decide) (by decide)))
      have F293 := F158.other W290 (Or.inr (slot_ne (Or.inl (hw _ (List.mem_of_getElem? (i := 45) rfl))) (Or.inr (hw _ (List.mem_of_getElem? (i := 38) rfl))) (by decide) (t := .int) (t' := .int) (by decide) (by decide)))
      have A294 := A159.wr W290
      have A295 := A160.wr W290
      have A296 := A161.wr W290
      have V297 := V162.other W290 ne10
      have V298 := V163.other W290 (Ne.symm ne4)
      have V299 := V164.other W290 (Ne.symm ne143)
      have Z300 := Nat.le_trans Z165 (Keep.of_wr W290).1
      have K290 := K155.wr W290 (Or.inl (List.mem_of_getElem? (i := 0) rfl))
      have N290 := Fr.snoc X290 N289 g_o0
      refine own_step st290 ?_
      show own_Run p e below s _ _ _ T290 (mkF m 144 #[.val (.ref o0), .val (.ref o1), .val (.int (0 : Int32)), .val (.ref b3), .val (.int (8 : Int32)), .val (.int z8), .val (.int (6 : Int32))] [])
      refine own_retV X290 hx Bd.returns (hb hby d2_144) (BodyLoose.notSynchronized Bd) (by decide) (by decide) ?_
      rw [show T290.heap = h290 from e290]
      exact ⟨cp142, k3, ((55 : Int32) - rz289), rfl, N290, K290, sz_cp142, A294, F293, F291, F292, V299⟩
  · skip
    refine own_step (T' := T155) (g' := (mkF m 136 #[.val (.ref o0), .val (.ref o1), .val (.int (0 : Int32)), .val (.ref b3), .val (.int (8 : Int32)), .val (.int z8), .val (.int (7 : Int32))] [(.int (7 : Int32)), (.ref b3), (.int (63 : Int32)), (.ref o0)])) (fun t k => ?_) ?_
    · show Steps p.tables e below (T155.setTop (mkF m 106 #[.val (.ref o0), .val (.ref o1), .val (.int (0 : Int32)), .val (.ref b3), .val (.int (8 : Int32)), .val (.int z8), .val (.int (7 : Int32))] [(.int (nar .byte u7))])) _
      refine XS.ifYes X155.here hx rfl (pc0 := 106) (pc' := 115) rfl (hb hby d2_106) rfl ((if0 _ _).trans (feq hc168).2) (by decide) (by decide) ?_
      show Steps p.tables e below (T155.setTop (mkF m 115 #[.val (.ref o0), .val (.ref o1), .val (.int (0 : Int32)), .val (.ref b3), .val (.int (8 : Int32)), .val (.int z8), .val (.int (7 : Int32))] [])) _
      refine XS.aloadN X155.here hx rfl (hb hby d2_115) rfl rfl ?_
      show Steps p.tables e below (T155.setTop (mkF m 116 #[.val (.ref o0), .val (.ref o1), .val (.int (0 : Int32)), .val (.ref b3), .val (.int (8 : Int32)), .val (.int z8), .val (.int (7 : Int32))] [(.ref o0)])) _
      refine XS.iload X155.here hx rfl (hb hby d2_116) rfl ?_
      show Steps p.tables e below (T155.setTop (mkF m 118 #[.val (.ref o0), .val (.ref o1), .val (.int (0 : Int32)), .val (.ref b3), .val (.int (8 : Int32)), .val (.int z8), .val (.int (7 : Int32))] [(.int (7 : Int32)), (.ref o0)])) _
      refine XS.ifYes X155.here hx rfl (pc0 := 118) (pc' := 125) rfl (hb hby d2_118) rfl ((if0 _ _).trans (flt (by decide)).2.1) (by decide) (by decide) ?_
      show Steps p.tables e below (T155.setTop (mkF m 125 #[.val (.ref o0), .val (.ref o1), .val (.int (0 : Int32)), .val (.ref b3), .val (.int (8 : Int32)), .val (.int z8), .val (.int (7 : Int32))] [(.ref o0)])) _
      refine XS.bipush X155.here hx rfl (hb hby d2_125) ?_
      show Steps p.tables e below (T155.setTop (mkF m 127 #[.val (.ref o0), .val (.ref o1), .val (.int (0 : Int32)), .val (.ref b3), .val (.int (8 : Int32)), .val (.int z8), .val (.int (7 : Int32))] [(.int (8 : Int32)), (.ref o0)])) _
      refine XS.iload X155.here hx rfl (hb hby d2_127) rfl ?_
      show Steps p.tables e below (T155.setTop (mkF m 129 #[.val (.ref o0), .val (.ref o1), .val (.int (0 : Int32)), .val (.ref b3), .val (.int (8 : Int32)), .val (.int z8), .val (.int (7 : Int32))] [(.int (7 : Int32)), (.int (8 : Int32)), (.ref o0)])) _
      refine XS.imul X155.here hx rfl (hb hby d2_129) rfl ?_
      show Steps p.tables e below (T155.setTop (mkF m 130 #[.val (.ref o0), .val (.ref o1), .val (.int (0 : Int32)), .val (.ref b3), .val (.int (8 : Int32)), .val (.int z8), .val (.int (7 : Int32))] [(.int (56 : Int32)), (.ref o0)])) _
      refine XS.bipush X155.here hx rfl (hb hby d2_130) ?_
      show Steps p.tables e below (T155.setTop (mkF m 132 #[.val (.ref o0), .val (.ref o1), .val (.int (0 : Int32)), .val (.ref b3), .val (.int (8 : Int32)), .val (.int z8), .val (.int (7 : Int32))] [(.int (7 : Int32)), (.int (56 : Int32)), (.ref o0)])) _
      refine XS.iadd X155.here hx rfl (hb hby d2_132) rfl ?_
      show Steps p.tables e below (T155.setTop (mkF m 133 #[.val (.ref o0), .val (.ref o1), .val (.int (0 : Int32)), .val (.ref b3), .val (.int (8 : Int32)), .val (.int z8), .val (.int (7 : Int32))] [(.int (63 : Int32)), (.ref o0)])) _
      refine XS.aloadN X155.here hx rfl (hb hby d2_133) rfl rfl ?_
      show Steps p.tables e below (T155.setTop (mkF m 134 #[.val (.ref o0), .val (.ref o1), .val (.int (0 : Int32)), .val (.ref b3), .val (.int (8 : Int32)), .val (.int z8), .val (.int (7 : Int32))] [(.ref b3), (.int (63 : Int32)), (.ref o0)])) _
      refine XS.iload X155.here hx rfl (hb hby d2_134) rfl ?_
      show Steps p.tables e below (T155.setTop (mkF m 136 #[.val (.ref o0), .val (.ref o1), .val (.int (0 : Int32)), .val (.ref b3), .val (.int (8 : Int32)), .val (.int z8), .val (.int (7 : Int32))] [(.int (7 : Int32)), (.ref b3), (.int (63 : Int32)), (.ref o0)])) _
      exact k
    obtain ⟨cl302, Arcl302, qcl302, Scl302, Mcl302, Hcl302, Gcl302⟩ := id V163
    have hincl302 : ¬ ((7 : Int32) < 0 ∨ cl302.slots.size ≤ ((7 : Int32)).toNatClampNeg) := inb_of Scl302 ⟨by decide, by decide⟩
    have hatcl302 : cl302.slots[((7 : Int32)).toNatClampNeg]? = some (.int (nar .byte u7)) := Hcl302.at hincl302 rfl
    refine own_step (T' := T155) (g' := (mkF m 137 #[.val (.ref o0), .val (.ref o1), .val (.int (0 : Int32)), .val (.ref b3), .val (.int (8 : Int32)), .val (.int z8), .val (.int (7 : Int32))] [(.int (nar .byte u7)), (.int (63 : Int32)), (.ref o0)])) (fun t k => ?_) ?_
    · show Steps p.tables e below (T155.setTop (mkF m 136 #[.val (.ref o0), .val (.ref o1), .val (.int (0 : Int32)), .val (.ref b3), .val (.int (8 : Int32)), .val (.int z8), .val (.int (7 : Int32))] [(.int (7 : Int32)), (.ref b3), (.int (63 : Int32)), (.ref o0)])) _
      refine X155.baloadBytes hx (j := (7 : Int32)) (v := (.int (nar .byte u7))) (by rw [e155]; exact Arcl302.1) (State.isArrayOf_alike hZ.alike Arcl302.2.1) Arcl302.2.2 hincl302 hatcl302 (g := (mkF m 136 #[.val (.ref o0), .val (.ref o1), .val (.int (0 : Int32)), .val (.ref b3), .val (.int (8 : Int32)), .val (.int z8), .val (.int (7 : Int32))] [(.int (7 : Int32)), (.ref b3), (.int (63 : Int32)), (.ref o0)])) rfl rfl (hb hby d2_136) _ ?_
      show Steps p.tables e below (T155.setTop (mkF m 137 #[.val (.ref o0), .val (.ref o1), .val (.int (0 : Int32)), .val (.ref b3), .val (.int (8 : Int32)), .val (.int z8), .val (.int (7 : Int32))] [(.int (nar .byte u7)), (.int (63 : Int32)), (.ref o0)])) _
      exact k
    obtain ⟨_, _, ⟨T303, L303, k303, n303⟩, -, X303, ⟨Lc303, hQ303, l303, y303, z303⟩, st303⟩ := Jvm.LawKit.callS X155 hx (y := (⟨"java/lang/Integer", "numberOfTrailingZeros", "(I)I"⟩ : MethodName)) hown (mvT hZ (hw _ (List.mem_of_getElem? (i := 33) rfl))) (mvT hZ (hw _ (List.mem_of_getElem? (i := 34) rfl))) (mvT hZ (hw _ (List.mem_of_getElem? (i := 35) rfl))) (mvT hZ (hw _ (List.mem_of_getElem? (i := 36) rfl))) (by decide) (backOf (W := 2) (rm5 l Z a0 hw [] (nar .byte u7)  h155 n0 Z165) hZ (hw _ (List.mem_of_getElem? (i := 36) rfl)) (hw _ (List.mem_of_getElem? (i := 35) rfl)) (by decide) (by decide)) (g := (mkF m 137 #[.val (.ref o0), .val (.ref o1), .val (.int (0 : Int32)), .val (.ref b3), .val (.int (8 : Int32)), .val (.int z8), .val (.int (7 : Int32))] [(.int (nar .byte u7)), (.int (63 : Int32)), (.ref o0)])) rfl (by rw [hml]; rfl) (argsL := [(.int (nar .byte u7))]) (rest := [(.int (63 : Int32)), (.ref o0)]) (lenOf pd_1 rfl) rfl (by show 2 * 0 + _ ≤ _; exact Nat.le_of_eq rfl) (hb hby d2_137) (fun _ _ => ⟨rfl, e155, (by decide : 2 + 0 ≤ _), (by decide : 16 + 0 ≤ _)⟩)
    dsimp only [Pt.U, Pt.locs, Pt.cells, Pt.slots] at X303 l303 y303 z303 st303 hQ303
    subst l303 y303 z303
    obtain ⟨rz303, rfl, N303q, eq303⟩ := hQ303
    have N303 := Fr.app N155 N303q
    refine own_step st303 ?_
    show own_Run p e below s _ _ _ T303 (mkF m 140 #[.val (.ref o0), .val (.ref o1), .val (.int (0 : Int32)), .val (.ref b3), .val (.int (8 : Int32)), .val (.int z8), .val (.int (7 : Int32))] [(.int rz303), (.int (63 : Int32)), (.ref o0)])
    refine own_step (T' := T303) (g' := (mkF m 141 #[.val (.ref o0), .val (.ref o1), .val (.int (0 : Int32)), .val (.ref b3), .val (.int (8 : Int32)), .val (.int z8), .val (.int (7 : Int32))] [(.int ((63 : Int32) - rz303)), (.ref o0)])) (fun t k => ?_) ?_
    · show Steps p.tables e below (T303.setTop (mkF m 140 #[.val (.ref o0), .val (.ref o1), .val (.int (0 : Int32)), .val (.ref b3), .val (.int (8 : Int32)), .val (.int z8), .val (.int (7 : Int32))] [(.int rz303), (.int (63 : Int32)), (.ref o0)])) _
      refine XS.isub X303.here hx rfl (hb hby d2_140) rfl ?_
      show Steps p.tables e below (T303.setTop (mkF m 141 #[.val (.ref o0), .val (.ref o1), .val (.int (0 : Int32)), .val (.ref b3), .val (.int (8 : Int32)), .val (.int z8), .val (.int (7 : Int32))] [(.int ((63 : Int32) - rz303)), (.ref o0)])) _
      exact k
    obtain ⟨T304, h304, X304, e304, W304, st304⟩ := putF X303 hx hZ hown (host := "") (Or.inl (hw _ (List.mem_of_getElem? (i := 37) rfl))) Via.refl eq303 F157 A159 (Or.inr ⟨(hw _ (List.mem_of_getElem? (i := 38) rfl)), rfl, hnm⟩) (hw _ (List.mem_of_getElem? (i := 10) rfl)) (ty := .int) (by decide) rfl rfl (g := (mkF m 141 #[.val (.ref o0), .val (.ref o1), .val (.int (0 : Int32)), .val (.ref b3), .val (.int (8 : Int32)), .val (.int z8), .val (.int (7 : Int32))] [(.int ((63 : Int32) - rz303)), (.ref o0)])) rfl rfl (hb hby d2_141)
    have F305 := F157.same W304
    have F306 := F156.other W304 (Or.inr (slot_ne (Or.inr (hw _ (List.mem_of_getElem? (i := 32) rfl))) (Or.inr (hw _ (List.mem_of_getElem? (i := 38) rfl))) (by decide) (t := (.array .byte)) (t' := .int) (by decide) (by decide)))
    have F307 := F158.other W304 (Or.inr (slot_ne (Or.inl (hw _ (List.mem_of_getElem? (i := 45) rfl))) (Or.inr (hw _ (List.mem_of_getElem? (i := 38) rfl))) (by decide) (t := .int) (t' := .int) (by decide) (by decide)))
    have A308 := A159.wr W304
    have A309 := A160.wr W304
    have A310 := A161.wr W304
    have V311 := V162.other W304 ne10
    have V312 := V163.other W304 (Ne.symm ne4)
    have V313 := V164.other W304 (Ne.symm ne143)
    have Z314 := Nat.le_trans Z165 (Keep.of_wr W304).1
    have K304 := K155.wr W304 (Or.inl (List.mem_of_getElem? (i := 0) rfl))
    have N304 := Fr.snoc X304 N303 g_o0
    refine own_step st304 ?_
    show own_Run p e below s _ _ _ T304 (mkF m 144 #[.val (.ref o0), .val (.ref o1), .val (.int (0 : Int32)), .val (.ref b3), .val (.int (8 : Int32)), .val (.int z8), .val (.int (7 : Int32))] [])
    refine own_retV X304 hx Bd.returns (hb hby d2_144) (BodyLoose.notSynchronized Bd) (by decide) (by decide) ?_
    rw [show T304.heap = h304 from e304]
    exact ⟨cp142, k3, ((63 : Int32) - rz303), rfl, N304, K304, sz_cp142, A308, F307, F305, F306, V313⟩
theorem d6_0 : decode prog_64_method_6_code 0 = .ok (.aload_n 0, 1) := by decide +kernel
theorem d6_1 : decode prog_64_method_6_code 1 = .ok (.dup, 1) := by decide +kernel
theorem d6_2 : decode prog_64_method_6_code 2 = .ok (.getfield 29, 3) := by decide +kernel
theorem d6_5 : decode prog_64_method_6_code 5 = .ok (.iload_n 1, 1) := by decide +kernel
theorem d6_6 : decode prog_64_method_6_code 6 = .ok (.iadd, 1) := by decide +kernel
theorem d6_7 : decode prog_64_method_6_code 7 = .ok (.putfield 29, 3) := by decide +kernel
theorem d6_10 : decode prog_64_method_6_code 10 = .ok (.return_, 1) := by decide +kernel
theorem pn_rm6 : plainName "lazyframe/media/NalPayload" = true := by first | (simp [plainName, overriddenIn]; done) | decide +kernel
theorem ef_rm6 (m : MethodId) (o0 : Addr) (p1 : Int32) : entryFrame m #[(.ref o0), (.int p1)] 2 = mkF m 0 #[.val (.ref o0), .val (.int p1)] [] := by first | (simp [entryFrame, mkF, argsToLocals, Value.category, maxLocals]; done) | rfl
def rm6_Q (Z : State) (o0 : Addr) (p1 : Int32) (b : Addr) (sv : Int32) (w : Int32) (h0 : Heap) (n0 : Nat) (v : Option Value) (h : Heap) (L : List Loc) : Prop := v = none ∧ Fr n0 L ∧ Keep h0 h [o0] ∧ Exa Z h o0 "lazyframe/media/NalPayload" ∧ Fld Z h o0 "lazyframe/media/NalPayload" "bit" "I" (.int (w + p1)) ∧ Fld Z h o0 "lazyframe/media/NalPayload" "stop" "I" (.int sv) ∧ Fld Z h o0 "lazyframe/media/NalPayload" "payload" "[B" (.ref b)
set_option maxRecDepth 65536 in
set_option maxHeartbeats 40000000 in
theorem rm6 (l : Launch) (Z : State) (a0 : Array Value) (hw : ∀ d ∈ tables_1, d.before a0 Z = true) (ws : List Jvm.Cond) (o0 : Addr) (p1 : Int32) (b : Addr) (sv : Int32) (w : Int32) (h0 : Heap) (n0 : Nat) (Z0 : n0 ≤ h0.size) (E_o0 : Exa Z h0 o0 "lazyframe/media/NalPayload") (F_payload : Fld Z h0 o0 "lazyframe/media/NalPayload" "payload" "[B" (.ref b)) (F_stop : Fld Z h0 o0 "lazyframe/media/NalPayload" "stop" "I" (.int sv)) (F_bit : Fld Z h0 o0 "lazyframe/media/NalPayload" "bit" "I" (.int w)) (g_o0 : n0 ≤ o0) :
    MetFree l (⟨"lazyframe/media/NalPayload", "skip", "(I)V"⟩ : MethodName) (head1 (Jvm.Cond.code (⟨"lazyframe/media/NalPayload", "skip", "(I)V"⟩ : MethodName) prog_64_method_6_code 2 none :: ws) ({ frames := 0, cells := 0, slots := 0, locals := 0 } : Room)) (fun a U => a = #[(.ref o0), (.int p1)] ∧ Z.Warmed39 U.vm ∧ U.heap = h0) (fun _ _ _ _ _ => True) (fun _ U o U' => ∃ v L, o = .returned v ∧ rm6_Q Z o0 p1 b sv w h0 n0 v U'.heap L ∧ FrameEnd U o U' L ({ frames := 0, cells := 0, slots := 0, locals := 0 } : Room).cells ({ frames := 0, cells := 0, slots := 0, locals := 0 } : Room).slots) := by
  refine MetFree.of_bodySF (plainFor_of_name pn_rm6) hisR ?_
  intro p e s m args below meth c s₁ Bd hml0 hP hK
  obtain ⟨rfl, hZ, hh⟩ := hP
  have hx := Bd.exec
  have hby := Bd.bytes
  have hml : c.maxLocals = 2 := hml0
  have hown : s.vm.findClass "lazyframe/media/NalPayload" = some m.cls := findClass_of_methodNamed Bd.named
  have hnm := (name_of_methodNamed Bd.named Bd.method).1
  have X0 : Stand p l e ({ frames := 0, cells := 0, slots := 0, locals := 0 } : Room) s m #[(.ref o0), (.int p1)] below meth c s₁ [] 0 0 := Stand.of_body Bd
  have e0 : s₁.heap = h0 := by rw [← hh, Bd.state]; rfl
  have N0 := Fr.nil n0
  have K0 := Keep.refl h0 [o0]
  refine own_enter (QQ := rm6_Q Z o0 p1 b sv w h0 n0) (ef_rm6 m o0 p1) ?_
  show own_Run p e below s _ _ _ s₁ (mkF m 0 #[.val (.ref o0), .val (.int p1)] [])
  refine own_step (T' := s₁) (g' := (mkF m 2 #[.val (.ref o0), .val (.int p1)] [(.ref o0), (.ref o0)])) (fun t k => ?_) ?_
  · show Steps p.tables e below (s₁.setTop (mkF m 0 #[.val (.ref o0), .val (.int p1)] [])) _
    refine XS.aloadN X0.here hx rfl (hb hby d6_0) rfl rfl ?_
    show Steps p.tables e below (s₁.setTop (mkF m 1 #[.val (.ref o0), .val (.int p1)] [(.ref o0)])) _
    refine XS.dup X0.here hx rfl (hb hby d6_1) rfl rfl ?_
    show Steps p.tables e below (s₁.setTop (mkF m 2 #[.val (.ref o0), .val (.int p1)] [(.ref o0), (.ref o0)])) _
    exact k
  obtain ⟨T1, X1, e1, st1⟩ := getF X0 hx hZ hown (host := "") (Or.inl (hw _ (List.mem_of_getElem? (i := 44) rfl))) Via.refl e0 F_bit (g := (mkF m 2 #[.val (.ref o0), .val (.int p1)] [(.ref o0), (.ref o0)])) rfl rfl (hb hby d6_2)
  refine own_step st1 ?_
  show own_Run p e below s _ _ _ T1 (mkF m 5 #[.val (.ref o0), .val (.int p1)] [(.int w), (.ref o0)])
  refine own_step (T' := T1) (g' := (mkF m 7 #[.val (.ref o0), .val (.int p1)] [(.int (w + p1)), (.ref o0)])) (fun t k => ?_) ?_
  · show Steps p.tables e below (T1.setTop (mkF m 5 #[.val (.ref o0), .val (.int p1)] [(.int w), (.ref o0)])) _
    refine XS.iloadN X1.here hx rfl (hb hby d6_5) rfl ?_
    show Steps p.tables e below (T1.setTop (mkF m 6 #[.val (.ref o0), .val (.int p1)] [(.int p1), (.int w), (.ref o0)])) _
    refine XS.iadd X1.here hx rfl (hb hby d6_6) rfl ?_
    show Steps p.tables e below (T1.setTop (mkF m 7 #[.val (.ref o0), .val (.int p1)] [(.int (w + p1)), (.ref o0)])) _
    exact k
  obtain ⟨T2, h2, X2, e2, W2, st2⟩ := putF X1 hx hZ hown (host := "") (Or.inl (hw _ (List.mem_of_getElem? (i := 44) rfl))) Via.refl e1 F_bit E_o0 (Or.inl (hw _ (List.mem_of_getElem? (i := 45) rfl))) (hw _ (List.mem_of_getElem? (i := 10) rfl)) (ty := .int) (by decide) rfl rfl (g := (mkF m 7 #[.val (.ref o0), .val (.int p1)] [(.int (w + p1)), (.ref o0)])) rfl rfl (hb hby d6_7)
  have F3 := F_bit.same W2
  have F4 := F_payload.other W2 (Or.inr (slot_ne (Or.inr (hw _ (List.mem_of_getElem? (i := 32) rfl))) (Or.inl (hw _ (List.mem_of_getElem? (i := 45) rfl))) (by decide) (t := (.array .byte)) (t' := .int) (by decide) (by decide)))
  have F5 := F_stop.other W2 (Or.inr (slot_ne (Or.inr (hw _ (List.mem_of_getElem? (i := 38) rfl))) (Or.inl (hw _ (List.mem_of_getElem? (i := 45) rfl))) (by decide) (t := .int) (t' := .int) (by decide) (by decide)))
  have A6 := E_o0.wr W2
  have Z7 := Nat.le_trans Z0 (Keep.of_wr W2).1
  have K2 := K0.wr W2 (Or.inl (List.mem_of_getElem? (i := 0) rfl))
  have N2 := Fr.snoc X2 N0 g_o0
  refine own_step st2 ?_
  show own_Run p e below s _ _ _ T2 (mkF m 10 #[.val (.ref o0), .val (.int p1)] [])
  refine own_retV X2 hx Bd.returns (hb hby d6_10) (BodyLoose.notSynchronized Bd) (by decide) (by decide) ?_
  rw [show T2.heap = h2 from e2]
  exact ⟨rfl, N2, K2, A6, F3, F5, F4⟩
theorem d7_0 : decode prog_64_method_2_code 0 = .ok (.aload_n 0, 1) := by decide +kernel
theorem d7_1 : decode prog_64_method_2_code 1 = .ok (.getfield 25, 3) := by decide +kernel
theorem d7_4 : decode prog_64_method_2_code 4 = .ok (.aload_n 0, 1) := by decide +kernel
theorem d7_5 : decode prog_64_method_2_code 5 = .ok (.getfield 29, 3) := by decide +kernel
theorem d7_8 : decode prog_64_method_2_code 8 = .ok (.isub, 1) := by decide +kernel
theorem d7_9 : decode prog_64_method_2_code 9 = .ok (.ireturn, 1) := by decide +kernel
theorem pn_rm7 : plainName "lazyframe/media/NalPayload" = true := by first | (simp [plainName, overriddenIn]; done) | decide +kernel
theorem ef_rm7 (m : MethodId) (o0 : Addr) : entryFrame m #[(.ref o0)] 1 = mkF m 0 #[.val (.ref o0)] [] := by first | (simp [entryFrame, mkF, argsToLocals, Value.category, maxLocals]; done) | rfl
def rm7_Q (Z : State) (o0 : Addr) (b : Addr) (sv : Int32) (w : Int32) (h0 : Heap) (n0 : Nat) (v : Option Value) (h : Heap) (L : List Loc) : Prop := v = some (.int (sv - w)) ∧ Fr n0 L ∧ h = h0
set_option maxRecDepth 65536 in
set_option maxHeartbeats 40000000 in
theorem rm7 (l : Launch) (Z : State) (a0 : Array Value) (hw : ∀ d ∈ tables_1, d.before a0 Z = true) (ws : List Jvm.Cond) (o0 : Addr) (b : Addr) (sv : Int32) (w : Int32) (h0 : Heap) (n0 : Nat) (Z0 : n0 ≤ h0.size) (E_o0 : Exa Z h0 o0 "lazyframe/media/NalPayload") (F_payload : Fld Z h0 o0 "lazyframe/media/NalPayload" "payload" "[B" (.ref b)) (F_stop : Fld Z h0 o0 "lazyframe/media/NalPayload" "stop" "I" (.int sv)) (F_bit : Fld Z h0 o0 "lazyframe/media/NalPayload" "bit" "I" (.int w)) (g_o0 : n0 ≤ o0) :
    MetFree l (⟨"lazyframe/media/NalPayload", "left", "()I"⟩ : MethodName) (head1 (Jvm.Cond.code (⟨"lazyframe/media/NalPayload", "left", "()I"⟩ : MethodName) prog_64_method_2_code 1 (some .int) :: ws) ({ frames := 0, cells := 0, slots := 0, locals := 0 } : Room)) (fun a U => a = #[(.ref o0)] ∧ Z.Warmed39 U.vm ∧ U.heap = h0) (fun _ _ _ _ _ => True) (fun _ U o U' => ∃ v L, o = .returned v ∧ rm7_Q Z o0 b sv w h0 n0 v U'.heap L ∧ FrameEnd U o U' L ({ frames := 0, cells := 0, slots := 0, locals := 0 } : Room).cells ({ frames := 0, cells := 0, slots := 0, locals := 0 } : Room).slots) := by
  refine MetFree.of_bodySF (plainFor_of_name pn_rm7) hisR ?_
  intro p e s m args below meth c s₁ Bd hml0 hP hK
  obtain ⟨rfl, hZ, hh⟩ := hP
  have hx := Bd.exec
  have hby := Bd.bytes
  have hml : c.maxLocals = 1 := hml0
  have hown : s.vm.findClass "lazyframe/media/NalPayload" = some m.cls := findClass_of_methodNamed Bd.named
  have hnm := (name_of_methodNamed Bd.named Bd.method).1
  have X0 : Stand p l e ({ frames := 0, cells := 0, slots := 0, locals := 0 } : Room) s m #[(.ref o0)] below meth c s₁ [] 0 0 := Stand.of_body Bd
  have e0 : s₁.heap = h0 := by rw [← hh, Bd.state]; rfl
  have N0 := Fr.nil n0
  refine own_enter (QQ := rm7_Q Z o0 b sv w h0 n0) (ef_rm7 m o0) ?_
  show own_Run p e below s _ _ _ s₁ (mkF m 0 #[.val (.ref o0)] [])
  refine own_step (T' := s₁) (g' := (mkF m 1 #[.val (.ref o0)] [(.ref o0)])) (fun t k => ?_) ?_
  · show Steps p.tables e below (s₁.setTop (mkF m 0 #[.val (.ref o0)] [])) _
    refine XS.aloadN X0.here hx rfl (hb hby d7_0) rfl rfl ?_
    show Steps p.tables e below (s₁.setTop (mkF m 1 #[.val (.ref o0)] [(.ref o0)])) _
    exact k
  obtain ⟨T1, X1, e1, st1⟩ := getF X0 hx hZ hown (host := "") (Or.inl (hw _ (List.mem_of_getElem? (i := 37) rfl))) Via.refl e0 F_stop (g := (mkF m 1 #[.val (.ref o0)] [(.ref o0)])) rfl rfl (hb hby d7_1)
  refine own_step st1 ?_
  show own_Run p e below s _ _ _ T1 (mkF m 4 #[.val (.ref o0)] [(.int sv)])
  refine own_step (T' := T1) (g' := (mkF m 5 #[.val (.ref o0)] [(.ref o0), (.int sv)])) (fun t k => ?_) ?_
  · show Steps p.tables e below (T1.setTop (mkF m 4 #[.val (.ref o0)] [(.int sv)])) _
    refine XS.aloadN X1.here hx rfl (hb hby d7_4) rfl rfl ?_
    show Steps p.tables e below (T1.setTop (mkF m 5 #[.val (.ref o0)] [(.ref o0), (.int sv)])) _
    exact k
  obtain ⟨T2, X2, e2, st2⟩ := getF X1 hx hZ hown (host := "") (Or.inl (hw _ (List.mem_of_getElem? (i := 44) rfl))) Via.refl e1 F_bit (g := (mkF m 5 #[.val (.ref o0)] [(.ref o0), (.int sv)])) rfl rfl (hb hby d7_5)
  refine own_step st2 ?_
  show own_Run p e below s _ _ _ T2 (mkF m 8 #[.val (.ref o0)] [(.int w), (.int sv)])
  refine own_step (T' := T2) (g' := (mkF m 9 #[.val (.ref o0)] [(.int (sv - w))])) (fun t k => ?_) ?_
  · show Steps p.tables e below (T2.setTop (mkF m 8 #[.val (.ref o0)] [(.int w), (.int sv)])) _
    refine XS.isub X2.here hx rfl (hb hby d7_8) rfl ?_
    show Steps p.tables e below (T2.setTop (mkF m 9 #[.val (.ref o0)] [(.int (sv - w))])) _
    exact k
  refine own_retI X2 hx Bd.returns (hb hby d7_9) (BodyLoose.notSynchronized Bd) (by decide) (by decide) ?_
  rw [show T2.heap = h0 from e2]
  exact ⟨rfl, N0, rfl⟩
/-- the byte of y that lies K bits up, as a Java byte -/
def own_byte (y : Int64) (K : Nat) : Int32 := Int32.ofBitVec ((BitVec.setWidth 8 (y.toBitVec >>> K)).signExtend 32)
/-- the j bits of y from bit P on, counted from the highest -/
def own_val (y : Int64) (P j : Nat) : Nat := (y.toBitVec.toNat >>> (64 - P - j)) % 2 ^ j
theorem own_val0 (y : Int64) (P : Nat) : own_val y P 0 = 0 := by simp [own_val, Nat.mod_one]
theorem own_se (b : BitVec 8) : BitVec.setWidth 8 (b.signExtend 32) = b := by
  apply BitVec.eq_of_getLsbD_eq
  intro i hi
  simp [BitVec.getLsbD_setWidth, BitVec.getLsbD_signExtend, hi]
  intro h; omega
theorem own_sx {w v : Nat} (x : BitVec w) (h : v ≤ w) : x.signExtend v = x.setWidth v := by
  apply BitVec.eq_of_getLsbD_eq
  intro i hi
  rw [BitVec.getLsbD_signExtend, BitVec.getLsbD_setWidth]
  simp [hi]; intro h; omega
theorem own_nb (y : Int64) (K : Nat) : nar .byte (own_byte y K) = own_byte y K := by
  show ((own_byte y K).toInt8.toInt32) = own_byte y K
  apply Int32.toBitVec_inj.mp
  unfold own_byte
  generalize BitVec.setWidth 8 (y.toBitVec >>> K) = b
  rw [Int8.toBitVec_toInt32, Int32.toBitVec_toInt8, Int32.toBitVec_ofBitVec, own_sx (v := 8) _ (by decide), own_se]
theorem own_bx (z : Int32) (y : Int64) (K : Nat) (h : BitVec.setWidth 8 z.toBitVec = BitVec.setWidth 8 (y.toBitVec >>> K)) : nar .byte (z.toInt8.toInt32) = own_byte y K := by
  have e : z.toInt8.toInt32 = own_byte y K := by
    apply Int32.toBitVec_inj.mp
    unfold own_byte
    rw [Int8.toBitVec_toInt32, Int32.toBitVec_toInt8, Int32.toBitVec_ofBitVec, own_sx (v := 8) _ (by decide), h]
  rw [e]; exact own_nb y K
theorem own_bs (y : Int64) (c : UInt64) (K : Nat) (h : (c.toBitVec % 64#64).toNat = K) : BitVec.setWidth 8 (((y.toUInt64 >>> c).toInt64).toInt32).toBitVec = BitVec.setWidth 8 (y.toBitVec >>> K) := by
  rw [Int64.toBitVec_toInt32, own_sx (v := 32) _ (by decide), BitVec.setWidth_setWidth_of_le _ (by decide)]
  congr 1
  show (y.toUInt64 >>> c).toBitVec = _
  rw [UInt64.toBitVec_shiftRight]
  show y.toBitVec >>> (c.toBitVec % 64#64) = _
  subst h
  rfl
theorem own_b0 (y : Int64) : nar .byte ((((y.toUInt64 >>> ((56 : Int32) &&& 0x3f).toInt64.toUInt64).toInt64).toInt32).toInt8.toInt32) = own_byte y 56 := own_bx _ y 56 (own_bs y _ 56 (by decide))
theorem own_b1 (y : Int64) : nar .byte ((((y.toUInt64 >>> ((48 : Int32) &&& 0x3f).toInt64.toUInt64).toInt64).toInt32).toInt8.toInt32) = own_byte y 48 := own_bx _ y 48 (own_bs y _ 48 (by decide))
theorem own_b2 (y : Int64) : nar .byte ((((y.toUInt64 >>> ((40 : Int32) &&& 0x3f).toInt64.toUInt64).toInt64).toInt32).toInt8.toInt32) = own_byte y 40 := own_bx _ y 40 (own_bs y _ 40 (by decide))
theorem own_b3 (y : Int64) : nar .byte ((((y.toUInt64 >>> ((32 : Int32) &&& 0x3f).toInt64.toUInt64).toInt64).toInt32).toInt8.toInt32) = own_byte y 32 := own_bx _ y 32 (own_bs y _ 32 (by decide))
theorem own_b4 (y : Int64) : nar .byte ((((y.toUInt64 >>> ((24 : Int32) &&& 0x3f).toInt64.toUInt64).toInt64).toInt32).toInt8.toInt32) = own_byte y 24 := own_bx _ y 24 (own_bs y _ 24 (by decide))
theorem own_b5 (y : Int64) : nar .byte ((((y.toUInt64 >>> ((16 : Int32) &&& 0x3f).toInt64.toUInt64).toInt64).toInt32).toInt8.toInt32) = own_byte y 16 := own_bx _ y 16 (own_bs y _ 16 (by decide))
theorem own_b6 (y : Int64) : nar .byte ((((y.toUInt64 >>> ((8 : Int32) &&& 0x3f).toInt64.toUInt64).toInt64).toInt32).toInt8.toInt32) = own_byte y 8 := own_bx _ y 8 (own_bs y _ 8 (by decide))
theorem own_b7 (y : Int64) : nar .byte ((y.toInt32).toInt8.toInt32) = own_byte y 0 := own_bx _ y 0 (by
  rw [Int64.toBitVec_toInt32, own_sx (v := 32) _ (by decide), BitVec.setWidth_setWidth_of_le _ (by decide)]; simp)

theorem own_inc (n : Nat) : Int32.ofNat n + (1 : Int32) = Int32.ofNat (n + 1) := by
  apply Int32.toBitVec_inj.mp
  rw [Int32.toBitVec_add, Int32.toBitVec_ofNat', Int32.toBitVec_ofNat', BitVec.ofNat_add]
  rfl
theorem own_oi (n : Nat) (h : n < 2147483648) : (Int32.ofNat n).toInt = n := by
  rw [Int32.toInt_ofNat', show Int32.size = 4294967296 from rfl, Int.bmod_def]; omega
theorem own_stop {j Cn : Nat} (h : j + 0 = Cn) (hC : Cn ≤ 31) : ¬ Int32.ofNat j < Int32.ofNat Cn := by
  rw [Int32.lt_iff_toInt_lt, own_oi _ (by omega), own_oi _ (by omega)]; omega
theorem own_go {j kt Cn : Nat} (h : j + (kt + 1) = Cn) (hC : Cn ≤ 31) : Int32.ofNat j < Int32.ofNat Cn := by
  rw [Int32.lt_iff_toInt_lt, own_oi _ (by omega), own_oi _ (by omega)]; omega
theorem own_st4 {a b c d : Value} {s4 : Slot} (h : One s4) (x : Int32) : storeLocals #[.val a, .val b, .val c, .val d, s4] 4 (.int x) = some #[.val a, .val b, .val c, .val d, .val (.int x)] := by
  rcases h with rfl | ⟨w, rfl, hw⟩
  · rfl
  · cases w <;> first | rfl | (simp [Value.category] at hw)
theorem own_ix : ∀ t, t < 64 → ((Int32.ofNat t) >>> ((3 : Int32) &&& 31)) = Int32.ofNat (t / 8) := by decide +kernel
theorem own_in {t : Nat} (ht : t < 64) : ¬ ((Int32.ofNat t) >>> ((3 : Int32) &&& 31)) < 0 ∧ ((Int32.ofNat t) >>> ((3 : Int32) &&& 31)) < (8 : Int32) := by
  rw [own_ix t ht]
  have e8 : (8 : Int32).toInt = 8 := rfl
  have e0 : (0 : Int32).toInt = 0 := rfl
  simp only [Int32.lt_iff_toInt_lt, own_oi _ (show t / 8 < 2147483648 by omega), e8, e0]; omega
theorem own_at (y : Int64) {t : Nat} (ht : t < 64) : ([(.int (own_byte y 56)), (.int (own_byte y 48)), (.int (own_byte y 40)), (.int (own_byte y 32)), (.int (own_byte y 24)), (.int (own_byte y 16)), (.int (own_byte y 8)), (.int (own_byte y 0))] : List Value).getD ((Int32.ofNat t) >>> ((3 : Int32) &&& 31)).toNatClampNeg (.int (0 : Int32)) = .int (own_byte y (56 - 8 * (t / 8))) := by
  rw [own_ix t ht]
  have e : (Int32.ofNat (t / 8)).toNatClampNeg = t / 8 := by
    simp only [Int32.toNatClampNeg, own_oi _ (show t / 8 < 2147483648 by omega)]; omega
  rw [e]
  have h : t / 8 = 0 ∨ t / 8 = 1 ∨ t / 8 = 2 ∨ t / 8 = 3 ∨ t / 8 = 4 ∨ t / 8 = 5 ∨ t / 8 = 6 ∨ t / 8 = 7 := by omega
  rcases h with h | h | h | h | h | h | h | h <;> rw [h] <;> rfl
/-- bit i of y, counted from the lowest -/
def own_bit (y : Int64) (i : Nat) : Nat := (y.toBitVec.getLsbD i).toNat
theorem own_sh : ∀ t, t < 64 → (((7 : Int32) - ((Int32.ofNat t) &&& (7 : Int32))) &&& 31) = Int32.ofNat (7 - t % 8) := by decide +kernel
theorem own_sm : ∀ s, s < 8 → ((Int32.ofNat s).toBitVec.smod 32#32) = BitVec.ofNat 32 s := by decide +kernel
theorem own_lsb (y : Int64) (K s : Nat) (hs : s < 8) : ((own_byte y K) >>> (Int32.ofNat s)) &&& (1 : Int32) = Int32.ofNat (own_bit y (K + s)) := by
  apply Int32.toBitVec_inj.mp
  rw [Int32.toBitVec_and, Int32.toBitVec_shiftRight, show (32 : BitVec 32) = 32#32 from rfl, own_sm s hs, Int32.toBitVec_ofNat']
  unfold own_byte own_bit
  rw [Int32.toBitVec_ofBitVec, show (1 : Int32).toBitVec = 1#32 from rfl]
  apply BitVec.eq_of_getLsbD_eq
  intro i hi
  rw [BitVec.getLsbD_and, BitVec.sshiftRight', BitVec.getLsbD_sshiftRight, BitVec.toNat_ofNat, Nat.mod_eq_of_lt (show s < 2 ^ 32 by omega)]
  by_cases h0 : i = 0
  · subst h0
    rw [BitVec.getLsbD_signExtend]
    cases hb : y.toBitVec.getLsbD (K + s) <;> simp [hb, hs, show s < 32 by omega]
  · have h1 : (1#32).getLsbD i = false := by
      rw [BitVec.getLsbD_one]; simp [h0]
    rw [h1]
    cases hb : y.toBitVec.getLsbD (K + s) <;> simp [h0]
theorem own_bitn (y : Int64) (i : Nat) : own_bit y i = (y.toBitVec.toNat >>> i) % 2 := by
  unfold own_bit
  rw [BitVec.getLsbD, Nat.toNat_testBit, Nat.shiftRight_eq_div_pow]
theorem own_valS (y : Int64) (P j : Nat) (h : P + j < 64) : own_val y P (j + 1) = 2 * own_val y P j + own_bit y (63 - (P + j)) := by
  rw [own_bitn]
  unfold own_val
  have e : 64 - P - j = (63 - (P + j)) + 1 := by omega
  have e2 : 64 - P - (j + 1) = 63 - (P + j) := by omega
  rw [e, e2, Nat.shiftRight_succ]
  generalize y.toBitVec.toNat >>> (63 - (P + j)) = A
  rw [Nat.pow_succ, Nat.mul_comm (2 ^ j) 2, Nat.mod_mul]
  omega
theorem own_valL (y : Int64) (P j : Nat) : own_val y P j < 2 ^ j := Nat.mod_lt _ (Nat.pow_pos (by decide))
theorem own_or (v b : Nat) (hv : v < 2 ^ 30) (hb : b < 2) : ((Int32.ofNat v) <<< ((1 : Int32) &&& 31)) ||| (Int32.ofNat b) = Int32.ofNat (2 * v + b) := by
  apply Int32.toBitVec_inj.mp
  rw [Int32.toBitVec_or, Int32.toBitVec_shiftLeft, Int32.toBitVec_ofNat', Int32.toBitVec_ofNat', Int32.toBitVec_ofNat']
  rw [show ((1 : Int32) &&& 31).toBitVec.smod 32 = 1#32 from by decide]
  apply BitVec.eq_of_toNat_eq
  have e1 : (BitVec.ofNat 32 v <<< (1#32)).toNat = 2 * v := by
    show (BitVec.ofNat 32 v <<< 1).toNat = _
    rw [BitVec.toNat_shiftLeft, BitVec.toNat_ofNat, Nat.shiftLeft_eq]; omega
  rw [BitVec.toNat_or, e1, BitVec.toNat_ofNat, BitVec.toNat_ofNat, Nat.mod_eq_of_lt (show b < 2 ^ 32 by omega), Nat.mod_eq_of_lt (show 2 * v + b < 2 ^ 32 by omega)]
  rw [show 2 * v = 2 ^ 1 * v by omega, Nat.two_pow_add_eq_or_of_lt (i := 1) (by omega) v]
theorem own_turn (y : Int64) {Pn j : Nat} (ht : Pn + j < 64) (hj : j < 31) : ((Int32.ofNat (own_val y Pn j)) <<< ((1 : Int32) &&& 31)) ||| (((own_byte y (56 - 8 * ((Pn + j) / 8))) >>> (((7 : Int32) - ((Int32.ofNat (Pn + j)) &&& (7 : Int32))) &&& 31)) &&& (1 : Int32)) = Int32.ofNat (own_val y Pn (j + 1)) := by
  rw [own_sh _ ht, own_lsb y _ _ (by omega), show 56 - 8 * ((Pn + j) / 8) + (7 - (Pn + j) % 8) = 63 - (Pn + j) by omega]
  have hb : own_bit y (63 - (Pn + j)) < 2 := by rw [own_bitn]; omega
  have hv : own_val y Pn j < 2 ^ 30 := Nat.lt_of_lt_of_le (own_valL y Pn j) (Nat.pow_le_pow_right (by decide) (by omega))
  rw [own_or _ _ hv hb, own_valS y Pn j ht]
theorem own_cn (p : Int32) : ∃ Cn : Nat, Cn ≤ 31 ∧ (p &&& (31 : Int32)) = Int32.ofNat Cn := by
  refine ⟨(p &&& 31).toBitVec.toNat, ?_, ?_⟩
  · rw [Int32.toBitVec_and, BitVec.toNat_and]; exact Nat.and_le_right
  · apply Int32.toBitVec_inj.mp
    rw [Int32.toBitVec_ofNat', BitVec.ofNat_toNat]; simp

theorem own_65 {Cn : Nat} (hC : Cn ≤ 31) : ((65 : Int32) - Int32.ofNat Cn).toInt = 65 - Cn := by
  have e : (65 : Int32).toInt = 65 := rfl
  rw [Jvm.Kit.i32_sub (by rw [e, own_oi _ (by omega)]; omega) (by rw [e, own_oi _ (by omega)]; omega), e, own_oi _ (by omega)]
theorem own_nz {Cn : Nat} (hC : Cn ≤ 31) : ((65 : Int32) - Int32.ofNat Cn) ≠ 0 := by
  intro h
  have := congrArg Int32.toInt h
  rw [own_65 hC, show (0 : Int32).toInt = 0 from rfl] at this
  omega
theorem own_pn (p : Int32) {Cn : Nat} (hC : Cn ≤ 31) : ∃ Pn : Nat, Pn + Cn ≤ 64 ∧ ((p &&& (2147483647 : Int32)) % ((65 : Int32) - Int32.ofNat Cn)) = Int32.ofNat Pn := by
  have em : (p &&& (2147483647 : Int32)).toInt = p.toInt % 2 ^ 31 := Jvm.Kit.i32_mask p 2147483647 (k := 31) (by decide) (by decide)
  have er : ((p &&& (2147483647 : Int32)) % ((65 : Int32) - Int32.ofNat Cn)).toInt = (p.toInt % 2 ^ 31).tmod (65 - Cn) := by
    rw [Int32.toInt_mod, em, own_65 hC]
  have h0 : 0 ≤ p.toInt % 2 ^ 31 := by omega
  rw [Int.tmod_eq_emod_of_nonneg h0] at er
  have hl := Int.emod_lt_of_pos (p.toInt % 2 ^ 31) (show (0 : Int) < 65 - Cn by omega)
  have hg := Int.emod_nonneg (p.toInt % 2 ^ 31) (show (65 - Cn : Int) ≠ 0 by omega)
  refine ⟨((p.toInt % 2 ^ 31) % (65 - Cn)).toNat, by omega, ?_⟩
  apply Int32.toInt_inj.mp
  rw [er, own_oi _ (by omega)]
  omega
theorem own_left_eq (sv : Int32) (P C : Nat) : (sv - Int32.ofNat P) - (sv - Int32.ofNat (P + C)) = Int32.ofNat C := by
  have e : Int32.ofNat (P + C) = Int32.ofNat P + Int32.ofNat C := by
    apply Int32.toBitVec_inj.mp
    rw [Int32.toBitVec_add, Int32.toBitVec_ofNat', Int32.toBitVec_ofNat', Int32.toBitVec_ofNat', BitVec.ofNat_add]
  rw [e]
  generalize Int32.ofNat P = a
  generalize Int32.ofNat C = b
  apply Int32.toBitVec_inj.mp
  simp only [Int32.toBitVec_sub, Int32.toBitVec_add]
  generalize sv.toBitVec = x
  generalize a.toBitVec = a
  generalize b.toBitVec = b
  bv_omega
theorem own_sP : ∀ P, P < 64 → (((Int32.ofNat P) &&& 0x3f).toInt64.toBitVec.smod 64#64) = BitVec.ofNat 64 P := by decide +kernel
theorem own_sC : ∀ C, C < 32 → 0 < C → ((((64 : Int32) - Int32.ofNat C) &&& 0x3f).toInt64.toUInt64.toBitVec % 64#64) = BitVec.ofNat 64 (64 - C) := by decide +kernel
theorem own_c0 : ∀ C, C < 32 → 0 < C → ¬ Int32.ofNat C = (0 : Int32) := by decide +kernel
theorem own_exp_eq (y : Int64) {Pn Cn : Nat} (hC : Cn ≤ 31) (hPC : Pn + Cn ≤ 64) : Int32.ofNat (own_val y Pn Cn) = own_pick (Int32.ofNat Cn = (0 : Int32)) (0 : Int32) (((((y <<< ((Int32.ofNat Pn) &&& 0x3f).toInt64).toUInt64 >>> (((64 : Int32) - (Int32.ofNat Cn)) &&& 0x3f).toInt64.toUInt64).toInt64).toInt32)) := by
  by_cases h0 : Cn = 0
  · subst h0
    rw [own_pick_pos (show Int32.ofNat 0 = (0 : Int32) from rfl), own_val0]; rfl
  · rw [own_pick_neg (own_c0 Cn (by omega) (by omega))]
    apply Int32.toBitVec_inj.mp
    rw [Int32.toBitVec_ofNat', Int64.toBitVec_toInt32, own_sx (v := 32) _ (by decide)]
    show _ = BitVec.setWidth 32 (((y <<< ((Int32.ofNat Pn) &&& 0x3f).toInt64).toUInt64 >>> (((64 : Int32) - (Int32.ofNat Cn)) &&& 0x3f).toInt64.toUInt64)).toBitVec
    rw [UInt64.toBitVec_shiftRight]
    show _ = BitVec.setWidth 32 ((y <<< ((Int32.ofNat Pn) &&& 0x3f).toInt64).toBitVec >>> ((((64 : Int32) - (Int32.ofNat Cn)) &&& 0x3f).toInt64.toUInt64.toBitVec % 64#64))
    rw [own_sC Cn (by omega) (by omega), Int64.toBitVec_shiftLeft, show (64 : BitVec 64) = 64#64 from rfl, own_sP Pn (by omega)]
    apply BitVec.eq_of_toNat_eq
    have hv := own_valL y Pn Cn
    have hp : (2 : Nat) ^ Cn ≤ 2 ^ 31 := Nat.pow_le_pow_right (by decide) hC
    rw [BitVec.toNat_ofNat, Nat.mod_eq_of_lt (show own_val y Pn Cn < 2 ^ 32 by omega)]
    show _ = (BitVec.setWidth 32 ((y.toBitVec <<< (BitVec.ofNat 64 Pn).toNat) >>> (BitVec.ofNat 64 (64 - Cn)).toNat)).toNat
    rw [BitVec.toNat_ofNat, BitVec.toNat_ofNat, Nat.mod_eq_of_lt (show Pn < 2 ^ 64 by omega), Nat.mod_eq_of_lt (show 64 - Cn < 2 ^ 64 by omega), BitVec.toNat_setWidth, BitVec.toNat_ushiftRight, BitVec.toNat_shiftLeft]
    have hY := y.toBitVec.isLt
    unfold own_val
    generalize y.toBitVec.toNat = Y at *
    apply Nat.eq_of_testBit_eq
    intro i
    simp only [Nat.testBit_mod_two_pow, Nat.testBit_shiftRight, Nat.testBit_shiftLeft]
    by_cases hi : i < Cn
    · have a1 : i < 32 := by omega
      have a2 : 64 - Cn + i < 64 := by omega
      have a3 : 64 - Cn + i ≥ Pn := by omega
      have a4 : 64 - Cn + i - Pn = 64 - Pn - Cn + i := by omega
      simp [hi, a1, a2, a3, a4]
    · have a2 : ¬ 64 - Cn + i < 64 := by omega
      simp [hi, a2]
/-- the 24 bits of y from K on -/
def own_win (y : Int64) (K : Nat) : BitVec 24 := BitVec.setWidth 24 (y.toBitVec >>> K)
theorem own_cond (w y : Int64) (K : Nat) (h : w.toBitVec = y.toBitVec >>> K) : lcmpW (w &&& (16777215 : Int64)) (3 : Int64) = (0 : Int32) ↔ own_win y K = 3#24 := by
  rw [lw_eq, ← Int64.toBitVec_inj, Int64.toBitVec_and, h]
  unfold own_win
  generalize y.toBitVec >>> K = z
  rw [show (16777215 : Int64).toBitVec = 16777215#64 from rfl, show (3 : Int64).toBitVec = 3#64 from rfl]
  have e : z &&& 16777215#64 = BitVec.setWidth 64 (BitVec.setWidth 24 z) := by
    apply BitVec.eq_of_toNat_eq
    rw [BitVec.toNat_and, BitVec.toNat_setWidth, BitVec.toNat_setWidth, show (16777215#64).toNat = 2 ^ 24 - 1 from rfl, Nat.and_two_pow_sub_one_eq_mod]
    omega
  rw [e]
  generalize BitVec.setWidth 24 z = v
  constructor
  · intro q
    have := congrArg (BitVec.setWidth 24) q
    rw [BitVec.setWidth_setWidth_of_le _ (by decide)] at this
    simpa using this
  · intro q; subst q; rfl
theorem own_keep (y c : Int64) (K : Nat) (h : c.toBitVec >>> K = 0#64) : own_win (y ||| c) K = own_win y K := by
  unfold own_win
  rw [Int64.toBitVec_or, BitVec.ushiftRight_or_distrib, h, BitVec.or_zero]
theorem own_fix (y w c : Int64) (K : Nat) (h : w.toBitVec = y.toBitVec >>> K) (hc : BitVec.setWidth 24 (c.toBitVec >>> K) = 128#24) : ¬ own_win (own_pickJ (lcmpW (w &&& (16777215 : Int64)) (3 : Int64) = (0 : Int32)) (y ||| c) y) K = 3#24 := by
  by_cases q : lcmpW (w &&& (16777215 : Int64)) (3 : Int64) = (0 : Int32)
  · rw [own_pickJ_pos q]
    have q2 := (own_cond w y K h).mp q
    unfold own_win at q2 ⊢
    rw [Int64.toBitVec_or, BitVec.ushiftRight_or_distrib, BitVec.setWidth_or, q2, hc]
    decide
  · rw [own_pickJ_neg q]
    exact fun z => q ((own_cond w y K h).mpr z)
theorem own_fixk (y w c : Int64) (K : Nat) (hc : c.toBitVec >>> K = 0#64) : own_win (own_pickJ (lcmpW (w &&& (16777215 : Int64)) (3 : Int64) = (0 : Int32)) (y ||| c) y) K = own_win y K := by
  by_cases q : lcmpW (w &&& (16777215 : Int64)) (3 : Int64) = (0 : Int32)
  · rw [own_pickJ_pos q]; exact own_keep y c K hc
  · rw [own_pickJ_neg q]
theorem own_ush (y : Int64) (c : UInt64) (K : Nat) (h : (c.toBitVec % 64#64).toNat = K) : ((y.toUInt64 >>> c).toInt64).toBitVec = y.toBitVec >>> K := by
  show (y.toUInt64 >>> c).toBitVec = _
  rw [UInt64.toBitVec_shiftRight]
  show y.toBitVec >>> (c.toBitVec % 64#64) = _
  subst h
  rfl
theorem own_w40 (x : Int64) : ¬ own_win (own_ne x) 40 = 3#24 := by
  unfold own_ne own_n6 own_n5 own_n4 own_n3 own_n2
  rw [own_fixk _ _ _ 40 (by decide), own_fixk _ _ _ 40 (by decide), own_fixk _ _ _ 40 (by decide), own_fixk _ _ _ 40 (by decide), own_fixk _ _ _ 40 (by decide)]
  exact own_fix _ _ _ 40 (own_ush _ _ 40 (by decide)) (by decide)
theorem own_w32 (x : Int64) : ¬ own_win (own_ne x) 32 = 3#24 := by
  unfold own_ne own_n6 own_n5 own_n4 own_n3
  rw [own_fixk _ _ _ 32 (by decide), own_fixk _ _ _ 32 (by decide), own_fixk _ _ _ 32 (by decide), own_fixk _ _ _ 32 (by decide)]
  exact own_fix _ _ _ 32 (own_ush _ _ 32 (by decide)) (by decide)
theorem own_w24 (x : Int64) : ¬ own_win (own_ne x) 24 = 3#24 := by
  unfold own_ne own_n6 own_n5 own_n4
  rw [own_fixk _ _ _ 24 (by decide), own_fixk _ _ _ 24 (by decide), own_fixk _ _ _ 24 (by decide)]
  exact own_fix _ _ _ 24 (own_ush _ _ 24 (by decide)) (by decide)
theorem own_w16 (x : Int64) : ¬ own_win (own_ne x) 16 = 3#24 := by
  unfold own_ne own_n6 own_n5
  rw [own_fixk _ _ _ 16 (by decide), own_fixk _ _ _ 16 (by decide)]
  exact own_fix _ _ _ 16 (own_ush _ _ 16 (by decide)) (by decide)
theorem own_w8 (x : Int64) : ¬ own_win (own_ne x) 8 = 3#24 := by
  unfold own_ne own_n6
  rw [own_fixk _ _ _ 8 (by decide)]
  exact own_fix _ _ _ 8 (own_ush _ _ 8 (by decide)) (by decide)
theorem own_w0 (x : Int64) : ¬ own_win (own_ne x) 0 = 3#24 := by
  unfold own_ne
  exact own_fix _ _ _ 0 (by simp) (by decide)
theorem own_byz (y : Int64) (K : Nat) (v : BitVec 8) (h : own_byte y K = Int32.ofBitVec (v.signExtend 32)) : BitVec.setWidth 8 (y.toBitVec >>> K) = v := by
  unfold own_byte at h
  have h2 := congrArg Int32.toBitVec h
  rw [Int32.toBitVec_ofBitVec, Int32.toBitVec_ofBitVec] at h2
  have h3 := congrArg (BitVec.setWidth 8) h2
  rwa [own_se, own_se] at h3
theorem own_three (y : Int64) (K : Nat) (h2 : own_byte y (K + 16) = (0 : Int32)) (h1 : own_byte y (K + 8) = (0 : Int32)) (h0 : own_byte y K = (3 : Int32)) : own_win y K = 3#24 := by
  have a2 := own_byz y (K + 16) 0#8 h2
  have a1 := own_byz y (K + 8) 0#8 h1
  have a0 := own_byz y K 3#8 h0
  unfold own_win
  apply BitVec.eq_of_getLsbD_eq
  intro i hi
  rw [BitVec.getLsbD_setWidth]
  have f : ∀ (v : BitVec 8) (M : Nat), BitVec.setWidth 8 (y.toBitVec >>> M) = v → ∀ j, j < 8 → y.toBitVec.getLsbD (M + j) = v.getLsbD j := by
    intro v M hM j hj
    rw [← hM, BitVec.getLsbD_setWidth, BitVec.getLsbD_ushiftRight]; simp [hj]
  rw [BitVec.getLsbD_ushiftRight]
  by_cases c0 : i < 8
  · rw [f _ _ a0 i c0]
    have : ∀ j, j < 8 → (decide (j < 24) && (3#8).getLsbD j) = (3#24).getLsbD j := by decide
    exact this i c0
  · by_cases c1 : i < 16
    · have q := f _ _ a1 (i - 8) (by omega)
      rw [show K + 8 + (i - 8) = K + i by omega] at q
      rw [q]
      have : ∀ j, j < 16 → ¬ j < 8 → (decide (j < 24) && (0#8).getLsbD (j - 8)) = (3#24).getLsbD j := by decide
      exact this i c1 c0
    · have q := f _ _ a2 (i - 16) (by omega)
      rw [show K + 16 + (i - 16) = K + i by omega] at q
      rw [q]
      have : ∀ j, j < 24 → ¬ j < 16 → (decide (j < 24) && (0#8).getLsbD (j - 16)) = (3#24).getLsbD j := by decide
      exact this i hi c1
theorem own_noem (x : Int64) (K : Nat) (hK : K = 0 ∨ K = 8 ∨ K = 16 ∨ K = 24 ∨ K = 32 ∨ K = 40) : ¬ (own_byte (own_ne x) (K + 16) = (0 : Int32) ∧ own_byte (own_ne x) (K + 8) = (0 : Int32) ∧ own_byte (own_ne x) K = (3 : Int32)) := by
  intro ⟨h2, h1, h0⟩
  have w := own_three _ K h2 h1 h0
  rcases hK with rfl | rfl | rfl | rfl | rfl | rfl
  · exact own_w0 x w
  · exact own_w8 x w
  · exact own_w16 x w
  · exact own_w24 x w
  · exact own_w32 x w
  · exact own_w40 x w
theorem d8_0 : decode prog_64_method_3_code 0 = .ok (.iconst 0, 1) := by decide +kernel
theorem d8_1 : decode prog_64_method_3_code 1 = .ok (.istore_n 2, 1) := by decide +kernel
theorem d8_2 : decode prog_64_method_3_code 2 = .ok (.iconst 0, 1) := by decide +kernel
theorem d8_3 : decode prog_64_method_3_code 3 = .ok (.istore_n 3, 1) := by decide +kernel
theorem d8_4 : decode prog_64_method_3_code 4 = .ok (.iload_n 3, 1) := by decide +kernel
theorem d8_5 : decode prog_64_method_3_code 5 = .ok (.iload_n 1, 1) := by decide +kernel
theorem d8_6 : decode prog_64_method_3_code 6 = .ok (.if_icmp .ge 52, 3) := by decide +kernel
theorem d8_9 : decode prog_64_method_3_code 9 = .ok (.aload_n 0, 1) := by decide +kernel
theorem d8_10 : decode prog_64_method_3_code 10 = .ok (.getfield 13, 3) := by decide +kernel
theorem d8_13 : decode prog_64_method_3_code 13 = .ok (.aload_n 0, 1) := by decide +kernel
theorem d8_14 : decode prog_64_method_3_code 14 = .ok (.getfield 29, 3) := by decide +kernel
theorem d8_17 : decode prog_64_method_3_code 17 = .ok (.iconst 3, 1) := by decide +kernel
theorem d8_18 : decode prog_64_method_3_code 18 = .ok (.ishr, 1) := by decide +kernel
theorem d8_19 : decode prog_64_method_3_code 19 = .ok (.baload, 1) := by decide +kernel
theorem d8_20 : decode prog_64_method_3_code 20 = .ok (.istore 4, 2) := by decide +kernel
theorem d8_22 : decode prog_64_method_3_code 22 = .ok (.iload_n 2, 1) := by decide +kernel
theorem d8_23 : decode prog_64_method_3_code 23 = .ok (.iconst 1, 1) := by decide +kernel
theorem d8_24 : decode prog_64_method_3_code 24 = .ok (.ishl, 1) := by decide +kernel
theorem d8_25 : decode prog_64_method_3_code 25 = .ok (.iload 4, 2) := by decide +kernel
theorem d8_27 : decode prog_64_method_3_code 27 = .ok (.bipush 7, 2) := by decide +kernel
theorem d8_29 : decode prog_64_method_3_code 29 = .ok (.aload_n 0, 1) := by decide +kernel
theorem d8_30 : decode prog_64_method_3_code 30 = .ok (.getfield 29, 3) := by decide +kernel
theorem d8_33 : decode prog_64_method_3_code 33 = .ok (.bipush 7, 2) := by decide +kernel
theorem d8_35 : decode prog_64_method_3_code 35 = .ok (.iand, 1) := by decide +kernel
theorem d8_36 : decode prog_64_method_3_code 36 = .ok (.isub, 1) := by decide +kernel
theorem d8_37 : decode prog_64_method_3_code 37 = .ok (.ishr, 1) := by decide +kernel
theorem d8_38 : decode prog_64_method_3_code 38 = .ok (.iconst 1, 1) := by decide +kernel
theorem d8_39 : decode prog_64_method_3_code 39 = .ok (.iand, 1) := by decide +kernel
theorem d8_40 : decode prog_64_method_3_code 40 = .ok (.ior, 1) := by decide +kernel
theorem d8_41 : decode prog_64_method_3_code 41 = .ok (.istore_n 2, 1) := by decide +kernel
theorem d8_42 : decode prog_64_method_3_code 42 = .ok (.aload_n 0, 1) := by decide +kernel
theorem d8_43 : decode prog_64_method_3_code 43 = .ok (.dup, 1) := by decide +kernel
theorem d8_44 : decode prog_64_method_3_code 44 = .ok (.getfield 29, 3) := by decide +kernel
theorem d8_47 : decode prog_64_method_3_code 47 = .ok (.iconst 1, 1) := by decide +kernel
theorem d8_48 : decode prog_64_method_3_code 48 = .ok (.iadd, 1) := by decide +kernel
theorem d8_49 : decode prog_64_method_3_code 49 = .ok (.putfield 29, 3) := by decide +kernel
theorem d8_52 : decode prog_64_method_3_code 52 = .ok (.iinc 3 1, 3) := by decide +kernel
theorem d8_55 : decode prog_64_method_3_code 55 = .ok (.goto (-51), 3) := by decide +kernel
theorem d8_58 : decode prog_64_method_3_code 58 = .ok (.iload_n 2, 1) := by decide +kernel
theorem d8_59 : decode prog_64_method_3_code 59 = .ok (.ireturn, 1) := by decide +kernel
theorem pn_rm8 : plainName "lazyframe/media/NalPayload" = true := by first | (simp [plainName, overriddenIn]; done) | decide +kernel
theorem ef_rm8 (m : MethodId) (o0 : Addr) (Cn : Nat) : entryFrame m #[(.ref o0), (.int (Int32.ofNat Cn))] 5 = mkF m 0 #[.val (.ref o0), .val (.int (Int32.ofNat Cn)), .unset, .unset, .unset] [] := by first | (simp [entryFrame, mkF, argsToLocals, Value.category, maxLocals]; done) | rfl
def rm8_Q (Z : State) (o0 : Addr) (Cn : Nat) (b : Addr) (sv : Int32) (k : ClassId) (y : Int64) (Pn : Nat) (h0 : Heap) (n0 : Nat) (v : Option Value) (h : Heap) (L : List Loc) : Prop := v = some (.int (Int32.ofNat (own_val y Pn Cn))) ∧ Fr n0 L ∧ Keep h0 h [o0] ∧ Exa Z h o0 "lazyframe/media/NalPayload" ∧ Fld Z h o0 "lazyframe/media/NalPayload" "bit" "I" (.int (Int32.ofNat (Pn + Cn))) ∧ Fld Z h o0 "lazyframe/media/NalPayload" "stop" "I" (.int sv) ∧ Fld Z h o0 "lazyframe/media/NalPayload" "payload" "[B" (.ref b)
set_option maxRecDepth 65536 in
set_option maxHeartbeats 40000000 in
theorem rm8 (l : Launch) (Z : State) (a0 : Array Value) (hw : ∀ d ∈ tables_1, d.before a0 Z = true) (ws : List Jvm.Cond) (o0 : Addr) (Cn : Nat) (b : Addr) (sv : Int32) (k : ClassId) (y : Int64) (Pn : Nat) (h0 : Heap) (n0 : Nat) (Z0 : n0 ≤ h0.size) (E_o0 : Exa Z h0 o0 "lazyframe/media/NalPayload") (F_payload : Fld Z h0 o0 "lazyframe/media/NalPayload" "payload" "[B" (.ref b)) (F_stop : Fld Z h0 o0 "lazyframe/media/NalPayload" "stop" "I" (.int sv)) (F_bit : Fld Z h0 o0 "lazyframe/media/NalPayload" "bit" "I" (.int (Int32.ofNat Pn))) (g_o0 : n0 ≤ o0) (V_b : Arv Z h0 b k .byte (8 : Int32) [(.int (own_byte y 56)), (.int (own_byte y 48)), (.int (own_byte y 40)), (.int (own_byte y 32)), (.int (own_byte y 24)), (.int (own_byte y 16)), (.int (own_byte y 8)), (.int (own_byte y 0))] (.int (0 : Int32))) (neb : b ≠ o0) (hC : Cn ≤ 31) (hPC : Pn + Cn ≤ 64) :
    MetFree l (⟨"lazyframe/media/NalPayload", "u", "(I)I"⟩ : MethodName) (head1 (Jvm.Cond.code (⟨"lazyframe/media/NalPayload", "u", "(I)I"⟩ : MethodName) prog_64_method_3_code 5 (some .int) :: ws) ({ frames := 0, cells := 0, slots := 0, locals := 0 } : Room)) (fun a U => a = #[(.ref o0), (.int (Int32.ofNat Cn))] ∧ Z.Warmed39 U.vm ∧ U.heap = h0) (fun _ _ _ _ _ => True) (fun _ U o U' => ∃ v L, o = .returned v ∧ rm8_Q Z o0 Cn b sv k y Pn h0 n0 v U'.heap L ∧ FrameEnd U o U' L ({ frames := 0, cells := 0, slots := 0, locals := 0 } : Room).cells ({ frames := 0, cells := 0, slots := 0, locals := 0 } : Room).slots) := by
  refine MetFree.of_bodySF (plainFor_of_name pn_rm8) hisR ?_
  intro p e s m args below meth c s₁ Bd hml0 hP hK
  obtain ⟨rfl, hZ, hh⟩ := hP
  have hx := Bd.exec
  have hby := Bd.bytes
  have hml : c.maxLocals = 5 := hml0
  have hown : s.vm.findClass "lazyframe/media/NalPayload" = some m.cls := findClass_of_methodNamed Bd.named
  have hnm := (name_of_methodNamed Bd.named Bd.method).1
  have X0 : Stand p l e ({ frames := 0, cells := 0, slots := 0, locals := 0 } : Room) s m #[(.ref o0), (.int (Int32.ofNat Cn))] below meth c s₁ [] 0 0 := Stand.of_body Bd
  have e0 : s₁.heap = h0 := by rw [← hh, Bd.state]; rfl
  have N0 := Fr.nil n0
  have K0 := Keep.refl h0 [o0]
  refine own_enter (QQ := rm8_Q Z o0 Cn b sv k y Pn h0 n0) (ef_rm8 m o0 Cn) ?_
  show own_Run p e below s _ _ _ s₁ (mkF m 0 #[.val (.ref o0), .val (.int (Int32.ofNat Cn)), .unset, .unset, .unset] [])
  have loop : ∀ (kt j : Nat) (T : State) (hp : Heap) (lc : List Loc) (s4 : Slot), j + kt = Cn → ∀ (X : Stand p l e ({ frames := 0, cells := 0, slots := 0, locals := 0 } : Room) s m #[(.ref o0), (.int (Int32.ofNat Cn))] below meth c T lc 0 0) (eT : T.heap = hp) (Nl : Fr n0 lc) (Kl : Keep h0 hp [o0]) (El : Exa Z hp o0 "lazyframe/media/NalPayload") (Bl : Fld Z hp o0 "lazyframe/media/NalPayload" "bit" "I" (.int (Int32.ofNat (Pn + j)))) (Sl : Fld Z hp o0 "lazyframe/media/NalPayload" "stop" "I" (.int sv)) (Pl : Fld Z hp o0 "lazyframe/media/NalPayload" "payload" "[B" (.ref b)) (Vl : Arv Z hp b k .byte (8 : Int32) [(.int (own_byte y 56)), (.int (own_byte y 48)), (.int (own_byte y 40)), (.int (own_byte y 32)), (.int (own_byte y 24)), (.int (own_byte y 16)), (.int (own_byte y 8)), (.int (own_byte y 0))] (.int (0 : Int32))), One s4 → own_Run p e below s (rm8_Q Z o0 Cn b sv k y Pn h0 n0) 0 0 T (mkF m 4 #[.val (.ref o0), .val (.int (Int32.ofNat Cn)), .val (.int (Int32.ofNat (own_val y Pn j))), .val (.int (Int32.ofNat j)), s4] []) := by
    intro kt
    induction kt with
    | zero =>
      intro j T hp lc s4 hj X eT Nl Kl El Bl Sl Pl Vl h4
      refine own_step (T' := T) (g' := (mkF m 59 #[.val (.ref o0), .val (.int (Int32.ofNat Cn)), .val (.int (Int32.ofNat (own_val y Pn j))), .val (.int (Int32.ofNat j)), s4] [(.int (Int32.ofNat (own_val y Pn j)))])) (fun t k => ?_) ?_
      · show Steps p.tables e below (T.setTop (mkF m 4 #[.val (.ref o0), .val (.int (Int32.ofNat Cn)), .val (.int (Int32.ofNat (own_val y Pn j))), .val (.int (Int32.ofNat j)), s4] [])) _
        refine XS.iloadN X.here hx rfl (hb hby d8_4) rfl ?_
        show Steps p.tables e below (T.setTop (mkF m 5 #[.val (.ref o0), .val (.int (Int32.ofNat Cn)), .val (.int (Int32.ofNat (own_val y Pn j))), .val (.int (Int32.ofNat j)), s4] [(.int (Int32.ofNat j))])) _
        refine XS.iloadN X.here hx rfl (hb hby d8_5) rfl ?_
        show Steps p.tables e below (T.setTop (mkF m 6 #[.val (.ref o0), .val (.int (Int32.ofNat Cn)), .val (.int (Int32.ofNat (own_val y Pn j))), .val (.int (Int32.ofNat j)), s4] [(.int (Int32.ofNat Cn)), (.int (Int32.ofNat j))])) _
        refine XS.icmpYes X.here hx rfl (pc0 := 6) (pc' := 58) rfl (hb hby d8_6) rfl (flt (own_stop hj hC)).2.1 (by decide) (by decide) ?_
        show Steps p.tables e below (T.setTop (mkF m 58 #[.val (.ref o0), .val (.int (Int32.ofNat Cn)), .val (.int (Int32.ofNat (own_val y Pn j))), .val (.int (Int32.ofNat j)), s4] [])) _
        refine XS.iloadN X.here hx rfl (hb hby d8_58) rfl ?_
        show Steps p.tables e below (T.setTop (mkF m 59 #[.val (.ref o0), .val (.int (Int32.ofNat Cn)), .val (.int (Int32.ofNat (own_val y Pn j))), .val (.int (Int32.ofNat j)), s4] [(.int (Int32.ofNat (own_val y Pn j)))])) _
        exact k
      refine own_retI X hx Bd.returns (hb hby d8_59) (BodyLoose.notSynchronized Bd) (by decide) (by decide) ?_
      rw [show T.heap = hp from eT]
      obtain rfl : j = Cn := by omega
      exact ⟨rfl, Nl, Kl, El, Bl, Sl, Pl⟩
    | succ kt ih =>
      intro j T hp lc s4 hj X eT Nl Kl El Bl Sl Pl Vl h4
      have ht : Pn + j < 64 := by omega
      refine own_step (T' := T) (g' := (mkF m 10 #[.val (.ref o0), .val (.int (Int32.ofNat Cn)), .val (.int (Int32.ofNat (own_val y Pn j))), .val (.int (Int32.ofNat j)), s4] [(.ref o0)])) (fun t k => ?_) ?_
      · show Steps p.tables e below (T.setTop (mkF m 4 #[.val (.ref o0), .val (.int (Int32.ofNat Cn)), .val (.int (Int32.ofNat (own_val y Pn j))), .val (.int (Int32.ofNat j)), s4] [])) _
        refine XS.iloadN X.here hx rfl (hb hby d8_4) rfl ?_
        show Steps p.tables e below (T.setTop (mkF m 5 #[.val (.ref o0), .val (.int (Int32.ofNat Cn)), .val (.int (Int32.ofNat (own_val y Pn j))), .val (.int (Int32.ofNat j)), s4] [(.int (Int32.ofNat j))])) _
        refine XS.iloadN X.here hx rfl (hb hby d8_5) rfl ?_
        show Steps p.tables e below (T.setTop (mkF m 6 #[.val (.ref o0), .val (.int (Int32.ofNat Cn)), .val (.int (Int32.ofNat (own_val y Pn j))), .val (.int (Int32.ofNat j)), s4] [(.int (Int32.ofNat Cn)), (.int (Int32.ofNat j))])) _
        refine XS.icmpNo X.here hx rfl (hb hby d8_6) rfl (tlt (own_go hj hC)).2.1 ?_
        show Steps p.tables e below (T.setTop (mkF m 9 #[.val (.ref o0), .val (.int (Int32.ofNat Cn)), .val (.int (Int32.ofNat (own_val y Pn j))), .val (.int (Int32.ofNat j)), s4] [])) _
        refine XS.aloadN X.here hx rfl (hb hby d8_9) rfl rfl ?_
        show Steps p.tables e below (T.setTop (mkF m 10 #[.val (.ref o0), .val (.int (Int32.ofNat Cn)), .val (.int (Int32.ofNat (own_val y Pn j))), .val (.int (Int32.ofNat j)), s4] [(.ref o0)])) _
        exact k
      obtain ⟨T3, X3, e3, st3⟩ := getF X hx hZ hown (host := "") (Or.inl (hw _ (List.mem_of_getElem? (i := 31) rfl))) Via.refl eT Pl (g := (mkF m 10 #[.val (.ref o0), .val (.int (Int32.ofNat Cn)), .val (.int (Int32.ofNat (own_val y Pn j))), .val (.int (Int32.ofNat j)), s4] [(.ref o0)])) rfl rfl (hb hby d8_10)
      refine own_step st3 ?_
      show own_Run p e below s _ _ _ T3 (mkF m 13 #[.val (.ref o0), .val (.int (Int32.ofNat Cn)), .val (.int (Int32.ofNat (own_val y Pn j))), .val (.int (Int32.ofNat j)), s4] [(.ref b)])
      refine own_step (T' := T3) (g' := (mkF m 14 #[.val (.ref o0), .val (.int (Int32.ofNat Cn)), .val (.int (Int32.ofNat (own_val y Pn j))), .val (.int (Int32.ofNat j)), s4] [(.ref o0), (.ref b)])) (fun t k => ?_) ?_
      · show Steps p.tables e below (T3.setTop (mkF m 13 #[.val (.ref o0), .val (.int (Int32.ofNat Cn)), .val (.int (Int32.ofNat (own_val y Pn j))), .val (.int (Int32.ofNat j)), s4] [(.ref b)])) _
        refine XS.aloadN X3.here hx rfl (hb hby d8_13) rfl rfl ?_
        show Steps p.tables e below (T3.setTop (mkF m 14 #[.val (.ref o0), .val (.int (Int32.ofNat Cn)), .val (.int (Int32.ofNat (own_val y Pn j))), .val (.int (Int32.ofNat j)), s4] [(.ref o0), (.ref b)])) _
        exact k
      obtain ⟨T4, X4, e4, st4⟩ := getF X3 hx hZ hown (host := "") (Or.inl (hw _ (List.mem_of_getElem? (i := 44) rfl))) Via.refl e3 Bl (g := (mkF m 14 #[.val (.ref o0), .val (.int (Int32.ofNat Cn)), .val (.int (Int32.ofNat (own_val y Pn j))), .val (.int (Int32.ofNat j)), s4] [(.ref o0), (.ref b)])) rfl rfl (hb hby d8_14)
      refine own_step st4 ?_
      show own_Run p e below s _ _ _ T4 (mkF m 17 #[.val (.ref o0), .val (.int (Int32.ofNat Cn)), .val (.int (Int32.ofNat (own_val y Pn j))), .val (.int (Int32.ofNat j)), s4] [(.int (Int32.ofNat (Pn + j))), (.ref b)])
      refine own_step (T' := T4) (g' := (mkF m 19 #[.val (.ref o0), .val (.int (Int32.ofNat Cn)), .val (.int (Int32.ofNat (own_val y Pn j))), .val (.int (Int32.ofNat j)), s4] [(.int ((Int32.ofNat (Pn + j)) >>> ((3 : Int32) &&& 31))), (.ref b)])) (fun t k => ?_) ?_
      · show Steps p.tables e below (T4.setTop (mkF m 17 #[.val (.ref o0), .val (.int (Int32.ofNat Cn)), .val (.int (Int32.ofNat (own_val y Pn j))), .val (.int (Int32.ofNat j)), s4] [(.int (Int32.ofNat (Pn + j))), (.ref b)])) _
        refine XS.iconst X4.here hx rfl (hb hby d8_17) ?_
        show Steps p.tables e below (T4.setTop (mkF m 18 #[.val (.ref o0), .val (.int (Int32.ofNat Cn)), .val (.int (Int32.ofNat (own_val y Pn j))), .val (.int (Int32.ofNat j)), s4] [(.int (3 : Int32)), (.int (Int32.ofNat (Pn + j))), (.ref b)])) _
        refine XS.ishr X4.here hx rfl (hb hby d8_18) rfl ?_
        show Steps p.tables e below (T4.setTop (mkF m 19 #[.val (.ref o0), .val (.int (Int32.ofNat Cn)), .val (.int (Int32.ofNat (own_val y Pn j))), .val (.int (Int32.ofNat j)), s4] [(.int ((Int32.ofNat (Pn + j)) >>> ((3 : Int32) &&& 31))), (.ref b)])) _
        exact k
      obtain ⟨cl5, Arcl5, qcl5, Scl5, Mcl5, Hcl5, Gcl5⟩ := id Vl
      have hincl5 : ¬ (((Int32.ofNat (Pn + j)) >>> ((3 : Int32) &&& 31)) < 0 ∨ cl5.slots.size ≤ (((Int32.ofNat (Pn + j)) >>> ((3 : Int32) &&& 31))).toNatClampNeg) := inb_of Scl5 (own_in ht)
      have hatcl5 : cl5.slots[(((Int32.ofNat (Pn + j)) >>> ((3 : Int32) &&& 31))).toNatClampNeg]? = some (.int (own_byte y (56 - 8 * ((Pn + j) / 8)))) := Hcl5.at hincl5 (own_at y ht)
      refine own_step (T' := T4) (g' := (mkF m 30 #[.val (.ref o0), .val (.int (Int32.ofNat Cn)), .val (.int (Int32.ofNat (own_val y Pn j))), .val (.int (Int32.ofNat j)), .val (.int (own_byte y (56 - 8 * ((Pn + j) / 8))))] [(.ref o0), (.int (7 : Int32)), (.int (own_byte y (56 - 8 * ((Pn + j) / 8)))), (.int ((Int32.ofNat (own_val y Pn j)) <<< ((1 : Int32) &&& 31)))])) (fun t k => ?_) ?_
      · show Steps p.tables e below (T4.setTop (mkF m 19 #[.val (.ref o0), .val (.int (Int32.ofNat Cn)), .val (.int (Int32.ofNat (own_val y Pn j))), .val (.int (Int32.ofNat j)), s4] [(.int ((Int32.ofNat (Pn + j)) >>> ((3 : Int32) &&& 31))), (.ref b)])) _
        refine X4.baloadBytes hx (j := ((Int32.ofNat (Pn + j)) >>> ((3 : Int32) &&& 31))) (v := (.int (own_byte y (56 - 8 * ((Pn + j) / 8))))) (by rw [e4]; exact Arcl5.1) (State.isArrayOf_alike hZ.alike Arcl5.2.1) Arcl5.2.2 hincl5 hatcl5 (g := (mkF m 19 #[.val (.ref o0), .val (.int (Int32.ofNat Cn)), .val (.int (Int32.ofNat (own_val y Pn j))), .val (.int (Int32.ofNat j)), s4] [(.int ((Int32.ofNat (Pn + j)) >>> ((3 : Int32) &&& 31))), (.ref b)])) rfl rfl (hb hby d8_19) _ ?_
        show Steps p.tables e below (T4.setTop (mkF m 20 #[.val (.ref o0), .val (.int (Int32.ofNat Cn)), .val (.int (Int32.ofNat (own_val y Pn j))), .val (.int (Int32.ofNat j)), s4] [(.int (own_byte y (56 - 8 * ((Pn + j) / 8))))])) _
        refine XS.istore X4.here hx rfl (hb hby d8_20) rfl (l' := #[.val (.ref o0), .val (.int (Int32.ofNat Cn)), .val (.int (Int32.ofNat (own_val y Pn j))), .val (.int (Int32.ofNat j)), .val (.int (own_byte y (56 - 8 * ((Pn + j) / 8))))]) (own_st4 h4 _) ?_
        show Steps p.tables e below (T4.setTop (mkF m 22 #[.val (.ref o0), .val (.int (Int32.ofNat Cn)), .val (.int (Int32.ofNat (own_val y Pn j))), .val (.int (Int32.ofNat j)), .val (.int (own_byte y (56 - 8 * ((Pn + j) / 8))))] [])) _
        refine XS.iloadN X4.here hx rfl (hb hby d8_22) rfl ?_
        show Steps p.tables e below (T4.setTop (mkF m 23 #[.val (.ref o0), .val (.int (Int32.ofNat Cn)), .val (.int (Int32.ofNat (own_val y Pn j))), .val (.int (Int32.ofNat j)), .val (.int (own_byte y (56 - 8 * ((Pn + j) / 8))))] [(.int (Int32.ofNat (own_val y Pn j)))])) _
        refine XS.iconst X4.here hx rfl (hb hby d8_23) ?_
        show Steps p.tables e below (T4.setTop (mkF m 24 #[.val (.ref o0), .val (.int (Int32.ofNat Cn)), .val (.int (Int32.ofNat (own_val y Pn j))), .val (.int (Int32.ofNat j)), .val (.int (own_byte y (56 - 8 * ((Pn + j) / 8))))] [(.int (1 : Int32)), (.int (Int32.ofNat (own_val y Pn j)))])) _
        refine XS.ishl X4.here hx rfl (hb hby d8_24) rfl ?_
        show Steps p.tables e below (T4.setTop (mkF m 25 #[.val (.ref o0), .val (.int (Int32.ofNat Cn)), .val (.int (Int32.ofNat (own_val y Pn j))), .val (.int (Int32.ofNat j)), .val (.int (own_byte y (56 - 8 * ((Pn + j) / 8))))] [(.int ((Int32.ofNat (own_val y Pn j)) <<< ((1 : Int32) &&& 31)))])) _
        refine XS.iload X4.here hx rfl (hb hby d8_25) rfl ?_
        show Steps p.tables e below (T4.setTop (mkF m 27 #[.val (.ref o0), .val (.int (Int32.ofNat Cn)), .val (.int (Int32.ofNat (own_val y Pn j))), .val (.int (Int32.ofNat j)), .val (.int (own_byte y (56 - 8 * ((Pn + j) / 8))))] [(.int (own_byte y (56 - 8 * ((Pn + j) / 8)))), (.int ((Int32.ofNat (own_val y Pn j)) <<< ((1 : Int32) &&& 31)))])) _
        refine XS.bipush X4.here hx rfl (hb hby d8_27) ?_
        show Steps p.tables e below (T4.setTop (mkF m 29 #[.val (.ref o0), .val (.int (Int32.ofNat Cn)), .val (.int (Int32.ofNat (own_val y Pn j))), .val (.int (Int32.ofNat j)), .val (.int (own_byte y (56 - 8 * ((Pn + j) / 8))))] [(.int (7 : Int32)), (.int (own_byte y (56 - 8 * ((Pn + j) / 8)))), (.int ((Int32.ofNat (own_val y Pn j)) <<< ((1 : Int32) &&& 31)))])) _
        refine XS.aloadN X4.here hx rfl (hb hby d8_29) rfl rfl ?_
        show Steps p.tables e below (T4.setTop (mkF m 30 #[.val (.ref o0), .val (.int (Int32.ofNat Cn)), .val (.int (Int32.ofNat (own_val y Pn j))), .val (.int (Int32.ofNat j)), .val (.int (own_byte y (56 - 8 * ((Pn + j) / 8))))] [(.ref o0), (.int (7 : Int32)), (.int (own_byte y (56 - 8 * ((Pn + j) / 8)))), (.int ((Int32.ofNat (own_val y Pn j)) <<< ((1 : Int32) &&& 31)))])) _
        exact k
      obtain ⟨T6, X6, e6, st6⟩ := getF X4 hx hZ hown (host := "") (Or.inl (hw _ (List.mem_of_getElem? (i := 44) rfl))) Via.refl e4 Bl (g := (mkF m 30 #[.val (.ref o0), .val (.int (Int32.ofNat Cn)), .val (.int (Int32.ofNat (own_val y Pn j))), .val (.int (Int32.ofNat j)), .val (.int (own_byte y (56 - 8 * ((Pn + j) / 8))))] [(.ref o0), (.int (7 : Int32)), (.int (own_byte y (56 - 8 * ((Pn + j) / 8)))), (.int ((Int32.ofNat (own_val y Pn j)) <<< ((1 : Int32) &&& 31)))])) rfl rfl (hb hby d8_30)
      refine own_step st6 ?_
      show own_Run p e below s _ _ _ T6 (mkF m 33 #[.val (.ref o0), .val (.int (Int32.ofNat Cn)), .val (.int (Int32.ofNat (own_val y Pn j))), .val (.int (Int32.ofNat j)), .val (.int (own_byte y (56 - 8 * ((Pn + j) / 8))))] [(.int (Int32.ofNat (Pn + j))), (.int (7 : Int32)), (.int (own_byte y (56 - 8 * ((Pn + j) / 8)))), (.int ((Int32.ofNat (own_val y Pn j)) <<< ((1 : Int32) &&& 31)))])
      refine own_step (T' := T6) (g' := (mkF m 44 #[.val (.ref o0), .val (.int (Int32.ofNat Cn)), .val (.int (((Int32.ofNat (own_val y Pn j)) <<< ((1 : Int32) &&& 31)) ||| (((own_byte y (56 - 8 * ((Pn + j) / 8))) >>> (((7 : Int32) - ((Int32.ofNat (Pn + j)) &&& (7 : Int32))) &&& 31)) &&& (1 : Int32)))), .val (.int (Int32.ofNat j)), .val (.int (own_byte y (56 - 8 * ((Pn + j) / 8))))] [(.ref o0), (.ref o0)])) (fun t k => ?_) ?_
      · show Steps p.tables e below (T6.setTop (mkF m 33 #[.val (.ref o0), .val (.int (Int32.ofNat Cn)), .val (.int (Int32.ofNat (own_val y Pn j))), .val (.int (Int32.ofNat j)), .val (.int (own_byte y (56 - 8 * ((Pn + j) / 8))))] [(.int (Int32.ofNat (Pn + j))), (.int (7 : Int32)), (.int (own_byte y (56 - 8 * ((Pn + j) / 8)))), (.int ((Int32.ofNat (own_val y Pn j)) <<< ((1 : Int32) &&& 31)))])) _
        refine XS.bipush X6.here hx rfl (hb hby d8_33) ?_
        show Steps p.tables e below (T6.setTop (mkF m 35 #[.val (.ref o0), .val (.int (Int32.ofNat Cn)), .val (.int (Int32.ofNat (own_val y Pn j))), .val (.int (Int32.ofNat j)), .val (.int (own_byte y (56 - 8 * ((Pn + j) / 8))))] [(.int (7 : Int32)), (.int (Int32.ofNat (Pn + j))), (.int (7 : Int32)), (.int (own_byte y (56 - 8 * ((Pn + j) / 8)))), (.int ((Int32.ofNat (own_val y Pn j)) <<< ((1 : Int32) &&& 31)))])) _
        refine XS.iand X6.here hx rfl (hb hby d8_35) rfl ?_
        show Steps p.tables e below (T6.setTop (mkF m 36 #[.val (.ref o0), .val (.int (Int32.ofNat Cn)), .val (.int (Int32.ofNat (own_val y Pn j))), .val (.int (Int32.ofNat j)), .val (.int (own_byte y (56 - 8 * ((Pn + j) / 8))))] [(.int ((Int32.ofNat (Pn + j)) &&& (7 : Int32))), (.int (7 : Int32)), (.int (own_byte y (56 - 8 * ((Pn + j) / 8)))), (.int ((Int32.ofNat (own_val y Pn j)) <<< ((1 : Int32) &&& 31)))])) _
        refine XS.isub X6.here hx rfl (hb hby d8_36) rfl ?_
        show Steps p.tables e below (T6.setTop (mkF m 37 #[.val (.ref o0), .val (.int (Int32.ofNat Cn)), .val (.int (Int32.ofNat (own_val y Pn j))), .val (.int (Int32.ofNat j)), .val (.int (own_byte y (56 - 8 * ((Pn + j) / 8))))] [(.int ((7 : Int32) - ((Int32.ofNat (Pn + j)) &&& (7 : Int32)))), (.int (own_byte y (56 - 8 * ((Pn + j) / 8)))), (.int ((Int32.ofNat (own_val y Pn j)) <<< ((1 : Int32) &&& 31)))])) _
        refine XS.ishr X6.here hx rfl (hb hby d8_37) rfl ?_
        show Steps p.tables e below (T6.setTop (mkF m 38 #[.val (.ref o0), .val (.int (Int32.ofNat Cn)), .val (.int (Int32.ofNat (own_val y Pn j))), .val (.int (Int32.ofNat j)), .val (.int (own_byte y (56 - 8 * ((Pn + j) / 8))))] [(.int ((own_byte y (56 - 8 * ((Pn + j) / 8))) >>> (((7 : Int32) - ((Int32.ofNat (Pn + j)) &&& (7 : Int32))) &&& 31))), (.int ((Int32.ofNat (own_val y Pn j)) <<< ((1 : Int32) &&& 31)))])) _
        refine XS.iconst X6.here hx rfl (hb hby d8_38) ?_
        show Steps p.tables e below (T6.setTop (mkF m 39 #[.val (.ref o0), .val (.int (Int32.ofNat Cn)), .val (.int (Int32.ofNat (own_val y Pn j))), .val (.int (Int32.ofNat j)), .val (.int (own_byte y (56 - 8 * ((Pn + j) / 8))))] [(.int (1 : Int32)), (.int ((own_byte y (56 - 8 * ((Pn + j) / 8))) >>> (((7 : Int32) - ((Int32.ofNat (Pn + j)) &&& (7 : Int32))) &&& 31))), (.int ((Int32.ofNat (own_val y Pn j)) <<< ((1 : Int32) &&& 31)))])) _
        refine XS.iand X6.here hx rfl (hb hby d8_39) rfl ?_
        show Steps p.tables e below (T6.setTop (mkF m 40 #[.val (.ref o0), .val (.int (Int32.ofNat Cn)), .val (.int (Int32.ofNat (own_val y Pn j))), .val (.int (Int32.ofNat j)), .val (.int (own_byte y (56 - 8 * ((Pn + j) / 8))))] [(.int (((own_byte y (56 - 8 * ((Pn + j) / 8))) >>> (((7 : Int32) - ((Int32.ofNat (Pn + j)) &&& (7 : Int32))) &&& 31)) &&& (1 : Int32))), (.int ((Int32.ofNat (own_val y Pn j)) <<< ((1 : Int32) &&& 31)))])) _
        refine XS.ior X6.here hx rfl (hb hby d8_40) rfl ?_
        show Steps p.tables e below (T6.setTop (mkF m 41 #[.val (.ref o0), .val (.int (Int32.ofNat Cn)), .val (.int (Int32.ofNat (own_val y Pn j))), .val (.int (Int32.ofNat j)), .val (.int (own_byte y (56 - 8 * ((Pn + j) / 8))))] [(.int (((Int32.ofNat (own_val y Pn j)) <<< ((1 : Int32) &&& 31)) ||| (((own_byte y (56 - 8 * ((Pn + j) / 8))) >>> (((7 : Int32) - ((Int32.ofNat (Pn + j)) &&& (7 : Int32))) &&& 31)) &&& (1 : Int32))))])) _
        refine XS.istoreN X6.here hx rfl (hb hby d8_41) rfl (l' := #[.val (.ref o0), .val (.int (Int32.ofNat Cn)), .val (.int (((Int32.ofNat (own_val y Pn j)) <<< ((1 : Int32) &&& 31)) ||| (((own_byte y (56 - 8 * ((Pn + j) / 8))) >>> (((7 : Int32) - ((Int32.ofNat (Pn + j)) &&& (7 : Int32))) &&& 31)) &&& (1 : Int32)))), .val (.int (Int32.ofNat j)), .val (.int (own_byte y (56 - 8 * ((Pn + j) / 8))))]) rfl ?_
        show Steps p.tables e below (T6.setTop (mkF m 42 #[.val (.ref o0), .val (.int (Int32.ofNat Cn)), .val (.int (((Int32.ofNat (own_val y Pn j)) <<< ((1 : Int32) &&& 31)) ||| (((own_byte y (56 - 8 * ((Pn + j) / 8))) >>> (((7 : Int32) - ((Int32.ofNat (Pn + j)) &&& (7 : Int32))) &&& 31)) &&& (1 : Int32)))), .val (.int (Int32.ofNat j)), .val (.int (own_byte y (56 - 8 * ((Pn + j) / 8))))] [])) _
        refine XS.aloadN X6.here hx rfl (hb hby d8_42) rfl rfl ?_
        show Steps p.tables e below (T6.setTop (mkF m 43 #[.val (.ref o0), .val (.int (Int32.ofNat Cn)), .val (.int (((Int32.ofNat (own_val y Pn j)) <<< ((1 : Int32) &&& 31)) ||| (((own_byte y (56 - 8 * ((Pn + j) / 8))) >>> (((7 : Int32) - ((Int32.ofNat (Pn + j)) &&& (7 : Int32))) &&& 31)) &&& (1 : Int32)))), .val (.int (Int32.ofNat j)), .val (.int (own_byte y (56 - 8 * ((Pn + j) / 8))))] [(.ref o0)])) _
        refine XS.dup X6.here hx rfl (hb hby d8_43) rfl rfl ?_
        show Steps p.tables e below (T6.setTop (mkF m 44 #[.val (.ref o0), .val (.int (Int32.ofNat Cn)), .val (.int (((Int32.ofNat (own_val y Pn j)) <<< ((1 : Int32) &&& 31)) ||| (((own_byte y (56 - 8 * ((Pn + j) / 8))) >>> (((7 : Int32) - ((Int32.ofNat (Pn + j)) &&& (7 : Int32))) &&& 31)) &&& (1 : Int32)))), .val (.int (Int32.ofNat j)), .val (.int (own_byte y (56 - 8 * ((Pn + j) / 8))))] [(.ref o0), (.ref o0)])) _
        exact k
      obtain ⟨T7, X7, e7, st7⟩ := getF X6 hx hZ hown (host := "") (Or.inl (hw _ (List.mem_of_getElem? (i := 44) rfl))) Via.refl e6 Bl (g := (mkF m 44 #[.val (.ref o0), .val (.int (Int32.ofNat Cn)), .val (.int (((Int32.ofNat (own_val y Pn j)) <<< ((1 : Int32) &&& 31)) ||| (((own_byte y (56 - 8 * ((Pn + j) / 8))) >>> (((7 : Int32) - ((Int32.ofNat (Pn + j)) &&& (7 : Int32))) &&& 31)) &&& (1 : Int32)))), .val (.int (Int32.ofNat j)), .val (.int (own_byte y (56 - 8 * ((Pn + j) / 8))))] [(.ref o0), (.ref o0)])) rfl rfl (hb hby d8_44)
      refine own_step st7 ?_
      show own_Run p e below s _ _ _ T7 (mkF m 47 #[.val (.ref o0), .val (.int (Int32.ofNat Cn)), .val (.int (((Int32.ofNat (own_val y Pn j)) <<< ((1 : Int32) &&& 31)) ||| (((own_byte y (56 - 8 * ((Pn + j) / 8))) >>> (((7 : Int32) - ((Int32.ofNat (Pn + j)) &&& (7 : Int32))) &&& 31)) &&& (1 : Int32)))), .val (.int (Int32.ofNat j)), .val (.int (own_byte y (56 - 8 * ((Pn + j) / 8))))] [(.int (Int32.ofNat (Pn + j))), (.ref o0)])
      refine own_step (T' := T7) (g' := (mkF m 49 #[.val (.ref o0), .val (.int (Int32.ofNat Cn)), .val (.int (((Int32.ofNat (own_val y Pn j)) <<< ((1 : Int32) &&& 31)) ||| (((own_byte y (56 - 8 * ((Pn + j) / 8))) >>> (((7 : Int32) - ((Int32.ofNat (Pn + j)) &&& (7 : Int32))) &&& 31)) &&& (1 : Int32)))), .val (.int (Int32.ofNat j)), .val (.int (own_byte y (56 - 8 * ((Pn + j) / 8))))] [(.int ((Int32.ofNat (Pn + j)) + (1 : Int32))), (.ref o0)])) (fun t k => ?_) ?_
      · show Steps p.tables e below (T7.setTop (mkF m 47 #[.val (.ref o0), .val (.int (Int32.ofNat Cn)), .val (.int (((Int32.ofNat (own_val y Pn j)) <<< ((1 : Int32) &&& 31)) ||| (((own_byte y (56 - 8 * ((Pn + j) / 8))) >>> (((7 : Int32) - ((Int32.ofNat (Pn + j)) &&& (7 : Int32))) &&& 31)) &&& (1 : Int32)))), .val (.int (Int32.ofNat j)), .val (.int (own_byte y (56 - 8 * ((Pn + j) / 8))))] [(.int (Int32.ofNat (Pn + j))), (.ref o0)])) _
        refine XS.iconst X7.here hx rfl (hb hby d8_47) ?_
        show Steps p.tables e below (T7.setTop (mkF m 48 #[.val (.ref o0), .val (.int (Int32.ofNat Cn)), .val (.int (((Int32.ofNat (own_val y Pn j)) <<< ((1 : Int32) &&& 31)) ||| (((own_byte y (56 - 8 * ((Pn + j) / 8))) >>> (((7 : Int32) - ((Int32.ofNat (Pn + j)) &&& (7 : Int32))) &&& 31)) &&& (1 : Int32)))), .val (.int (Int32.ofNat j)), .val (.int (own_byte y (56 - 8 * ((Pn + j) / 8))))] [(.int (1 : Int32)), (.int (Int32.ofNat (Pn + j))), (.ref o0)])) _
        refine XS.iadd X7.here hx rfl (hb hby d8_48) rfl ?_
        show Steps p.tables e below (T7.setTop (mkF m 49 #[.val (.ref o0), .val (.int (Int32.ofNat Cn)), .val (.int (((Int32.ofNat (own_val y Pn j)) <<< ((1 : Int32) &&& 31)) ||| (((own_byte y (56 - 8 * ((Pn + j) / 8))) >>> (((7 : Int32) - ((Int32.ofNat (Pn + j)) &&& (7 : Int32))) &&& 31)) &&& (1 : Int32)))), .val (.int (Int32.ofNat j)), .val (.int (own_byte y (56 - 8 * ((Pn + j) / 8))))] [(.int ((Int32.ofNat (Pn + j)) + (1 : Int32))), (.ref o0)])) _
        exact k
      obtain ⟨T8, h8, X8, e8, W8, st8⟩ := putF X7 hx hZ hown (host := "") (Or.inl (hw _ (List.mem_of_getElem? (i := 44) rfl))) Via.refl e7 Bl El (Or.inl (hw _ (List.mem_of_getElem? (i := 45) rfl))) (hw _ (List.mem_of_getElem? (i := 10) rfl)) (ty := .int) (by decide) rfl rfl (g := (mkF m 49 #[.val (.ref o0), .val (.int (Int32.ofNat Cn)), .val (.int (((Int32.ofNat (own_val y Pn j)) <<< ((1 : Int32) &&& 31)) ||| (((own_byte y (56 - 8 * ((Pn + j) / 8))) >>> (((7 : Int32) - ((Int32.ofNat (Pn + j)) &&& (7 : Int32))) &&& 31)) &&& (1 : Int32)))), .val (.int (Int32.ofNat j)), .val (.int (own_byte y (56 - 8 * ((Pn + j) / 8))))] [(.int ((Int32.ofNat (Pn + j)) + (1 : Int32))), (.ref o0)])) rfl rfl (hb hby d8_49)
      have F9 := Bl.same W8
      have F10 := Sl.other W8 (Or.inr (slot_ne (Or.inr (hw _ (List.mem_of_getElem? (i := 38) rfl))) (Or.inl (hw _ (List.mem_of_getElem? (i := 45) rfl))) (by decide) (t := .int) (t' := .int) (by decide) (by decide)))
      have F11 := Pl.other W8 (Or.inr (slot_ne (Or.inr (hw _ (List.mem_of_getElem? (i := 32) rfl))) (Or.inl (hw _ (List.mem_of_getElem? (i := 45) rfl))) (by decide) (t := (.array .byte)) (t' := .int) (by decide) (by decide)))
      have A12 := El.wr W8
      have V13 := Vl.other W8 neb
      have Z14 := Nat.le_trans (Nat.le_trans Z0 Kl.1) (Keep.of_wr W8).1
      have K8 := Kl.wr W8 (Or.inl (List.mem_of_getElem? (i := 0) rfl))
      have N8 := Fr.snoc X8 Nl g_o0
      refine own_step st8 ?_
      show own_Run p e below s _ _ _ T8 (mkF m 52 #[.val (.ref o0), .val (.int (Int32.ofNat Cn)), .val (.int (((Int32.ofNat (own_val y Pn j)) <<< ((1 : Int32) &&& 31)) ||| (((own_byte y (56 - 8 * ((Pn + j) / 8))) >>> (((7 : Int32) - ((Int32.ofNat (Pn + j)) &&& (7 : Int32))) &&& 31)) &&& (1 : Int32)))), .val (.int (Int32.ofNat j)), .val (.int (own_byte y (56 - 8 * ((Pn + j) / 8))))] [])
      refine own_step (T' := T8) (g' := (mkF m 4 #[.val (.ref o0), .val (.int (Int32.ofNat Cn)), .val (.int (((Int32.ofNat (own_val y Pn j)) <<< ((1 : Int32) &&& 31)) ||| (((own_byte y (56 - 8 * ((Pn + j) / 8))) >>> (((7 : Int32) - ((Int32.ofNat (Pn + j)) &&& (7 : Int32))) &&& 31)) &&& (1 : Int32)))), .val (.int ((Int32.ofNat j) + (1 : Int32))), .val (.int (own_byte y (56 - 8 * ((Pn + j) / 8))))] [])) (fun t k => ?_) ?_
      · show Steps p.tables e below (T8.setTop (mkF m 52 #[.val (.ref o0), .val (.int (Int32.ofNat Cn)), .val (.int (((Int32.ofNat (own_val y Pn j)) <<< ((1 : Int32) &&& 31)) ||| (((own_byte y (56 - 8 * ((Pn + j) / 8))) >>> (((7 : Int32) - ((Int32.ofNat (Pn + j)) &&& (7 : Int32))) &&& 31)) &&& (1 : Int32)))), .val (.int (Int32.ofNat j)), .val (.int (own_byte y (56 - 8 * ((Pn + j) / 8))))] [])) _
        refine XS.iinc X8.here hx rfl (hb hby d8_52) rfl (l' := #[.val (.ref o0), .val (.int (Int32.ofNat Cn)), .val (.int (((Int32.ofNat (own_val y Pn j)) <<< ((1 : Int32) &&& 31)) ||| (((own_byte y (56 - 8 * ((Pn + j) / 8))) >>> (((7 : Int32) - ((Int32.ofNat (Pn + j)) &&& (7 : Int32))) &&& 31)) &&& (1 : Int32)))), .val (.int ((Int32.ofNat j) + (1 : Int32))), .val (.int (own_byte y (56 - 8 * ((Pn + j) / 8))))]) rfl ?_
        show Steps p.tables e below (T8.setTop (mkF m 55 #[.val (.ref o0), .val (.int (Int32.ofNat Cn)), .val (.int (((Int32.ofNat (own_val y Pn j)) <<< ((1 : Int32) &&& 31)) ||| (((own_byte y (56 - 8 * ((Pn + j) / 8))) >>> (((7 : Int32) - ((Int32.ofNat (Pn + j)) &&& (7 : Int32))) &&& 31)) &&& (1 : Int32)))), .val (.int ((Int32.ofNat j) + (1 : Int32))), .val (.int (own_byte y (56 - 8 * ((Pn + j) / 8))))] [])) _
        refine XS.goto X8.here hx rfl (pc0 := 55) (pc' := 4) rfl (hb hby d8_55) (by decide) (by decide) ?_
        show Steps p.tables e below (T8.setTop (mkF m 4 #[.val (.ref o0), .val (.int (Int32.ofNat Cn)), .val (.int (((Int32.ofNat (own_val y Pn j)) <<< ((1 : Int32) &&& 31)) ||| (((own_byte y (56 - 8 * ((Pn + j) / 8))) >>> (((7 : Int32) - ((Int32.ofNat (Pn + j)) &&& (7 : Int32))) &&& 31)) &&& (1 : Int32)))), .val (.int ((Int32.ofNat j) + (1 : Int32))), .val (.int (own_byte y (56 - 8 * ((Pn + j) / 8))))] [])) _
        exact k
      have Fb : Fld Z h8 o0 "lazyframe/media/NalPayload" "bit" "I" (.int (Int32.ofNat (Pn + (j + 1)))) := by rw [show Pn + (j + 1) = Pn + j + 1 from rfl, ← own_inc (Pn + j)]; exact F9
      rw [own_turn y ht (by omega), own_inc j]
      exact ih (j + 1) _ _ _ _ (by omega) X8 e8 N8 K8 A12 Fb F10 F11 V13 (One.val rfl)
  refine own_step (T' := s₁) (g' := (mkF m 4 #[.val (.ref o0), .val (.int (Int32.ofNat Cn)), .val (.int (0 : Int32)), .val (.int (0 : Int32)), .unset] [])) (fun t k => ?_) ?_
  · show Steps p.tables e below (s₁.setTop (mkF m 0 #[.val (.ref o0), .val (.int (Int32.ofNat Cn)), .unset, .unset, .unset] [])) _
    refine XS.iconst X0.here hx rfl (hb hby d8_0) ?_
    show Steps p.tables e below (s₁.setTop (mkF m 1 #[.val (.ref o0), .val (.int (Int32.ofNat Cn)), .unset, .unset, .unset] [(.int (0 : Int32))])) _
    refine XS.istoreN X0.here hx rfl (hb hby d8_1) rfl (l' := #[.val (.ref o0), .val (.int (Int32.ofNat Cn)), .val (.int (0 : Int32)), .unset, .unset]) rfl ?_
    show Steps p.tables e below (s₁.setTop (mkF m 2 #[.val (.ref o0), .val (.int (Int32.ofNat Cn)), .val (.int (0 : Int32)), .unset, .unset] [])) _
    refine XS.iconst X0.here hx rfl (hb hby d8_2) ?_
    show Steps p.tables e below (s₁.setTop (mkF m 3 #[.val (.ref o0), .val (.int (Int32.ofNat Cn)), .val (.int (0 : Int32)), .unset, .unset] [(.int (0 : Int32))])) _
    refine XS.istoreN X0.here hx rfl (hb hby d8_3) rfl (l' := #[.val (.ref o0), .val (.int (Int32.ofNat Cn)), .val (.int (0 : Int32)), .val (.int (0 : Int32)), .unset]) rfl ?_
    show Steps p.tables e below (s₁.setTop (mkF m 4 #[.val (.ref o0), .val (.int (Int32.ofNat Cn)), .val (.int (0 : Int32)), .val (.int (0 : Int32)), .unset] [])) _
    exact k
  have q := loop Cn 0 _ _ _ .unset (by omega) X0 e0 N0 K0 E_o0 F_bit F_stop F_payload V_b One.u
  rw [own_val0] at q
  exact q
theorem pn_rm0 : plainName "lazyframe/media/NalPayloadUPinLaw" = true := by first | (simp [plainName, overriddenIn]; done) | decide +kernel
theorem ef_rm0 (m : MethodId) (q0 : Int64) (p1 : Int32) (p2 : Int32) : entryFrame m #[(.long q0), (.int p1), (.int p2)] maxLocals = mkF m 0 #[.val (.long q0), .second, .val (.int p1), .val (.int p2), .unset, .unset, .unset, .unset, .unset, .unset, .unset, .unset, .unset, .unset] [] := by first | (simp [entryFrame, mkF, argsToLocals, Value.category, maxLocals]; done) | rfl
def rm0_Q (Z : State) (q0 : Int64) (p1 : Int32) (p2 : Int32)  (h0 : Heap) (n0 : Nat) (v : Option Value) (h : Heap) (L : List Loc) : Prop := v = some (.int (1 : Int32)) ∧ Fr n0 L
set_option maxRecDepth 65536 in
set_option maxHeartbeats 40000000 in
theorem rm0 (l : Launch) (Z : State) (a0 : Array Value) (hw : ∀ d ∈ tables_1, d.before a0 Z = true) (ws : List Jvm.Cond) (q0 : Int64) (p1 : Int32) (p2 : Int32)  (h0 : Heap) (n0 : Nat) (Z0 : n0 ≤ h0.size)  :
    MetFree l x (head1 (Jvm.Cond.code x code maxLocals ret :: ws) room_1) (fun a U => a = #[(.long q0), (.int p1), (.int p2)] ∧ Z.Warmed39 U.vm ∧ U.heap = h0) (fun _ _ _ _ _ => True) (fun _ U o U' => ∃ v L, o = .returned v ∧ rm0_Q Z q0 p1 p2 h0 n0 v U'.heap L ∧ FrameEnd U o U' L room_1.cells room_1.slots) := by
  refine MetFree.of_bodySF (plainFor_of_name pn_rm0) hisR ?_
  intro p e s m args below meth c s₁ Bd hml0 hP hK
  obtain ⟨rfl, hZ, hh⟩ := hP
  have hx := Bd.exec
  have hby := Bd.bytes
  have hml : c.maxLocals = 14 := hml0
  have hown : s.vm.findClass "lazyframe/media/NalPayloadUPinLaw" = some m.cls := findClass_of_methodNamed Bd.named
  have hnm := (name_of_methodNamed Bd.named Bd.method).1
  have X0 : Stand p l e room_1 s m #[(.long q0), (.int p1), (.int p2)] below meth c s₁ [] 0 0 := Stand.of_body Bd
  have e0 : s₁.heap = h0 := by rw [← hh, Bd.state]; rfl
  have N0 := Fr.nil n0
  refine own_enter (QQ := rm0_Q Z q0 p1 p2 h0 n0) (ef_rm0 m q0 p1 p2) ?_
  show own_Run p e below s _ _ _ s₁ (mkF m 0 #[.val (.long q0), .second, .val (.int p1), .val (.int p2), .unset, .unset, .unset, .unset, .unset, .unset, .unset, .unset, .unset, .unset] [])
  refine own_step (T' := s₁) (g' := (mkF m 1 #[.val (.long q0), .second, .val (.int p1), .val (.int p2), .unset, .unset, .unset, .unset, .unset, .unset, .unset, .unset, .unset, .unset] [(.long q0)])) (fun t k => ?_) ?_
  · show Steps p.tables e below (s₁.setTop (mkF m 0 #[.val (.long q0), .second, .val (.int p1), .val (.int p2), .unset, .unset, .unset, .unset, .unset, .unset, .unset, .unset, .unset, .unset] [])) _
    refine XS.lloadN X0.here hx rfl (hb hby at_0) rfl ?_
    show Steps p.tables e below (s₁.setTop (mkF m 1 #[.val (.long q0), .second, .val (.int p1), .val (.int p2), .unset, .unset, .unset, .unset, .unset, .unset, .unset, .unset, .unset, .unset] [(.long q0)])) _
    exact k
  obtain ⟨_, _, ⟨T1, L1, k1, n1⟩, -, X1, ⟨Lc1, hQ1, l1, y1, z1⟩, st1⟩ := Jvm.LawKit.callS X0 hx (y := (⟨"lazyframe/media/NalPayloadUPinLaw", "noEmulation", "(J)J"⟩ : MethodName)) hown (mvT hZ (hw _ (List.mem_of_getElem? (i := 0) rfl))) (mvT hZ (hw _ (List.mem_of_getElem? (i := 1) rfl))) (mvT hZ (hw _ (List.mem_of_getElem? (i := 2) rfl))) (mvT hZ (hw _ (List.mem_of_getElem? (i := 3) rfl))) (by decide) (backOf (W := 0) (rm1 l Z a0 hw [] q0  h0 n0 Z0) hZ (hw _ (List.mem_of_getElem? (i := 3) rfl)) (hw _ (List.mem_of_getElem? (i := 2) rfl)) (by decide) (by decide)) (g := (mkF m 1 #[.val (.long q0), .second, .val (.int p1), .val (.int p2), .unset, .unset, .unset, .unset, .unset, .unset, .unset, .unset, .unset, .unset] [(.long q0)])) rfl (by rw [hml]; rfl) (argsL := [(.long q0)]) (rest := []) (lenOf pd_2 rfl) rfl (by show 2 * 0 + _ ≤ _; exact Nat.le_of_eq rfl) (hb hby at_1) (fun _ _ => ⟨rfl, e0, (by decide : 0 + 0 ≤ _), (by decide : 0 + 0 ≤ _)⟩)
  dsimp only [Pt.U, Pt.locs, Pt.cells, Pt.slots] at X1 l1 y1 z1 st1 hQ1
  subst l1 y1 z1
  obtain ⟨rfl, N1q, eq1⟩ := hQ1
  have N1 := Fr.app N0 N1q
  refine own_step st1 ?_
  show own_Run p e below s _ _ _ T1 (mkF m 4 #[.val (.long q0), .second, .val (.int p1), .val (.int p2), .unset, .unset, .unset, .unset, .unset, .unset, .unset, .unset, .unset, .unset] [(.long (own_ne q0))])
  refine own_step (T' := T1) (g' := (mkF m 6 #[.val (.long q0), .second, .val (.int p1), .val (.int p2), .val (.long (own_ne q0)), .second, .unset, .unset, .unset, .unset, .unset, .unset, .unset, .unset] [])) (fun t k => ?_) ?_
  · show Steps p.tables e below (T1.setTop (mkF m 4 #[.val (.long q0), .second, .val (.int p1), .val (.int p2), .unset, .unset, .unset, .unset, .unset, .unset, .unset, .unset, .unset, .unset] [(.long (own_ne q0))])) _
    refine XS.lstore X1.here hx rfl (hb hby at_4) rfl (l' := #[.val (.long q0), .second, .val (.int p1), .val (.int p2), .val (.long (own_ne q0)), .second, .unset, .unset, .unset, .unset, .unset, .unset, .unset, .unset]) rfl ?_
    show Steps p.tables e below (T1.setTop (mkF m 6 #[.val (.long q0), .second, .val (.int p1), .val (.int p2), .val (.long (own_ne q0)), .second, .unset, .unset, .unset, .unset, .unset, .unset, .unset, .unset] [])) _
    exact k
  generalize e_yy : (own_ne q0) = yy
  show own_Run p e below s _ _ _ T1 (mkF m 6 #[.val (.long q0), .second, .val (.int p1), .val (.int p2), .val (.long yy), .second, .unset, .unset, .unset, .unset, .unset, .unset, .unset, .unset] [])
  refine own_step (T' := T1) (g' := (mkF m 8 #[.val (.long q0), .second, .val (.int p1), .val (.int p2), .val (.long yy), .second, .unset, .unset, .unset, .unset, .unset, .unset, .unset, .unset] [(.int (8 : Int32))])) (fun t k => ?_) ?_
  · show Steps p.tables e below (T1.setTop (mkF m 6 #[.val (.long q0), .second, .val (.int p1), .val (.int p2), .val (.long yy), .second, .unset, .unset, .unset, .unset, .unset, .unset, .unset, .unset] [])) _
    refine XS.bipush X1.here hx rfl (hb hby at_6) ?_
    show Steps p.tables e below (T1.setTop (mkF m 8 #[.val (.long q0), .second, .val (.int p1), .val (.int p2), .val (.long yy), .second, .unset, .unset, .unset, .unset, .unset, .unset, .unset, .unset] [(.int (8 : Int32))])) _
    exact k
  obtain ⟨T2, h2, k2, X2, e2, E2, B2, A2, st2⟩ := newPE X1 hx hZ (hw _ (List.mem_of_getElem? (i := 7) rfl)) eq1 (g := (mkF m 8 #[.val (.long q0), .second, .val (.int p1), .val (.int p2), .val (.long yy), .second, .unset, .unset, .unset, .unset, .unset, .unset, .unset, .unset] [(.int (8 : Int32))])) rfl (hb hby at_8) rfl (by decide) (cap := 8) (by decide) (by decide) (by decide) (by decide) (ad := "[B") (by decide)
  obtain ⟨b2, g2⟩ : ∃ z, z = h0.size := ⟨_, rfl⟩
  have g_b2 : n0 ≤ b2 := Nat.le_trans Z0 (Nat.le_of_eq g2.symm)
  rw [← g2] at A2 B2 st2
  have V3 : Arv Z h2 b2 k2 .byte (8 : Int32) [(.int (0 : Int32)), (.int (0 : Int32)), (.int (0 : Int32)), (.int (0 : Int32)), (.int (0 : Int32)), (.int (0 : Int32)), (.int (0 : Int32)), (.int (0 : Int32))] (.int (0 : Int32)) := (Arv.new B2 (by decide)).pad (pad_rep [] (.int (0 : Int32)) 8)
  have Z4 := Nat.le_trans Z0 E2.1
  refine own_step st2 ?_
  show own_Run p e below s _ _ _ T2 (mkF m 10 #[.val (.long q0), .second, .val (.int p1), .val (.int p2), .val (.long yy), .second, .unset, .unset, .unset, .unset, .unset, .unset, .unset, .unset] [(.ref b2)])
  refine own_step (T' := T2) (g' := (mkF m 22 #[.val (.long q0), .second, .val (.int p1), .val (.int p2), .val (.long yy), .second, .val (.ref b2), .unset, .unset, .unset, .unset, .unset, .unset, .unset] [(.int ((((yy.toUInt64 >>> ((56 : Int32) &&& 0x3f).toInt64.toUInt64).toInt64).toInt32).toInt8.toInt32)), (.int (0 : Int32)), (.ref b2)])) (fun t k => ?_) ?_
  · show Steps p.tables e below (T2.setTop (mkF m 10 #[.val (.long q0), .second, .val (.int p1), .val (.int p2), .val (.long yy), .second, .unset, .unset, .unset, .unset, .unset, .unset, .unset, .unset] [(.ref b2)])) _
    refine XS.astore X2.here hx rfl (hb hby at_10) rfl rfl (l' := #[.val (.long q0), .second, .val (.int p1), .val (.int p2), .val (.long yy), .second, .val (.ref b2), .unset, .unset, .unset, .unset, .unset, .unset, .unset]) rfl ?_
    show Steps p.tables e below (T2.setTop (mkF m 12 #[.val (.long q0), .second, .val (.int p1), .val (.int p2), .val (.long yy), .second, .val (.ref b2), .unset, .unset, .unset, .unset, .unset, .unset, .unset] [])) _
    refine XS.aload X2.here hx rfl (hb hby at_12) rfl rfl ?_
    show Steps p.tables e below (T2.setTop (mkF m 14 #[.val (.long q0), .second, .val (.int p1), .val (.int p2), .val (.long yy), .second, .val (.ref b2), .unset, .unset, .unset, .unset, .unset, .unset, .unset] [(.ref b2)])) _
    refine XS.iconst X2.here hx rfl (hb hby at_14) ?_
    show Steps p.tables e below (T2.setTop (mkF m 15 #[.val (.long q0), .second, .val (.int p1), .val (.int p2), .val (.long yy), .second, .val (.ref b2), .unset, .unset, .unset, .unset, .unset, .unset, .unset] [(.int (0 : Int32)), (.ref b2)])) _
    refine XS.lload X2.here hx rfl (hb hby at_15) rfl ?_
    show Steps p.tables e below (T2.setTop (mkF m 17 #[.val (.long q0), .second, .val (.int p1), .val (.int p2), .val (.long yy), .second, .val (.ref b2), .unset, .unset, .unset, .unset, .unset, .unset, .unset] [(.long yy), (.int (0 : Int32)), (.ref b2)])) _
    refine XS.bipush X2.here hx rfl (hb hby at_17) ?_
    show Steps p.tables e below (T2.setTop (mkF m 19 #[.val (.long q0), .second, .val (.int p1), .val (.int p2), .val (.long yy), .second, .val (.ref b2), .unset, .unset, .unset, .unset, .unset, .unset, .unset] [(.int (56 : Int32)), (.long yy), (.int (0 : Int32)), (.ref b2)])) _
    refine XS.lushr X2.here hx rfl (hb hby at_19) rfl ?_
    show Steps p.tables e below (T2.setTop (mkF m 20 #[.val (.long q0), .second, .val (.int p1), .val (.int p2), .val (.long yy), .second, .val (.ref b2), .unset, .unset, .unset, .unset, .unset, .unset, .unset] [(.long ((yy.toUInt64 >>> ((56 : Int32) &&& 0x3f).toInt64.toUInt64).toInt64)), (.int (0 : Int32)), (.ref b2)])) _
    refine XS.l2i X2.here hx rfl (hb hby at_20) rfl ?_
    show Steps p.tables e below (T2.setTop (mkF m 21 #[.val (.long q0), .second, .val (.int p1), .val (.int p2), .val (.long yy), .second, .val (.ref b2), .unset, .unset, .unset, .unset, .unset, .unset, .unset] [(.int (((yy.toUInt64 >>> ((56 : Int32) &&& 0x3f).toInt64.toUInt64).toInt64).toInt32)), (.int (0 : Int32)), (.ref b2)])) _
    refine XS.i2b X2.here hx rfl (hb hby at_21) rfl ?_
    show Steps p.tables e below (T2.setTop (mkF m 22 #[.val (.long q0), .second, .val (.int p1), .val (.int p2), .val (.long yy), .second, .val (.ref b2), .unset, .unset, .unset, .unset, .unset, .unset, .unset] [(.int ((((yy.toUInt64 >>> ((56 : Int32) &&& 0x3f).toInt64.toUInt64).toInt64).toInt32).toInt8.toInt32)), (.int (0 : Int32)), (.ref b2)])) _
    exact k
  generalize e_t0 : ((((yy.toUInt64 >>> ((56 : Int32) &&& 0x3f).toInt64.toUInt64).toInt64).toInt32).toInt8.toInt32) = t0
  show own_Run p e below s _ _ _ T2 (mkF m 22 #[.val (.long q0), .second, .val (.int p1), .val (.int p2), .val (.long yy), .second, .val (.ref b2), .unset, .unset, .unset, .unset, .unset, .unset, .unset] [(.int t0), (.int (0 : Int32)), (.ref b2)])
  obtain ⟨cl5, Arcl5, qcl5, Scl5, Mcl5, Hcl5, Gcl5⟩ := V3
  have hincl5 : ¬ ((0 : Int32) < 0 ∨ cl5.slots.size ≤ ((0 : Int32)).toNatClampNeg) := inb_of Scl5 ⟨by decide, by decide⟩
  obtain ⟨T6, h6, X6, e6, W6, st6⟩ := stB X2 hx hZ e2 Arcl5 (j := (0 : Int32)) hincl5 (g := (mkF m 22 #[.val (.long q0), .second, .val (.int p1), .val (.int p2), .val (.long yy), .second, .val (.ref b2), .unset, .unset, .unset, .unset, .unset, .unset, .unset] [(.int t0), (.int (0 : Int32)), (.ref b2)])) rfl rfl (hb hby at_22)
  have V7 := Arv.set Arcl5 qcl5 Scl5 Mcl5 Hcl5 Gcl5 (fits_nar_byte _) W6 0 rfl (Nat.le_of_ble_eq_true rfl)
  have V7l : Arv Z h6 b2 k2 .byte (8 : Int32) [(.int (nar .byte t0)), (.int (0 : Int32)), (.int (0 : Int32)), (.int (0 : Int32)), (.int (0 : Int32)), (.int (0 : Int32)), (.int (0 : Int32)), (.int (0 : Int32))] (.int (0 : Int32)) := V7
  have A8 := A2.wr W6
  have Z9 := Nat.le_trans Z4 (Keep.of_wr W6).1
  have N6 := Fr.snoc X6 N1 g_b2
  refine own_step st6 ?_
  show own_Run p e below s _ _ _ T6 (mkF m 23 #[.val (.long q0), .second, .val (.int p1), .val (.int p2), .val (.long yy), .second, .val (.ref b2), .unset, .unset, .unset, .unset, .unset, .unset, .unset] [])
  refine own_step (T' := T6) (g' := (mkF m 33 #[.val (.long q0), .second, .val (.int p1), .val (.int p2), .val (.long yy), .second, .val (.ref b2), .unset, .unset, .unset, .unset, .unset, .unset, .unset] [(.int ((((yy.toUInt64 >>> ((48 : Int32) &&& 0x3f).toInt64.toUInt64).toInt64).toInt32).toInt8.toInt32)), (.int (1 : Int32)), (.ref b2)])) (fun t k => ?_) ?_
  · show Steps p.tables e below (T6.setTop (mkF m 23 #[.val (.long q0), .second, .val (.int p1), .val (.int p2), .val (.long yy), .second, .val (.ref b2), .unset, .unset, .unset, .unset, .unset, .unset, .unset] [])) _
    refine XS.aload X6.here hx rfl (hb hby at_23) rfl rfl ?_
    show Steps p.tables e below (T6.setTop (mkF m 25 #[.val (.long q0), .second, .val (.int p1), .val (.int p2), .val (.long yy), .second, .val (.ref b2), .unset, .unset, .unset, .unset, .unset, .unset, .unset] [(.ref b2)])) _
    refine XS.iconst X6.here hx rfl (hb hby at_25) ?_
    show Steps p.tables e below (T6.setTop (mkF m 26 #[.val (.long q0), .second, .val (.int p1), .val (.int p2), .val (.long yy), .second, .val (.ref b2), .unset, .unset, .unset, .unset, .unset, .unset, .unset] [(.int (1 : Int32)), (.ref b2)])) _
    refine XS.lload X6.here hx rfl (hb hby at_26) rfl ?_
    show Steps p.tables e below (T6.setTop (mkF m 28 #[.val (.long q0), .second, .val (.int p1), .val (.int p2), .val (.long yy), .second, .val (.ref b2), .unset, .unset, .unset, .unset, .unset, .unset, .unset] [(.long yy), (.int (1 : Int32)), (.ref b2)])) _
    refine XS.bipush X6.here hx rfl (hb hby at_28) ?_
    show Steps p.tables e below (T6.setTop (mkF m 30 #[.val (.long q0), .second, .val (.int p1), .val (.int p2), .val (.long yy), .second, .val (.ref b2), .unset, .unset, .unset, .unset, .unset, .unset, .unset] [(.int (48 : Int32)), (.long yy), (.int (1 : Int32)), (.ref b2)])) _
    refine XS.lushr X6.here hx rfl (hb hby at_30) rfl ?_
    show Steps p.tables e below (T6.setTop (mkF m 31 #[.val (.long q0), .second, .val (.int p1), .val (.int p2), .val (.long yy), .second, .val (.ref b2), .unset, .unset, .unset, .unset, .unset, .unset, .unset] [(.long ((yy.toUInt64 >>> ((48 : Int32) &&& 0x3f).toInt64.toUInt64).toInt64)), (.int (1 : Int32)), (.ref b2)])) _
    refine XS.l2i X6.here hx rfl (hb hby at_31) rfl ?_
    show Steps p.tables e below (T6.setTop (mkF m 32 #[.val (.long q0), .second, .val (.int p1), .val (.int p2), .val (.long yy), .second, .val (.ref b2), .unset, .unset, .unset, .unset, .unset, .unset, .unset] [(.int (((yy.toUInt64 >>> ((48 : Int32) &&& 0x3f).toInt64.toUInt64).toInt64).toInt32)), (.int (1 : Int32)), (.ref b2)])) _
    refine XS.i2b X6.here hx rfl (hb hby at_32) rfl ?_
    show Steps p.tables e below (T6.setTop (mkF m 33 #[.val (.long q0), .second, .val (.int p1), .val (.int p2), .val (.long yy), .second, .val (.ref b2), .unset, .unset, .unset, .unset, .unset, .unset, .unset] [(.int ((((yy.toUInt64 >>> ((48 : Int32) &&& 0x3f).toInt64.toUInt64).toInt64).toInt32).toInt8.toInt32)), (.int (1 : Int32)), (.ref b2)])) _
    exact k
  generalize e_t1 : ((((yy.toUInt64 >>> ((48 : Int32) &&& 0x3f).toInt64.toUInt64).toInt64).toInt32).toInt8.toInt32) = t1
  show own_Run p e below s _ _ _ T6 (mkF m 33 #[.val (.long q0), .second, .val (.int p1), .val (.int p2), .val (.long yy), .second, .val (.ref b2), .unset, .unset, .unset, .unset, .unset, .unset, .unset] [(.int t1), (.int (1 : Int32)), (.ref b2)])
  obtain ⟨cl10, Arcl10, qcl10, Scl10, Mcl10, Hcl10, Gcl10⟩ := V7l
  have hincl10 : ¬ ((1 : Int32) < 0 ∨ cl10.slots.size ≤ ((1 : Int32)).toNatClampNeg) := inb_of Scl10 ⟨by decide, by decide⟩
  obtain ⟨T11, h11, X11, e11, W11, st11⟩ := stB X6 hx hZ e6 Arcl10 (j := (1 : Int32)) hincl10 (g := (mkF m 33 #[.val (.long q0), .second, .val (.int p1), .val (.int p2), .val (.long yy), .second, .val (.ref b2), .unset, .unset, .unset, .unset, .unset, .unset, .unset] [(.int t1), (.int (1 : Int32)), (.ref b2)])) rfl rfl (hb hby at_33)
  have V12 := Arv.set Arcl10 qcl10 Scl10 Mcl10 Hcl10 Gcl10 (fits_nar_byte _) W11 1 rfl (Nat.le_of_ble_eq_true rfl)
  have V12l : Arv Z h11 b2 k2 .byte (8 : Int32) [(.int (nar .byte t0)), (.int (nar .byte t1)), (.int (0 : Int32)), (.int (0 : Int32)), (.int (0 : Int32)), (.int (0 : Int32)), (.int (0 : Int32)), (.int (0 : Int32))] (.int (0 : Int32)) := V12
  have A13 := A8.wr W11
  have Z14 := Nat.le_trans Z9 (Keep.of_wr W11).1
  have N11 := Fr.snoc X11 N6 g_b2
  refine own_step st11 ?_
  show own_Run p e below s _ _ _ T11 (mkF m 34 #[.val (.long q0), .second, .val (.int p1), .val (.int p2), .val (.long yy), .second, .val (.ref b2), .unset, .unset, .unset, .unset, .unset, .unset, .unset] [])
  refine own_step (T' := T11) (g' := (mkF m 44 #[.val (.long q0), .second, .val (.int p1), .val (.int p2), .val (.long yy), .second, .val (.ref b2), .unset, .unset, .unset, .unset, .unset, .unset, .unset] [(.int ((((yy.toUInt64 >>> ((40 : Int32) &&& 0x3f).toInt64.toUInt64).toInt64).toInt32).toInt8.toInt32)), (.int (2 : Int32)), (.ref b2)])) (fun t k => ?_) ?_
  · show Steps p.tables e below (T11.setTop (mkF m 34 #[.val (.long q0), .second, .val (.int p1), .val (.int p2), .val (.long yy), .second, .val (.ref b2), .unset, .unset, .unset, .unset, .unset, .unset, .unset] [])) _
    refine XS.aload X11.here hx rfl (hb hby at_34) rfl rfl ?_
    show Steps p.tables e below (T11.setTop (mkF m 36 #[.val (.long q0), .second, .val (.int p1), .val (.int p2), .val (.long yy), .second, .val (.ref b2), .unset, .unset, .unset, .unset, .unset, .unset, .unset] [(.ref b2)])) _
    refine XS.iconst X11.here hx rfl (hb hby at_36) ?_
    show Steps p.tables e below (T11.setTop (mkF m 37 #[.val (.long q0), .second, .val (.int p1), .val (.int p2), .val (.long yy), .second, .val (.ref b2), .unset, .unset, .unset, .unset, .unset, .unset, .unset] [(.int (2 : Int32)), (.ref b2)])) _
    refine XS.lload X11.here hx rfl (hb hby at_37) rfl ?_
    show Steps p.tables e below (T11.setTop (mkF m 39 #[.val (.long q0), .second, .val (.int p1), .val (.int p2), .val (.long yy), .second, .val (.ref b2), .unset, .unset, .unset, .unset, .unset, .unset, .unset] [(.long yy), (.int (2 : Int32)), (.ref b2)])) _
    refine XS.bipush X11.here hx rfl (hb hby at_39) ?_
    show Steps p.tables e below (T11.setTop (mkF m 41 #[.val (.long q0), .second, .val (.int p1), .val (.int p2), .val (.long yy), .second, .val (.ref b2), .unset, .unset, .unset, .unset, .unset, .unset, .unset] [(.int (40 : Int32)), (.long yy), (.int (2 : Int32)), (.ref b2)])) _
    refine XS.lushr X11.here hx rfl (hb hby at_41) rfl ?_
    show Steps p.tables e below (T11.setTop (mkF m 42 #[.val (.long q0), .second, .val (.int p1), .val (.int p2), .val (.long yy), .second, .val (.ref b2), .unset, .unset, .unset, .unset, .unset, .unset, .unset] [(.long ((yy.toUInt64 >>> ((40 : Int32) &&& 0x3f).toInt64.toUInt64).toInt64)), (.int (2 : Int32)), (.ref b2)])) _
    refine XS.l2i X11.here hx rfl (hb hby at_42) rfl ?_
    show Steps p.tables e below (T11.setTop (mkF m 43 #[.val (.long q0), .second, .val (.int p1), .val (.int p2), .val (.long yy), .second, .val (.ref b2), .unset, .unset, .unset, .unset, .unset, .unset, .unset] [(.int (((yy.toUInt64 >>> ((40 : Int32) &&& 0x3f).toInt64.toUInt64).toInt64).toInt32)), (.int (2 : Int32)), (.ref b2)])) _
    refine XS.i2b X11.here hx rfl (hb hby at_43) rfl ?_
    show Steps p.tables e below (T11.setTop (mkF m 44 #[.val (.long q0), .second, .val (.int p1), .val (.int p2), .val (.long yy), .second, .val (.ref b2), .unset, .unset, .unset, .unset, .unset, .unset, .unset] [(.int ((((yy.toUInt64 >>> ((40 : Int32) &&& 0x3f).toInt64.toUInt64).toInt64).toInt32).toInt8.toInt32)), (.int (2 : Int32)), (.ref b2)])) _
    exact k
  generalize e_t2 : ((((yy.toUInt64 >>> ((40 : Int32) &&& 0x3f).toInt64.toUInt64).toInt64).toInt32).toInt8.toInt32) = t2
  show own_Run p e below s _ _ _ T11 (mkF m 44 #[.val (.long q0), .second, .val (.int p1), .val (.int p2), .val (.long yy), .second, .val (.ref b2), .unset, .unset, .unset, .unset, .unset, .unset, .unset] [(.int t2), (.int (2 : Int32)), (.ref b2)])
  obtain ⟨cl15, Arcl15, qcl15, Scl15, Mcl15, Hcl15, Gcl15⟩ := V12l
  have hincl15 : ¬ ((2 : Int32) < 0 ∨ cl15.slots.size ≤ ((2 : Int32)).toNatClampNeg) := inb_of Scl15 ⟨by decide, by decide⟩
  obtain ⟨T16, h16, X16, e16, W16, st16⟩ := stB X11 hx hZ e11 Arcl15 (j := (2 : Int32)) hincl15 (g := (mkF m 44 #[.val (.long q0), .second, .val (.int p1), .val (.int p2), .val (.long yy), .second, .val (.ref b2), .unset, .unset, .unset, .unset, .unset, .unset, .unset] [(.int t2), (.int (2 : Int32)), (.ref b2)])) rfl rfl (hb hby at_44)
  have V17 := Arv.set Arcl15 qcl15 Scl15 Mcl15 Hcl15 Gcl15 (fits_nar_byte _) W16 2 rfl (Nat.le_of_ble_eq_true rfl)
  have V17l : Arv Z h16 b2 k2 .byte (8 : Int32) [(.int (nar .byte t0)), (.int (nar .byte t1)), (.int (nar .byte t2)), (.int (0 : Int32)), (.int (0 : Int32)), (.int (0 : Int32)), (.int (0 : Int32)), (.int (0 : Int32))] (.int (0 : Int32)) := V17
  have A18 := A13.wr W16
  have Z19 := Nat.le_trans Z14 (Keep.of_wr W16).1
  have N16 := Fr.snoc X16 N11 g_b2
  refine own_step st16 ?_
  show own_Run p e below s _ _ _ T16 (mkF m 45 #[.val (.long q0), .second, .val (.int p1), .val (.int p2), .val (.long yy), .second, .val (.ref b2), .unset, .unset, .unset, .unset, .unset, .unset, .unset] [])
  refine own_step (T' := T16) (g' := (mkF m 55 #[.val (.long q0), .second, .val (.int p1), .val (.int p2), .val (.long yy), .second, .val (.ref b2), .unset, .unset, .unset, .unset, .unset, .unset, .unset] [(.int ((((yy.toUInt64 >>> ((32 : Int32) &&& 0x3f).toInt64.toUInt64).toInt64).toInt32).toInt8.toInt32)), (.int (3 : Int32)), (.ref b2)])) (fun t k => ?_) ?_
  · show Steps p.tables e below (T16.setTop (mkF m 45 #[.val (.long q0), .second, .val (.int p1), .val (.int p2), .val (.long yy), .second, .val (.ref b2), .unset, .unset, .unset, .unset, .unset, .unset, .unset] [])) _
    refine XS.aload X16.here hx rfl (hb hby at_45) rfl rfl ?_
    show Steps p.tables e below (T16.setTop (mkF m 47 #[.val (.long q0), .second, .val (.int p1), .val (.int p2), .val (.long yy), .second, .val (.ref b2), .unset, .unset, .unset, .unset, .unset, .unset, .unset] [(.ref b2)])) _
    refine XS.iconst X16.here hx rfl (hb hby at_47) ?_
    show Steps p.tables e below (T16.setTop (mkF m 48 #[.val (.long q0), .second, .val (.int p1), .val (.int p2), .val (.long yy), .second, .val (.ref b2), .unset, .unset, .unset, .unset, .unset, .unset, .unset] [(.int (3 : Int32)), (.ref b2)])) _
    refine XS.lload X16.here hx rfl (hb hby at_48) rfl ?_
    show Steps p.tables e below (T16.setTop (mkF m 50 #[.val (.long q0), .second, .val (.int p1), .val (.int p2), .val (.long yy), .second, .val (.ref b2), .unset, .unset, .unset, .unset, .unset, .unset, .unset] [(.long yy), (.int (3 : Int32)), (.ref b2)])) _
    refine XS.bipush X16.here hx rfl (hb hby at_50) ?_
    show Steps p.tables e below (T16.setTop (mkF m 52 #[.val (.long q0), .second, .val (.int p1), .val (.int p2), .val (.long yy), .second, .val (.ref b2), .unset, .unset, .unset, .unset, .unset, .unset, .unset] [(.int (32 : Int32)), (.long yy), (.int (3 : Int32)), (.ref b2)])) _
    refine XS.lushr X16.here hx rfl (hb hby at_52) rfl ?_
    show Steps p.tables e below (T16.setTop (mkF m 53 #[.val (.long q0), .second, .val (.int p1), .val (.int p2), .val (.long yy), .second, .val (.ref b2), .unset, .unset, .unset, .unset, .unset, .unset, .unset] [(.long ((yy.toUInt64 >>> ((32 : Int32) &&& 0x3f).toInt64.toUInt64).toInt64)), (.int (3 : Int32)), (.ref b2)])) _
    refine XS.l2i X16.here hx rfl (hb hby at_53) rfl ?_
    show Steps p.tables e below (T16.setTop (mkF m 54 #[.val (.long q0), .second, .val (.int p1), .val (.int p2), .val (.long yy), .second, .val (.ref b2), .unset, .unset, .unset, .unset, .unset, .unset, .unset] [(.int (((yy.toUInt64 >>> ((32 : Int32) &&& 0x3f).toInt64.toUInt64).toInt64).toInt32)), (.int (3 : Int32)), (.ref b2)])) _
    refine XS.i2b X16.here hx rfl (hb hby at_54) rfl ?_
    show Steps p.tables e below (T16.setTop (mkF m 55 #[.val (.long q0), .second, .val (.int p1), .val (.int p2), .val (.long yy), .second, .val (.ref b2), .unset, .unset, .unset, .unset, .unset, .unset, .unset] [(.int ((((yy.toUInt64 >>> ((32 : Int32) &&& 0x3f).toInt64.toUInt64).toInt64).toInt32).toInt8.toInt32)), (.int (3 : Int32)), (.ref b2)])) _
    exact k
  generalize e_t3 : ((((yy.toUInt64 >>> ((32 : Int32) &&& 0x3f).toInt64.toUInt64).toInt64).toInt32).toInt8.toInt32) = t3
  show own_Run p e below s _ _ _ T16 (mkF m 55 #[.val (.long q0), .second, .val (.int p1), .val (.int p2), .val (.long yy), .second, .val (.ref b2), .unset, .unset, .unset, .unset, .unset, .unset, .unset] [(.int t3), (.int (3 : Int32)), (.ref b2)])
  obtain ⟨cl20, Arcl20, qcl20, Scl20, Mcl20, Hcl20, Gcl20⟩ := V17l
  have hincl20 : ¬ ((3 : Int32) < 0 ∨ cl20.slots.size ≤ ((3 : Int32)).toNatClampNeg) := inb_of Scl20 ⟨by decide, by decide⟩
  obtain ⟨T21, h21, X21, e21, W21, st21⟩ := stB X16 hx hZ e16 Arcl20 (j := (3 : Int32)) hincl20 (g := (mkF m 55 #[.val (.long q0), .second, .val (.int p1), .val (.int p2), .val (.long yy), .second, .val (.ref b2), .unset, .unset, .unset, .unset, .unset, .unset, .unset] [(.int t3), (.int (3 : Int32)), (.ref b2)])) rfl rfl (hb hby at_55)
  have V22 := Arv.set Arcl20 qcl20 Scl20 Mcl20 Hcl20 Gcl20 (fits_nar_byte _) W21 3 rfl (Nat.le_of_ble_eq_true rfl)
  have V22l : Arv Z h21 b2 k2 .byte (8 : Int32) [(.int (nar .byte t0)), (.int (nar .byte t1)), (.int (nar .byte t2)), (.int (nar .byte t3)), (.int (0 : Int32)), (.int (0 : Int32)), (.int (0 : Int32)), (.int (0 : Int32))] (.int (0 : Int32)) := V22
  have A23 := A18.wr W21
  have Z24 := Nat.le_trans Z19 (Keep.of_wr W21).1
  have N21 := Fr.snoc X21 N16 g_b2
  refine own_step st21 ?_
  show own_Run p e below s _ _ _ T21 (mkF m 56 #[.val (.long q0), .second, .val (.int p1), .val (.int p2), .val (.long yy), .second, .val (.ref b2), .unset, .unset, .unset, .unset, .unset, .unset, .unset] [])
  refine own_step (T' := T21) (g' := (mkF m 66 #[.val (.long q0), .second, .val (.int p1), .val (.int p2), .val (.long yy), .second, .val (.ref b2), .unset, .unset, .unset, .unset, .unset, .unset, .unset] [(.int ((((yy.toUInt64 >>> ((24 : Int32) &&& 0x3f).toInt64.toUInt64).toInt64).toInt32).toInt8.toInt32)), (.int (4 : Int32)), (.ref b2)])) (fun t k => ?_) ?_
  · show Steps p.tables e below (T21.setTop (mkF m 56 #[.val (.long q0), .second, .val (.int p1), .val (.int p2), .val (.long yy), .second, .val (.ref b2), .unset, .unset, .unset, .unset, .unset, .unset, .unset] [])) _
    refine XS.aload X21.here hx rfl (hb hby at_56) rfl rfl ?_
    show Steps p.tables e below (T21.setTop (mkF m 58 #[.val (.long q0), .second, .val (.int p1), .val (.int p2), .val (.long yy), .second, .val (.ref b2), .unset, .unset, .unset, .unset, .unset, .unset, .unset] [(.ref b2)])) _
    refine XS.iconst X21.here hx rfl (hb hby at_58) ?_
    show Steps p.tables e below (T21.setTop (mkF m 59 #[.val (.long q0), .second, .val (.int p1), .val (.int p2), .val (.long yy), .second, .val (.ref b2), .unset, .unset, .unset, .unset, .unset, .unset, .unset] [(.int (4 : Int32)), (.ref b2)])) _
    refine XS.lload X21.here hx rfl (hb hby at_59) rfl ?_
    show Steps p.tables e below (T21.setTop (mkF m 61 #[.val (.long q0), .second, .val (.int p1), .val (.int p2), .val (.long yy), .second, .val (.ref b2), .unset, .unset, .unset, .unset, .unset, .unset, .unset] [(.long yy), (.int (4 : Int32)), (.ref b2)])) _
    refine XS.bipush X21.here hx rfl (hb hby at_61) ?_
    show Steps p.tables e below (T21.setTop (mkF m 63 #[.val (.long q0), .second, .val (.int p1), .val (.int p2), .val (.long yy), .second, .val (.ref b2), .unset, .unset, .unset, .unset, .unset, .unset, .unset] [(.int (24 : Int32)), (.long yy), (.int (4 : Int32)), (.ref b2)])) _
    refine XS.lushr X21.here hx rfl (hb hby at_63) rfl ?_
    show Steps p.tables e below (T21.setTop (mkF m 64 #[.val (.long q0), .second, .val (.int p1), .val (.int p2), .val (.long yy), .second, .val (.ref b2), .unset, .unset, .unset, .unset, .unset, .unset, .unset] [(.long ((yy.toUInt64 >>> ((24 : Int32) &&& 0x3f).toInt64.toUInt64).toInt64)), (.int (4 : Int32)), (.ref b2)])) _
    refine XS.l2i X21.here hx rfl (hb hby at_64) rfl ?_
    show Steps p.tables e below (T21.setTop (mkF m 65 #[.val (.long q0), .second, .val (.int p1), .val (.int p2), .val (.long yy), .second, .val (.ref b2), .unset, .unset, .unset, .unset, .unset, .unset, .unset] [(.int (((yy.toUInt64 >>> ((24 : Int32) &&& 0x3f).toInt64.toUInt64).toInt64).toInt32)), (.int (4 : Int32)), (.ref b2)])) _
    refine XS.i2b X21.here hx rfl (hb hby at_65) rfl ?_
    show Steps p.tables e below (T21.setTop (mkF m 66 #[.val (.long q0), .second, .val (.int p1), .val (.int p2), .val (.long yy), .second, .val (.ref b2), .unset, .unset, .unset, .unset, .unset, .unset, .unset] [(.int ((((yy.toUInt64 >>> ((24 : Int32) &&& 0x3f).toInt64.toUInt64).toInt64).toInt32).toInt8.toInt32)), (.int (4 : Int32)), (.ref b2)])) _
    exact k
  generalize e_t4 : ((((yy.toUInt64 >>> ((24 : Int32) &&& 0x3f).toInt64.toUInt64).toInt64).toInt32).toInt8.toInt32) = t4
  show own_Run p e below s _ _ _ T21 (mkF m 66 #[.val (.long q0), .second, .val (.int p1), .val (.int p2), .val (.long yy), .second, .val (.ref b2), .unset, .unset, .unset, .unset, .unset, .unset, .unset] [(.int t4), (.int (4 : Int32)), (.ref b2)])
  obtain ⟨cl25, Arcl25, qcl25, Scl25, Mcl25, Hcl25, Gcl25⟩ := V22l
  have hincl25 : ¬ ((4 : Int32) < 0 ∨ cl25.slots.size ≤ ((4 : Int32)).toNatClampNeg) := inb_of Scl25 ⟨by decide, by decide⟩
  obtain ⟨T26, h26, X26, e26, W26, st26⟩ := stB X21 hx hZ e21 Arcl25 (j := (4 : Int32)) hincl25 (g := (mkF m 66 #[.val (.long q0), .second, .val (.int p1), .val (.int p2), .val (.long yy), .second, .val (.ref b2), .unset, .unset, .unset, .unset, .unset, .unset, .unset] [(.int t4), (.int (4 : Int32)), (.ref b2)])) rfl rfl (hb hby at_66)
  have V27 := Arv.set Arcl25 qcl25 Scl25 Mcl25 Hcl25 Gcl25 (fits_nar_byte _) W26 4 rfl (Nat.le_of_ble_eq_true rfl)
  have V27l : Arv Z h26 b2 k2 .byte (8 : Int32) [(.int (nar .byte t0)), (.int (nar .byte t1)), (.int (nar .byte t2)), (.int (nar .byte t3)), (.int (nar .byte t4)), (.int (0 : Int32)), (.int (0 : Int32)), (.int (0 : Int32))] (.int (0 : Int32)) := V27
  have A28 := A23.wr W26
  have Z29 := Nat.le_trans Z24 (Keep.of_wr W26).1
  have N26 := Fr.snoc X26 N21 g_b2
  refine own_step st26 ?_
  show own_Run p e below s _ _ _ T26 (mkF m 67 #[.val (.long q0), .second, .val (.int p1), .val (.int p2), .val (.long yy), .second, .val (.ref b2), .unset, .unset, .unset, .unset, .unset, .unset, .unset] [])
  refine own_step (T' := T26) (g' := (mkF m 77 #[.val (.long q0), .second, .val (.int p1), .val (.int p2), .val (.long yy), .second, .val (.ref b2), .unset, .unset, .unset, .unset, .unset, .unset, .unset] [(.int ((((yy.toUInt64 >>> ((16 : Int32) &&& 0x3f).toInt64.toUInt64).toInt64).toInt32).toInt8.toInt32)), (.int (5 : Int32)), (.ref b2)])) (fun t k => ?_) ?_
  · show Steps p.tables e below (T26.setTop (mkF m 67 #[.val (.long q0), .second, .val (.int p1), .val (.int p2), .val (.long yy), .second, .val (.ref b2), .unset, .unset, .unset, .unset, .unset, .unset, .unset] [])) _
    refine XS.aload X26.here hx rfl (hb hby at_67) rfl rfl ?_
    show Steps p.tables e below (T26.setTop (mkF m 69 #[.val (.long q0), .second, .val (.int p1), .val (.int p2), .val (.long yy), .second, .val (.ref b2), .unset, .unset, .unset, .unset, .unset, .unset, .unset] [(.ref b2)])) _
    refine XS.iconst X26.here hx rfl (hb hby at_69) ?_
    show Steps p.tables e below (T26.setTop (mkF m 70 #[.val (.long q0), .second, .val (.int p1), .val (.int p2), .val (.long yy), .second, .val (.ref b2), .unset, .unset, .unset, .unset, .unset, .unset, .unset] [(.int (5 : Int32)), (.ref b2)])) _
    refine XS.lload X26.here hx rfl (hb hby at_70) rfl ?_
    show Steps p.tables e below (T26.setTop (mkF m 72 #[.val (.long q0), .second, .val (.int p1), .val (.int p2), .val (.long yy), .second, .val (.ref b2), .unset, .unset, .unset, .unset, .unset, .unset, .unset] [(.long yy), (.int (5 : Int32)), (.ref b2)])) _
    refine XS.bipush X26.here hx rfl (hb hby at_72) ?_
    show Steps p.tables e below (T26.setTop (mkF m 74 #[.val (.long q0), .second, .val (.int p1), .val (.int p2), .val (.long yy), .second, .val (.ref b2), .unset, .unset, .unset, .unset, .unset, .unset, .unset] [(.int (16 : Int32)), (.long yy), (.int (5 : Int32)), (.ref b2)])) _
    refine XS.lushr X26.here hx rfl (hb hby at_74) rfl ?_
    show Steps p.tables e below (T26.setTop (mkF m 75 #[.val (.long q0), .second, .val (.int p1), .val (.int p2), .val (.long yy), .second, .val (.ref b2), .unset, .unset, .unset, .unset, .unset, .unset, .unset] [(.long ((yy.toUInt64 >>> ((16 : Int32) &&& 0x3f).toInt64.toUInt64).toInt64)), (.int (5 : Int32)), (.ref b2)])) _
    refine XS.l2i X26.here hx rfl (hb hby at_75) rfl ?_
    show Steps p.tables e below (T26.setTop (mkF m 76 #[.val (.long q0), .second, .val (.int p1), .val (.int p2), .val (.long yy), .second, .val (.ref b2), .unset, .unset, .unset, .unset, .unset, .unset, .unset] [(.int (((yy.toUInt64 >>> ((16 : Int32) &&& 0x3f).toInt64.toUInt64).toInt64).toInt32)), (.int (5 : Int32)), (.ref b2)])) _
    refine XS.i2b X26.here hx rfl (hb hby at_76) rfl ?_
    show Steps p.tables e below (T26.setTop (mkF m 77 #[.val (.long q0), .second, .val (.int p1), .val (.int p2), .val (.long yy), .second, .val (.ref b2), .unset, .unset, .unset, .unset, .unset, .unset, .unset] [(.int ((((yy.toUInt64 >>> ((16 : Int32) &&& 0x3f).toInt64.toUInt64).toInt64).toInt32).toInt8.toInt32)), (.int (5 : Int32)), (.ref b2)])) _
    exact k
  generalize e_t5 : ((((yy.toUInt64 >>> ((16 : Int32) &&& 0x3f).toInt64.toUInt64).toInt64).toInt32).toInt8.toInt32) = t5
  show own_Run p e below s _ _ _ T26 (mkF m 77 #[.val (.long q0), .second, .val (.int p1), .val (.int p2), .val (.long yy), .second, .val (.ref b2), .unset, .unset, .unset, .unset, .unset, .unset, .unset] [(.int t5), (.int (5 : Int32)), (.ref b2)])
  obtain ⟨cl30, Arcl30, qcl30, Scl30, Mcl30, Hcl30, Gcl30⟩ := V27l
  have hincl30 : ¬ ((5 : Int32) < 0 ∨ cl30.slots.size ≤ ((5 : Int32)).toNatClampNeg) := inb_of Scl30 ⟨by decide, by decide⟩
  obtain ⟨T31, h31, X31, e31, W31, st31⟩ := stB X26 hx hZ e26 Arcl30 (j := (5 : Int32)) hincl30 (g := (mkF m 77 #[.val (.long q0), .second, .val (.int p1), .val (.int p2), .val (.long yy), .second, .val (.ref b2), .unset, .unset, .unset, .unset, .unset, .unset, .unset] [(.int t5), (.int (5 : Int32)), (.ref b2)])) rfl rfl (hb hby at_77)
  have V32 := Arv.set Arcl30 qcl30 Scl30 Mcl30 Hcl30 Gcl30 (fits_nar_byte _) W31 5 rfl (Nat.le_of_ble_eq_true rfl)
  have V32l : Arv Z h31 b2 k2 .byte (8 : Int32) [(.int (nar .byte t0)), (.int (nar .byte t1)), (.int (nar .byte t2)), (.int (nar .byte t3)), (.int (nar .byte t4)), (.int (nar .byte t5)), (.int (0 : Int32)), (.int (0 : Int32))] (.int (0 : Int32)) := V32
  have A33 := A28.wr W31
  have Z34 := Nat.le_trans Z29 (Keep.of_wr W31).1
  have N31 := Fr.snoc X31 N26 g_b2
  refine own_step st31 ?_
  show own_Run p e below s _ _ _ T31 (mkF m 78 #[.val (.long q0), .second, .val (.int p1), .val (.int p2), .val (.long yy), .second, .val (.ref b2), .unset, .unset, .unset, .unset, .unset, .unset, .unset] [])
  refine own_step (T' := T31) (g' := (mkF m 89 #[.val (.long q0), .second, .val (.int p1), .val (.int p2), .val (.long yy), .second, .val (.ref b2), .unset, .unset, .unset, .unset, .unset, .unset, .unset] [(.int ((((yy.toUInt64 >>> ((8 : Int32) &&& 0x3f).toInt64.toUInt64).toInt64).toInt32).toInt8.toInt32)), (.int (6 : Int32)), (.ref b2)])) (fun t k => ?_) ?_
  · show Steps p.tables e below (T31.setTop (mkF m 78 #[.val (.long q0), .second, .val (.int p1), .val (.int p2), .val (.long yy), .second, .val (.ref b2), .unset, .unset, .unset, .unset, .unset, .unset, .unset] [])) _
    refine XS.aload X31.here hx rfl (hb hby at_78) rfl rfl ?_
    show Steps p.tables e below (T31.setTop (mkF m 80 #[.val (.long q0), .second, .val (.int p1), .val (.int p2), .val (.long yy), .second, .val (.ref b2), .unset, .unset, .unset, .unset, .unset, .unset, .unset] [(.ref b2)])) _
    refine XS.bipush X31.here hx rfl (hb hby at_80) ?_
    show Steps p.tables e below (T31.setTop (mkF m 82 #[.val (.long q0), .second, .val (.int p1), .val (.int p2), .val (.long yy), .second, .val (.ref b2), .unset, .unset, .unset, .unset, .unset, .unset, .unset] [(.int (6 : Int32)), (.ref b2)])) _
    refine XS.lload X31.here hx rfl (hb hby at_82) rfl ?_
    show Steps p.tables e below (T31.setTop (mkF m 84 #[.val (.long q0), .second, .val (.int p1), .val (.int p2), .val (.long yy), .second, .val (.ref b2), .unset, .unset, .unset, .unset, .unset, .unset, .unset] [(.long yy), (.int (6 : Int32)), (.ref b2)])) _
    refine XS.bipush X31.here hx rfl (hb hby at_84) ?_
    show Steps p.tables e below (T31.setTop (mkF m 86 #[.val (.long q0), .second, .val (.int p1), .val (.int p2), .val (.long yy), .second, .val (.ref b2), .unset, .unset, .unset, .unset, .unset, .unset, .unset] [(.int (8 : Int32)), (.long yy), (.int (6 : Int32)), (.ref b2)])) _
    refine XS.lushr X31.here hx rfl (hb hby at_86) rfl ?_
    show Steps p.tables e below (T31.setTop (mkF m 87 #[.val (.long q0), .second, .val (.int p1), .val (.int p2), .val (.long yy), .second, .val (.ref b2), .unset, .unset, .unset, .unset, .unset, .unset, .unset] [(.long ((yy.toUInt64 >>> ((8 : Int32) &&& 0x3f).toInt64.toUInt64).toInt64)), (.int (6 : Int32)), (.ref b2)])) _
    refine XS.l2i X31.here hx rfl (hb hby at_87) rfl ?_
    show Steps p.tables e below (T31.setTop (mkF m 88 #[.val (.long q0), .second, .val (.int p1), .val (.int p2), .val (.long yy), .second, .val (.ref b2), .unset, .unset, .unset, .unset, .unset, .unset, .unset] [(.int (((yy.toUInt64 >>> ((8 : Int32) &&& 0x3f).toInt64.toUInt64).toInt64).toInt32)), (.int (6 : Int32)), (.ref b2)])) _
    refine XS.i2b X31.here hx rfl (hb hby at_88) rfl ?_
    show Steps p.tables e below (T31.setTop (mkF m 89 #[.val (.long q0), .second, .val (.int p1), .val (.int p2), .val (.long yy), .second, .val (.ref b2), .unset, .unset, .unset, .unset, .unset, .unset, .unset] [(.int ((((yy.toUInt64 >>> ((8 : Int32) &&& 0x3f).toInt64.toUInt64).toInt64).toInt32).toInt8.toInt32)), (.int (6 : Int32)), (.ref b2)])) _
    exact k
  generalize e_t6 : ((((yy.toUInt64 >>> ((8 : Int32) &&& 0x3f).toInt64.toUInt64).toInt64).toInt32).toInt8.toInt32) = t6
  show own_Run p e below s _ _ _ T31 (mkF m 89 #[.val (.long q0), .second, .val (.int p1), .val (.int p2), .val (.long yy), .second, .val (.ref b2), .unset, .unset, .unset, .unset, .unset, .unset, .unset] [(.int t6), (.int (6 : Int32)), (.ref b2)])
  obtain ⟨cl35, Arcl35, qcl35, Scl35, Mcl35, Hcl35, Gcl35⟩ := V32l
  have hincl35 : ¬ ((6 : Int32) < 0 ∨ cl35.slots.size ≤ ((6 : Int32)).toNatClampNeg) := inb_of Scl35 ⟨by decide, by decide⟩
  obtain ⟨T36, h36, X36, e36, W36, st36⟩ := stB X31 hx hZ e31 Arcl35 (j := (6 : Int32)) hincl35 (g := (mkF m 89 #[.val (.long q0), .second, .val (.int p1), .val (.int p2), .val (.long yy), .second, .val (.ref b2), .unset, .unset, .unset, .unset, .unset, .unset, .unset] [(.int t6), (.int (6 : Int32)), (.ref b2)])) rfl rfl (hb hby at_89)
  have V37 := Arv.set Arcl35 qcl35 Scl35 Mcl35 Hcl35 Gcl35 (fits_nar_byte _) W36 6 rfl (Nat.le_of_ble_eq_true rfl)
  have V37l : Arv Z h36 b2 k2 .byte (8 : Int32) [(.int (nar .byte t0)), (.int (nar .byte t1)), (.int (nar .byte t2)), (.int (nar .byte t3)), (.int (nar .byte t4)), (.int (nar .byte t5)), (.int (nar .byte t6)), (.int (0 : Int32))] (.int (0 : Int32)) := V37
  have A38 := A33.wr W36
  have Z39 := Nat.le_trans Z34 (Keep.of_wr W36).1
  have N36 := Fr.snoc X36 N31 g_b2
  refine own_step st36 ?_
  show own_Run p e below s _ _ _ T36 (mkF m 90 #[.val (.long q0), .second, .val (.int p1), .val (.int p2), .val (.long yy), .second, .val (.ref b2), .unset, .unset, .unset, .unset, .unset, .unset, .unset] [])
  refine own_step (T' := T36) (g' := (mkF m 98 #[.val (.long q0), .second, .val (.int p1), .val (.int p2), .val (.long yy), .second, .val (.ref b2), .unset, .unset, .unset, .unset, .unset, .unset, .unset] [(.int ((yy.toInt32).toInt8.toInt32)), (.int (7 : Int32)), (.ref b2)])) (fun t k => ?_) ?_
  · show Steps p.tables e below (T36.setTop (mkF m 90 #[.val (.long q0), .second, .val (.int p1), .val (.int p2), .val (.long yy), .second, .val (.ref b2), .unset, .unset, .unset, .unset, .unset, .unset, .unset] [])) _
    refine XS.aload X36.here hx rfl (hb hby at_90) rfl rfl ?_
    show Steps p.tables e below (T36.setTop (mkF m 92 #[.val (.long q0), .second, .val (.int p1), .val (.int p2), .val (.long yy), .second, .val (.ref b2), .unset, .unset, .unset, .unset, .unset, .unset, .unset] [(.ref b2)])) _
    refine XS.bipush X36.here hx rfl (hb hby at_92) ?_
    show Steps p.tables e below (T36.setTop (mkF m 94 #[.val (.long q0), .second, .val (.int p1), .val (.int p2), .val (.long yy), .second, .val (.ref b2), .unset, .unset, .unset, .unset, .unset, .unset, .unset] [(.int (7 : Int32)), (.ref b2)])) _
    refine XS.lload X36.here hx rfl (hb hby at_94) rfl ?_
    show Steps p.tables e below (T36.setTop (mkF m 96 #[.val (.long q0), .second, .val (.int p1), .val (.int p2), .val (.long yy), .second, .val (.ref b2), .unset, .unset, .unset, .unset, .unset, .unset, .unset] [(.long yy), (.int (7 : Int32)), (.ref b2)])) _
    refine XS.l2i X36.here hx rfl (hb hby at_96) rfl ?_
    show Steps p.tables e below (T36.setTop (mkF m 97 #[.val (.long q0), .second, .val (.int p1), .val (.int p2), .val (.long yy), .second, .val (.ref b2), .unset, .unset, .unset, .unset, .unset, .unset, .unset] [(.int (yy.toInt32)), (.int (7 : Int32)), (.ref b2)])) _
    refine XS.i2b X36.here hx rfl (hb hby at_97) rfl ?_
    show Steps p.tables e below (T36.setTop (mkF m 98 #[.val (.long q0), .second, .val (.int p1), .val (.int p2), .val (.long yy), .second, .val (.ref b2), .unset, .unset, .unset, .unset, .unset, .unset, .unset] [(.int ((yy.toInt32).toInt8.toInt32)), (.int (7 : Int32)), (.ref b2)])) _
    exact k
  generalize e_t7 : ((yy.toInt32).toInt8.toInt32) = t7
  show own_Run p e below s _ _ _ T36 (mkF m 98 #[.val (.long q0), .second, .val (.int p1), .val (.int p2), .val (.long yy), .second, .val (.ref b2), .unset, .unset, .unset, .unset, .unset, .unset, .unset] [(.int t7), (.int (7 : Int32)), (.ref b2)])
  obtain ⟨cl40, Arcl40, qcl40, Scl40, Mcl40, Hcl40, Gcl40⟩ := V37l
  have hincl40 : ¬ ((7 : Int32) < 0 ∨ cl40.slots.size ≤ ((7 : Int32)).toNatClampNeg) := inb_of Scl40 ⟨by decide, by decide⟩
  obtain ⟨T41, h41, X41, e41, W41, st41⟩ := stB X36 hx hZ e36 Arcl40 (j := (7 : Int32)) hincl40 (g := (mkF m 98 #[.val (.long q0), .second, .val (.int p1), .val (.int p2), .val (.long yy), .second, .val (.ref b2), .unset, .unset, .unset, .unset, .unset, .unset, .unset] [(.int t7), (.int (7 : Int32)), (.ref b2)])) rfl rfl (hb hby at_98)
  have V42 := Arv.set Arcl40 qcl40 Scl40 Mcl40 Hcl40 Gcl40 (fits_nar_byte _) W41 7 rfl (Nat.le_of_ble_eq_true rfl)
  have V42l : Arv Z h41 b2 k2 .byte (8 : Int32) [(.int (nar .byte t0)), (.int (nar .byte t1)), (.int (nar .byte t2)), (.int (nar .byte t3)), (.int (nar .byte t4)), (.int (nar .byte t5)), (.int (nar .byte t6)), (.int (nar .byte t7))] (.int (0 : Int32)) := V42
  have A43 := A38.wr W41
  have Z44 := Nat.le_trans Z39 (Keep.of_wr W41).1
  have N41 := Fr.snoc X41 N36 g_b2
  refine own_step st41 ?_
  show own_Run p e below s _ _ _ T41 (mkF m 99 #[.val (.long q0), .second, .val (.int p1), .val (.int p2), .val (.long yy), .second, .val (.ref b2), .unset, .unset, .unset, .unset, .unset, .unset, .unset] [])
  refine own_step (T' := T41) (g' := (mkF m 105 #[.val (.long q0), .second, .val (.int p1), .val (.int p2), .val (.long yy), .second, .val (.ref b2), .val (.int (p2 &&& (31 : Int32))), .unset, .unset, .unset, .unset, .unset, .unset] [])) (fun t k => ?_) ?_
  · show Steps p.tables e below (T41.setTop (mkF m 99 #[.val (.long q0), .second, .val (.int p1), .val (.int p2), .val (.long yy), .second, .val (.ref b2), .unset, .unset, .unset, .unset, .unset, .unset, .unset] [])) _
    refine XS.iloadN X41.here hx rfl (hb hby at_99) rfl ?_
    show Steps p.tables e below (T41.setTop (mkF m 100 #[.val (.long q0), .second, .val (.int p1), .val (.int p2), .val (.long yy), .second, .val (.ref b2), .unset, .unset, .unset, .unset, .unset, .unset, .unset] [(.int p2)])) _
    refine XS.bipush X41.here hx rfl (hb hby at_100) ?_
    show Steps p.tables e below (T41.setTop (mkF m 102 #[.val (.long q0), .second, .val (.int p1), .val (.int p2), .val (.long yy), .second, .val (.ref b2), .unset, .unset, .unset, .unset, .unset, .unset, .unset] [(.int (31 : Int32)), (.int p2)])) _
    refine XS.iand X41.here hx rfl (hb hby at_102) rfl ?_
    show Steps p.tables e below (T41.setTop (mkF m 103 #[.val (.long q0), .second, .val (.int p1), .val (.int p2), .val (.long yy), .second, .val (.ref b2), .unset, .unset, .unset, .unset, .unset, .unset, .unset] [(.int (p2 &&& (31 : Int32)))])) _
    refine XS.istore X41.here hx rfl (hb hby at_103) rfl (l' := #[.val (.long q0), .second, .val (.int p1), .val (.int p2), .val (.long yy), .second, .val (.ref b2), .val (.int (p2 &&& (31 : Int32))), .unset, .unset, .unset, .unset, .unset, .unset]) rfl ?_
    show Steps p.tables e below (T41.setTop (mkF m 105 #[.val (.long q0), .second, .val (.int p1), .val (.int p2), .val (.long yy), .second, .val (.ref b2), .val (.int (p2 &&& (31 : Int32))), .unset, .unset, .unset, .unset, .unset, .unset] [])) _
    exact k
  obtain ⟨Cn, hC, eC⟩ : ∃ Cn : Nat, Cn ≤ 31 ∧ (p2 &&& (31 : Int32)) = Int32.ofNat Cn := own_cn _
  rw [eC]
  show own_Run p e below s _ _ _ T41 (mkF m 105 #[.val (.long q0), .second, .val (.int p1), .val (.int p2), .val (.long yy), .second, .val (.ref b2), .val (.int (Int32.ofNat Cn)), .unset, .unset, .unset, .unset, .unset, .unset] [])
  refine own_step (T' := T41) (g' := (mkF m 117 #[.val (.long q0), .second, .val (.int p1), .val (.int p2), .val (.long yy), .second, .val (.ref b2), .val (.int (Int32.ofNat Cn)), .val (.int ((p1 &&& (2147483647 : Int32)) % ((65 : Int32) - (Int32.ofNat Cn)))), .unset, .unset, .unset, .unset, .unset] [])) (fun t k => ?_) ?_
  · show Steps p.tables e below (T41.setTop (mkF m 105 #[.val (.long q0), .second, .val (.int p1), .val (.int p2), .val (.long yy), .second, .val (.ref b2), .val (.int (Int32.ofNat Cn)), .unset, .unset, .unset, .unset, .unset, .unset] [])) _
    refine XS.iloadN X41.here hx rfl (hb hby at_105) rfl ?_
    show Steps p.tables e below (T41.setTop (mkF m 106 #[.val (.long q0), .second, .val (.int p1), .val (.int p2), .val (.long yy), .second, .val (.ref b2), .val (.int (Int32.ofNat Cn)), .unset, .unset, .unset, .unset, .unset, .unset] [(.int p1)])) _
    refine X41.ldcInt hx hown (mvT hZ (hw _ (List.mem_of_getElem? (i := 8) rfl))) (g := (mkF m 106 #[.val (.long q0), .second, .val (.int p1), .val (.int p2), .val (.long yy), .second, .val (.ref b2), .val (.int (Int32.ofNat Cn)), .unset, .unset, .unset, .unset, .unset, .unset] [(.int p1)])) rfl (hb hby at_106) _ ?_
    show Steps p.tables e below (T41.setTop (mkF m 108 #[.val (.long q0), .second, .val (.int p1), .val (.int p2), .val (.long yy), .second, .val (.ref b2), .val (.int (Int32.ofNat Cn)), .unset, .unset, .unset, .unset, .unset, .unset] [(.int (2147483647 : Int32)), (.int p1)])) _
    refine XS.iand X41.here hx rfl (hb hby at_108) rfl ?_
    show Steps p.tables e below (T41.setTop (mkF m 109 #[.val (.long q0), .second, .val (.int p1), .val (.int p2), .val (.long yy), .second, .val (.ref b2), .val (.int (Int32.ofNat Cn)), .unset, .unset, .unset, .unset, .unset, .unset] [(.int (p1 &&& (2147483647 : Int32)))])) _
    refine XS.bipush X41.here hx rfl (hb hby at_109) ?_
    show Steps p.tables e below (T41.setTop (mkF m 111 #[.val (.long q0), .second, .val (.int p1), .val (.int p2), .val (.long yy), .second, .val (.ref b2), .val (.int (Int32.ofNat Cn)), .unset, .unset, .unset, .unset, .unset, .unset] [(.int (65 : Int32)), (.int (p1 &&& (2147483647 : Int32)))])) _
    refine XS.iload X41.here hx rfl (hb hby at_111) rfl ?_
    show Steps p.tables e below (T41.setTop (mkF m 113 #[.val (.long q0), .second, .val (.int p1), .val (.int p2), .val (.long yy), .second, .val (.ref b2), .val (.int (Int32.ofNat Cn)), .unset, .unset, .unset, .unset, .unset, .unset] [(.int (Int32.ofNat Cn)), (.int (65 : Int32)), (.int (p1 &&& (2147483647 : Int32)))])) _
    refine XS.isub X41.here hx rfl (hb hby at_113) rfl ?_
    show Steps p.tables e below (T41.setTop (mkF m 114 #[.val (.long q0), .second, .val (.int p1), .val (.int p2), .val (.long yy), .second, .val (.ref b2), .val (.int (Int32.ofNat Cn)), .unset, .unset, .unset, .unset, .unset, .unset] [(.int ((65 : Int32) - (Int32.ofNat Cn))), (.int (p1 &&& (2147483647 : Int32)))])) _
    refine iremM X41 hx rfl (hb hby at_114) rfl (own_nz hC) ?_
    show Steps p.tables e below (T41.setTop (mkF m 115 #[.val (.long q0), .second, .val (.int p1), .val (.int p2), .val (.long yy), .second, .val (.ref b2), .val (.int (Int32.ofNat Cn)), .unset, .unset, .unset, .unset, .unset, .unset] [(.int ((p1 &&& (2147483647 : Int32)) % ((65 : Int32) - (Int32.ofNat Cn))))])) _
    refine XS.istore X41.here hx rfl (hb hby at_115) rfl (l' := #[.val (.long q0), .second, .val (.int p1), .val (.int p2), .val (.long yy), .second, .val (.ref b2), .val (.int (Int32.ofNat Cn)), .val (.int ((p1 &&& (2147483647 : Int32)) % ((65 : Int32) - (Int32.ofNat Cn)))), .unset, .unset, .unset, .unset, .unset]) rfl ?_
    show Steps p.tables e below (T41.setTop (mkF m 117 #[.val (.long q0), .second, .val (.int p1), .val (.int p2), .val (.long yy), .second, .val (.ref b2), .val (.int (Int32.ofNat Cn)), .val (.int ((p1 &&& (2147483647 : Int32)) % ((65 : Int32) - (Int32.ofNat Cn)))), .unset, .unset, .unset, .unset, .unset] [])) _
    exact k
  obtain ⟨Pn, hPC, eP⟩ : ∃ Pn : Nat, Pn + Cn ≤ 64 ∧ ((p1 &&& (2147483647 : Int32)) % ((65 : Int32) - (Int32.ofNat Cn))) = Int32.ofNat Pn := own_pn _ hC
  rw [eP]
  show own_Run p e below s _ _ _ T41 (mkF m 117 #[.val (.long q0), .second, .val (.int p1), .val (.int p2), .val (.long yy), .second, .val (.ref b2), .val (.int (Int32.ofNat Cn)), .val (.int (Int32.ofNat Pn)), .unset, .unset, .unset, .unset, .unset] [])
  obtain ⟨T45, h45, X45, e45, E45, A45, D45, -, st45⟩ := newO X41 hx hZ hown (hw _ (List.mem_of_getElem? (i := 9) rfl)) (hw _ (List.mem_of_getElem? (i := 10) rfl)) (hw _ (List.mem_of_getElem? (i := 11) rfl)) e41 (g := (mkF m 117 #[.val (.long q0), .second, .val (.int p1), .val (.int p2), .val (.long yy), .second, .val (.ref b2), .val (.int (Int32.ofNat Cn)), .val (.int (Int32.ofNat Pn)), .unset, .unset, .unset, .unset, .unset] [])) rfl (hb hby at_117) (by decide) (by decide)
  obtain ⟨b45, g45⟩ : ∃ z, z = h41.size := ⟨_, rfl⟩
  have ne46 : b2 ≠ b45 := Nat.ne_of_lt (Nat.lt_of_lt_of_le A43.lt (Nat.le_of_eq g45.symm))
  have g_b45 : n0 ≤ b45 := Nat.le_trans Z44 (Nat.le_of_eq g45.symm)
  rw [← g45] at A45 D45 st45
  have A47 := A43.ext E45
  have V48 := V42l.ext E45
  have F49 : Fld Z h45 b45 "lazyframe/media/NalPayload" "payload" "[B" .null := D45 (Or.inr (hw _ (List.mem_of_getElem? (i := 32) rfl))) (ty := (.array .byte)) (by decide)
  have F50 : Fld Z h45 b45 "lazyframe/media/NalPayload" "stop" "I" (.int (0 : Int32)) := D45 (Or.inr (hw _ (List.mem_of_getElem? (i := 38) rfl))) (ty := .int) (by decide)
  have F51 : Fld Z h45 b45 "lazyframe/media/NalPayload" "bit" "I" (.int (0 : Int32)) := D45 (Or.inl (hw _ (List.mem_of_getElem? (i := 45) rfl))) (ty := .int) (by decide)
  have Z52 := Nat.le_trans Z44 E45.1
  refine own_step st45 ?_
  show own_Run p e below s _ _ _ T45 (mkF m 120 #[.val (.long q0), .second, .val (.int p1), .val (.int p2), .val (.long yy), .second, .val (.ref b2), .val (.int (Int32.ofNat Cn)), .val (.int (Int32.ofNat Pn)), .unset, .unset, .unset, .unset, .unset] [(.ref b45)])
  refine own_step (T' := T45) (g' := (mkF m 124 #[.val (.long q0), .second, .val (.int p1), .val (.int p2), .val (.long yy), .second, .val (.ref b2), .val (.int (Int32.ofNat Cn)), .val (.int (Int32.ofNat Pn)), .unset, .unset, .unset, .unset, .unset] [(.int (0 : Int32)), (.ref b2), (.ref b45), (.ref b45)])) (fun t k => ?_) ?_
  · show Steps p.tables e below (T45.setTop (mkF m 120 #[.val (.long q0), .second, .val (.int p1), .val (.int p2), .val (.long yy), .second, .val (.ref b2), .val (.int (Int32.ofNat Cn)), .val (.int (Int32.ofNat Pn)), .unset, .unset, .unset, .unset, .unset] [(.ref b45)])) _
    refine XS.dup X45.here hx rfl (hb hby at_120) rfl rfl ?_
    show Steps p.tables e below (T45.setTop (mkF m 121 #[.val (.long q0), .second, .val (.int p1), .val (.int p2), .val (.long yy), .second, .val (.ref b2), .val (.int (Int32.ofNat Cn)), .val (.int (Int32.ofNat Pn)), .unset, .unset, .unset, .unset, .unset] [(.ref b45), (.ref b45)])) _
    refine XS.aload X45.here hx rfl (hb hby at_121) rfl rfl ?_
    show Steps p.tables e below (T45.setTop (mkF m 123 #[.val (.long q0), .second, .val (.int p1), .val (.int p2), .val (.long yy), .second, .val (.ref b2), .val (.int (Int32.ofNat Cn)), .val (.int (Int32.ofNat Pn)), .unset, .unset, .unset, .unset, .unset] [(.ref b2), (.ref b45), (.ref b45)])) _
    refine XS.iconst X45.here hx rfl (hb hby at_123) ?_
    show Steps p.tables e below (T45.setTop (mkF m 124 #[.val (.long q0), .second, .val (.int p1), .val (.int p2), .val (.long yy), .second, .val (.ref b2), .val (.int (Int32.ofNat Cn)), .val (.int (Int32.ofNat Pn)), .unset, .unset, .unset, .unset, .unset] [(.int (0 : Int32)), (.ref b2), (.ref b45), (.ref b45)])) _
    exact k
  have hb0 : nar .byte t0 = own_byte yy 56 := by rw [← e_t0]; exact own_b0 yy
  have hb1 : nar .byte t1 = own_byte yy 48 := by rw [← e_t1]; exact own_b1 yy
  have hb2 : nar .byte t2 = own_byte yy 40 := by rw [← e_t2]; exact own_b2 yy
  have hb3 : nar .byte t3 = own_byte yy 32 := by rw [← e_t3]; exact own_b3 yy
  have hb4 : nar .byte t4 = own_byte yy 24 := by rw [← e_t4]; exact own_b4 yy
  have hb5 : nar .byte t5 = own_byte yy 16 := by rw [← e_t5]; exact own_b5 yy
  have hb6 : nar .byte t6 = own_byte yy 8 := by rw [← e_t6]; exact own_b6 yy
  have hb7 : nar .byte t7 = own_byte yy 0 := by rw [← e_t7]; exact own_b7 yy
  have hno2 : ¬ (nar .byte t0 = (0 : Int32) ∧ nar .byte t1 = (0 : Int32) ∧ nar .byte t2 = (3 : Int32)) := by rw [hb0, hb1, hb2, ← e_yy]; exact own_noem q0 40 (by decide)
  have hno3 : ¬ (nar .byte t1 = (0 : Int32) ∧ nar .byte t2 = (0 : Int32) ∧ nar .byte t3 = (3 : Int32)) := by rw [hb1, hb2, hb3, ← e_yy]; exact own_noem q0 32 (by decide)
  have hno4 : ¬ (nar .byte t2 = (0 : Int32) ∧ nar .byte t3 = (0 : Int32) ∧ nar .byte t4 = (3 : Int32)) := by rw [hb2, hb3, hb4, ← e_yy]; exact own_noem q0 24 (by decide)
  have hno5 : ¬ (nar .byte t3 = (0 : Int32) ∧ nar .byte t4 = (0 : Int32) ∧ nar .byte t5 = (3 : Int32)) := by rw [hb3, hb4, hb5, ← e_yy]; exact own_noem q0 16 (by decide)
  have hno6 : ¬ (nar .byte t4 = (0 : Int32) ∧ nar .byte t5 = (0 : Int32) ∧ nar .byte t6 = (3 : Int32)) := by rw [hb4, hb5, hb6, ← e_yy]; exact own_noem q0 8 (by decide)
  have hno7 : ¬ (nar .byte t5 = (0 : Int32) ∧ nar .byte t6 = (0 : Int32) ∧ nar .byte t7 = (3 : Int32)) := by rw [hb5, hb6, hb7, ← e_yy]; exact own_noem q0 0 (by decide)
  obtain ⟨_, _, ⟨T53, L53, k53, n53⟩, -, X53, ⟨Lc53, hQ53, l53, y53, z53⟩, st53⟩ := X45.specialBack hx (y := (⟨"lazyframe/media/NalPayload", "<init>", "([BI)V"⟩ : MethodName)) rfl hown (mvT hZ (hw _ (List.mem_of_getElem? (i := 12) rfl))) (mvT hZ (hw _ (List.mem_of_getElem? (i := 13) rfl))) (mvT hZ (hw _ (List.mem_of_getElem? (i := 14) rfl))) (by decide) (backOf (W := 1) (rm2 l Z a0 hw [] b45 b2 k2 (nar .byte t0) (nar .byte t1) (nar .byte t2) (nar .byte t3) (nar .byte t4) (nar .byte t5) (nar .byte t6) (nar .byte t7) h45 n0 Z52 A45 F49 F50 F51 g_b45 ne46 V48 hno2 hno3 hno4 hno5 hno6 hno7) hZ (hw _ (List.mem_of_getElem? (i := 14) rfl)) (hw _ (List.mem_of_getElem? (i := 11) rfl)) (by decide) (by decide)) (g := (mkF m 124 #[.val (.long q0), .second, .val (.int p1), .val (.int p2), .val (.long yy), .second, .val (.ref b2), .val (.int (Int32.ofNat Cn)), .val (.int (Int32.ofNat Pn)), .unset, .unset, .unset, .unset, .unset] [(.int (0 : Int32)), (.ref b2), (.ref b45), (.ref b45)])) rfl (by rw [hml]; rfl) (Steps.refl _) (a := b45) (argsL := [(.ref b2), (.int (0 : Int32))]) (rest := [(.ref b45)]) (lenOf pd_3 rfl) rfl (by show 2 * 0 + _ ≤ _; exact Nat.le_of_eq rfl) (hb hby at_124) (fun _ _ => ⟨rfl, e45, (by decide : 2 + 2 ≤ _), (by decide : 11 + 16 ≤ _)⟩)
  dsimp only [Pt.U, Pt.locs, Pt.cells, Pt.slots] at X53 l53 y53 z53 st53 hQ53
  subst l53 y53 z53
  obtain ⟨pl53, kk53, sv53, rfl, N53q, Kq53, sz53, Eq53, Fb53, Fs53, Fp53, Vp53⟩ := hQ53
  have N53 := Fr.app N41 N53q
  refine own_step (fun t k => st53.trans k) ?_
  show own_Run p e below s _ _ _ T53 (mkF m 127 #[.val (.long q0), .second, .val (.int p1), .val (.int p2), .val (.long yy), .second, .val (.ref b2), .val (.int (Int32.ofNat Cn)), .val (.int (Int32.ofNat Pn)), .unset, .unset, .unset, .unset, .unset] [(.ref b45)])
  have ne54 : b45 ≠ pl53 := Nat.ne_of_lt (Nat.lt_of_lt_of_le F49.lt sz53)
  have ne55 : b2 ≠ pl53 := Nat.ne_of_lt (Nat.lt_of_lt_of_le V48.lt sz53)
  have Z56 := Nat.le_trans Z52 Kq53.1
  simp only [hb0, hb1, hb2, hb3, hb4, hb5, hb6, hb7, own_nb] at Vp53
  refine own_step (T' := T53) (g' := (mkF m 133 #[.val (.long q0), .second, .val (.int p1), .val (.int p2), .val (.long yy), .second, .val (.ref b2), .val (.int (Int32.ofNat Cn)), .val (.int (Int32.ofNat Pn)), .val (.ref b45), .unset, .unset, .unset, .unset] [(.int (Int32.ofNat Pn)), (.ref b45)])) (fun t k => ?_) ?_
  · show Steps p.tables e below (T53.setTop (mkF m 127 #[.val (.long q0), .second, .val (.int p1), .val (.int p2), .val (.long yy), .second, .val (.ref b2), .val (.int (Int32.ofNat Cn)), .val (.int (Int32.ofNat Pn)), .unset, .unset, .unset, .unset, .unset] [(.ref b45)])) _
    refine XS.astore X53.here hx rfl (hb hby at_127) rfl rfl (l' := #[.val (.long q0), .second, .val (.int p1), .val (.int p2), .val (.long yy), .second, .val (.ref b2), .val (.int (Int32.ofNat Cn)), .val (.int (Int32.ofNat Pn)), .val (.ref b45), .unset, .unset, .unset, .unset]) rfl ?_
    show Steps p.tables e below (T53.setTop (mkF m 129 #[.val (.long q0), .second, .val (.int p1), .val (.int p2), .val (.long yy), .second, .val (.ref b2), .val (.int (Int32.ofNat Cn)), .val (.int (Int32.ofNat Pn)), .val (.ref b45), .unset, .unset, .unset, .unset] [])) _
    refine XS.aload X53.here hx rfl (hb hby at_129) rfl rfl ?_
    show Steps p.tables e below (T53.setTop (mkF m 131 #[.val (.long q0), .second, .val (.int p1), .val (.int p2), .val (.long yy), .second, .val (.ref b2), .val (.int (Int32.ofNat Cn)), .val (.int (Int32.ofNat Pn)), .val (.ref b45), .unset, .unset, .unset, .unset] [(.ref b45)])) _
    refine XS.iload X53.here hx rfl (hb hby at_131) rfl ?_
    show Steps p.tables e below (T53.setTop (mkF m 133 #[.val (.long q0), .second, .val (.int p1), .val (.int p2), .val (.long yy), .second, .val (.ref b2), .val (.int (Int32.ofNat Cn)), .val (.int (Int32.ofNat Pn)), .val (.ref b45), .unset, .unset, .unset, .unset] [(.int (Int32.ofNat Pn)), (.ref b45)])) _
    exact k
  obtain ⟨cq57, kq57, q57a, q57b, q57c⟩ := isOf hZ rfl Eq53
  obtain ⟨_, _, ⟨T57, L57, k57, n57⟩, -, X57, ⟨Lc57, hQ57, l57, y57, z57⟩, st57⟩ := X53.virtualBack hx (y := (⟨"lazyframe/media/NalPayload", "skip", "(I)V"⟩ : MethodName)) (z := (⟨"lazyframe/media/NalPayload", "skip", "(I)V"⟩ : MethodName)) hown (mvT hZ (hw _ (List.mem_of_getElem? (i := 39) rfl))) (mvT hZ (hw _ (List.mem_of_getElem? (i := 40) rfl))) (notFace_of_selects (args := #[]) (mvT hZ (hw _ (List.mem_of_getElem? (i := 42) rfl)))) (mvT hZ (hw _ (List.mem_of_getElem? (i := 42) rfl))) (mvT hZ (hw _ (List.mem_of_getElem? (i := 41) rfl))) (by decide) (backOf (W := 0) (rm6 l Z a0 hw [] b45 (Int32.ofNat Pn) pl53 sv53 (0 : Int32) T53.heap n0 Z56 Eq53 Fp53 Fs53 Fb53 g_b45) hZ (hw _ (List.mem_of_getElem? (i := 43) rfl)) (hw _ (List.mem_of_getElem? (i := 11) rfl)) (by decide) (by decide)) q57a q57c (g := (mkF m 133 #[.val (.long q0), .second, .val (.int p1), .val (.int p2), .val (.long yy), .second, .val (.ref b2), .val (.int (Int32.ofNat Cn)), .val (.int (Int32.ofNat Pn)), .val (.ref b45), .unset, .unset, .unset, .unset] [(.int (Int32.ofNat Pn)), (.ref b45)])) rfl (by rw [hml]; rfl) (Steps.refl _) (argsL := [(.int (Int32.ofNat Pn))]) (rest := []) (lenOf pd_4 rfl) rfl (by show 2 * 0 + _ ≤ _; exact Nat.le_of_eq rfl) (hb hby at_133) (fun _ _ => ⟨rfl, rfl, (by decide : 4 + 0 ≤ _), (by decide : 27 + 0 ≤ _)⟩)
  dsimp only [Pt.U, Pt.locs, Pt.cells, Pt.slots] at X57 l57 y57 z57 st57 hQ57
  subst l57 y57 z57
  obtain ⟨rfl, N57q, Kq57, Eq57, Fb57, Fs57, Fp57⟩ := hQ57
  have N57 := Fr.app N53 N57q
  refine own_step (fun t k => st57.trans k) ?_
  show own_Run p e below s _ _ _ T57 (mkF m 136 #[.val (.long q0), .second, .val (.int p1), .val (.int p2), .val (.long yy), .second, .val (.ref b2), .val (.int (Int32.ofNat Cn)), .val (.int (Int32.ofNat Pn)), .val (.ref b45), .unset, .unset, .unset, .unset] [])
  have A58 := Eq53.keep Kq57
  have V59 := Vp53.keep Kq57 (ninS (Ne.symm ne54) nin0)
  have Z60 := Nat.le_trans Z56 Kq57.1
  have Fz57 : Fld Z T57.heap b45 "lazyframe/media/NalPayload" "bit" "I" (.int (Int32.ofNat Pn)) := by rw [show Int32.ofNat Pn = (0 : Int32) + Int32.ofNat Pn from (Int32.zero_add _).symm]; exact Fb57
  refine own_step (T' := T57) (g' := (mkF m 138 #[.val (.long q0), .second, .val (.int p1), .val (.int p2), .val (.long yy), .second, .val (.ref b2), .val (.int (Int32.ofNat Cn)), .val (.int (Int32.ofNat Pn)), .val (.ref b45), .unset, .unset, .unset, .unset] [(.ref b45)])) (fun t k => ?_) ?_
  · show Steps p.tables e below (T57.setTop (mkF m 136 #[.val (.long q0), .second, .val (.int p1), .val (.int p2), .val (.long yy), .second, .val (.ref b2), .val (.int (Int32.ofNat Cn)), .val (.int (Int32.ofNat Pn)), .val (.ref b45), .unset, .unset, .unset, .unset] [])) _
    refine XS.aload X57.here hx rfl (hb hby at_136) rfl rfl ?_
    show Steps p.tables e below (T57.setTop (mkF m 138 #[.val (.long q0), .second, .val (.int p1), .val (.int p2), .val (.long yy), .second, .val (.ref b2), .val (.int (Int32.ofNat Cn)), .val (.int (Int32.ofNat Pn)), .val (.ref b45), .unset, .unset, .unset, .unset] [(.ref b45)])) _
    exact k
  obtain ⟨cq61, kq61, q61a, q61b, q61c⟩ := isOf hZ rfl Eq57
  obtain ⟨_, _, ⟨T61, L61, k61, n61⟩, -, X61, ⟨Lc61, hQ61, l61, y61, z61⟩, st61⟩ := X57.virtualBack hx (y := (⟨"lazyframe/media/NalPayload", "left", "()I"⟩ : MethodName)) (z := (⟨"lazyframe/media/NalPayload", "left", "()I"⟩ : MethodName)) hown (mvT hZ (hw _ (List.mem_of_getElem? (i := 46) rfl))) (mvT hZ (hw _ (List.mem_of_getElem? (i := 47) rfl))) (notFace_of_selects (args := #[]) (mvT hZ (hw _ (List.mem_of_getElem? (i := 49) rfl)))) (mvT hZ (hw _ (List.mem_of_getElem? (i := 49) rfl))) (mvT hZ (hw _ (List.mem_of_getElem? (i := 48) rfl))) (by decide) (backOf (W := 0) (rm7 l Z a0 hw [] b45 pl53 sv53 (Int32.ofNat Pn) T57.heap n0 Z60 Eq57 Fp57 Fs57 Fz57 g_b45) hZ (hw _ (List.mem_of_getElem? (i := 50) rfl)) (hw _ (List.mem_of_getElem? (i := 11) rfl)) (by decide) (by decide)) q61a q61c (g := (mkF m 138 #[.val (.long q0), .second, .val (.int p1), .val (.int p2), .val (.long yy), .second, .val (.ref b2), .val (.int (Int32.ofNat Cn)), .val (.int (Int32.ofNat Pn)), .val (.ref b45), .unset, .unset, .unset, .unset] [(.ref b45)])) rfl (by rw [hml]; rfl) (Steps.refl _) (argsL := []) (rest := []) (lenOf pd_5 rfl) rfl (by show 2 * 0 + _ ≤ _; exact Nat.le_of_eq rfl) (hb hby at_138) (fun _ _ => ⟨rfl, rfl, (by decide : 4 + 0 ≤ _), (by decide : 27 + 0 ≤ _)⟩)
  dsimp only [Pt.U, Pt.locs, Pt.cells, Pt.slots] at X61 l61 y61 z61 st61 hQ61
  subst l61 y61 z61
  obtain ⟨rfl, N61q, eq61⟩ := hQ61
  have N61 := Fr.app N57 N61q
  refine own_step (fun t k => st61.trans k) ?_
  show own_Run p e below s _ _ _ T61 (mkF m 141 #[.val (.long q0), .second, .val (.int p1), .val (.int p2), .val (.long yy), .second, .val (.ref b2), .val (.int (Int32.ofNat Cn)), .val (.int (Int32.ofNat Pn)), .val (.ref b45), .unset, .unset, .unset, .unset] [(.int (sv53 - (Int32.ofNat Pn)))])
  refine own_step (T' := T61) (g' := (mkF m 147 #[.val (.long q0), .second, .val (.int p1), .val (.int p2), .val (.long yy), .second, .val (.ref b2), .val (.int (Int32.ofNat Cn)), .val (.int (Int32.ofNat Pn)), .val (.ref b45), .val (.int (sv53 - (Int32.ofNat Pn))), .unset, .unset, .unset] [(.int (Int32.ofNat Cn)), (.ref b45)])) (fun t k => ?_) ?_
  · show Steps p.tables e below (T61.setTop (mkF m 141 #[.val (.long q0), .second, .val (.int p1), .val (.int p2), .val (.long yy), .second, .val (.ref b2), .val (.int (Int32.ofNat Cn)), .val (.int (Int32.ofNat Pn)), .val (.ref b45), .unset, .unset, .unset, .unset] [(.int (sv53 - (Int32.ofNat Pn)))])) _
    refine XS.istore X61.here hx rfl (hb hby at_141) rfl (l' := #[.val (.long q0), .second, .val (.int p1), .val (.int p2), .val (.long yy), .second, .val (.ref b2), .val (.int (Int32.ofNat Cn)), .val (.int (Int32.ofNat Pn)), .val (.ref b45), .val (.int (sv53 - (Int32.ofNat Pn))), .unset, .unset, .unset]) rfl ?_
    show Steps p.tables e below (T61.setTop (mkF m 143 #[.val (.long q0), .second, .val (.int p1), .val (.int p2), .val (.long yy), .second, .val (.ref b2), .val (.int (Int32.ofNat Cn)), .val (.int (Int32.ofNat Pn)), .val (.ref b45), .val (.int (sv53 - (Int32.ofNat Pn))), .unset, .unset, .unset] [])) _
    refine XS.aload X61.here hx rfl (hb hby at_143) rfl rfl ?_
    show Steps p.tables e below (T61.setTop (mkF m 145 #[.val (.long q0), .second, .val (.int p1), .val (.int p2), .val (.long yy), .second, .val (.ref b2), .val (.int (Int32.ofNat Cn)), .val (.int (Int32.ofNat Pn)), .val (.ref b45), .val (.int (sv53 - (Int32.ofNat Pn))), .unset, .unset, .unset] [(.ref b45)])) _
    refine XS.iload X61.here hx rfl (hb hby at_145) rfl ?_
    show Steps p.tables e below (T61.setTop (mkF m 147 #[.val (.long q0), .second, .val (.int p1), .val (.int p2), .val (.long yy), .second, .val (.ref b2), .val (.int (Int32.ofNat Cn)), .val (.int (Int32.ofNat Pn)), .val (.ref b45), .val (.int (sv53 - (Int32.ofNat Pn))), .unset, .unset, .unset] [(.int (Int32.ofNat Cn)), (.ref b45)])) _
    exact k
  obtain ⟨cq62, kq62, q62a, q62b, q62c⟩ := isOf hZ eq61 Eq57
  obtain ⟨_, _, ⟨T62, L62, k62, n62⟩, -, X62, ⟨Lc62, hQ62, l62, y62, z62⟩, st62⟩ := X61.virtualBack hx (y := (⟨"lazyframe/media/NalPayload", "u", "(I)I"⟩ : MethodName)) (z := (⟨"lazyframe/media/NalPayload", "u", "(I)I"⟩ : MethodName)) hown (mvT hZ (hw _ (List.mem_of_getElem? (i := 51) rfl))) (mvT hZ (hw _ (List.mem_of_getElem? (i := 52) rfl))) (notFace_of_selects (args := #[]) (mvT hZ (hw _ (List.mem_of_getElem? (i := 54) rfl)))) (mvT hZ (hw _ (List.mem_of_getElem? (i := 54) rfl))) (mvT hZ (hw _ (List.mem_of_getElem? (i := 53) rfl))) (by decide) (backOf (W := 0) (rm8 l Z a0 hw [] b45 Cn pl53 sv53 kk53 yy Pn T57.heap n0 Z60 Eq57 Fp57 Fs57 Fz57 g_b45 V59 (Ne.symm ne54) hC hPC) hZ (hw _ (List.mem_of_getElem? (i := 55) rfl)) (hw _ (List.mem_of_getElem? (i := 11) rfl)) (by decide) (by decide)) q62a q62c (g := (mkF m 147 #[.val (.long q0), .second, .val (.int p1), .val (.int p2), .val (.long yy), .second, .val (.ref b2), .val (.int (Int32.ofNat Cn)), .val (.int (Int32.ofNat Pn)), .val (.ref b45), .val (.int (sv53 - (Int32.ofNat Pn))), .unset, .unset, .unset] [(.int (Int32.ofNat Cn)), (.ref b45)])) rfl (by rw [hml]; rfl) (Steps.refl _) (argsL := [(.int (Int32.ofNat Cn))]) (rest := []) (lenOf pd_1 rfl) rfl (by show 2 * 0 + _ ≤ _; exact Nat.le_of_eq rfl) (hb hby at_147) (fun _ _ => ⟨rfl, eq61, (by decide : 4 + 0 ≤ _), (by decide : 27 + 0 ≤ _)⟩)
  dsimp only [Pt.U, Pt.locs, Pt.cells, Pt.slots] at X62 l62 y62 z62 st62 hQ62
  subst l62 y62 z62
  obtain ⟨rfl, N62q, Kq62, Eq62, Fb62, Fs62, Fp62⟩ := hQ62
  have N62 := Fr.app N61 N62q
  refine own_step (fun t k => st62.trans k) ?_
  show own_Run p e below s _ _ _ T62 (mkF m 150 #[.val (.long q0), .second, .val (.int p1), .val (.int p2), .val (.long yy), .second, .val (.ref b2), .val (.int (Int32.ofNat Cn)), .val (.int (Int32.ofNat Pn)), .val (.ref b45), .val (.int (sv53 - (Int32.ofNat Pn))), .unset, .unset, .unset] [(.int (Int32.ofNat (own_val yy Pn Cn)))])
  have A63 := Eq57.keep Kq62
  have V64 := V59.keep Kq62 (ninS (Ne.symm ne54) nin0)
  have Z65 := Nat.le_trans Z60 Kq62.1
  refine own_step (T' := T62) (g' := (mkF m 154 #[.val (.long q0), .second, .val (.int p1), .val (.int p2), .val (.long yy), .second, .val (.ref b2), .val (.int (Int32.ofNat Cn)), .val (.int (Int32.ofNat Pn)), .val (.ref b45), .val (.int (sv53 - (Int32.ofNat Pn))), .val (.int (Int32.ofNat (own_val yy Pn Cn))), .unset, .unset] [(.ref b45)])) (fun t k => ?_) ?_
  · show Steps p.tables e below (T62.setTop (mkF m 150 #[.val (.long q0), .second, .val (.int p1), .val (.int p2), .val (.long yy), .second, .val (.ref b2), .val (.int (Int32.ofNat Cn)), .val (.int (Int32.ofNat Pn)), .val (.ref b45), .val (.int (sv53 - (Int32.ofNat Pn))), .unset, .unset, .unset] [(.int (Int32.ofNat (own_val yy Pn Cn)))])) _
    refine XS.istore X62.here hx rfl (hb hby at_150) rfl (l' := #[.val (.long q0), .second, .val (.int p1), .val (.int p2), .val (.long yy), .second, .val (.ref b2), .val (.int (Int32.ofNat Cn)), .val (.int (Int32.ofNat Pn)), .val (.ref b45), .val (.int (sv53 - (Int32.ofNat Pn))), .val (.int (Int32.ofNat (own_val yy Pn Cn))), .unset, .unset]) rfl ?_
    show Steps p.tables e below (T62.setTop (mkF m 152 #[.val (.long q0), .second, .val (.int p1), .val (.int p2), .val (.long yy), .second, .val (.ref b2), .val (.int (Int32.ofNat Cn)), .val (.int (Int32.ofNat Pn)), .val (.ref b45), .val (.int (sv53 - (Int32.ofNat Pn))), .val (.int (Int32.ofNat (own_val yy Pn Cn))), .unset, .unset] [])) _
    refine XS.aload X62.here hx rfl (hb hby at_152) rfl rfl ?_
    show Steps p.tables e below (T62.setTop (mkF m 154 #[.val (.long q0), .second, .val (.int p1), .val (.int p2), .val (.long yy), .second, .val (.ref b2), .val (.int (Int32.ofNat Cn)), .val (.int (Int32.ofNat Pn)), .val (.ref b45), .val (.int (sv53 - (Int32.ofNat Pn))), .val (.int (Int32.ofNat (own_val yy Pn Cn))), .unset, .unset] [(.ref b45)])) _
    exact k
  obtain ⟨cq66, kq66, q66a, q66b, q66c⟩ := isOf hZ rfl Eq62
  obtain ⟨_, _, ⟨T66, L66, k66, n66⟩, -, X66, ⟨Lc66, hQ66, l66, y66, z66⟩, st66⟩ := X62.virtualBack hx (y := (⟨"lazyframe/media/NalPayload", "left", "()I"⟩ : MethodName)) (z := (⟨"lazyframe/media/NalPayload", "left", "()I"⟩ : MethodName)) hown (mvT hZ (hw _ (List.mem_of_getElem? (i := 46) rfl))) (mvT hZ (hw _ (List.mem_of_getElem? (i := 47) rfl))) (notFace_of_selects (args := #[]) (mvT hZ (hw _ (List.mem_of_getElem? (i := 49) rfl)))) (mvT hZ (hw _ (List.mem_of_getElem? (i := 49) rfl))) (mvT hZ (hw _ (List.mem_of_getElem? (i := 48) rfl))) (by decide) (backOf (W := 0) (rm7 l Z a0 hw [] b45 pl53 sv53 (Int32.ofNat (Pn + Cn)) T62.heap n0 Z65 Eq62 Fp62 Fs62 Fb62 g_b45) hZ (hw _ (List.mem_of_getElem? (i := 50) rfl)) (hw _ (List.mem_of_getElem? (i := 11) rfl)) (by decide) (by decide)) q66a q66c (g := (mkF m 154 #[.val (.long q0), .second, .val (.int p1), .val (.int p2), .val (.long yy), .second, .val (.ref b2), .val (.int (Int32.ofNat Cn)), .val (.int (Int32.ofNat Pn)), .val (.ref b45), .val (.int (sv53 - (Int32.ofNat Pn))), .val (.int (Int32.ofNat (own_val yy Pn Cn))), .unset, .unset] [(.ref b45)])) rfl (by rw [hml]; rfl) (Steps.refl _) (argsL := []) (rest := []) (lenOf pd_5 rfl) rfl (by show 2 * 0 + _ ≤ _; exact Nat.le_of_eq rfl) (hb hby at_154) (fun _ _ => ⟨rfl, rfl, (by decide : 4 + 0 ≤ _), (by decide : 27 + 0 ≤ _)⟩)
  dsimp only [Pt.U, Pt.locs, Pt.cells, Pt.slots] at X66 l66 y66 z66 st66 hQ66
  subst l66 y66 z66
  obtain ⟨rfl, N66q, eq66⟩ := hQ66
  have N66 := Fr.app N62 N66q
  refine own_step (fun t k => st66.trans k) ?_
  show own_Run p e below s _ _ _ T66 (mkF m 157 #[.val (.long q0), .second, .val (.int p1), .val (.int p2), .val (.long yy), .second, .val (.ref b2), .val (.int (Int32.ofNat Cn)), .val (.int (Int32.ofNat Pn)), .val (.ref b45), .val (.int (sv53 - (Int32.ofNat Pn))), .val (.int (Int32.ofNat (own_val yy Pn Cn))), .unset, .unset] [(.int (sv53 - (Int32.ofNat (Pn + Cn))))])
  refine own_step (T' := T66) (g' := (mkF m 161 #[.val (.long q0), .second, .val (.int p1), .val (.int p2), .val (.long yy), .second, .val (.ref b2), .val (.int (Int32.ofNat Cn)), .val (.int (Int32.ofNat Pn)), .val (.ref b45), .val (.int (sv53 - (Int32.ofNat Pn))), .val (.int (Int32.ofNat (own_val yy Pn Cn))), .val (.int (sv53 - (Int32.ofNat (Pn + Cn)))), .unset] [(.int (Int32.ofNat Cn))])) (fun t k => ?_) ?_
  · show Steps p.tables e below (T66.setTop (mkF m 157 #[.val (.long q0), .second, .val (.int p1), .val (.int p2), .val (.long yy), .second, .val (.ref b2), .val (.int (Int32.ofNat Cn)), .val (.int (Int32.ofNat Pn)), .val (.ref b45), .val (.int (sv53 - (Int32.ofNat Pn))), .val (.int (Int32.ofNat (own_val yy Pn Cn))), .unset, .unset] [(.int (sv53 - (Int32.ofNat (Pn + Cn))))])) _
    refine XS.istore X66.here hx rfl (hb hby at_157) rfl (l' := #[.val (.long q0), .second, .val (.int p1), .val (.int p2), .val (.long yy), .second, .val (.ref b2), .val (.int (Int32.ofNat Cn)), .val (.int (Int32.ofNat Pn)), .val (.ref b45), .val (.int (sv53 - (Int32.ofNat Pn))), .val (.int (Int32.ofNat (own_val yy Pn Cn))), .val (.int (sv53 - (Int32.ofNat (Pn + Cn)))), .unset]) rfl ?_
    show Steps p.tables e below (T66.setTop (mkF m 159 #[.val (.long q0), .second, .val (.int p1), .val (.int p2), .val (.long yy), .second, .val (.ref b2), .val (.int (Int32.ofNat Cn)), .val (.int (Int32.ofNat Pn)), .val (.ref b45), .val (.int (sv53 - (Int32.ofNat Pn))), .val (.int (Int32.ofNat (own_val yy Pn Cn))), .val (.int (sv53 - (Int32.ofNat (Pn + Cn)))), .unset] [])) _
    refine XS.iload X66.here hx rfl (hb hby at_159) rfl ?_
    show Steps p.tables e below (T66.setTop (mkF m 161 #[.val (.long q0), .second, .val (.int p1), .val (.int p2), .val (.long yy), .second, .val (.ref b2), .val (.int (Int32.ofNat Cn)), .val (.int (Int32.ofNat Pn)), .val (.ref b45), .val (.int (sv53 - (Int32.ofNat Pn))), .val (.int (Int32.ofNat (own_val yy Pn Cn))), .val (.int (sv53 - (Int32.ofNat (Pn + Cn)))), .unset] [(.int (Int32.ofNat Cn))])) _
    exact k
  refine own_step (T' := T66) (g' := (mkF m 180 #[.val (.long q0), .second, .val (.int p1), .val (.int p2), .val (.long yy), .second, .val (.ref b2), .val (.int (Int32.ofNat Cn)), .val (.int (Int32.ofNat Pn)), .val (.ref b45), .val (.int (sv53 - (Int32.ofNat Pn))), .val (.int (Int32.ofNat (own_val yy Pn Cn))), .val (.int (sv53 - (Int32.ofNat (Pn + Cn)))), .unset] [(.int (own_pick ((Int32.ofNat Cn) = (0 : Int32)) (0 : Int32) ((((yy <<< ((Int32.ofNat Pn) &&& 0x3f).toInt64).toUInt64 >>> (((64 : Int32) - (Int32.ofNat Cn)) &&& 0x3f).toInt64.toUInt64).toInt64).toInt32)))])) (fun t k => ?_) ?_
  · show Steps p.tables e below (T66.setTop (mkF m 161 #[.val (.long q0), .second, .val (.int p1), .val (.int p2), .val (.long yy), .second, .val (.ref b2), .val (.int (Int32.ofNat Cn)), .val (.int (Int32.ofNat Pn)), .val (.ref b45), .val (.int (sv53 - (Int32.ofNat Pn))), .val (.int (Int32.ofNat (own_val yy Pn Cn))), .val (.int (sv53 - (Int32.ofNat (Pn + Cn)))), .unset] [(.int (Int32.ofNat Cn))])) _
    by_cases hq : (Int32.ofNat Cn) = (0 : Int32)
    · simp only [own_pick_pos hq, own_pickJ_pos hq] at k
      refine XS.ifNo X66.here hx rfl (hb hby at_161) rfl ((if0 _ _).trans (teq hq).2) ?_
      show Steps p.tables e below (T66.setTop (mkF m 164 #[.val (.long q0), .second, .val (.int p1), .val (.int p2), .val (.long yy), .second, .val (.ref b2), .val (.int (Int32.ofNat Cn)), .val (.int (Int32.ofNat Pn)), .val (.ref b45), .val (.int (sv53 - (Int32.ofNat Pn))), .val (.int (Int32.ofNat (own_val yy Pn Cn))), .val (.int (sv53 - (Int32.ofNat (Pn + Cn)))), .unset] [])) _
      refine XS.iconst X66.here hx rfl (hb hby at_164) ?_
      show Steps p.tables e below (T66.setTop (mkF m 165 #[.val (.long q0), .second, .val (.int p1), .val (.int p2), .val (.long yy), .second, .val (.ref b2), .val (.int (Int32.ofNat Cn)), .val (.int (Int32.ofNat Pn)), .val (.ref b45), .val (.int (sv53 - (Int32.ofNat Pn))), .val (.int (Int32.ofNat (own_val yy Pn Cn))), .val (.int (sv53 - (Int32.ofNat (Pn + Cn)))), .unset] [(.int (0 : Int32))])) _
      refine XS.goto X66.here hx rfl (pc0 := 165) (pc' := 180) rfl (hb hby at_165) (by decide) (by decide) ?_
      show Steps p.tables e below (T66.setTop (mkF m 180 #[.val (.long q0), .second, .val (.int p1), .val (.int p2), .val (.long yy), .second, .val (.ref b2), .val (.int (Int32.ofNat Cn)), .val (.int (Int32.ofNat Pn)), .val (.ref b45), .val (.int (sv53 - (Int32.ofNat Pn))), .val (.int (Int32.ofNat (own_val yy Pn Cn))), .val (.int (sv53 - (Int32.ofNat (Pn + Cn)))), .unset] [(.int (0 : Int32))])) _
      exact k
    · simp only [own_pick_neg hq, own_pickJ_neg hq] at k
      refine XS.ifYes X66.here hx rfl (pc0 := 161) (pc' := 168) rfl (hb hby at_161) rfl ((if0 _ _).trans (feq hq).2) (by decide) (by decide) ?_
      show Steps p.tables e below (T66.setTop (mkF m 168 #[.val (.long q0), .second, .val (.int p1), .val (.int p2), .val (.long yy), .second, .val (.ref b2), .val (.int (Int32.ofNat Cn)), .val (.int (Int32.ofNat Pn)), .val (.ref b45), .val (.int (sv53 - (Int32.ofNat Pn))), .val (.int (Int32.ofNat (own_val yy Pn Cn))), .val (.int (sv53 - (Int32.ofNat (Pn + Cn)))), .unset] [])) _
      refine XS.lload X66.here hx rfl (hb hby at_168) rfl ?_
      show Steps p.tables e below (T66.setTop (mkF m 170 #[.val (.long q0), .second, .val (.int p1), .val (.int p2), .val (.long yy), .second, .val (.ref b2), .val (.int (Int32.ofNat Cn)), .val (.int (Int32.ofNat Pn)), .val (.ref b45), .val (.int (sv53 - (Int32.ofNat Pn))), .val (.int (Int32.ofNat (own_val yy Pn Cn))), .val (.int (sv53 - (Int32.ofNat (Pn + Cn)))), .unset] [(.long yy)])) _
      refine XS.iload X66.here hx rfl (hb hby at_170) rfl ?_
      show Steps p.tables e below (T66.setTop (mkF m 172 #[.val (.long q0), .second, .val (.int p1), .val (.int p2), .val (.long yy), .second, .val (.ref b2), .val (.int (Int32.ofNat Cn)), .val (.int (Int32.ofNat Pn)), .val (.ref b45), .val (.int (sv53 - (Int32.ofNat Pn))), .val (.int (Int32.ofNat (own_val yy Pn Cn))), .val (.int (sv53 - (Int32.ofNat (Pn + Cn)))), .unset] [(.int (Int32.ofNat Pn)), (.long yy)])) _
      refine XS.lshl X66.here hx rfl (hb hby at_172) rfl ?_
      show Steps p.tables e below (T66.setTop (mkF m 173 #[.val (.long q0), .second, .val (.int p1), .val (.int p2), .val (.long yy), .second, .val (.ref b2), .val (.int (Int32.ofNat Cn)), .val (.int (Int32.ofNat Pn)), .val (.ref b45), .val (.int (sv53 - (Int32.ofNat Pn))), .val (.int (Int32.ofNat (own_val yy Pn Cn))), .val (.int (sv53 - (Int32.ofNat (Pn + Cn)))), .unset] [(.long (yy <<< ((Int32.ofNat Pn) &&& 0x3f).toInt64))])) _
      refine XS.bipush X66.here hx rfl (hb hby at_173) ?_
      show Steps p.tables e below (T66.setTop (mkF m 175 #[.val (.long q0), .second, .val (.int p1), .val (.int p2), .val (.long yy), .second, .val (.ref b2), .val (.int (Int32.ofNat Cn)), .val (.int (Int32.ofNat Pn)), .val (.ref b45), .val (.int (sv53 - (Int32.ofNat Pn))), .val (.int (Int32.ofNat (own_val yy Pn Cn))), .val (.int (sv53 - (Int32.ofNat (Pn + Cn)))), .unset] [(.int (64 : Int32)), (.long (yy <<< ((Int32.ofNat Pn) &&& 0x3f).toInt64))])) _
      refine XS.iload X66.here hx rfl (hb hby at_175) rfl ?_
      show Steps p.tables e below (T66.setTop (mkF m 177 #[.val (.long q0), .second, .val (.int p1), .val (.int p2), .val (.long yy), .second, .val (.ref b2), .val (.int (Int32.ofNat Cn)), .val (.int (Int32.ofNat Pn)), .val (.ref b45), .val (.int (sv53 - (Int32.ofNat Pn))), .val (.int (Int32.ofNat (own_val yy Pn Cn))), .val (.int (sv53 - (Int32.ofNat (Pn + Cn)))), .unset] [(.int (Int32.ofNat Cn)), (.int (64 : Int32)), (.long (yy <<< ((Int32.ofNat Pn) &&& 0x3f).toInt64))])) _
      refine XS.isub X66.here hx rfl (hb hby at_177) rfl ?_
      show Steps p.tables e below (T66.setTop (mkF m 178 #[.val (.long q0), .second, .val (.int p1), .val (.int p2), .val (.long yy), .second, .val (.ref b2), .val (.int (Int32.ofNat Cn)), .val (.int (Int32.ofNat Pn)), .val (.ref b45), .val (.int (sv53 - (Int32.ofNat Pn))), .val (.int (Int32.ofNat (own_val yy Pn Cn))), .val (.int (sv53 - (Int32.ofNat (Pn + Cn)))), .unset] [(.int ((64 : Int32) - (Int32.ofNat Cn))), (.long (yy <<< ((Int32.ofNat Pn) &&& 0x3f).toInt64))])) _
      refine XS.lushr X66.here hx rfl (hb hby at_178) rfl ?_
      show Steps p.tables e below (T66.setTop (mkF m 179 #[.val (.long q0), .second, .val (.int p1), .val (.int p2), .val (.long yy), .second, .val (.ref b2), .val (.int (Int32.ofNat Cn)), .val (.int (Int32.ofNat Pn)), .val (.ref b45), .val (.int (sv53 - (Int32.ofNat Pn))), .val (.int (Int32.ofNat (own_val yy Pn Cn))), .val (.int (sv53 - (Int32.ofNat (Pn + Cn)))), .unset] [(.long (((yy <<< ((Int32.ofNat Pn) &&& 0x3f).toInt64).toUInt64 >>> (((64 : Int32) - (Int32.ofNat Cn)) &&& 0x3f).toInt64.toUInt64).toInt64))])) _
      refine XS.l2i X66.here hx rfl (hb hby at_179) rfl ?_
      show Steps p.tables e below (T66.setTop (mkF m 180 #[.val (.long q0), .second, .val (.int p1), .val (.int p2), .val (.long yy), .second, .val (.ref b2), .val (.int (Int32.ofNat Cn)), .val (.int (Int32.ofNat Pn)), .val (.ref b45), .val (.int (sv53 - (Int32.ofNat Pn))), .val (.int (Int32.ofNat (own_val yy Pn Cn))), .val (.int (sv53 - (Int32.ofNat (Pn + Cn)))), .unset] [(.int ((((yy <<< ((Int32.ofNat Pn) &&& 0x3f).toInt64).toUInt64 >>> (((64 : Int32) - (Int32.ofNat Cn)) &&& 0x3f).toInt64.toUInt64).toInt64).toInt32))])) _
      exact k
  show own_Run p e below s _ _ _ T66 (mkF m 180 #[.val (.long q0), .second, .val (.int p1), .val (.int p2), .val (.long yy), .second, .val (.ref b2), .val (.int (Int32.ofNat Cn)), .val (.int (Int32.ofNat Pn)), .val (.ref b45), .val (.int (sv53 - (Int32.ofNat Pn))), .val (.int (Int32.ofNat (own_val yy Pn Cn))), .val (.int (sv53 - (Int32.ofNat (Pn + Cn)))), .unset] [(.int (own_pick ((Int32.ofNat Cn) = (0 : Int32)) (0 : Int32) ((((yy <<< ((Int32.ofNat Pn) &&& 0x3f).toInt64).toUInt64 >>> (((64 : Int32) - (Int32.ofNat Cn)) &&& 0x3f).toInt64.toUInt64).toInt64).toInt32)))])
  refine own_step (T' := T66) (g' := (mkF m 204 #[.val (.long q0), .second, .val (.int p1), .val (.int p2), .val (.long yy), .second, .val (.ref b2), .val (.int (Int32.ofNat Cn)), .val (.int (Int32.ofNat Pn)), .val (.ref b45), .val (.int (sv53 - (Int32.ofNat Pn))), .val (.int (Int32.ofNat (own_val yy Pn Cn))), .val (.int (sv53 - (Int32.ofNat (Pn + Cn)))), .val (.int (own_pick ((Int32.ofNat Cn) = (0 : Int32)) (0 : Int32) ((((yy <<< ((Int32.ofNat Pn) &&& 0x3f).toInt64).toUInt64 >>> (((64 : Int32) - (Int32.ofNat Cn)) &&& 0x3f).toInt64.toUInt64).toInt64).toInt32)))] [(.int (1 : Int32))])) (fun t k => ?_) ?_
  · show Steps p.tables e below (T66.setTop (mkF m 180 #[.val (.long q0), .second, .val (.int p1), .val (.int p2), .val (.long yy), .second, .val (.ref b2), .val (.int (Int32.ofNat Cn)), .val (.int (Int32.ofNat Pn)), .val (.ref b45), .val (.int (sv53 - (Int32.ofNat Pn))), .val (.int (Int32.ofNat (own_val yy Pn Cn))), .val (.int (sv53 - (Int32.ofNat (Pn + Cn)))), .unset] [(.int (own_pick ((Int32.ofNat Cn) = (0 : Int32)) (0 : Int32) ((((yy <<< ((Int32.ofNat Pn) &&& 0x3f).toInt64).toUInt64 >>> (((64 : Int32) - (Int32.ofNat Cn)) &&& 0x3f).toInt64.toUInt64).toInt64).toInt32)))])) _
    refine XS.istore X66.here hx rfl (hb hby at_180) rfl (l' := #[.val (.long q0), .second, .val (.int p1), .val (.int p2), .val (.long yy), .second, .val (.ref b2), .val (.int (Int32.ofNat Cn)), .val (.int (Int32.ofNat Pn)), .val (.ref b45), .val (.int (sv53 - (Int32.ofNat Pn))), .val (.int (Int32.ofNat (own_val yy Pn Cn))), .val (.int (sv53 - (Int32.ofNat (Pn + Cn)))), .val (.int (own_pick ((Int32.ofNat Cn) = (0 : Int32)) (0 : Int32) ((((yy <<< ((Int32.ofNat Pn) &&& 0x3f).toInt64).toUInt64 >>> (((64 : Int32) - (Int32.ofNat Cn)) &&& 0x3f).toInt64.toUInt64).toInt64).toInt32)))]) rfl ?_
    show Steps p.tables e below (T66.setTop (mkF m 182 #[.val (.long q0), .second, .val (.int p1), .val (.int p2), .val (.long yy), .second, .val (.ref b2), .val (.int (Int32.ofNat Cn)), .val (.int (Int32.ofNat Pn)), .val (.ref b45), .val (.int (sv53 - (Int32.ofNat Pn))), .val (.int (Int32.ofNat (own_val yy Pn Cn))), .val (.int (sv53 - (Int32.ofNat (Pn + Cn)))), .val (.int (own_pick ((Int32.ofNat Cn) = (0 : Int32)) (0 : Int32) ((((yy <<< ((Int32.ofNat Pn) &&& 0x3f).toInt64).toUInt64 >>> (((64 : Int32) - (Int32.ofNat Cn)) &&& 0x3f).toInt64.toUInt64).toInt64).toInt32)))] [])) _
    refine XS.iload X66.here hx rfl (hb hby at_182) rfl ?_
    show Steps p.tables e below (T66.setTop (mkF m 184 #[.val (.long q0), .second, .val (.int p1), .val (.int p2), .val (.long yy), .second, .val (.ref b2), .val (.int (Int32.ofNat Cn)), .val (.int (Int32.ofNat Pn)), .val (.ref b45), .val (.int (sv53 - (Int32.ofNat Pn))), .val (.int (Int32.ofNat (own_val yy Pn Cn))), .val (.int (sv53 - (Int32.ofNat (Pn + Cn)))), .val (.int (own_pick ((Int32.ofNat Cn) = (0 : Int32)) (0 : Int32) ((((yy <<< ((Int32.ofNat Pn) &&& 0x3f).toInt64).toUInt64 >>> (((64 : Int32) - (Int32.ofNat Cn)) &&& 0x3f).toInt64.toUInt64).toInt64).toInt32)))] [(.int (Int32.ofNat (own_val yy Pn Cn)))])) _
    refine XS.iload X66.here hx rfl (hb hby at_184) rfl ?_
    show Steps p.tables e below (T66.setTop (mkF m 186 #[.val (.long q0), .second, .val (.int p1), .val (.int p2), .val (.long yy), .second, .val (.ref b2), .val (.int (Int32.ofNat Cn)), .val (.int (Int32.ofNat Pn)), .val (.ref b45), .val (.int (sv53 - (Int32.ofNat Pn))), .val (.int (Int32.ofNat (own_val yy Pn Cn))), .val (.int (sv53 - (Int32.ofNat (Pn + Cn)))), .val (.int (own_pick ((Int32.ofNat Cn) = (0 : Int32)) (0 : Int32) ((((yy <<< ((Int32.ofNat Pn) &&& 0x3f).toInt64).toUInt64 >>> (((64 : Int32) - (Int32.ofNat Cn)) &&& 0x3f).toInt64.toUInt64).toInt64).toInt32)))] [(.int (own_pick ((Int32.ofNat Cn) = (0 : Int32)) (0 : Int32) ((((yy <<< ((Int32.ofNat Pn) &&& 0x3f).toInt64).toUInt64 >>> (((64 : Int32) - (Int32.ofNat Cn)) &&& 0x3f).toInt64.toUInt64).toInt64).toInt32))), (.int (Int32.ofNat (own_val yy Pn Cn)))])) _
    refine XS.icmpNo X66.here hx rfl (hb hby at_186) rfl (teq (own_exp_eq yy hC hPC : (Int32.ofNat (own_val yy Pn Cn)) = (own_pick ((Int32.ofNat Cn) = (0 : Int32)) (0 : Int32) ((((yy <<< ((Int32.ofNat Pn) &&& 0x3f).toInt64).toUInt64 >>> (((64 : Int32) - (Int32.ofNat Cn)) &&& 0x3f).toInt64.toUInt64).toInt64).toInt32)))).2 ?_
    show Steps p.tables e below (T66.setTop (mkF m 189 #[.val (.long q0), .second, .val (.int p1), .val (.int p2), .val (.long yy), .second, .val (.ref b2), .val (.int (Int32.ofNat Cn)), .val (.int (Int32.ofNat Pn)), .val (.ref b45), .val (.int (sv53 - (Int32.ofNat Pn))), .val (.int (Int32.ofNat (own_val yy Pn Cn))), .val (.int (sv53 - (Int32.ofNat (Pn + Cn)))), .val (.int (own_pick ((Int32.ofNat Cn) = (0 : Int32)) (0 : Int32) ((((yy <<< ((Int32.ofNat Pn) &&& 0x3f).toInt64).toUInt64 >>> (((64 : Int32) - (Int32.ofNat Cn)) &&& 0x3f).toInt64.toUInt64).toInt64).toInt32)))] [])) _
    refine XS.iload X66.here hx rfl (hb hby at_189) rfl ?_
    show Steps p.tables e below (T66.setTop (mkF m 191 #[.val (.long q0), .second, .val (.int p1), .val (.int p2), .val (.long yy), .second, .val (.ref b2), .val (.int (Int32.ofNat Cn)), .val (.int (Int32.ofNat Pn)), .val (.ref b45), .val (.int (sv53 - (Int32.ofNat Pn))), .val (.int (Int32.ofNat (own_val yy Pn Cn))), .val (.int (sv53 - (Int32.ofNat (Pn + Cn)))), .val (.int (own_pick ((Int32.ofNat Cn) = (0 : Int32)) (0 : Int32) ((((yy <<< ((Int32.ofNat Pn) &&& 0x3f).toInt64).toUInt64 >>> (((64 : Int32) - (Int32.ofNat Cn)) &&& 0x3f).toInt64.toUInt64).toInt64).toInt32)))] [(.int (sv53 - (Int32.ofNat Pn)))])) _
    refine XS.iload X66.here hx rfl (hb hby at_191) rfl ?_
    show Steps p.tables e below (T66.setTop (mkF m 193 #[.val (.long q0), .second, .val (.int p1), .val (.int p2), .val (.long yy), .second, .val (.ref b2), .val (.int (Int32.ofNat Cn)), .val (.int (Int32.ofNat Pn)), .val (.ref b45), .val (.int (sv53 - (Int32.ofNat Pn))), .val (.int (Int32.ofNat (own_val yy Pn Cn))), .val (.int (sv53 - (Int32.ofNat (Pn + Cn)))), .val (.int (own_pick ((Int32.ofNat Cn) = (0 : Int32)) (0 : Int32) ((((yy <<< ((Int32.ofNat Pn) &&& 0x3f).toInt64).toUInt64 >>> (((64 : Int32) - (Int32.ofNat Cn)) &&& 0x3f).toInt64.toUInt64).toInt64).toInt32)))] [(.int (sv53 - (Int32.ofNat (Pn + Cn)))), (.int (sv53 - (Int32.ofNat Pn)))])) _
    refine XS.isub X66.here hx rfl (hb hby at_193) rfl ?_
    show Steps p.tables e below (T66.setTop (mkF m 194 #[.val (.long q0), .second, .val (.int p1), .val (.int p2), .val (.long yy), .second, .val (.ref b2), .val (.int (Int32.ofNat Cn)), .val (.int (Int32.ofNat Pn)), .val (.ref b45), .val (.int (sv53 - (Int32.ofNat Pn))), .val (.int (Int32.ofNat (own_val yy Pn Cn))), .val (.int (sv53 - (Int32.ofNat (Pn + Cn)))), .val (.int (own_pick ((Int32.ofNat Cn) = (0 : Int32)) (0 : Int32) ((((yy <<< ((Int32.ofNat Pn) &&& 0x3f).toInt64).toUInt64 >>> (((64 : Int32) - (Int32.ofNat Cn)) &&& 0x3f).toInt64.toUInt64).toInt64).toInt32)))] [(.int ((sv53 - (Int32.ofNat Pn)) - (sv53 - (Int32.ofNat (Pn + Cn)))))])) _
    refine XS.iload X66.here hx rfl (hb hby at_194) rfl ?_
    show Steps p.tables e below (T66.setTop (mkF m 196 #[.val (.long q0), .second, .val (.int p1), .val (.int p2), .val (.long yy), .second, .val (.ref b2), .val (.int (Int32.ofNat Cn)), .val (.int (Int32.ofNat Pn)), .val (.ref b45), .val (.int (sv53 - (Int32.ofNat Pn))), .val (.int (Int32.ofNat (own_val yy Pn Cn))), .val (.int (sv53 - (Int32.ofNat (Pn + Cn)))), .val (.int (own_pick ((Int32.ofNat Cn) = (0 : Int32)) (0 : Int32) ((((yy <<< ((Int32.ofNat Pn) &&& 0x3f).toInt64).toUInt64 >>> (((64 : Int32) - (Int32.ofNat Cn)) &&& 0x3f).toInt64.toUInt64).toInt64).toInt32)))] [(.int (Int32.ofNat Cn)), (.int ((sv53 - (Int32.ofNat Pn)) - (sv53 - (Int32.ofNat (Pn + Cn)))))])) _
    refine XS.icmpNo X66.here hx rfl (hb hby at_196) rfl (teq (own_left_eq _ Pn Cn : ((sv53 - (Int32.ofNat Pn)) - (sv53 - (Int32.ofNat (Pn + Cn)))) = (Int32.ofNat Cn))).2 ?_
    show Steps p.tables e below (T66.setTop (mkF m 199 #[.val (.long q0), .second, .val (.int p1), .val (.int p2), .val (.long yy), .second, .val (.ref b2), .val (.int (Int32.ofNat Cn)), .val (.int (Int32.ofNat Pn)), .val (.ref b45), .val (.int (sv53 - (Int32.ofNat Pn))), .val (.int (Int32.ofNat (own_val yy Pn Cn))), .val (.int (sv53 - (Int32.ofNat (Pn + Cn)))), .val (.int (own_pick ((Int32.ofNat Cn) = (0 : Int32)) (0 : Int32) ((((yy <<< ((Int32.ofNat Pn) &&& 0x3f).toInt64).toUInt64 >>> (((64 : Int32) - (Int32.ofNat Cn)) &&& 0x3f).toInt64.toUInt64).toInt64).toInt32)))] [])) _
    refine XS.iconst X66.here hx rfl (hb hby at_199) ?_
    show Steps p.tables e below (T66.setTop (mkF m 200 #[.val (.long q0), .second, .val (.int p1), .val (.int p2), .val (.long yy), .second, .val (.ref b2), .val (.int (Int32.ofNat Cn)), .val (.int (Int32.ofNat Pn)), .val (.ref b45), .val (.int (sv53 - (Int32.ofNat Pn))), .val (.int (Int32.ofNat (own_val yy Pn Cn))), .val (.int (sv53 - (Int32.ofNat (Pn + Cn)))), .val (.int (own_pick ((Int32.ofNat Cn) = (0 : Int32)) (0 : Int32) ((((yy <<< ((Int32.ofNat Pn) &&& 0x3f).toInt64).toUInt64 >>> (((64 : Int32) - (Int32.ofNat Cn)) &&& 0x3f).toInt64.toUInt64).toInt64).toInt32)))] [(.int (1 : Int32))])) _
    refine XS.goto X66.here hx rfl (pc0 := 200) (pc' := 204) rfl (hb hby at_200) (by decide) (by decide) ?_
    show Steps p.tables e below (T66.setTop (mkF m 204 #[.val (.long q0), .second, .val (.int p1), .val (.int p2), .val (.long yy), .second, .val (.ref b2), .val (.int (Int32.ofNat Cn)), .val (.int (Int32.ofNat Pn)), .val (.ref b45), .val (.int (sv53 - (Int32.ofNat Pn))), .val (.int (Int32.ofNat (own_val yy Pn Cn))), .val (.int (sv53 - (Int32.ofNat (Pn + Cn)))), .val (.int (own_pick ((Int32.ofNat Cn) = (0 : Int32)) (0 : Int32) ((((yy <<< ((Int32.ofNat Pn) &&& 0x3f).toInt64).toUInt64 >>> (((64 : Int32) - (Int32.ofNat Cn)) &&& 0x3f).toInt64.toUInt64).toInt64).toInt32)))] [(.int (1 : Int32))])) _
    exact k
  refine own_retN X66 hx (t := .boolean) Bd.returns (by simp) (hb hby at_204) (BodyLoose.notSynchronized Bd) (by decide) (by decide) ?_
  rw [show T66.heap = T62.heap from eq66]
  exact ⟨rfl, N66⟩
set_option maxRecDepth 65536 in
set_option maxHeartbeats 40000000 in
theorem comes_1 {Post : Tables → Env → Array Value → State → Outcome → State → Prop} (hpost : ∀ tb e args s v u, (limb_1_1.after args s (.returned v) u = true ∧ limb_1_2.after args s (.returned v) u = true ∧ True) → FrameEnd s (.returned v) u (Jvm.fieldLocs frame_1_writes args s ++ Jvm.arrayLocs frame_1_arrays args s ++ Jvm.staticLocs frame_1_statics s) 16 128 → Post tb e args s (.returned v) u) :
    ArmFor flags0 classFile x code maxLocals ret World_1 tables_1 room_1 Calls_1 rest_1 Pre_1 Post := by
  intro l hfl _ _ p e ha hc hk s m args below hf hA hF happ hP
  obtain ⟨hcalls, hrest, hpre⟩ := hP
  obtain ⟨-, -, -, hnamed, -, -, -, hat⟩ := (Spec.applies_iff hf).mp happ
  obtain ⟨hg, hn⟩ := and_e (Cond.before_iff.mp (show (Jvm.Cond.and given_1 narrow_1).before args s = true from hpre))
  obtain ⟨gc, gr0⟩ := and_e hg
  obtain ⟨ga0, gr1⟩ := and_e gr0
  obtain ⟨ga1, gr2⟩ := and_e gr1
  obtain ⟨w0, w1, w2, rfl⟩ : ∃ w0 w1 w2 : Value, args = #[w0, w1, w2] := by
    have hs : args.size = 3 := by simpa [Cond.value, given_1] using gc
    obtain ⟨L⟩ := args
    match L, hs with
    | [w0, w1, w2], _ => exact ⟨w0, w1, w2, rfl⟩
  have hw := fun d (hd : d ∈ tables_1) => atoms_spec (ws := Jvm.Cond.code x code maxLocals ret :: tables_1) hat d (List.mem_cons_of_mem _ hd)
  obtain ⟨i0, ei0⟩ := isL_v ga0
  obtain rfl : w0 = (.long i0) := Option.some.inj ei0
  obtain ⟨i1, ei1⟩ := is_v ga1
  obtain rfl : w1 = (.int i1) := Option.some.inj ei1
  obtain ⟨i2, ei2⟩ := is_v gr2
  obtain rfl : w2 = (.int i2) := Option.some.inj ei2
  obtain ⟨n, o, h1, h2, h3, _, L, rfl, ⟨rfl, N⟩, hq⟩ := rm0 l s _ hw tables_1 i0 i1 i2  s.heap s.heap.size (Nat.le_refl _)  p e ha hc hk s m _ below hf ((Spec.applies_iff_loose hf).mp happ).1 ⟨rfl, State.Warmed39.refl s, rfl⟩ trivial
  refine ⟨n, _, h1, h2, h3, hpost _ _ _ _ _ _ ⟨Cond.after_iff.mpr rfl, Cond.after_iff.mpr (eq_i res_at (Term.int_eval (1)) rfl), trivial⟩ ⟨hq.1, hq.2.1, (hq.2.2.sift fun y hy => Or.inr (N y hy)).mono (by decide) (by decide)⟩⟩
theorem main_1_1 : Claimed_1_1 := comes_1 fun _ _ _ _ _ _ h hF => ⟨h.1, hF⟩
theorem main_1_2 : Claimed_1_2 := comes_1 fun _ _ _ _ _ _ h hF => ⟨h.2.1, hF⟩
end Jvm.Pilot.@@N@@
namespace Jvm.Pilot.@@N@@
open Jvm Jvm.ClassFile Sem Op Lib Jvm.Free Jvm.Stand Jvm.Pilot.@@N@@.Jvm.D
/-! MADE BY PROGRAM (witnessworld.py) out of the Statement's table words and the real class files: 15 classes; the members and pool entries that the words name. The judged class is class 1, her method 2. -/
namespace start1
open Jvm.ClassFile
def u (s : String) : CpInfo := .utf8 (stringToUtf16 s)
/-- a pool by its gaps: so many unusable entries, then the entry; so many at the end -/
def gap : Nat → List CpInfo → List CpInfo
  | 0, r => r
  | n + 1, r => .unusable :: gap n r
def poolList (es : List (Nat × CpInfo)) (last : Nat) : List CpInfo := es.foldr (fun e r => gap e.1 (e.2 :: r)) (gap last [])
def pool (es : List (Nat × CpInfo)) (last : Nat) : Array CpInfo := ⟨poolList es last⟩
def fileOf (pool : Array CpInfo) (this : Nat) (attrs : Array Attribute := #[]) (ms : Array MethodInfo := #[]) (fl : Nat := 33) (sup : Nat := 0) (ifs : Array Nat := #[]) (fds : Array FieldInfo := #[]) : ClassFile where
  minorVersion := 0
  majorVersion := 65
  constantPool := pool
  accessFlags := fl
  thisClass := this
  superClass := sup
  interfaces := ifs
  fields := fds
  methods := ms
  attributes := attrs
def plain (name : String) (sup : Option ClassId) : Class where
  name := name
  kind := .ordinary
  loader := none
  accessFlags := 33
  super := sup
  interfaces := #[]
  cf := none
  fields := #[]
  methods := #[]
  instanceTypes := #[]
  staticTypes := #[]
  resolved := #[]
  callSites := []
  init := .initialized
  statics := none
  mirror := none

def pool0 : Array CpInfo := pool [(5, u "<init>"), (0, u "()V"), (1, .class_ 10), (1, u "java/lang/Object"), (85, u "clone"), (0, u "()Ljava/lang/Object;")] 26

def k0c0 : Code := { maxStack := 0, maxLocals := 1, code := object_method_1_code, exceptionTable := #[], attributes := #[] }
def k0m0 : Method := { name := "<init>", desc := "()V", sig := { parameters := [], returnType := none }, accessFlags := 1, code := some k0c0 }
def k0m1 : Method := { name := "clone", desc := "()Ljava/lang/Object;", sig := { parameters := [], returnType := some (.object "java/lang/Object") }, accessFlags := 260, code := none }
/-- java/lang/Object -/
def k0 : Class := { plain "java/lang/Object" none with
  accessFlags := 33
  interfaces := #[]
  cf := some (fileOf pool0 8 #[] #[{ accessFlags := 1, nameIndex := 5, descriptorIndex := 6, attributes := #[] }, { accessFlags := 260, nameIndex := 96, descriptorIndex := 97, attributes := #[] }] 33 0 #[] #[])
  fields := #[]
  methods := #[k0m0, k0m1]
  instanceTypes := #[]
  staticTypes := #[]
  resolved := Array.replicate 124 none
  statics := none }

def pool1 : Array CpInfo := pool [(2, .class_ 4), (1, u "java/lang/Object"), (0, u "<init>"), (0, u "()V"), (0, .long 16777215), (1, .long 3), (1, .long 140737488355328), (1, .long 549755813888), (1, .long 2147483648), (1, .long 8388608), (1, .long 32768), (1, .long 128), (1, .methodref 24 25), (0, .class_ 26), (0, .nameAndType 27 28), (0, u "lazyframe/media/NalPayloadUPinLaw"), (0, u "noEmulation"), (0, u "(J)J"), (0, .integer 2147483647), (0, .class_ 31), (0, u "lazyframe/media/NalPayload"), (0, .methodref 30 33), (0, .nameAndType 5 34), (0, u "([BI)V"), (0, .methodref 30 36), (0, .nameAndType 37 38), (0, u "skip"), (0, u "(I)V"), (0, .methodref 30 40), (0, .nameAndType 41 42), (0, u "left"), (0, u "()I"), (0, .methodref 30 44), (0, .nameAndType 45 46), (0, u "u"), (0, u "(I)I"), (3, u "law"), (0, u "(JII)Z")] 4

def k1m0 : Method := { name := "<init>", desc := "()V", sig := { parameters := [], returnType := none }, accessFlags := 1, code := none }
def k1c1 : Code := { maxStack := 4, maxLocals := 4, code := method_2_code, exceptionTable := #[], attributes := #[] }
def k1m1 : Method := { name := "noEmulation", desc := "(J)J", sig := { parameters := [.long], returnType := some .long }, accessFlags := 10, code := some k1c1 }
def k1c2 : Code := { maxStack := 5, maxLocals := 14, code := code, exceptionTable := #[], attributes := #[] }
def k1m2 : Method := { name := "law", desc := "(JII)Z", sig := { parameters := [.long, .int, .int], returnType := some .boolean }, accessFlags := 9, code := some k1c2 }
/-- lazyframe/media/NalPayloadUPinLaw -/
def k1 : Class := { plain "lazyframe/media/NalPayloadUPinLaw" (some 0) with
  accessFlags := 49
  interfaces := #[]
  cf := some (fileOf pool1 24 #[] #[{ accessFlags := 1, nameIndex := 5, descriptorIndex := 6, attributes := #[] }, { accessFlags := 10, nameIndex := 27, descriptorIndex := 28, attributes := #[] }, { accessFlags := 9, nameIndex := 50, descriptorIndex := 51, attributes := #[] }] 49 2 #[] #[])
  fields := #[]
  methods := #[k1m0, k1m1, k1m2]
  instanceTypes := #[]
  staticTypes := #[]
  resolved := Array.replicate 56 none
  statics := none }

def pool2 : Array CpInfo := pool [(1, .methodref 2 3), (0, .class_ 4), (0, .nameAndType 5 6), (0, u "java/lang/Object"), (0, u "<init>"), (0, u "()V"), (0, .methodref 8 9), (0, .class_ 10), (0, .nameAndType 11 12), (0, u "java/util/Arrays"), (0, u "copyOf"), (0, u "([BI)[B"), (0, .fieldref 14 15), (0, .class_ 16), (0, .nameAndType 17 18), (0, u "lazyframe/media/NalPayload"), (0, u "payload"), (0, u "[B"), (0, .methodref 20 21), (0, .class_ 22), (0, .nameAndType 23 24), (0, u "java/lang/Integer"), (0, u "numberOfTrailingZeros"), (0, u "(I)I"), (0, .fieldref 14 26), (0, .nameAndType 27 28), (0, u "stop"), (0, u "I"), (0, .fieldref 14 30), (0, .nameAndType 31 28), (0, u "bit"), (2, u "u"), (7, u "([BI)V"), (4, u "left"), (0, u "()I"), (3, u "skip"), (0, u "(I)V")] 2

def k2c0 : Code := { maxStack := 4, maxLocals := 7, code := prog_64_method_1_code, exceptionTable := #[], attributes := #[] }
def k2m0 : Method := { name := "<init>", desc := "([BI)V", sig := { parameters := [(.array .byte), .int], returnType := none }, accessFlags := 0, code := some k2c0 }
def k2c1 : Code := { maxStack := 2, maxLocals := 1, code := prog_64_method_2_code, exceptionTable := #[], attributes := #[] }
def k2m1 : Method := { name := "left", desc := "()I", sig := { parameters := [], returnType := some .int }, accessFlags := 0, code := some k2c1 }
def k2c2 : Code := { maxStack := 5, maxLocals := 5, code := prog_64_method_3_code, exceptionTable := #[], attributes := #[] }
def k2m2 : Method := { name := "u", desc := "(I)I", sig := { parameters := [.int], returnType := some .int }, accessFlags := 0, code := some k2c2 }
def k2c3 : Code := { maxStack := 3, maxLocals := 2, code := prog_64_method_6_code, exceptionTable := #[], attributes := #[] }
def k2m3 : Method := { name := "skip", desc := "(I)V", sig := { parameters := [.int], returnType := none }, accessFlags := 0, code := some k2c3 }
/-- lazyframe/media/NalPayload -/
def k2 : Class := { plain "lazyframe/media/NalPayload" (some 0) with
  accessFlags := 48
  interfaces := #[]
  cf := some (fileOf pool2 14 #[] #[{ accessFlags := 0, nameIndex := 5, descriptorIndex := 42, attributes := #[] }, { accessFlags := 0, nameIndex := 47, descriptorIndex := 48, attributes := #[] }, { accessFlags := 0, nameIndex := 34, descriptorIndex := 24, attributes := #[] }, { accessFlags := 0, nameIndex := 52, descriptorIndex := 53, attributes := #[] }] 48 2 #[] #[{ accessFlags := 18, nameIndex := 17, descriptorIndex := 18, attributes := #[] }, { accessFlags := 2, nameIndex := 31, descriptorIndex := 28, attributes := #[] }, { accessFlags := 18, nameIndex := 27, descriptorIndex := 28, attributes := #[] }])
  fields := #[{ name := "payload", type := (.array .byte), accessFlags := 18, slot := 0, constantValue := 0 }, { name := "bit", type := .int, accessFlags := 2, slot := 1, constantValue := 0 }, { name := "stop", type := .int, accessFlags := 18, slot := 2, constantValue := 0 }]
  methods := #[k2m0, k2m1, k2m2, k2m3]
  instanceTypes := #[(.array .byte), .int, .int]
  staticTypes := #[]
  resolved := Array.replicate 56 none
  statics := none }

def pool3 : Array CpInfo := pool [(2, .class_ 4), (1, u "java/lang/Object"), (0, u "<init>"), (0, u "()V"), (7, .class_ 16), (1, u "java/util/Arrays"), (57, .class_ 76), (1, u "java/util/Arrays$NaturalOrder"), (32, u "()Ljava/lang/Object;"), (3, .class_ 115), (1, u "java/util/Arrays$LegacyMergeSort"), (1, u "Z"), (10, .nameAndType 129 109), (0, u "clone"), (172, u "copyOf"), (7, .methodref 311 128), (0, .class_ 312), (0, u "[B"), (62, .class_ 376), (0, u "java/util/Arrays$ArrayList"), (68, u "$assertionsDisabled"), (269, u "MIN_ARRAY_SORT_GRAN"), (0, u "I"), (2, u "INSERTIONSORT_THRESHOLD"), (149, u "([BI)[B"), (105, .class_ 976), (0, u "java/util/Arrays$ArrayItr")] 52

def k3m0 : Method := { name := "<init>", desc := "()V", sig := { parameters := [], returnType := none }, accessFlags := 2, code := none }
def k3c1 : Code := { maxStack := 6, maxLocals := 3, code := jdk_65_method_121_code, exceptionTable := #[], attributes := #[] }
def k3m1 : Method := { name := "copyOf", desc := "([BI)[B", sig := { parameters := [(.array .byte), .int], returnType := some (.array .byte) }, accessFlags := 9, code := some k3c1 }
/-- java/util/Arrays -/
def k3 : Class := { plain "java/util/Arrays" (some 0) with
  accessFlags := 49
  interfaces := #[]
  cf := some (fileOf pool3 14 #[.nestMembers #[975, 375, 113, 74]] #[{ accessFlags := 2, nameIndex := 5, descriptorIndex := 6, attributes := #[] }, { accessFlags := 9, nameIndex := 302, descriptorIndex := 869, attributes := #[] }] 49 2 #[] #[{ accessFlags := 26, nameIndex := 715, descriptorIndex := 716, attributes := #[] }, { accessFlags := 26, nameIndex := 719, descriptorIndex := 716, attributes := #[] }, { accessFlags := 4120, nameIndex := 445, descriptorIndex := 117, attributes := #[] }])
  fields := #[{ name := "MIN_ARRAY_SORT_GRAN", type := .int, accessFlags := 26, slot := 0, constantValue := 0 }, { name := "INSERTIONSORT_THRESHOLD", type := .int, accessFlags := 26, slot := 1, constantValue := 0 }, { name := "$assertionsDisabled", type := .boolean, accessFlags := 4120, slot := 2, constantValue := 0 }]
  methods := #[k3m0, k3m1]
  instanceTypes := #[]
  staticTypes := #[.int, .int, .boolean]
  resolved := Array.replicate 1029 none
  statics := none }

def pool4 : Array CpInfo := pool [(1, .class_ 2), (0, u "java/lang/Cloneable"), (0, .class_ 4), (0, u "java/lang/Object")] 2

/-- java/lang/Cloneable -/
def k4 : Class := { plain "java/lang/Cloneable" (some 0) with
  accessFlags := 1537
  interfaces := #[]
  cf := some (fileOf pool4 1 #[] #[] 1537 3 #[] #[])
  fields := #[]
  methods := #[]
  instanceTypes := #[]
  staticTypes := #[]
  resolved := Array.replicate 7 none
  statics := none }

def pool5 : Array CpInfo := pool [(1, .class_ 2), (0, u "java/io/Serializable"), (0, .class_ 4), (0, u "java/lang/Object")] 2

/-- java/io/Serializable -/
def k5 : Class := { plain "java/io/Serializable" (some 0) with
  accessFlags := 1537
  interfaces := #[]
  cf := some (fileOf pool5 1 #[] #[] 1537 3 #[] #[])
  fields := #[]
  methods := #[]
  instanceTypes := #[]
  staticTypes := #[]
  resolved := Array.replicate 7 none
  statics := none }

def pool6 : Array CpInfo := pool [(2, .class_ 4), (1, u "java/lang/Object"), (0, u "<init>"), (0, u "()V"), (1, .class_ 10), (1, u "java/lang/Number"), (2, .class_ 14), (0, u "java/io/Serializable"), (0, u "serialVersionUID"), (0, u "J")] 20

def k6m0 : Method := { name := "<init>", desc := "()V", sig := { parameters := [], returnType := none }, accessFlags := 1, code := none }
/-- java/lang/Number -/
def k6 : Class := { plain "java/lang/Number" (some 0) with
  accessFlags := 1057
  interfaces := #[5]
  cf := some (fileOf pool6 8 #[] #[{ accessFlags := 1, nameIndex := 5, descriptorIndex := 6, attributes := #[] }] 1057 2 #[13] #[{ accessFlags := 26, nameIndex := 15, descriptorIndex := 16, attributes := #[] }])
  fields := #[{ name := "serialVersionUID", type := .long, accessFlags := 26, slot := 0, constantValue := 0 }]
  methods := #[k6m0]
  instanceTypes := #[]
  staticTypes := #[.long]
  resolved := Array.replicate 37 none
  statics := none }

def pool7 : Array CpInfo := pool [(1, .class_ 2), (0, u "java/lang/Comparable"), (0, .class_ 4), (0, u "java/lang/Object")] 7

/-- java/lang/Comparable -/
def k7 : Class := { plain "java/lang/Comparable" (some 0) with
  accessFlags := 1537
  interfaces := #[]
  cf := some (fileOf pool7 1 #[] #[] 1537 3 #[] #[])
  fields := #[]
  methods := #[]
  instanceTypes := #[]
  staticTypes := #[]
  resolved := Array.replicate 12 none
  statics := none }

def pool8 : Array CpInfo := pool [(1, .class_ 2), (0, u "java/lang/constant/Constable"), (0, .class_ 4), (0, u "java/lang/Object")] 6

/-- java/lang/constant/Constable -/
def k8 : Class := { plain "java/lang/constant/Constable" (some 0) with
  accessFlags := 1537
  interfaces := #[]
  cf := some (fileOf pool8 1 #[] #[] 1537 3 #[] #[])
  fields := #[]
  methods := #[]
  instanceTypes := #[]
  staticTypes := #[]
  resolved := Array.replicate 11 none
  statics := none }

def pool9 : Array CpInfo := pool [(1, .class_ 2), (0, u "java/lang/constant/ConstantDesc"), (0, .class_ 4), (0, u "java/lang/Object")] 32

/-- java/lang/constant/ConstantDesc -/
def k9 : Class := { plain "java/lang/constant/ConstantDesc" (some 0) with
  accessFlags := 1537
  interfaces := #[]
  cf := some (fileOf pool9 1 #[] #[] 1537 3 #[] #[])
  fields := #[]
  methods := #[]
  instanceTypes := #[]
  staticTypes := #[]
  resolved := Array.replicate 37 none
  statics := none }

def pool10 : Array CpInfo := pool [(1, .class_ 2), (0, u "java/lang/Integer"), (16, u "digits"), (0, u "[C"), (33, u "(I)I"), (30, u "DigitOnes"), (0, u "[B"), (2, u "DigitTens"), (99, .class_ 190), (0, u "java/lang/Integer$IntegerCache"), (3, u "I"), (8, .class_ 204), (0, u "java/lang/Number"), (2, u "value"), (56, .integer 65536), (37, u "TYPE"), (0, u "Ljava/lang/Class;"), (0, .class_ 305), (0, u "java/lang/Comparable"), (0, .class_ 307), (0, u "java/lang/constant/Constable"), (0, .class_ 309), (0, u "java/lang/constant/ConstantDesc"), (0, u "MIN_VALUE"), (1, u "MAX_VALUE"), (3, u "SIZE"), (1, u "BYTES"), (1, u "serialVersionUID"), (0, u "J"), (84, u "numberOfTrailingZeros")] 46

def k10c0 : Code := { maxStack := 3, maxLocals := 2, code := jdk_33_method_48_code, exceptionTable := #[], attributes := #[] }
def k10m0 : Method := { name := "numberOfTrailingZeros", desc := "(I)I", sig := { parameters := [.int], returnType := some .int }, accessFlags := 9, code := some k10c0 }
/-- java/lang/Integer -/
def k10 : Class := { plain "java/lang/Integer" (some 6) with
  accessFlags := 49
  interfaces := #[7, 8, 9]
  cf := some (fileOf pool10 1 #[.nestMembers #[189]] #[{ accessFlags := 9, nameIndex := 406, descriptorIndex := 54, attributes := #[] }] 49 203 #[304, 306, 308] #[{ accessFlags := 25, nameIndex := 310, descriptorIndex := 194, attributes := #[] }, { accessFlags := 25, nameIndex := 312, descriptorIndex := 194, attributes := #[] }, { accessFlags := 25, nameIndex := 302, descriptorIndex := 303, attributes := #[] }, { accessFlags := 24, nameIndex := 19, descriptorIndex := 20, attributes := #[] }, { accessFlags := 24, nameIndex := 89, descriptorIndex := 86, attributes := #[] }, { accessFlags := 24, nameIndex := 85, descriptorIndex := 86, attributes := #[] }, { accessFlags := 18, nameIndex := 207, descriptorIndex := 194, attributes := #[] }, { accessFlags := 25, nameIndex := 316, descriptorIndex := 194, attributes := #[] }, { accessFlags := 25, nameIndex := 318, descriptorIndex := 194, attributes := #[] }, { accessFlags := 26, nameIndex := 320, descriptorIndex := 321, attributes := #[] }])
  fields := #[{ name := "MIN_VALUE", type := .int, accessFlags := 25, slot := 0, constantValue := 0 }, { name := "MAX_VALUE", type := .int, accessFlags := 25, slot := 1, constantValue := 0 }, { name := "TYPE", type := (.object "java/lang/Class"), accessFlags := 25, slot := 2, constantValue := 0 }, { name := "digits", type := (.array .char), accessFlags := 24, slot := 3, constantValue := 0 }, { name := "DigitTens", type := (.array .byte), accessFlags := 24, slot := 4, constantValue := 0 }, { name := "DigitOnes", type := (.array .byte), accessFlags := 24, slot := 5, constantValue := 0 }, { name := "value", type := .int, accessFlags := 18, slot := 0, constantValue := 0 }, { name := "SIZE", type := .int, accessFlags := 25, slot := 6, constantValue := 0 }, { name := "BYTES", type := .int, accessFlags := 25, slot := 7, constantValue := 0 }, { name := "serialVersionUID", type := .long, accessFlags := 26, slot := 8, constantValue := 0 }]
  methods := #[k10m0]
  instanceTypes := #[.int]
  staticTypes := #[.int, .int, (.object "java/lang/Class"), (.array .char), (.array .byte), (.array .byte), .int, .int, .long]
  resolved := Array.replicate 453 none
  statics := none }

/-- the primitive byte -/
def k11 : Class := { plain "byte" none with kind := .primitive 'B', accessFlags := 0x411 }
/-- [B -/
def k12 : Class := { plain "[B" (some 0) with kind := .array 11 .byte, interfaces := #[4, 5], accessFlags := 1041 }

/-- the primitive int -/
def k13 : Class := { plain "int" none with kind := .primitive 'I', accessFlags := 0x411 }
/-- [I -/
def k14 : Class := { plain "[I" (some 0) with kind := .array 13 .int, interfaces := #[4, 5], accessFlags := 1041 }

def heap : Heap := #[]
def classes : Array Class := #[k0, k1, k2, k3, k4, k5, k6, k7, k8, k9, k10, k11, k12, k13, k14]
def interned : List (Array UInt16 × Addr) := []
def slotsUsed : Nat := 0
def theMethod : MethodId := ⟨1, 2⟩
def args0 : Array Value := #[.long 5, .int 7, .int 8]
def aboutOver (below : List Frame) : State where
  vm := { classes := classes, interned := interned.toArray }
  heap := heap
  slotsUsed := slotsUsed
  threads := #[{ frames := .invoking theMethod args0 :: below }]
def below0 : List Frame := [.native { method := ⟨0, 0⟩, args := #[] }]
def about1 : State := aboutOver below0
def p0 : Program := .bare "" "" ""
def e0 : Env := launch0.env 0 0 0
theorem w_frames : about1.frames = Frame.invoking theMethod args0 :: below0 := rfl
set_option maxRecDepth 65536 in
theorem w_args : argsFit about1.vm theMethod args0 = true := by decide +kernel
set_option maxRecDepth 65536 in
theorem w_heap : heapFits about1 = true := by decide +kernel
set_option maxRecDepth 65536 in
theorem w_runnable : about1.curStatus? = some .runnable := by decide +kernel
set_option maxRecDepth 65536 in
theorem w_alone : about1.alone = true := by decide +kernel
set_option maxRecDepth 65536 in
theorem w_named : about1.methodNamed? x = some theMethod := by decide +kernel
set_option maxRecDepth 65536 in
theorem w_hears : about1.hears theMethod below0 = true := by decide +kernel
set_option maxRecDepth 65536 in
theorem w_ripe : about1.ripe theMethod args0 below0 = true := by decide +kernel
theorem w_running : about1.status = .running := rfl
set_option maxRecDepth 65536 in
theorem w_room : about1.hasRoom e0.platform room_1 = true :=
  launch0.hasRoom_least _ room_1 (by decide +kernel) (by decide +kernel) (by decide +kernel) (by decide +kernel) (by decide +kernel) (by decide +kernel)
theorem allAtoms_all (ts : List Jvm.Cond) (a : Array Jvm.Value) (st : Jvm.State) : (allAtoms ts).before a st = ts.all (fun c => c.before a st) := by
  induction ts with
  | nil => rfl
  | cons c t ih =>
    show (Jvm.Cond.and c (allAtoms t)).before a st = _
    rw [Jvm.Cond.before_and, ih, List.all_cons]
def words1 : List Jvm.Cond := Jvm.Cond.code x code maxLocals ret :: tables_1
/-- a 'code' word, met by the world's own term for the bytes: nothing is compared byte by byte -/
theorem code_word {y : MethodName} {bytes : ByteArray} {mx : Nat} {rt : Option FieldType} {a : Array Value} {s : State} {m : MethodId} {meth : Method} {c : Code} (h1 : s.methodNamed? y = some m) (h2 : s.vm.method? m = some meth) (h3 : meth.code = some c) (h4 : c.code = bytes)
    (h5 : (c.maxLocals == mx && c.exceptionTable.isEmpty && decide (c.maxStack ≤ mostOperands) && decide (meth.sig.returnType = rt) && !meth.locks && decide (parseMethodDescriptor y.desc = some meth.sig)) = true) : (Jvm.Cond.code y bytes mx rt).before a s = true := by
  simp only [Bool.and_eq_true, beq_iff_eq, Bool.not_eq_true', decide_eq_true_eq] at h5
  obtain ⟨⟨⟨⟨⟨g1, g2⟩, g3⟩, g4⟩, g5⟩, g6⟩ := h5
  simp [Cond.before, Cond.holds, Cond.value, h1, h2, h3, h4, g1, g2, g3, g4, g5, g6]
def isCode : Jvm.Cond → Bool
  | .code _ _ _ _ => true
  | _ => false
theorem all_split {L : List Jvm.Cond} {P : Jvm.Cond → Bool} (h1 : L.all (fun c => isCode c || P c) = true) (h2 : ∀ c ∈ L.filter isCode, P c = true) : L.all P = true := by
  refine List.all_eq_true.mpr fun c hc => ?_
  have h := List.all_eq_true.mp h1 c hc
  rcases Bool.eq_false_or_eq_true (isCode c) with hi | hi
  · exact h2 c (List.mem_filter.mpr ⟨hc, hi⟩)
  · simpa [hi] using h
set_option maxRecDepth 65536 in
theorem w_c0 : (Jvm.Cond.code x code maxLocals ret).before args0 about1 = true := code_word (m := ⟨1, 2⟩) (meth := k1m2) (c := k1c2) (by decide +kernel) rfl rfl rfl (by decide +kernel)
set_option maxRecDepth 65536 in
theorem w_c1 : (Jvm.Cond.code ({ cls := "lazyframe/media/NalPayloadUPinLaw", name := "noEmulation", desc := "(J)J" } : Jvm.MethodName) method_2_code (4 : Nat) (Option.some Jvm.ClassFile.FieldType.long)).before args0 about1 = true := code_word (m := ⟨1, 1⟩) (meth := k1m1) (c := k1c1) (by decide +kernel) rfl rfl rfl (by decide +kernel)
set_option maxRecDepth 65536 in
theorem w_c2 : (Jvm.Cond.code ({ cls := "lazyframe/media/NalPayload", name := "<init>", desc := "([BI)V" } : Jvm.MethodName) prog_64_method_1_code (7 : Nat) (Option.none : Option Jvm.ClassFile.FieldType)).before args0 about1 = true := code_word (m := ⟨2, 0⟩) (meth := k2m0) (c := k2c0) (by decide +kernel) rfl rfl rfl (by decide +kernel)
set_option maxRecDepth 65536 in
theorem w_c3 : (Jvm.Cond.code ({ cls := "java/lang/Object", name := "<init>", desc := "()V" } : Jvm.MethodName) object_method_1_code (1 : Nat) (Option.none : Option Jvm.ClassFile.FieldType)).before args0 about1 = true := code_word (m := ⟨0, 0⟩) (meth := k0m0) (c := k0c0) (by decide +kernel) rfl rfl rfl (by decide +kernel)
set_option maxRecDepth 65536 in
theorem w_c4 : (Jvm.Cond.code ({ cls := "java/util/Arrays", name := "copyOf", desc := "([BI)[B" } : Jvm.MethodName) jdk_65_method_121_code (3 : Nat) (Option.some (Jvm.ClassFile.FieldType.array Jvm.ClassFile.FieldType.byte))).before args0 about1 = true := code_word (m := ⟨3, 1⟩) (meth := k3m1) (c := k3c1) (by decide +kernel) rfl rfl rfl (by decide +kernel)
set_option maxRecDepth 65536 in
theorem w_c5 : (Jvm.Cond.code ({ cls := "java/lang/Integer", name := "numberOfTrailingZeros", desc := "(I)I" } : Jvm.MethodName) jdk_33_method_48_code (2 : Nat) (Option.some Jvm.ClassFile.FieldType.int)).before args0 about1 = true := code_word (m := ⟨10, 0⟩) (meth := k10m0) (c := k10c0) (by decide +kernel) rfl rfl rfl (by decide +kernel)
set_option maxRecDepth 65536 in
theorem w_c6 : (Jvm.Cond.code ({ cls := "lazyframe/media/NalPayload", name := "skip", desc := "(I)V" } : Jvm.MethodName) prog_64_method_6_code (2 : Nat) (Option.none : Option Jvm.ClassFile.FieldType)).before args0 about1 = true := code_word (m := ⟨2, 3⟩) (meth := k2m3) (c := k2c3) (by decide +kernel) rfl rfl rfl (by decide +kernel)
set_option maxRecDepth 65536 in
theorem w_c7 : (Jvm.Cond.code ({ cls := "lazyframe/media/NalPayload", name := "left", desc := "()I" } : Jvm.MethodName) prog_64_method_2_code (1 : Nat) (Option.some Jvm.ClassFile.FieldType.int)).before args0 about1 = true := code_word (m := ⟨2, 1⟩) (meth := k2m1) (c := k2c1) (by decide +kernel) rfl rfl rfl (by decide +kernel)
set_option maxRecDepth 65536 in
theorem w_c8 : (Jvm.Cond.code ({ cls := "lazyframe/media/NalPayload", name := "u", desc := "(I)I" } : Jvm.MethodName) prog_64_method_3_code (5 : Nat) (Option.some Jvm.ClassFile.FieldType.int)).before args0 about1 = true := code_word (m := ⟨2, 2⟩) (meth := k2m2) (c := k2c2) (by decide +kernel) rfl rfl rfl (by decide +kernel)
def codes1 : List Jvm.Cond := [Jvm.Cond.code x code maxLocals ret, Jvm.Cond.code ({ cls := "lazyframe/media/NalPayloadUPinLaw", name := "noEmulation", desc := "(J)J" } : Jvm.MethodName) method_2_code (4 : Nat) (Option.some Jvm.ClassFile.FieldType.long), Jvm.Cond.code ({ cls := "lazyframe/media/NalPayload", name := "<init>", desc := "([BI)V" } : Jvm.MethodName) prog_64_method_1_code (7 : Nat) (Option.none : Option Jvm.ClassFile.FieldType), Jvm.Cond.code ({ cls := "java/lang/Object", name := "<init>", desc := "()V" } : Jvm.MethodName) object_method_1_code (1 : Nat) (Option.none : Option Jvm.ClassFile.FieldType), Jvm.Cond.code ({ cls := "java/util/Arrays", name := "copyOf", desc := "([BI)[B" } : Jvm.MethodName) jdk_65_method_121_code (3 : Nat) (Option.some (Jvm.ClassFile.FieldType.array Jvm.ClassFile.FieldType.byte)), Jvm.Cond.code ({ cls := "java/lang/Integer", name := "numberOfTrailingZeros", desc := "(I)I" } : Jvm.MethodName) jdk_33_method_48_code (2 : Nat) (Option.some Jvm.ClassFile.FieldType.int), Jvm.Cond.code ({ cls := "lazyframe/media/NalPayload", name := "skip", desc := "(I)V" } : Jvm.MethodName) prog_64_method_6_code (2 : Nat) (Option.none : Option Jvm.ClassFile.FieldType), Jvm.Cond.code ({ cls := "lazyframe/media/NalPayload", name := "left", desc := "()I" } : Jvm.MethodName) prog_64_method_2_code (1 : Nat) (Option.some Jvm.ClassFile.FieldType.int), Jvm.Cond.code ({ cls := "lazyframe/media/NalPayload", name := "u", desc := "(I)I" } : Jvm.MethodName) prog_64_method_3_code (5 : Nat) (Option.some Jvm.ClassFile.FieldType.int)]
set_option maxRecDepth 65536 in
theorem codes_eq : words1.filter isCode = codes1 := rfl
theorem w_codes : ∀ c ∈ words1.filter isCode, c.before args0 about1 = true := by
  rw [codes_eq]
  intro c hc
  simp only [codes1, List.mem_cons, List.not_mem_nil, or_false] at hc
  rcases hc with rfl | rfl | rfl | rfl | rfl | rfl | rfl | rfl | rfl
  · exact w_c0
  · exact w_c1
  · exact w_c2
  · exact w_c3
  · exact w_c4
  · exact w_c5
  · exact w_c6
  · exact w_c7
  · exact w_c8
set_option maxRecDepth 65536 in
theorem w_t1 : (words1.take 24).all (fun c => isCode c || c.before args0 about1) = true := by decide +kernel
set_option maxRecDepth 65536 in
theorem w_t2 : ((words1.drop 24).take 24).all (fun c => isCode c || c.before args0 about1) = true := by decide +kernel
set_option maxRecDepth 65536 in
theorem w_t3 : ((words1.drop 24).drop 24).all (fun c => isCode c || c.before args0 about1) = true := by decide +kernel
theorem w_tables : (allAtoms (Jvm.Cond.code x code maxLocals ret :: tables_1)).before args0 about1 = true := by
  rw [allAtoms_all]
  show words1.all (fun c => c.before args0 about1) = true
  refine all_split ?_ w_codes
  rw [← List.take_append_drop 24 words1, List.all_append, w_t1, ← List.take_append_drop 24 (words1.drop 24), List.all_append, w_t2, w_t3]
  rfl
set_option maxRecDepth 65536 in
theorem w_case : (Jvm.Cond.and given_1 narrow_1).before args0 about1 = true := by decide +kernel
theorem w_applies : (headSpec (Jvm.Cond.code x code maxLocals ret :: tables_1) room_1).applies x e0.platform about1 = true :=
  (Spec.applies_iff w_frames).mpr ⟨w_running, w_runnable, w_alone, w_named, w_hears, w_ripe, w_room, w_tables⟩
theorem atStart : AtStart classFile x code maxLocals ret World_1 tables_1 room_1 Calls_1 rest_1 Pre_1 launch0 p0 e0 about1 theMethod args0 below0 :=
  ⟨lists_1, trivial, launch0.admits_env _ _ _, launch0.least_env, fairChoices_fair.cas, fairChoices_fair.clock, w_frames, w_args, w_heap, w_applies, trivial, trivial, w_case⟩
end start1
theorem witness_1 : WitnessClaimed_1 := ⟨start1.p0, start1.e0, start1.about1, start1.theMethod, start1.args0, start1.below0, start1.atStart⟩
end Jvm.Pilot.@@N@@
